import JvmDerived
import JvmDerived.Pilot.@@N@@Statement
import JvmDerived.Pilot.@@N@@Code
set_option linter.unusedVariables false
set_option linter.unusedSimpArgs false
namespace Jvm.OwnKit
open Jvm Jvm.ClassFile Sem Op Lib Jvm.Free Jvm.Stand Jvm.LawKit Jvm.RoadKit
section Walk
variable {p : Program} {l : Launch} {e : Env} {R : Room} {s : State} {m : MethodId} {args : Array Value} {below : List Frame} {meth : Method} {c : Code} {T T' : State} {locs : List Loc} {cells slots k n : Nat} {Q : Option Value → Heap → List Loc → Prop} {P : Option Value → State → List Loc → Prop} {g g' : JFrame}
/-- from T with the frame g on top the run comes home: it returns, and Q says of what it returned, the heap and the places written -/
def Home {p : Program} {e : Env} {below : List Frame} {P : Option Value → State → List Loc → Prop} (T : State) (g : JFrame) : Prop :=
  ∃ U o, Steps p.tables e below (T.setTop g) U ∧ U.status = .running ∧ Ended U below o ∧ ∃ v L, o = .returned v ∧ P v U L
/-- the end of a walk that has booked no text -/
abbrev End (s : State) (Q : Option Value → Heap → List Loc → Prop) (k n : Nat) : Option Value → State → List Loc → Prop := fun v U L => Q v U.heap L ∧ FrameEnd s (.returned v) U L k n
theorem own_itE {c : Prop} [Decidable c] {A B r : Value} {P : Prop} (h : (if c then A else B) = r) (hA : A = r → P) (hB : B = r → P) : P := by
  by_cases q : c
  · exact hA ((if_pos q).symm.trans h)
  · exact hB ((if_neg q).symm.trans h)
theorem own_leE {Z : State} {h : Heap} {a b : Addr} {C : String} (q : Value.ref a = Value.ref b) (E : Exa Z h a C) : Exa Z h b C := by
  cases q; exact E
theorem own_itR {c : Prop} [Decidable c] {A B : Value} (hA : A.isRef = true) (hB : B.isRef = true) : (if c then A else B).isRef = true := by
  by_cases q : c
  · rw [if_pos q]; exact hA
  · rw [if_neg q]; exact hB
theorem Home.cut {p : Program} {e : Env} {below : List Frame} {P : Option Value → State → List Loc → Prop} {T : State} {g : JFrame} {C : (Option Value → State → List Loc → Prop) → Prop} (h1 : ∀ E, C E → @Home p e below E T g) (h2 : C P) : @Home p e below P T g := h1 P h2
theorem Home.go (st : ∀ t, Steps p.tables e below (T'.setTop g') t → Steps p.tables e below (T.setTop g) t) (H : @Home p e below P T' g') : @Home p e below P T g := by
  obtain ⟨U, o, h1, h2⟩ := H
  exact ⟨U, o, st _ h1, h2⟩
section Cps
variable {S : State → Prop} {S2 : State → Heap → Prop} {W E A D M : Heap → Prop} {A2 : Heap → ClassId → Prop} {O : ClassId → Prop} {h : Heap}
theorem Home.st (q : ∃ T', S T' ∧ T'.heap = h ∧ ∀ t, Steps p.tables e below (T'.setTop g') t → Steps p.tables e below (T.setTop g) t) (H : ∀ T', S T' → T'.heap = h → @Home p e below P T' g') : @Home p e below P T g := by
  obtain ⟨T', x, y, st⟩ := q
  exact Home.go st (H T' x y)
theorem Home.wr (q : ∃ T' h', S T' ∧ T'.heap = h' ∧ W h' ∧ ∀ t, Steps p.tables e below (T'.setTop g') t → Steps p.tables e below (T.setTop g) t) (H : ∀ T' h', S T' → T'.heap = h' → W h' → @Home p e below P T' g') : @Home p e below P T g := by
  obtain ⟨T', h', x, y, z, st⟩ := q
  exact Home.go st (H T' h' x y z)
theorem Home.nw {B : Addr → Prop} {A3 D3 : Heap → Addr → Prop} {ga : Addr → JFrame} (q : ∃ T' h' b, B b ∧ S T' ∧ T'.heap = h' ∧ E h' ∧ A3 h' b ∧ D3 h' b ∧ ∀ t, Steps p.tables e below (T'.setTop (ga b)) t → Steps p.tables e below (T.setTop g) t) (H : ∀ T' h' b, B b → S T' → T'.heap = h' → E h' → A3 h' b → D3 h' b → @Home p e below P T' (ga b)) : @Home p e below P T g := by
  obtain ⟨T', h', b, i, x, y, z, u, v, st⟩ := q
  exact Home.go st (H T' h' b i x y z u v)
theorem Home.na {B : Addr → Prop} {A3 : Heap → ClassId → Addr → Prop} {ga : Addr → JFrame} (q : ∃ T' h' c' b, B b ∧ S T' ∧ T'.heap = h' ∧ E h' ∧ A3 h' c' b ∧ ∀ t, Steps p.tables e below (T'.setTop (ga b)) t → Steps p.tables e below (T.setTop g) t) (H : ∀ T' h' c' b, B b → S T' → T'.heap = h' → E h' → A3 h' c' b → @Home p e below P T' (ga b)) : @Home p e below P T g := by
  obtain ⟨T', h', c', b, i, x, y, z, u, st⟩ := q
  exact Home.go st (H T' h' c' b i x y z u)
theorem Home.nr {B : Addr → Prop} {A3 : Heap → ClassId → Addr → Prop} {ga : Addr → JFrame} (q : ∃ T' h' c' b, B b ∧ S T' ∧ T'.heap = h' ∧ E h' ∧ A3 h' c' b ∧ O c' ∧ ∀ t, Steps p.tables e below (T'.setTop (ga b)) t → Steps p.tables e below (T.setTop g) t) (H : ∀ T' h' c' b, B b → S T' → T'.heap = h' → E h' → A3 h' c' b → O c' → @Home p e below P T' (ga b)) : @Home p e below P T g := by
  obtain ⟨T', h', c', b, i, x, y, z, u, v, st⟩ := q
  exact Home.go st (H T' h' c' b i x y z u v)
theorem Home.call {S3 : State → List Loc → Prop} {Q3 : Option Value → State → List Loc → Prop} {gv : Option Value → JFrame} (q : ∃ v T' L, S3 T' L ∧ Q3 v T' L ∧ ∀ t, Steps p.tables e below (T'.setTop (gv v)) t → Steps p.tables e below (T.setTop g) t) (H : ∀ v T' L, S3 T' L → Q3 v T' L → @Home p e below P T' (gv v)) : @Home p e below P T g := by
  obtain ⟨v, T', L, x, y, st⟩ := q
  exact Home.go st (H v T' L x y)
end Cps
theorem hW0 {m : MethodId} {pc n : Nat} {L : Array Slot} {S : List Value} : 2 * (mkF m pc L S).monitorRoom + n ≤ n := by show 2 * 0 + n ≤ n; omega
theorem Home.enter (q : g = g') (H : @Home p e below P T g') : @Home p e below P T g := by
  subst q; exact H
theorem Home.retN (X : Stand p l e R s m args below meth c T locs cells slots) (hx : p.tables.exec = Jvm.exec) (hlk : meth.locks = false) {pc : Nat} {Ls : Array Slot} {z : Int32} {t : FieldType} {rest : List Value} (hret : meth.sig.returnType = some t) (ht : t = .boolean ∨ t = .byte ∨ t = .char ∨ t = .short)
    (hd : decode c.code pc = .ok (.ireturn, 1)) (hQ : Q (some (.int (nar t z))) T.heap locs) (hk : cells ≤ k) (hn : slots ≤ n) : @Home p e below (End s Q k n) T (mkF m pc Ls (.int z :: rest)) := by
  obtain ⟨fs, hr, hrun, hended, hW, hsame⟩ := X.leave (v := some (.int (nar t z))) (fun h => by rw [hret] at h; cases h) hlk
  exact ⟨_, _, Jvm.RoadKit.retN X hx hret ht hd hr, hrun, hended, _, _, rfl, hQ, ⟨_, rfl⟩, hW, hsame.mono hk hn⟩
theorem Home.ret (X : Stand p l e R s m args below meth c T locs cells slots) (hx : p.tables.exec = Jvm.exec) (hlk : meth.locks = false) {pc : Nat} {Ls : Array Slot} {w : Value} {t : FieldType} {i : Instr} {rest : List Value} (hret : meth.sig.returnType = some t) (hnn : narrow t w = w)
    (hi : (i = .ireturn ∧ (t = .int ∨ t = .boolean ∨ t = .byte ∨ t = .char ∨ t = .short) ∧ ∃ z, w = .int z) ∨ (i = .lreturn ∧ t = .long ∧ ∃ z, w = .long z) ∨ (i = .dreturn ∧ t = .double ∧ ∃ z, w = .double z) ∨ (i = .freturn ∧ t = .float ∧ ∃ z, w = .float z) ∨ (i = .areturn ∧ t.isReference = true ∧ w.isRef = true))
    (hd : decode c.code pc = .ok (i, 1)) (hQ : Q (some w) T.heap locs) (hk : cells ≤ k) (hn : slots ≤ n) : @Home p e below (End s Q k n) T (mkF m pc Ls (w :: rest)) := by
  obtain ⟨fs, hr, hrun, hended, hW, hsame⟩ := X.leave (v := some w) (fun h => by rw [hret] at h; cases h) hlk
  exact ⟨_, _, retOut X hx hret hnn hi hd hr, hrun, hended, _, _, rfl, hQ, ⟨_, rfl⟩, hW, hsame.mono hk hn⟩
theorem Home.retI (X : Stand p l e R s m args below meth c T locs cells slots) (hx : p.tables.exec = Jvm.exec) (hlk : meth.locks = false) {pc : Nat} {Ls : Array Slot} {z : Int32} {rest : List Value} (hret : meth.sig.returnType = some .int)
    (hd : decode c.code pc = .ok (.ireturn, 1)) (hQ : Q (some (.int z)) T.heap locs) (hk : cells ≤ k) (hn : slots ≤ n) : @Home p e below (End s Q k n) T (mkF m pc Ls (.int z :: rest)) :=
  Home.ret X hx hlk hret rfl (Or.inl ⟨rfl, Or.inl rfl, z, rfl⟩) hd hQ hk hn
theorem own_narrow_ref {t : FieldType} {w : Value} (hw : w.isRef = true) : narrow t w = w := by
  rcases ref_cases hw with rfl | ⟨a, rfl⟩ <;> cases t <;> rfl
theorem Home.retR (X : Stand p l e R s m args below meth c T locs cells slots) (hx : p.tables.exec = Jvm.exec) (hlk : meth.locks = false) {pc : Nat} {Ls : Array Slot} {w : Value} {t : FieldType} {rest : List Value} (hret : meth.sig.returnType = some t) (ht : t.isReference = true) (hw : w.isRef = true)
    (hd : decode c.code pc = .ok (.areturn, 1)) (hQ : Q (some w) T.heap locs) (hk : cells ≤ k) (hn : slots ≤ n) : @Home p e below (End s Q k n) T (mkF m pc Ls (w :: rest)) :=
  Home.ret X hx hlk hret (own_narrow_ref hw) (Or.inr (Or.inr (Or.inr (Or.inr ⟨rfl, ht, hw⟩)))) hd hQ hk hn
theorem Home.ret0 (X : Stand p l e R s m args below meth c T locs cells slots) (hx : p.tables.exec = Jvm.exec) (hlk : meth.locks = false) {pc : Nat} {Ls : Array Slot} (hret : meth.sig.returnType = none)
    (hd : decode c.code pc = .ok (.return_, 1)) (hQ : Q none T.heap locs) (hk : cells ≤ k) (hn : slots ≤ n) : @Home p e below (End s Q k n) T (mkF m pc Ls []) := by
  obtain ⟨fs, hr, hrun, hended, hW, hsame⟩ := X.leave (v := none) (fun _ => rfl) hlk
  exact ⟨_, _, X.returnOut hx hret hd hr, hrun, hended, _, _, rfl, hQ, ⟨_, rfl⟩, hW, hsame.mono hk hn⟩
end Walk
section New
variable {p : Program} {l : Launch} {e : Env} {R : Room} {s : State} {m : MethodId} {args : Array Value} {below : List Frame} {meth : Method} {c : Code} {T : State} {locs : List Loc} {cells slots : Nat} {Z : State} {a0 : Array Value} {h : Heap}
theorem own_newO (X : Stand p l e R s m args below meth c T locs cells slots) (hx : p.tables.exec = Jvm.exec) (hZ : Z.Warmed39 s.vm) {own C : String} {index n : Nat} (hown : s.vm.findClass own = some m.cls) (w : (Cond.classLink own index C).before a0 Z = true) (wi : (Cond.instantiable C n).before a0 Z = true) (wz : (Cond.initialized C).before a0 Z = true) (eT : T.heap = h)
    {g : JFrame} (hg : g.method = m) (hd : decode c.code g.pc = .ok (.new index, 3)) (hc : cells + 1 ≤ R.cells) (hl : slots + n ≤ R.slots) :
    ∃ T' h' b, b = h.size ∧ Stand p l e R s m args below meth c T' locs (cells + 1) (slots + n) ∧ T'.heap = h' ∧ Ext h h' ∧ Exa Z h' b C ∧ (∀ {O nm d : String} {ty : FieldType}, Laid Z a0 C O nm d → parseFieldDescriptor d = some ty → Fld Z h' b O nm d (defaultValue ty)) ∧
      ∀ target, Steps p.tables e below (T'.setTop { g with pc := g.pc + 3, stack := .ref b :: g.stack }) target → Steps p.tables e below (T.setTop g) target := by
  obtain ⟨T', h', X', e', E', A', D', -, st⟩ := newO X hx hZ hown w wi wz eT hg hd hc hl
  exact ⟨T', h', _, rfl, X', e', E', A', D', st⟩
theorem own_newP (X : Stand p l e R s m args below meth c T locs cells slots) (hx : p.tables.exec = Jvm.exec) (hZ : Z.Warmed39 s.vm) {aty : ArrayType} (w : (Cond.arrayClass (newarray.typeOf aty)).before a0 Z = true) (eT : T.heap = h) {g : JFrame} (hg : g.method = m) (hd : decode c.code g.pc = .ok (.newarray aty, 2)) {n : Int32} {rest : List Value} (hs : g.stack = .int n :: rest)
    (hn : ¬ n < 0) {cap : Nat} (hcap : n.toNatClampNeg ≤ cap) (hb : cap * 8 ≤ 536870912) (hc : cells + 1 ≤ R.cells) (hl : slots + cap ≤ R.slots) :
    ∃ T' h' cA b, b = h.size ∧ Stand p l e R s m args below meth c T' locs (cells + 1) (slots + cap) ∧ T'.heap = h' ∧ Ext h h' ∧ Arr Z h' b (newA cA (newarray.typeOf aty) n) (newarray.typeOf aty) ∧
      ∀ target, Steps p.tables e below (T'.setTop { g with pc := g.pc + 2, stack := .ref b :: rest }) target → Steps p.tables e below (T.setTop g) target := by
  obtain ⟨T', h', cA, X', e', E', A', st⟩ := newP X hx hZ w eT hg hd hs hn hcap hb hc hl
  exact ⟨T', h', cA, _, rfl, X', e', E', A', st⟩
theorem own_newR (X : Stand p l e R s m args below meth c T locs cells slots) (hx : p.tables.exec = Jvm.exec) (hZ : Z.Warmed39 s.vm) {own C : String} {index : Nat} (hown : s.vm.findClass own = some m.cls) (w1 : (Cond.classLink own index C).before a0 Z = true) (w2 : (Cond.arrayOver (.object C)).before a0 Z = true)
    (eT : T.heap = h) {g : JFrame} (hg : g.method = m) (hd : decode c.code g.pc = .ok (.anewarray index, 3)) {n : Int32} {rest : List Value} (hs : g.stack = .int n :: rest) (hn : ¬ n < 0) {cap : Nat} (hcap : n.toNatClampNeg ≤ cap) (hb : cap * 8 ≤ 536870912) (hc : cells + 1 ≤ R.cells) (hl : slots + cap ≤ R.slots) :
    ∃ T' h' cA b, b = h.size ∧ Stand p l e R s m args below meth c T' locs (cells + 1) (slots + cap) ∧ T'.heap = h' ∧ Ext h h' ∧ Arr Z h' b (newA cA (.object C) n) (.object C) ∧ Ovr Z cA C ∧
      ∀ target, Steps p.tables e below (T'.setTop { g with pc := g.pc + 3, stack := .ref b :: rest }) target → Steps p.tables e below (T.setTop g) target := by
  obtain ⟨T', h', cA, X', e', E', A', O', st⟩ := newR X hx hZ hown w1 w2 eT hg hd hs hn hcap hb hc hl
  exact ⟨T', h', cA, _, rfl, X', e', E', A', O', st⟩
end New
section Run
variable {p : Program} {l : Launch} {e : Env} {R : Room} {s : State} {m : MethodId} {args : Array Value} {below : List Frame} {meth : Method} {c : Code} {T : State} {locs : List Loc} {cells slots : Nat} {target : State}
def un32 (f : Int32 → Value) (S : List Value) : Option (List Value) := match S with | .int x :: r => some (f x :: r) | _ => none
def un64 (f : Int64 → Value) (S : List Value) : Option (List Value) := match S with | .long x :: r => some (f x :: r) | _ => none
def bi32 (f : Int32 → Int32 → Int32) (S : List Value) : Option (List Value) := match S with | .int y :: .int x :: r => some (.int (f x y) :: r) | _ => none
def bi64 (f : Int64 → Int64 → Value) (S : List Value) : Option (List Value) := match S with | .long y :: .long x :: r => some (f x y :: r) | _ => none
def sh64 (f : Int64 → Int32 → Int64) (S : List Value) : Option (List Value) := match S with | .int y :: .long x :: r => some (.long (f x y) :: r) | _ => none
/-- the stack behind an instruction that reads and writes the stack alone -/
def stk (i : Instr) (S : List Value) : Option (List Value) := match i with
  | .iconst k => some (.int (Int32.ofInt k) :: S)
  | .bipush k => some (.int (Int8.ofInt k).toInt32 :: S)
  | .sipush k => some (.int (Int16.ofInt k).toInt32 :: S)
  | .lconst k => some (.long (Int64.ofNat k) :: S)
  | .aconst_null => some (.null :: S)
  | .iadd => bi32 (· + ·) S
  | .isub => bi32 (· - ·) S
  | .imul => bi32 (· * ·) S
  | .iand => bi32 (· &&& ·) S
  | .ior => bi32 (· ||| ·) S
  | .ixor => bi32 (· ^^^ ·) S
  | .ishl => bi32 (fun x y => x <<< (y &&& 31)) S
  | .ishr => bi32 (fun x y => x >>> (y &&& 31)) S
  | .iushr => bi32 (fun x y => (x.toUInt32 >>> (y &&& 31).toUInt32).toInt32) S
  | .ladd => bi64 (fun x y => .long (x + y)) S
  | .lsub => bi64 (fun x y => .long (x - y)) S
  | .lmul => bi64 (fun x y => .long (x * y)) S
  | .land => bi64 (fun x y => .long (x &&& y)) S
  | .lor => bi64 (fun x y => .long (x ||| y)) S
  | .lxor => bi64 (fun x y => .long (x ^^^ y)) S
  | .lcmp => bi64 (fun x y => .int (if x > y then 1 else if x = y then 0 else -1)) S
  | .lshl => sh64 (fun x y => x <<< (y &&& 0x3f).toInt64) S
  | .lshr => sh64 (fun x y => x >>> (y &&& 0x3f).toInt64) S
  | .lushr => sh64 (fun x y => (x.toUInt64 >>> (y &&& 0x3f).toInt64.toUInt64).toInt64) S
  | .ineg => un32 (fun x => .int (-x)) S
  | .lneg => un64 (fun x => .long (-x)) S
  | .i2l => un32 (fun x => .long x.toInt64) S
  | .l2i => un64 (fun x => .int x.toInt32) S
  | .i2b => un32 (fun x => .int x.toInt8.toInt32) S
  | .i2c => un32 (fun x => .int x.toUInt32.toUInt16.toUInt32.toInt32) S
  | .i2s => un32 (fun x => .int x.toInt16.toInt32) S
  | .dup => match S with | x :: r => if x.category = 1 then some (x :: x :: r) else none | _ => none
  | .pop => match S with | x :: r => if x.category = 1 then some r else none | _ => none
  | .dup_x1 => match S with | x :: y :: r => if x.category = 1 ∧ y.category = 1 then some (x :: y :: x :: r) else none | _ => none
  | _ => none
theorem un32_s {f : Int32 → Value} {S S' : List Value} (h : un32 f S = some S') : ∃ x r, S = .int x :: r ∧ S' = f x :: r := by
  unfold un32 at h; split at h
  · cases h; exact ⟨_, _, rfl, rfl⟩
  · cases h
theorem un64_s {f : Int64 → Value} {S S' : List Value} (h : un64 f S = some S') : ∃ x r, S = .long x :: r ∧ S' = f x :: r := by
  unfold un64 at h; split at h
  · cases h; exact ⟨_, _, rfl, rfl⟩
  · cases h
theorem bi32_s {f : Int32 → Int32 → Int32} {S S' : List Value} (h : bi32 f S = some S') : ∃ x y r, S = .int y :: .int x :: r ∧ S' = .int (f x y) :: r := by
  unfold bi32 at h; split at h
  · cases h; exact ⟨_, _, _, rfl, rfl⟩
  · cases h
theorem bi64_s {f : Int64 → Int64 → Value} {S S' : List Value} (h : bi64 f S = some S') : ∃ x y r, S = .long y :: .long x :: r ∧ S' = f x y :: r := by
  unfold bi64 at h; split at h
  · cases h; exact ⟨_, _, _, rfl, rfl⟩
  · cases h
theorem sh64_s {f : Int64 → Int32 → Int64} {S S' : List Value} (h : sh64 f S = some S') : ∃ x y r, S = .int y :: .long x :: r ∧ S' = .long (f x y) :: r := by
  unfold sh64 at h; split at h
  · cases h; exact ⟨_, _, _, rfl, rfl⟩
  · cases h
def len1 (i : Instr) : Nat := match i with | .bipush _ => 2 | .sipush _ => 3 | _ => 1
theorem stk_s (X : Stand p l e R s m args below meth c T locs cells slots) (hx : p.tables.exec = Jvm.exec) {i : Instr} {n pc : Nat} {L : Array Slot} {S S' : List Value} (hd : decode c.code pc = .ok (i, n)) (hn : n = len1 i) (h : stk i S = some S')
    (H : Steps p.tables e below (T.setTop (mkF m (pc + n) L S')) target) : Steps p.tables e below (T.setTop (mkF m pc L S)) target := by
  subst hn
  unfold stk at h
  split at h <;> first
    | (cases h; first | exact XS.iconst X.here hx rfl hd H | exact XS.bipush X.here hx rfl hd H | exact XS.sipush X.here hx rfl hd H | exact XS.lconst X.here hx rfl hd H | exact XS.aconstNull X.here hx rfl hd H)
    | (obtain ⟨x, y, r, rfl, rfl⟩ := bi32_s h; first | exact XS.iadd X.here hx rfl hd rfl H | exact XS.isub X.here hx rfl hd rfl H | exact XS.imul X.here hx rfl hd rfl H | exact XS.iand X.here hx rfl hd rfl H | exact XS.ior X.here hx rfl hd rfl H | exact XS.ixor X.here hx rfl hd rfl H | exact XS.ishl X.here hx rfl hd rfl H | exact XS.ishr X.here hx rfl hd rfl H | exact XS.iushr X.here hx rfl hd rfl H)
    | (obtain ⟨x, y, r, rfl, rfl⟩ := bi64_s h; first | exact XS.ladd X.here hx rfl hd rfl H | exact XS.lsub X.here hx rfl hd rfl H | exact XS.lmul X.here hx rfl hd rfl H | exact XS.land X.here hx rfl hd rfl H | exact XS.lor X.here hx rfl hd rfl H | exact XS.lxor X.here hx rfl hd rfl H | exact XS.lcmp X.here hx rfl hd rfl H)
    | (obtain ⟨x, y, r, rfl, rfl⟩ := sh64_s h; first | exact XS.lshl X.here hx rfl hd rfl H | exact XS.lshr X.here hx rfl hd rfl H | exact XS.lushr X.here hx rfl hd rfl H)
    | (obtain ⟨x, r, rfl, rfl⟩ := un32_s h; first | exact XS.ineg X.here hx rfl hd rfl H | exact XS.i2l X.here hx rfl hd rfl H | exact XS.i2b X.here hx rfl hd rfl H | exact XS.i2c X.here hx rfl hd rfl H | exact XS.i2s X.here hx rfl hd rfl H)
    | (obtain ⟨x, r, rfl, rfl⟩ := un64_s h; first | exact XS.lneg X.here hx rfl hd rfl H | exact XS.l2i X.here hx rfl hd rfl H)
    | (split at h <;> (try split at h) <;> first | (cases h; done) | (rename_i q; cases h; first | exact XS.dup X.here hx rfl hd rfl q H | exact XS.pop X.here hx rfl hd rfl q H | exact XS.dupX1 X.here hx rfl hd rfl q.1 q.2 H))
    | cases h
def ldI (L : Array Slot) (S : List Value) (k : Nat) : Option (Array Slot × List Value) := match L[k]? with | some (.val (.int v)) => some (L, .int v :: S) | _ => none
def ldJ (L : Array Slot) (S : List Value) (k : Nat) : Option (Array Slot × List Value) := match L[k]? with | some (.val (.long v)) => some (L, .long v :: S) | _ => none
def ldA (L : Array Slot) (S : List Value) (k : Nat) : Option (Array Slot × List Value) := match L[k]? with | some (.val v) => if v.isRef = true then some (L, v :: S) else none | _ => none
def stI1 (L : Array Slot) (S : List Value) (k : Nat) : Option (Array Slot × List Value) := match S with | .int x :: r => (storeLocals L k (.int x)).map fun l' => (l', r) | _ => none
def stJ1 (L : Array Slot) (S : List Value) (k : Nat) : Option (Array Slot × List Value) := match S with | .long x :: r => (storeLocals L k (.long x)).map fun l' => (l', r) | _ => none
def stA1 (L : Array Slot) (S : List Value) (k : Nat) : Option (Array Slot × List Value) := match S with | x :: r => if x.isRef = true then (storeLocals L k x).map fun l' => (l', r) else none | _ => none
/-- what an instruction does to pc, locals and stack; nothing else is touched -/
def run1 (i : Instr) (n pc : Nat) (L : Array Slot) (S : List Value) : Option (Nat × Array Slot × List Value) := match i with
  | .iload_n k => if n = 1 then (ldI L S k.val).map (pc + n, ·) else none
  | .iload k => if n = 2 then (ldI L S k).map (pc + n, ·) else none
  | .lload_n k => if n = 1 then (ldJ L S k.val).map (pc + n, ·) else none
  | .lload k => if n = 2 then (ldJ L S k).map (pc + n, ·) else none
  | .aload_n k => if n = 1 then (ldA L S k.val).map (pc + n, ·) else none
  | .aload k => if n = 2 then (ldA L S k).map (pc + n, ·) else none
  | .istore_n k => if n = 1 then (stI1 L S k.val).map (pc + n, ·) else none
  | .istore k => if n = 2 then (stI1 L S k).map (pc + n, ·) else none
  | .lstore_n k => if n = 1 then (stJ1 L S k.val).map (pc + n, ·) else none
  | .lstore k => if n = 2 then (stJ1 L S k).map (pc + n, ·) else none
  | .astore_n k => if n = 1 then (stA1 L S k.val).map (pc + n, ·) else none
  | .astore k => if n = 2 then (stA1 L S k).map (pc + n, ·) else none
  | .iinc k cst => if n = 3 then (match L[k]? with | some (.val (.int x)) => (storeLocals L k (.int (x + Int32.ofInt cst))).map fun l' => (pc + n, l', S) | _ => none) else none
  | .goto o => if n = 3 then (if 0 ≤ (pc : Int) + o then some (((pc : Int) + o).toNat, L, S) else none) else none
  | i => if n = len1 i then (stk i S).map fun S' => (pc + n, L, S') else none
theorem ldI_s {L L' : Array Slot} {S S' : List Value} {k : Nat} (h : ldI L S k = some (L', S')) : ∃ v, L[k]? = some (.val (.int v)) ∧ L' = L ∧ S' = .int v :: S := by
  unfold ldI at h; split at h
  · cases h; exact ⟨_, by assumption, rfl, rfl⟩
  · cases h
theorem ldJ_s {L L' : Array Slot} {S S' : List Value} {k : Nat} (h : ldJ L S k = some (L', S')) : ∃ v, L[k]? = some (.val (.long v)) ∧ L' = L ∧ S' = .long v :: S := by
  unfold ldJ at h; split at h
  · cases h; exact ⟨_, by assumption, rfl, rfl⟩
  · cases h
theorem ldA_s {L L' : Array Slot} {S S' : List Value} {k : Nat} (h : ldA L S k = some (L', S')) : ∃ v, L[k]? = some (.val v) ∧ v.isRef = true ∧ L' = L ∧ S' = v :: S := by
  unfold ldA at h; split at h
  · split at h
    · cases h; exact ⟨_, by assumption, by assumption, rfl, rfl⟩
    · cases h
  · cases h
theorem stI1_s {L L' : Array Slot} {S S' : List Value} {k : Nat} (h : stI1 L S k = some (L', S')) : ∃ x, S = .int x :: S' ∧ storeLocals L k (.int x) = some L' := by
  unfold stI1 at h; split at h
  · rw [Option.map_eq_some_iff] at h; obtain ⟨l', h1, h2⟩ := h; cases h2; exact ⟨_, rfl, h1⟩
  · cases h
theorem stJ1_s {L L' : Array Slot} {S S' : List Value} {k : Nat} (h : stJ1 L S k = some (L', S')) : ∃ x, S = .long x :: S' ∧ storeLocals L k (.long x) = some L' := by
  unfold stJ1 at h; split at h
  · rw [Option.map_eq_some_iff] at h; obtain ⟨l', h1, h2⟩ := h; cases h2; exact ⟨_, rfl, h1⟩
  · cases h
theorem stA1_s {L L' : Array Slot} {S S' : List Value} {k : Nat} (h : stA1 L S k = some (L', S')) : ∃ x, S = x :: S' ∧ x.isRef = true ∧ storeLocals L k x = some L' := by
  unfold stA1 at h; split at h
  · split at h
    · rw [Option.map_eq_some_iff] at h; obtain ⟨l', h1, h2⟩ := h; cases h2; exact ⟨_, rfl, by assumption, h1⟩
    · cases h
  · cases h
theorem map_s {α β : Type} {o : Option α} {f : α → β} {y : β} (h : o.map f = some y) : ∃ x, o = some x ∧ f x = y := Option.map_eq_some_iff.mp h
theorem run1_s (X : Stand p l e R s m args below meth c T locs cells slots) (hx : p.tables.exec = Jvm.exec) {i : Instr} {n pc pc' : Nat} {L L' : Array Slot} {S S' : List Value} (hd : decode c.code pc = .ok (i, n)) (h : run1 i n pc L S = some (pc', L', S'))
    (H : Steps p.tables e below (T.setTop (mkF m pc' L' S')) target) : Steps p.tables e below (T.setTop (mkF m pc L S)) target := by
  unfold run1 at h
  split at h <;> split at h <;> first
    | (cases h; done)
    | (rename_i hn; subst hn; obtain ⟨⟨L1, S1⟩, h1, h2⟩ := map_s h; cases h2; first
        | (obtain ⟨v, q1, rfl, rfl⟩ := ldI_s h1; first | exact XS.iloadN X.here hx rfl hd q1 H | exact XS.iload X.here hx rfl hd q1 H)
        | (obtain ⟨v, q1, rfl, rfl⟩ := ldJ_s h1; first | exact XS.lloadN X.here hx rfl hd q1 H | exact XS.lload X.here hx rfl hd q1 H)
        | (obtain ⟨v, q1, q2, rfl, rfl⟩ := ldA_s h1; first | exact XS.aloadN X.here hx rfl hd q1 q2 H | exact XS.aload X.here hx rfl hd q1 q2 H)
        | (obtain ⟨x, rfl, q⟩ := stI1_s h1; first | exact XS.istoreN X.here hx rfl hd rfl q H | exact XS.istore X.here hx rfl hd rfl q H)
        | (obtain ⟨x, rfl, q⟩ := stJ1_s h1; first | exact XS.lstoreN X.here hx rfl hd rfl q H | exact XS.lstore X.here hx rfl hd rfl q H)
        | (obtain ⟨x, rfl, q1, q⟩ := stA1_s h1; first | exact XS.astoreN X.here hx rfl hd rfl q1 q H | exact XS.astore X.here hx rfl hd rfl q1 q H))
    | (rename_i hn; subst hn; split at h <;> first
        | (cases h; done)
        | (rename_i q; obtain ⟨l', h1, h2⟩ := map_s h; cases h2; exact XS.iinc X.here hx rfl hd q h1 H)
        | (rename_i q; cases h; exact XS.goto X.here hx rfl (pc0 := pc) rfl hd q rfl H))
    | (rename_i hn; obtain ⟨S1, h1, h2⟩ := map_s h; cases h2; exact stk_s X hx hd hn h1 H)
def runs : List (Nat × Instr × Nat) → Nat → Array Slot → List Value → Option (Nat × Array Slot × List Value)
  | [], pc, L, S => some (pc, L, S)
  | (q, i, n) :: is, pc, L, S => if q = pc then (match run1 i n pc L S with | some (pc', L', S') => runs is pc' L' S' | none => none) else none
def decs (code : ByteArray) : List (Nat × Instr × Nat) → Prop
  | [] => True
  | (q, i, n) :: is => decode code q = .ok (i, n) ∧ decs code is
theorem runs_s (X : Stand p l e R s m args below meth c T locs cells slots) (hx : p.tables.exec = Jvm.exec) {pc' : Nat} {L' : Array Slot} {S' : List Value} (H : Steps p.tables e below (T.setTop (mkF m pc' L' S')) target) :
    ∀ (is : List (Nat × Instr × Nat)) (pc : Nat) (L : Array Slot) (S : List Value), decs c.code is → runs is pc L S = some (pc', L', S') → Steps p.tables e below (T.setTop (mkF m pc L S)) target
  | [], pc, L, S, _, h => by cases h; exact H
  | (q, i, n) :: is, pc, L, S, hd, h => by
    unfold runs at h
    split at h
    · rename_i e1; subst e1
      split at h
      · rename_i pc1 L1 S1 h1
        exact run1_s X hx hd.1 h1 (runs_s X hx H is pc1 L1 S1 hd.2 h)
      · cases h
    · cases h
variable {P : Option Value → State → List Loc → Prop}
theorem Home.run (X : Stand p l e R s m args below meth c T locs cells slots) (hx : p.tables.exec = Jvm.exec) {bytes : ByteArray} (hby : c.code = bytes) {is : List (Nat × Instr × Nat)} (hd : decs bytes is) {pc pc' : Nat} {L L' : Array Slot} {S S' : List Value} (h : runs is pc L S = some (pc', L', S'))
    (H : @Home p e below P T (mkF m pc' L' S')) : @Home p e below P T (mkF m pc L S) :=
  Home.go (fun _ kt => runs_s X hx kt is pc L S (by rw [hby]; exact hd) h) H
end Run
section Calls
variable {p : Program} {l : Launch} {e : Env} {R : Room} {s : State} {m : MethodId} {args : Array Value} {below : List Frame} {meth : Method} {c : Code} {T : State} {locs : List Loc} {cells slots : Nat} {Z : State} {a0 : Array Value} {h : Heap} {y z : MethodName} {bytes : ByteArray} {maxL : Nat} {ret : Option FieldType} {rm : Room} {W : Nat} {as' : Array Value} {Q : Option Value → Heap → List Loc → Prop} {own C : String} {index : Nat}
/-- a body's contract, at one heap and one list of arguments -/
abbrev Con (l : Launch) (Z : State) (y : MethodName) (bytes : ByteArray) (maxL : Nat) (ret : Option FieldType) (ws : List Jvm.Cond) (rm : Room) (as' : Array Value) (h : Heap) (Q : Option Value → Heap → List Loc → Prop) : Prop :=
  MetFree l y (head1 (Jvm.Cond.code y bytes maxL ret :: ws) rm) (fun a U => a = as' ∧ Z.Warmed39 U.vm ∧ U.heap = h) (fun _ _ _ _ _ => True) (fun _ U o U' => ∃ v L, o = .returned v ∧ Q v U'.heap L ∧ FrameEnd U o U' L rm.cells rm.slots)
/-- it leaves the heap as it was -/
abbrev Pur (w : Option Value) (h0 : Heap) : Option Value → Heap → List Loc → Prop := fun v h L => v = w ∧ L = [] ∧ h = h0
/-- from a walk that comes home to the contract -/
theorem own_body {ws : List Jvm.Cond} {L0 : Array Slot} (pn : plainFor y = true) (ef : ∀ m, entryFrame m as' maxL = mkF m 0 L0 [])
    (body : ∀ (p : Program) (e : Env) (s : State) (m : MethodId) (below : List Frame) (meth : Method) (c : Code) (s₁ : State), p.tables.exec = Jvm.exec → c.code = bytes → meth.locks = false → c.maxLocals = maxL → meth.sig.returnType = ret → Z.Warmed39 s.vm → s.vm.findClass y.cls = some m.cls → meth.name = y.name →
      Stand p l e rm s m as' below meth c s₁ [] 0 0 → s₁.heap = h → @Home p e below (End s Q rm.cells rm.slots) s₁ (mkF m 0 L0 [])) : Con l Z y bytes maxL ret ws rm as' h Q := by
  refine MetFree.of_bodySF pn hisR ?_
  intro p e s m args below meth c s₁ Bd hml0 hP hK
  obtain ⟨rfl, hZ, hh⟩ := hP
  have H : @Home p e below (End s Q rm.cells rm.slots) s₁ (entryFrame m args maxL) := Home.enter (ef m) (body p e s m below meth c s₁ Bd.exec Bd.bytes (BodyLoose.notSynchronized Bd) hml0 Bd.returns hZ (findClass_of_methodNamed Bd.named) (name_of_methodNamed Bd.named Bd.method).1 (Stand.of_body Bd) (by rw [← hh, Bd.state]; rfl))
  obtain ⟨U, o, h1, h2, h3, v, L, rfl, h4, h5⟩ := H
  exact ⟨U, _, h1, h2, h3, v, L, rfl, h4, h5⟩
theorem own_static (X : Stand p l e R s m args below meth c T locs cells slots) (hx : p.tables.exec = Jvm.exec) (hZ : Z.Warmed39 s.vm) (hown : s.vm.findClass own = some m.cls)
    (w1 : (Cond.methodLink own index y).before a0 Z = true) (w2 : (Cond.static y).before a0 Z = true) (w3 : (Cond.initialized y.cls).before a0 Z = true) (w4 : (Cond.code y bytes maxL ret).before a0 Z = true)
    (hy : y.cls ≠ "java/lang/invoke/MethodHandle" ∧ y.cls ≠ "java/lang/invoke/VarHandle") (hM : Con l Z y bytes maxL ret [] rm as' h Q) (eT : T.heap = h)
    {g : JFrame} (hg : g.method = m) (hsize : g.locals.size = c.maxLocals) {argsL rest : List Value} (hlen : ∀ sig, parseMethodDescriptor y.desc = some sig → argsL.length = sig.parameters.length) (hstack : g.stack = argsL.reverse ++ rest) (ha : argsL.toArray = as')
    (hW : 2 * g.monitorRoom + (rest.map fun v => v.category).sum ≤ W) (hf : rm.frames + 1 ≤ R.frames) (hl : W + (maxL + 11) + rm.locals ≤ R.locals)
    (hdg : decode c.code g.pc = .ok (.invokestatic index, 3)) (hc : cells + rm.cells ≤ R.cells) (hs : slots + rm.slots ≤ R.slots) :
    ∃ v T' L, Stand p l e R s m args below meth c T' (locs ++ L) (cells + rm.cells) (slots + rm.slots) ∧ Q v T'.heap L ∧
      ∀ t, Steps p.tables e below (T'.setTop { g with pc := g.pc + 3, stack := v.toList ++ rest }) t → Steps p.tables e below (T.setTop g) t := by
  obtain ⟨v, _, ⟨T', L', k', n'⟩, -, X', ⟨L, hQ, l', y', z'⟩, st⟩ := Jvm.LawKit.callS X hx (y := y) hown (mvT hZ w1) (mvT hZ w2) (mvT hZ w3) (mvT hZ w4) hy (backOf (W := W) hM hZ w4 w3 hf hl) hg hsize hlen hstack hW hdg (fun _ _ => ⟨ha, eT, hc, hs⟩)
  dsimp only [Pt.U, Pt.locs, Pt.cells, Pt.slots] at X' l' y' z' st hQ
  subst l' y' z'
  exact ⟨v, T', L, X', hQ, st⟩
theorem own_special (X : Stand p l e R s m args below meth c T locs cells slots) (hx : p.tables.exec = Jvm.exec) (hZ : Z.Warmed39 s.vm) (hown : s.vm.findClass own = some m.cls) (hy1 : y.name = "<init>")
    (w1 : (Cond.methodLink own index y).before a0 Z = true) (w2 : (Cond.instanceMethod y).before a0 Z = true) (w3 : (Cond.initialized y.cls).before a0 Z = true) (w4 : (Cond.code y bytes maxL none).before a0 Z = true)
    (hy : y.cls ≠ "java/lang/invoke/MethodHandle" ∧ y.cls ≠ "java/lang/invoke/VarHandle") (hM : Con l Z y bytes maxL none [] rm as' h Q) (eT : T.heap = h)
    {g : JFrame} (hg : g.method = m) (hsize : g.locals.size = c.maxLocals) {a : Addr} {argsL rest : List Value} (hlen : ∀ sig, parseMethodDescriptor y.desc = some sig → argsL.length = sig.parameters.length) (hstack : g.stack = argsL.reverse ++ .ref a :: rest) (ha : (.ref a :: argsL).toArray = as')
    (hW : 2 * g.monitorRoom + (rest.map fun v => v.category).sum ≤ W) (hf : rm.frames + 1 ≤ R.frames) (hl : W + (maxL + 11) + rm.locals ≤ R.locals)
    (hdg : decode c.code g.pc = .ok (.invokespecial index, 3)) (hc : cells + rm.cells ≤ R.cells) (hs : slots + rm.slots ≤ R.slots) :
    ∃ v T' L, Stand p l e R s m args below meth c T' (locs ++ L) (cells + rm.cells) (slots + rm.slots) ∧ Q v T'.heap L ∧
      ∀ t, Steps p.tables e below (T'.setTop { g with pc := g.pc + 3, stack := v.toList ++ rest }) t → Steps p.tables e below (T.setTop g) t := by
  obtain ⟨v, _, ⟨T', L', k', n'⟩, -, X', ⟨L, hQ, l', y', z'⟩, st⟩ := X.specialBack hx (y := y) hy1 hown (mvT hZ w1) (mvT hZ w2) (mvT hZ w4) hy (backOf (W := W) hM hZ w4 w3 hf hl) hg hsize (Steps.refl _) (a := a) hlen hstack hW hdg (fun _ _ => ⟨ha, eT, hc, hs⟩)
  dsimp only [Pt.U, Pt.locs, Pt.cells, Pt.slots] at X' l' y' z' st hQ
  subst l' y' z'
  exact ⟨v, T', L, X', hQ, fun t k => st.trans k⟩
theorem own_virtual (X : Stand p l e R s m args below meth c T locs cells slots) (hx : p.tables.exec = Jvm.exec) (hZ : Z.Warmed39 s.vm) (hown : s.vm.findClass own = some m.cls)
    (w1 : (Cond.methodLink own index y).before a0 Z = true) (w2 : (Cond.declares y).before a0 Z = true) (hnf : NotFace s y) (w3 : (Cond.selects C y z).before a0 Z = true) (w4 : (Cond.instanceMethod z).before a0 Z = true) (w5 : (Cond.initialized z.cls).before a0 Z = true) (w6 : (Cond.code z bytes maxL ret).before a0 Z = true)
    (hy : y.cls ≠ "java/lang/invoke/MethodHandle" ∧ y.cls ≠ "java/lang/invoke/VarHandle") (hM : Con l Z z bytes maxL ret [] rm as' h Q) (eT : T.heap = h) {a : Addr} (E : Exa Z h a C)
    {g : JFrame} (hg : g.method = m) (hsize : g.locals.size = c.maxLocals) {argsL rest : List Value} (hlen : ∀ sig, parseMethodDescriptor y.desc = some sig → argsL.length = sig.parameters.length) (hstack : g.stack = argsL.reverse ++ .ref a :: rest) (ha : (.ref a :: argsL).toArray = as')
    (hW : 2 * g.monitorRoom + (rest.map fun v => v.category).sum ≤ W) (hf : rm.frames + 1 ≤ R.frames) (hl : W + (maxL + 11) + rm.locals ≤ R.locals)
    (hdg : decode c.code g.pc = .ok (.invokevirtual index, 3)) (hc : cells + rm.cells ≤ R.cells) (hs : slots + rm.slots ≤ R.slots) :
    ∃ v T' L, Stand p l e R s m args below meth c T' (locs ++ L) (cells + rm.cells) (slots + rm.slots) ∧ Q v T'.heap L ∧
      ∀ t, Steps p.tables e below (T'.setTop { g with pc := g.pc + 3, stack := v.toList ++ rest }) t → Steps p.tables e below (T.setTop g) t := by
  obtain ⟨cB, kB, q1, q2, q3⟩ := isOf hZ eT E
  obtain ⟨v, _, ⟨T', L', k', n'⟩, -, X', ⟨L, hQ, l', y', z'⟩, st⟩ := X.virtualBack hx (y := y) (z := z) hown (mvT hZ w1) (mvT hZ w2) hnf (mvT hZ w3) (mvT hZ w4) hy (backOf (W := W) hM hZ w6 w5 hf hl) q1 q3 hg hsize (Steps.refl _) hlen hstack hW hdg (fun _ _ => ⟨ha, eT, hc, hs⟩)
  dsimp only [Pt.U, Pt.locs, Pt.cells, Pt.slots] at X' l' y' z' st hQ
  subst l' y' z'
  exact ⟨v, T', L, X', hQ, fun t k => st.trans k⟩
theorem own_face (X : Stand p l e R s m args below meth c T locs cells slots) (hx : p.tables.exec = Jvm.exec) (hZ : Z.Warmed39 s.vm) (hown : s.vm.findClass own = some m.cls) {count : Nat}
    (w1 : (Cond.methodLink own index y).before a0 Z = true) (w2 : (Cond.declares y).before a0 Z = true) (w3 : (Cond.interfaceMethod y.cls y.cls y.name y.desc).before args s = true) (w4 : (Cond.selects C y z).before a0 Z = true) (w5 : (Cond.instanceMethod z).before a0 Z = true)
    (w6 : (Cond.publicMethod z).before a0 Z = true) (w7 : (Cond.unhidden C y.name y.desc).before a0 Z = true) (w8 : (Cond.castable C y.cls).before a0 Z = true) (w9 : (Cond.initialized z.cls).before a0 Z = true) (w10 : (Cond.code z bytes maxL ret).before a0 Z = true)
    (hy : y.cls ≠ "java/lang/invoke/MethodHandle" ∧ y.cls ≠ "java/lang/invoke/VarHandle") (hM : Con l Z z bytes maxL ret [] rm as' h Q) (eT : T.heap = h) {a : Addr} (E : Exa Z h a C)
    {g : JFrame} (hg : g.method = m) (hsize : g.locals.size = c.maxLocals) {argsL rest : List Value} (hlen : ∀ sig, parseMethodDescriptor y.desc = some sig → argsL.length = sig.parameters.length) (hstack : g.stack = argsL.reverse ++ .ref a :: rest) (ha : (.ref a :: argsL).toArray = as')
    (hW : 2 * g.monitorRoom + (rest.map fun v => v.category).sum ≤ W) (hf : rm.frames + 1 ≤ R.frames) (hl : W + (maxL + 11) + rm.locals ≤ R.locals)
    (hdg : decode c.code g.pc = .ok (.invokeinterface index count, 5)) (hc : cells + rm.cells ≤ R.cells) (hs : slots + rm.slots ≤ R.slots) :
    ∃ v T' L, Stand p l e R s m args below meth c T' (locs ++ L) (cells + rm.cells) (slots + rm.slots) ∧ Q v T'.heap L ∧
      ∀ t, Steps p.tables e below (T'.setTop { g with pc := g.pc + 5, stack := v.toList ++ rest }) t → Steps p.tables e below (T.setTop g) t := by
  obtain ⟨cB, kB, q1, q2, q3⟩ := isOf hZ eT E
  obtain ⟨v, _, ⟨T', L', k', n'⟩, -, X', ⟨L, hQ, l', y', z'⟩, st⟩ := X.interfaceBack hx (xi := y) (y := z) hown (mvT hZ w1) (mvT hZ w2) w3 (mvT hZ w4) (mvT hZ w5) (mvT hZ w6) (mvT hZ w7) (mvT hZ w8) hy (backOf (W := W) hM hZ w10 w9 hf hl) q1 q2 q3 hg hsize (Steps.refl _) hlen hstack hW hdg (fun _ _ => ⟨ha, eT, hc, hs⟩)
  dsimp only [Pt.U, Pt.locs, Pt.cells, Pt.slots] at X' l' y' z' st hQ
  subst l' y' z'
  exact ⟨v, T', L, X', hQ, fun t k => st.trans k⟩
theorem own_private (X : Stand p l e R s m args below meth c T locs cells slots) (hx : p.tables.exec = Jvm.exec) (hZ : Z.Warmed39 s.vm) (hown : s.vm.findClass own = some m.cls)
    (w1 : (Cond.methodLink own index y).before a0 Z = true) (w2 : (Cond.instanceMethod y).before a0 Z = true) (w3 : (Cond.selects y.cls y y).before a0 Z = true) (hp : s.PrivateAt y) (w5 : (Cond.initialized y.cls).before a0 Z = true) (w6 : (Cond.code y bytes maxL ret).before a0 Z = true)
    (hy : y.cls ≠ "java/lang/invoke/MethodHandle" ∧ y.cls ≠ "java/lang/invoke/VarHandle") (hM : Con l Z y bytes maxL ret [] rm as' h Q) (eT : T.heap = h) {a : Addr} (E : Exa Z h a C)
    {g : JFrame} (hg : g.method = m) (hsize : g.locals.size = c.maxLocals) {argsL rest : List Value} (hlen : ∀ sig, parseMethodDescriptor y.desc = some sig → argsL.length = sig.parameters.length) (hstack : g.stack = argsL.reverse ++ .ref a :: rest) (ha : (.ref a :: argsL).toArray = as')
    (hW : 2 * g.monitorRoom + (rest.map fun v => v.category).sum ≤ W) (hf : rm.frames + 1 ≤ R.frames) (hl : W + (maxL + 11) + rm.locals ≤ R.locals)
    (hdg : decode c.code g.pc = .ok (.invokevirtual index, 3)) (hc : cells + rm.cells ≤ R.cells) (hs : slots + rm.slots ≤ R.slots) :
    ∃ v T' L, Stand p l e R s m args below meth c T' (locs ++ L) (cells + rm.cells) (slots + rm.slots) ∧ Q v T'.heap L ∧
      ∀ t, Steps p.tables e below (T'.setTop { g with pc := g.pc + 3, stack := v.toList ++ rest }) t → Steps p.tables e below (T.setTop g) t := by
  obtain ⟨cq, q1, q2⟩ := E.cell
  obtain ⟨v, _, ⟨T', L', k', n'⟩, -, X', ⟨L, hQ, l', y', z'⟩, st⟩ := X.privateBack hx (y := y) hown (mvT hZ w1) (mvT hZ w2) (mvT hZ w3) hp (mvT hZ w6) hy (backOf (W := W) hM hZ w6 w5 hf hl) hg hsize (Steps.refl _) (a := a) (by rw [eT]; exact q1) q2 hlen hstack hW hdg (fun _ _ => ⟨ha, eT, hc, hs⟩)
  dsimp only [Pt.U, Pt.locs, Pt.cells, Pt.slots] at X' l' y' z' st hQ
  subst l' y' z'
  exact ⟨v, T', L, X', hQ, fun t k => st.trans k⟩
/-- a call that left the heap as it was -/
theorem own_pure {w : Option Value} {g : JFrame} {g' : Option Value → JFrame} (q : ∃ v T' L, Stand p l e R s m args below meth c T' (locs ++ L) (cells + rm.cells) (slots + rm.slots) ∧ Pur w h v T'.heap L ∧ ∀ t, Steps p.tables e below (T'.setTop (g' v)) t → Steps p.tables e below (T.setTop g) t)
    (hc : rm.cells = 0 := by rfl) (hs : rm.slots = 0 := by rfl) : ∃ T', Stand p l e R s m args below meth c T' locs cells slots ∧ T'.heap = h ∧ ∀ t, Steps p.tables e below (T'.setTop (g' w)) t → Steps p.tables e below (T.setTop g) t := by
  obtain ⟨v, T', L, X', ⟨rfl, rfl, hh⟩, st⟩ := q
  rw [List.append_nil, hc, hs] at X'
  exact ⟨T', X', hh, st⟩
end Calls
section Facts
variable {Z : State} {h h' : Heap} {a b : Addr} {C n d : String} {v : Value} {n0 : Nat}
theorem Old.le (O : Old Z n0 h) : n0 ≤ h.size := O.1 ▸ O.2.1
end Facts
end Jvm.OwnKit
namespace Jvm.OwnKit
open Jvm Jvm.ClassFile Sem Op Lib Jvm.Free Jvm.Stand Jvm.LawKit Jvm.RoadKit
section Arrays
variable {p : Program} {l : Launch} {e : Env} {R : Room} {s : State} {m : MethodId} {args : Array Value} {below : List Frame} {meth : Method} {c : Code} {T : State} {locs : List Loc} {cells slots : Nat} {Z : State} {h : Heap}
theorem own_alen (X : Stand p l e R s m args below meth c T locs cells slots) (hx : p.tables.exec = Jvm.exec) (hZ : Z.Warmed39 s.vm) (eT : T.heap = h) {a : Addr} {cl : Cell} {ty : FieldType} {z : Int32} (A : Arr Z h a cl ty) (S : cl.slots.size = z.toNatClampNeg) (M : ¬ z < 0)
    {g : JFrame} (hg : g.method = m) {rest : List Value} (hs : g.stack = .ref a :: rest) (hd : decode c.code g.pc = .ok (.arraylength, 1)) :
    ∀ t, Steps p.tables e below (T.setTop { g with pc := g.pc + 1, stack := .int z :: rest }) t → Steps p.tables e below (T.setTop g) t := fun t k =>
  X.arraylength hx (by rw [eT]; exact A.1) (State.isArrayOf_alike hZ.alike A.2.1) hg hs hd _ (by rw [len_of S M]; exact k)
theorem own_neAV {a b : Addr} {C : String} {a0 : Array Value} {k : Nat} {kc : ClassId} {ty : FieldType} {z : Int32} {vs : List Value} {dv : Value} (F : Exa Z h a C) (wi : (Cond.instantiable C k).before a0 Z = true) (G : Arv Z h b kc ty z vs dv) : a ≠ b := by obtain ⟨cl, A, -⟩ := G; exact ne_arr F wi A
end Arrays
end Jvm.OwnKit
namespace Jvm.OwnKit
open Jvm Jvm.ClassFile Sem Op Lib Jvm.Free Jvm.Stand Jvm.LawKit Jvm.RoadKit
theorem Ins.keep {Z : State} {h h' : Heap} {a : Addr} {C : String} {b : Bool} {ws : List Addr} (F : Ins Z h a C b) (K : Keep h h' ws) : Ins Z h' a C b := by
  obtain ⟨cell, cT, h1, h2, h3⟩ := F
  obtain ⟨c', e1, e2, e3, -⟩ := K.2.2 _ _ h1
  exact ⟨c', cT, e1, h2, by rw [e2, e3]; exact h3⟩
theorem cat1_of {v : Value} (h : v.isRef = true) : v.category = 1 := by
  rcases ref_cases h with rfl | ⟨a, rfl⟩ <;> rfl
section Bounds
variable {x y a b c d : Int32}
theorem bnd_ite {c : Prop} [Decidable c] {a b lo hi : Int32} (ha : ¬ a < lo ∧ ¬ hi < a) (hb : ¬ b < lo ∧ ¬ hi < b) : ¬ (if c then a else b) < lo ∧ ¬ hi < (if c then a else b) := by
  split
  · exact ha
  · exact hb
theorem bnd_and (x m : Int32) (h : 0 ≤ m.toInt) : ¬ (x &&& m) < (0 : Int32) ∧ ¬ m < (x &&& m) := by
  have q := c_and x m h
  have e : (0 : Int32).toInt = 0 := rfl
  rw [Int32.lt_iff_toInt_lt, Int32.lt_iff_toInt_lt, e]; omega
theorem bnd_mono (h : ¬ x < a ∧ ¬ b < x) (h1 : c.toInt ≤ a.toInt) (h2 : b.toInt ≤ d.toInt) : ¬ x < c ∧ ¬ d < x := by
  simp only [Int32.lt_iff_toInt_lt] at *; omega
theorem bnd_lt (h : ¬ x < a ∧ ¬ b < x) (k : ¬ y < c ∧ ¬ d < y) (q : b.toInt < c.toInt) : x < y := by
  simp only [Int32.lt_iff_toInt_lt] at *; omega
theorem bnd_nlt (h : ¬ x < a ∧ ¬ b < x) (k : ¬ y < c ∧ ¬ d < y) (q : d.toInt ≤ a.toInt) : ¬ x < y := by
  simp only [Int32.lt_iff_toInt_lt] at *; omega
theorem bnd_ne (h : ¬ x < a ∧ ¬ b < x) (k : ¬ y < c ∧ ¬ d < y) (q : b.toInt < c.toInt ∨ d.toInt < a.toInt) : ¬ x = y := by
  intro e; subst e
  simp only [Int32.lt_iff_toInt_lt] at *; omega
theorem bnd_rem2 {hi : Int32} (h : ¬ x < a ∧ ¬ b < x) (k : ¬ y < c ∧ ¬ d < y) (h1 : 0 ≤ a.toInt) (h2 : 0 < c.toInt) (h3 : hi.toInt = d.toInt - 1) : ¬ (x % y) < (0 : Int32) ∧ ¬ hi < (x % y) := by
  have q := (c_iremV x y).1
  have e : (0 : Int32).toInt = 0 := rfl
  simp only [Int32.lt_iff_toInt_lt, e] at *
  have h0 : 0 ≤ x.toInt := by omega
  have hy : 0 < y.toInt := by omega
  have q := q h0 hy
  omega
theorem bnd_i2c (x : Int32) : ¬ (x.toUInt32.toUInt16.toUInt32.toInt32) < (0 : Int32) ∧ ¬ (65535 : Int32) < (x.toUInt32.toUInt16.toUInt32.toInt32) := by
  have q := c_i2c x
  have e : (0 : Int32).toInt = 0 := rfl
  have e1 : (65535 : Int32).toInt = 65535 := rfl
  simp only [Int32.lt_iff_toInt_lt, e, e1]; omega
theorem bnd_i2b (x : Int32) : ¬ (x.toInt8.toInt32) < (-128 : Int32) ∧ ¬ (127 : Int32) < (x.toInt8.toInt32) := by
  have q := c_i2b x
  have e : (-128 : Int32).toInt = -128 := rfl
  have e1 : (127 : Int32).toInt = 127 := rfl
  simp only [Int32.lt_iff_toInt_lt, e, e1]; omega
theorem i2c_id (h : ¬ x < a ∧ ¬ b < x) (h1 : 0 ≤ a.toInt) (h2 : b.toInt ≤ 65535) : x.toUInt32.toUInt16.toUInt32.toInt32 = x := by
  have q := c_i2c x
  simp only [Int32.lt_iff_toInt_lt] at h
  apply Int32.toInt_inj.mp; omega
theorem i2b_id (h : ¬ x < a ∧ ¬ b < x) (h1 : -128 ≤ a.toInt) (h2 : b.toInt ≤ 127) : x.toInt8.toInt32 = x := by
  have q := c_i2b x
  simp only [Int32.lt_iff_toInt_lt] at h
  apply Int32.toInt_inj.mp; omega
theorem bnd_lit (k : Int32) : ¬ k < k ∧ ¬ k < k := by
  simp only [Int32.lt_iff_toInt_lt]; omega
theorem bnd_up (h : c < x) (q : d.toInt = c.toInt + 1) : ¬ x < d := by
  simp only [Int32.lt_iff_toInt_lt] at *; omega
theorem bnd_eql (h : x = c) : ¬ x < c := by
  subst h; simp only [Int32.lt_iff_toInt_lt]; omega
theorem bnd_eqr (h : x = c) : ¬ c < x := by
  subst h; simp only [Int32.lt_iff_toInt_lt]; omega
theorem bnd_nel (h : ¬ x < c) (k : ¬ x = c) (q : d.toInt = c.toInt + 1) : ¬ x < d := by
  rw [← Int32.toInt_inj] at k; simp only [Int32.lt_iff_toInt_lt] at *; omega
theorem bnd_ner (h : ¬ c < x) (k : ¬ x = c) (q : d.toInt = c.toInt - 1) : ¬ d < x := by
  rw [← Int32.toInt_inj] at k; simp only [Int32.lt_iff_toInt_lt] at *; omega
theorem bnd_fix (h : ¬ x < c ∧ ¬ c < x) : x = c := by
  rw [← Int32.toInt_inj]; simp only [Int32.lt_iff_toInt_lt] at *; omega
theorem nar_char_id (h : ¬ x < a ∧ ¬ b < x) (h1 : 0 ≤ a.toInt) (h2 : b.toInt ≤ 65535) : nar .char x = x := i2c_id h h1 h2
theorem nar_byte_id (h : ¬ x < a ∧ ¬ b < x) (h1 : -128 ≤ a.toInt) (h2 : b.toInt ≤ 127) : nar .byte x = x := i2b_id h h1 h2
theorem nar_i2c (x : Int32) : nar .char (x.toUInt32.toUInt16.toUInt32.toInt32) = x.toUInt32.toUInt16.toUInt32.toInt32 := nar_char_id (bnd_i2c x) (by decide) (by decide)
theorem nar_i2b (x : Int32) : nar .byte (x.toInt8.toInt32) = x.toInt8.toInt32 := nar_byte_id (bnd_i2b x) (by decide) (by decide)
theorem nar_bool_id (h : ¬ x < a ∧ ¬ b < x) (h1 : 0 ≤ a.toInt) (h2 : b.toInt ≤ 1) : nar .boolean x = x := by
  simp only [Int32.lt_iff_toInt_lt] at h
  have hx : x.toInt = 0 ∨ x.toInt = 1 := by omega
  rcases hx with q | q
  · have : x = 0 := Int32.toInt_inj.mp q
    subst this; rfl
  · have : x = 1 := Int32.toInt_inj.mp q
    subst this; rfl
end Bounds
theorem Wr.to {h h' : Heap} {a : Addr} {sl : Nat} {v w : Value} (W : Wr h h' a sl v) (q : v = w) : Wr h h' a sl w := q ▸ W
theorem fits_byte_b {x a b : Int32} (h : ¬ x < a ∧ ¬ b < x) (h1 : -128 ≤ a.toInt) (h2 : b.toInt ≤ 127) : fits .byte (.int x) = true := by
  have q := fits_nar_byte x
  rw [i2b_id h h1 h2] at q; exact q
/-- null, or an object of exactly that class -/
def Nul (Z : State) (h : Heap) (x : Value) (C : String) : Prop := x = .null ∨ ∃ a, x = .ref a ∧ Exa Z h a C
section Nulls
variable {Z : State} {h h' : Heap} {x : Value} {C : String}
theorem Nul.null (Z : State) (h : Heap) (C : String) : Nul Z h .null C := Or.inl rfl
theorem Nul.of {a : Addr} (E : Exa Z h a C) : Nul Z h (.ref a) C := Or.inr ⟨a, rfl, E⟩
theorem Nul.ext (N : Nul Z h x C) (E : Ext h h') : Nul Z h' x C := N.imp id fun ⟨a, e, F⟩ => ⟨a, e, F.ext E⟩
theorem Nul.wr {a : Addr} {sl : Nat} {v : Value} (N : Nul Z h x C) (W : Wr h h' a sl v) : Nul Z h' x C := N.imp id fun ⟨a, e, F⟩ => ⟨a, e, F.wr W⟩
theorem Nul.keep {ws : List Addr} (N : Nul Z h x C) (K : Keep h h' ws) : Nul Z h' x C := N.imp id fun ⟨a, e, F⟩ => ⟨a, e, F.keep K⟩
theorem Nul.isRef (N : Nul Z h x C) : x.isRef = true := by rcases N with rfl | ⟨a, rfl, -⟩ <;> rfl
end Nulls
section NotSub
variable {Z : State} {a0 : Array Value} {C S O K : String} {nn : Nat}
end NotSub
theorem Fld.to {Z : State} {h : Heap} {a : Addr} {C n d : String} {v w : Value} (F : Fld Z h a C n d v) (q : v = w) : Fld Z h a C n d w := q ▸ F
end Jvm.OwnKit
namespace Jvm.OwnKit
open Jvm Jvm.ClassFile Sem Op Lib Jvm.Free Jvm.Stand Jvm.LawKit Jvm.RoadKit
section Lists
variable {p : Program} {l : Launch} {e : Env} {R : Room} {s : State} {m : MethodId} {args : Array Value} {below : List Frame} {meth : Method} {c : Code} {T : State} {locs : List Loc} {cells slots : Nat} {Z : State} {h : Heap}
end Lists
end Jvm.OwnKit
namespace Jvm.Pilot.@@N@@
open Jvm Jvm.ClassFile Sem Op Lib Jvm.Free Jvm.Stand Jvm.LawKit Jvm.RoadKit Jvm.OwnKit Bundle Jvm.Pilot.@@N@@.Jvm.D
set_option maxRecDepth 65536
set_option maxHeartbeats 40000000
abbrev HW (a0 : Array Value) (Z : State) : Prop := ∀ d ∈ tables_1, d.before a0 Z = true
abbrev WD (d : Jvm.Cond) : Prop := ∀ {a0 : Array Value} {Z : State}, HW a0 Z → d.before a0 Z = true
theorem wd {d : Jvm.Cond} (i : Nat) (h : tables_1[i]? = some d) : WD d := fun hw => hw _ (List.mem_of_getElem? h)
abbrev sr (a : Addr) : Slot := .val (.ref a)
theorem own_lenk {Z : State} {args : Array Value} {t : Term} {a : Addr} {c : Cell} {ty : FieldType} {k : Int32} (ev : t.eval args Z none [] Z = some (.ref a)) (A : Arr Z Z.heap a c ty) (h : (Jvm.Cond.eq (Jvm.Term.length t) (Jvm.Term.int k)).value args Z none Z [] = some true) : c.slots.size < 2 ^ 31 ∧ c.slots.size.toInt32 = k := by
  have e := eqv_i (Term.int_eval k) h
  have ha := A.fin (U := Z) (Vm.Alike.refl _)
  by_cases q : c.slots.size < 2 ^ 31
  · have e2 := len_f (first := Z) (o := none) (idx := []) (args := args) ev ha q
    rw [e] at e2
    exact ⟨q, by injection e2 with e3; injection e3 with e4; exact e4.symm⟩
  · exfalso
    simp [Term.eval, ev, ha, q] at e
def own_el1 (n : Int32) (k : Addr) : Value := if n = 1 then .null else .ref k
def own_el2 (n : Int32) (k : Addr) : Value := if n = 3 then .ref k else .null
theorem own_el1_is {n : Int32} {k : Addr} (h : ¬ (n = (1 : Int32))) : own_el1 n k = .ref k := if_neg h
theorem own_el2_is {n : Int32} {k : Addr} (h : n = (3 : Int32)) : own_el2 n k = .ref k := if_pos h
theorem sg0_0_4 : decs code [(0, .iload_n 0, 1), (1, .sipush 255, 3), (4, .iand, 1), (5, .i2c, 1)] := ⟨at_0, at_1, at_4, at_5, trivial⟩
theorem sg0_6_1 : decs code [(6, .istore_n 3, 1)] := ⟨at_6, trivial⟩
theorem sg0_7_6 : decs code [(7, .iload_n 0, 1), (8, .bipush 8, 2), (10, .iushr, 1), (11, .sipush 255, 3), (14, .iand, 1), (15, .i2c, 1)] := ⟨at_7, at_8, at_10, at_11, at_14, at_15, trivial⟩
theorem sg0_16_1 : decs code [(16, .istore 4, 2)] := ⟨at_16, trivial⟩
theorem sg0_18_6 : decs code [(18, .iload_n 0, 1), (19, .bipush 16, 2), (21, .iushr, 1), (22, .sipush 255, 3), (25, .iand, 1), (26, .i2c, 1)] := ⟨at_18, at_19, at_21, at_22, at_25, at_26, trivial⟩
theorem sg0_27_1 : decs code [(27, .istore 5, 2)] := ⟨at_27, trivial⟩
theorem sg0_29_4 : decs code [(29, .iload_n 2, 1), (30, .iconst 3, 1), (31, .iand, 1), (32, .istore 6, 2)] := ⟨at_29, at_30, at_31, at_32, trivial⟩
theorem sg0_34_6 : decs code [(34, .iload_n 2, 1), (35, .iconst 2, 1), (36, .iushr, 1), (37, .iconst 3, 1), (38, .iand, 1), (39, .istore 7, 2)] := ⟨at_34, at_35, at_36, at_37, at_38, at_39, trivial⟩
theorem sg0_41_1 : decs code [(41, .iload 6, 2)] := ⟨at_41, trivial⟩
theorem sg0_46_2 : decs code [(46, .iconst 0, 1), (47, .istore 7, 2)] := ⟨at_46, at_47, trivial⟩
theorem own_w0 : WD (Cond.classLink "com/example/wary_meter/warymeter/ColumnPickPinLaw" 7 "com/example/wary_meter/warymeter/Column") := wd 0 rfl
theorem own_w1 : WD (Cond.instantiable "com/example/wary_meter/warymeter/Column" 4) := wd 1 rfl
theorem own_w2 : WD (Cond.initialized "com/example/wary_meter/warymeter/Column") := wd 2 rfl
theorem own_w42 : WD (Cond.laysFinal "com/example/wary_meter/warymeter/Column" "com/example/wary_meter/warymeter/Column" "name" "Ljava/lang/String;") := wd 42 rfl
theorem own_w44 : WD (Cond.laysFinal "com/example/wary_meter/warymeter/Column" "com/example/wary_meter/warymeter/Column" "value" "Ljava/util/function/Function;") := wd 44 rfl
theorem own_w46 : WD (Cond.laysFinal "com/example/wary_meter/warymeter/Column" "com/example/wary_meter/warymeter/Column" "key" "Ljava/util/function/Function;") := wd 46 rfl
theorem own_w48 : WD (Cond.laysFinal "com/example/wary_meter/warymeter/Column" "com/example/wary_meter/warymeter/Column" "text" "Ljava/util/function/Function;") := wd 48 rfl
theorem own_w3 : WD (Cond.methodLink "com/example/wary_meter/warymeter/ColumnPickPinLaw" 9 ⟨"java/lang/String", "valueOf", "(C)Ljava/lang/String;"⟩) := wd 3 rfl
theorem sg0_52_2 : decs code [(52, .dup, 1), (53, .iload_n 3, 1)] := ⟨at_52, at_53, trivial⟩
theorem d1_0 : decode jdk_42_method_139_code 0 = .ok (.getstatic 38, 3) := by decide +kernel
theorem own_w7 : WD (Cond.fieldLink "java/lang/String" 38 "java/lang/String" "COMPACT_STRINGS" "Z") := wd 7 rfl
theorem d1_3 : decode jdk_42_method_139_code 3 = .ok (.ifCond .eq 23, 3) := by decide +kernel
theorem d1_6 : decode jdk_42_method_139_code 6 = .ok (.iload_n 0, 1) := by decide +kernel
theorem own_w8 : WD (Cond.methodLink "java/lang/String" 1015 ⟨"java/lang/StringLatin1", "canEncode", "(C)Z"⟩) := wd 8 rfl
theorem sg1_6_1 : decs jdk_42_method_139_code [(6, .iload_n 0, 1)] := ⟨d1_6, trivial⟩
theorem d1_7 : decode jdk_42_method_139_code 7 = .ok (.invokestatic 1015, 3) := by decide +kernel
theorem d2_0 : decode jdk_43_method_3_code 0 = .ok (.iload_n 0, 1) := by decide +kernel
theorem d2_1 : decode jdk_43_method_3_code 1 = .ok (.sipush 255, 3) := by decide +kernel
theorem sg2_0_2 : decs jdk_43_method_3_code [(0, .iload_n 0, 1), (1, .sipush 255, 3)] := ⟨d2_0, d2_1, trivial⟩
theorem d2_4 : decode jdk_43_method_3_code 4 = .ok (.if_icmp .gt 7, 3) := by decide +kernel
theorem d2_7 : decode jdk_43_method_3_code 7 = .ok (.iconst 1, 1) := by decide +kernel
theorem d2_8 : decode jdk_43_method_3_code 8 = .ok (.goto 4, 3) := by decide +kernel
theorem sg2_7_2 : decs jdk_43_method_3_code [(7, .iconst 1, 1), (8, .goto 4, 3)] := ⟨d2_7, d2_8, trivial⟩
theorem d2_12 : decode jdk_43_method_3_code 12 = .ok (.ireturn, 1) := by decide +kernel
theorem ef_rm2_0 (m : MethodId) (x0 : Int32) : entryFrame m #[(.int x0)] 1 = mkF m 0 #[.val (.int x0)] [] := by first | (simp [entryFrame, mkF, argsToLocals, Value.category]; done) | rfl
theorem own_pn0 : plainName "java/lang/StringLatin1" = true := by first | (simp [plainName, overriddenIn]; done) | decide +kernel
theorem own_w11 : WD (Cond.code ⟨"java/lang/StringLatin1", "canEncode", "(C)Z"⟩ jdk_43_method_3_code 1 (Option.some Jvm.ClassFile.FieldType.boolean)) := wd 11 rfl
theorem own_w10 : WD (Cond.initialized "java/lang/StringLatin1") := wd 10 rfl
theorem own_pd0 : parseMethodDescriptor "(C)Z" = some ⟨[.char], some .boolean⟩ := by decide +kernel
theorem own_w9 : WD (Cond.static ⟨"java/lang/StringLatin1", "canEncode", "(C)Z"⟩) := wd 9 rfl
theorem d1_10 : decode jdk_42_method_139_code 10 = .ok (.ifCond .eq 16, 3) := by decide +kernel
theorem d1_13 : decode jdk_42_method_139_code 13 = .ok (.new 10, 3) := by decide +kernel
theorem own_w12 : WD (Cond.classLink "java/lang/String" 10 "java/lang/String") := wd 12 rfl
theorem own_w13 : WD (Cond.instantiable "java/lang/String" 4) := wd 13 rfl
theorem own_w5 : WD (Cond.initialized "java/lang/String") := wd 5 rfl
theorem own_w26 : WD (Cond.laysFinal "java/lang/String" "java/lang/String" "value" "[B") := wd 26 rfl
theorem own_w28 : WD (Cond.laysFinal "java/lang/String" "java/lang/String" "coder" "B") := wd 28 rfl
theorem d1_16 : decode jdk_42_method_139_code 16 = .ok (.dup, 1) := by decide +kernel
theorem d1_17 : decode jdk_42_method_139_code 17 = .ok (.iload_n 0, 1) := by decide +kernel
theorem own_w14 : WD (Cond.methodLink "java/lang/String" 1018 ⟨"java/lang/StringLatin1", "toBytes", "(C)[B"⟩) := wd 14 rfl
theorem sg1_16_2 : decs jdk_42_method_139_code [(16, .dup, 1), (17, .iload_n 0, 1)] := ⟨d1_16, d1_17, trivial⟩
theorem d1_18 : decode jdk_42_method_139_code 18 = .ok (.invokestatic 1018, 3) := by decide +kernel
theorem d3_0 : decode jdk_43_method_46_code 0 = .ok (.iconst 1, 1) := by decide +kernel
theorem sg3_0_1 : decs jdk_43_method_46_code [(0, .iconst 1, 1)] := ⟨d3_0, trivial⟩
theorem d3_1 : decode jdk_43_method_46_code 1 = .ok (.newarray .byte, 2) := by decide +kernel
theorem own_w17 : WD (Cond.arrayClass Jvm.ClassFile.FieldType.byte) := wd 17 rfl
theorem d3_3 : decode jdk_43_method_46_code 3 = .ok (.dup, 1) := by decide +kernel
theorem d3_4 : decode jdk_43_method_46_code 4 = .ok (.iconst 0, 1) := by decide +kernel
theorem d3_5 : decode jdk_43_method_46_code 5 = .ok (.iload_n 0, 1) := by decide +kernel
theorem d3_6 : decode jdk_43_method_46_code 6 = .ok (.i2b, 1) := by decide +kernel
theorem sg3_3_4 : decs jdk_43_method_46_code [(3, .dup, 1), (4, .iconst 0, 1), (5, .iload_n 0, 1), (6, .i2b, 1)] := ⟨d3_3, d3_4, d3_5, d3_6, trivial⟩
theorem d3_7 : decode jdk_43_method_46_code 7 = .ok (.bastore, 1) := by decide +kernel
theorem d3_8 : decode jdk_43_method_46_code 8 = .ok (.areturn, 1) := by decide +kernel
theorem ef_rm3_0 (m : MethodId) (x0 : Int32) : entryFrame m #[(.int x0)] 1 = mkF m 0 #[.val (.int x0)] [] := by first | (simp [entryFrame, mkF, argsToLocals, Value.category]; done) | rfl
theorem own_w16 : WD (Cond.code ⟨"java/lang/StringLatin1", "toBytes", "(C)[B"⟩ jdk_43_method_46_code 1 (Option.some (Jvm.ClassFile.FieldType.array Jvm.ClassFile.FieldType.byte))) := wd 16 rfl
theorem own_pd1 : parseMethodDescriptor "(C)[B" = some ⟨[.char], some (.array .byte)⟩ := by decide +kernel
theorem own_w15 : WD (Cond.static ⟨"java/lang/StringLatin1", "toBytes", "(C)[B"⟩) := wd 15 rfl
theorem d1_21 : decode jdk_42_method_139_code 21 = .ok (.iconst 0, 1) := by decide +kernel
theorem own_w18 : WD (Cond.methodLink "java/lang/String" 209 ⟨"java/lang/String", "<init>", "([BB)V"⟩) := wd 18 rfl
theorem sg1_21_1 : decs jdk_42_method_139_code [(21, .iconst 0, 1)] := ⟨d1_21, trivial⟩
theorem d1_22 : decode jdk_42_method_139_code 22 = .ok (.invokespecial 209, 3) := by decide +kernel
theorem d4_0 : decode jdk_42_method_151_code 0 = .ok (.aload_n 0, 1) := by decide +kernel
theorem own_w22 : WD (Cond.methodLink "java/lang/String" 1 ⟨"java/lang/Object", "<init>", "()V"⟩) := wd 22 rfl
theorem sg4_0_1 : decs jdk_42_method_151_code [(0, .aload_n 0, 1)] := ⟨d4_0, trivial⟩
theorem d4_1 : decode jdk_42_method_151_code 1 = .ok (.invokespecial 1, 3) := by decide +kernel
theorem own_w24 : WD (Cond.code ⟨"java/lang/Object", "<init>", "()V"⟩ object_method_1_code 1 (Option.none : Option Jvm.ClassFile.FieldType)) := wd 24 rfl
theorem own_w23 : WD (Cond.instanceMethod ⟨"java/lang/Object", "<init>", "()V"⟩) := wd 23 rfl
theorem d4_4 : decode jdk_42_method_151_code 4 = .ok (.aload_n 0, 1) := by decide +kernel
theorem d4_5 : decode jdk_42_method_151_code 5 = .ok (.aload_n 1, 1) := by decide +kernel
theorem sg4_4_2 : decs jdk_42_method_151_code [(4, .aload_n 0, 1), (5, .aload_n 1, 1)] := ⟨d4_4, d4_5, trivial⟩
theorem d4_6 : decode jdk_42_method_151_code 6 = .ok (.putfield 9, 3) := by decide +kernel
theorem own_w25 : WD (Cond.fieldLink "java/lang/String" 9 "java/lang/String" "value" "[B") := wd 25 rfl
theorem d4_9 : decode jdk_42_method_151_code 9 = .ok (.aload_n 0, 1) := by decide +kernel
theorem d4_10 : decode jdk_42_method_151_code 10 = .ok (.iload_n 2, 1) := by decide +kernel
theorem sg4_9_2 : decs jdk_42_method_151_code [(9, .aload_n 0, 1), (10, .iload_n 2, 1)] := ⟨d4_9, d4_10, trivial⟩
theorem d4_11 : decode jdk_42_method_151_code 11 = .ok (.putfield 15, 3) := by decide +kernel
theorem own_w27 : WD (Cond.fieldLink "java/lang/String" 15 "java/lang/String" "coder" "B") := wd 27 rfl
theorem d4_14 : decode jdk_42_method_151_code 14 = .ok (.return_, 1) := by decide +kernel
theorem ef_rm4_0 (m : MethodId) (x0 : Addr) (x1 : Addr) (x2 : Int32) : entryFrame m #[(.ref x0), (.ref x1), (.int x2)] 3 = mkF m 0 #[.val (.ref x0), .val (.ref x1), .val (.int x2)] [] := by first | (simp [entryFrame, mkF, argsToLocals, Value.category]; done) | rfl
theorem own_pn1 : plainName "java/lang/String" = true := by first | (simp [plainName, overriddenIn]; done) | decide +kernel
theorem own_w21 : WD (Cond.code ⟨"java/lang/String", "<init>", "([BB)V"⟩ jdk_42_method_151_code 3 (Option.none : Option Jvm.ClassFile.FieldType)) := wd 21 rfl
theorem own_pd2 : parseMethodDescriptor "([BB)V" = some ⟨[(.array .byte), .byte], none⟩ := by decide +kernel
theorem own_w19 : WD (Cond.instanceMethod ⟨"java/lang/String", "<init>", "([BB)V"⟩) := wd 19 rfl
theorem d1_25 : decode jdk_42_method_139_code 25 = .ok (.areturn, 1) := by decide +kernel
theorem ef_rm1_0 (m : MethodId) (x0 : Int32) : entryFrame m #[(.int x0)] 1 = mkF m 0 #[.val (.int x0)] [] := by first | (simp [entryFrame, mkF, argsToLocals, Value.category]; done) | rfl
theorem own_w6 : WD (Cond.code ⟨"java/lang/String", "valueOf", "(C)Ljava/lang/String;"⟩ jdk_42_method_139_code 1 (Option.some (Jvm.ClassFile.FieldType.object "java/lang/String"))) := wd 6 rfl
theorem own_pd3 : parseMethodDescriptor "(C)Ljava/lang/String;" = some ⟨[.char], some (.object "java/lang/String")⟩ := by decide +kernel
theorem own_w4 : WD (Cond.static ⟨"java/lang/String", "valueOf", "(C)Ljava/lang/String;"⟩) := wd 4 rfl
theorem own_w29 : WD (Cond.methodLink "com/example/wary_meter/warymeter/ColumnPickPinLaw" 15 ⟨"com/example/wary_meter/warymeter/Column", "<init>", "(Ljava/lang/String;Ljava/util/function/Function;)V"⟩) := wd 29 rfl
theorem sg0_57_1 : decs code [(57, .aconst_null, 1)] := ⟨at_57, trivial⟩
theorem d6_0 : decode prog_3_method_1_code 0 = .ok (.aload_n 0, 1) := by decide +kernel
theorem d6_1 : decode prog_3_method_1_code 1 = .ok (.aload_n 1, 1) := by decide +kernel
theorem d6_2 : decode prog_3_method_1_code 2 = .ok (.aload_n 2, 1) := by decide +kernel
theorem d6_3 : decode prog_3_method_1_code 3 = .ok (.aconst_null, 1) := by decide +kernel
theorem d6_4 : decode prog_3_method_1_code 4 = .ok (.aconst_null, 1) := by decide +kernel
theorem own_w32 : WD (Cond.methodLink "com/example/wary_meter/warymeter/Column" 23 ⟨"com/example/wary_meter/warymeter/Column", "<init>", "(Ljava/lang/String;Ljava/util/function/Function;Ljava/util/function/Function;Ljava/util/function/Function;)V"⟩) := wd 32 rfl
theorem sg6_0_5 : decs prog_3_method_1_code [(0, .aload_n 0, 1), (1, .aload_n 1, 1), (2, .aload_n 2, 1), (3, .aconst_null, 1), (4, .aconst_null, 1)] := ⟨d6_0, d6_1, d6_2, d6_3, d6_4, trivial⟩
theorem d6_5 : decode prog_3_method_1_code 5 = .ok (.invokespecial 23, 3) := by decide +kernel
theorem d7_0 : decode prog_3_method_2_code 0 = .ok (.aload_n 0, 1) := by decide +kernel
theorem own_w35 : WD (Cond.methodLink "com/example/wary_meter/warymeter/Column" 1 ⟨"java/lang/Record", "<init>", "()V"⟩) := wd 35 rfl
theorem sg7_0_1 : decs prog_3_method_2_code [(0, .aload_n 0, 1)] := ⟨d7_0, trivial⟩
theorem d7_1 : decode prog_3_method_2_code 1 = .ok (.invokespecial 1, 3) := by decide +kernel
theorem d8_0 : decode jdk_30_method_1_code 0 = .ok (.aload_n 0, 1) := by decide +kernel
theorem own_w40 : WD (Cond.methodLink "java/lang/Record" 1 ⟨"java/lang/Object", "<init>", "()V"⟩) := wd 40 rfl
theorem sg8_0_1 : decs jdk_30_method_1_code [(0, .aload_n 0, 1)] := ⟨d8_0, trivial⟩
theorem d8_1 : decode jdk_30_method_1_code 1 = .ok (.invokespecial 1, 3) := by decide +kernel
theorem d8_4 : decode jdk_30_method_1_code 4 = .ok (.return_, 1) := by decide +kernel
theorem ef_rm8_0 (m : MethodId) (x0 : Addr) : entryFrame m #[(.ref x0)] 1 = mkF m 0 #[.val (.ref x0)] [] := by first | (simp [entryFrame, mkF, argsToLocals, Value.category]; done) | rfl
theorem own_pn2 : plainName "java/lang/Record" = true := by first | (simp [plainName, overriddenIn]; done) | decide +kernel
theorem own_w39 : WD (Cond.code ⟨"java/lang/Record", "<init>", "()V"⟩ jdk_30_method_1_code 1 (Option.none : Option Jvm.ClassFile.FieldType)) := wd 39 rfl
theorem own_w38 : WD (Cond.initialized "java/lang/Record") := wd 38 rfl
theorem own_pd4 : parseMethodDescriptor "()V" = some ⟨[], none⟩ := by decide +kernel
theorem own_w36 : WD (Cond.instanceMethod ⟨"java/lang/Record", "<init>", "()V"⟩) := wd 36 rfl
theorem d7_4 : decode prog_3_method_2_code 4 = .ok (.aload_n 0, 1) := by decide +kernel
theorem d7_5 : decode prog_3_method_2_code 5 = .ok (.aload_n 1, 1) := by decide +kernel
theorem sg7_4_2 : decs prog_3_method_2_code [(4, .aload_n 0, 1), (5, .aload_n 1, 1)] := ⟨d7_4, d7_5, trivial⟩
theorem d7_6 : decode prog_3_method_2_code 6 = .ok (.putfield 7, 3) := by decide +kernel
theorem own_w41 : WD (Cond.fieldLink "com/example/wary_meter/warymeter/Column" 7 "com/example/wary_meter/warymeter/Column" "name" "Ljava/lang/String;") := wd 41 rfl
theorem d7_9 : decode prog_3_method_2_code 9 = .ok (.aload_n 0, 1) := by decide +kernel
theorem d7_10 : decode prog_3_method_2_code 10 = .ok (.aload_n 2, 1) := by decide +kernel
theorem sg7_9_2 : decs prog_3_method_2_code [(9, .aload_n 0, 1), (10, .aload_n 2, 1)] := ⟨d7_9, d7_10, trivial⟩
theorem d7_11 : decode prog_3_method_2_code 11 = .ok (.putfield 13, 3) := by decide +kernel
theorem own_w43 : WD (Cond.fieldLink "com/example/wary_meter/warymeter/Column" 13 "com/example/wary_meter/warymeter/Column" "value" "Ljava/util/function/Function;") := wd 43 rfl
theorem d7_14 : decode prog_3_method_2_code 14 = .ok (.aload_n 0, 1) := by decide +kernel
theorem d7_15 : decode prog_3_method_2_code 15 = .ok (.aload_n 3, 1) := by decide +kernel
theorem sg7_14_2 : decs prog_3_method_2_code [(14, .aload_n 0, 1), (15, .aload_n 3, 1)] := ⟨d7_14, d7_15, trivial⟩
theorem d7_16 : decode prog_3_method_2_code 16 = .ok (.putfield 17, 3) := by decide +kernel
theorem own_w45 : WD (Cond.fieldLink "com/example/wary_meter/warymeter/Column" 17 "com/example/wary_meter/warymeter/Column" "key" "Ljava/util/function/Function;") := wd 45 rfl
theorem d7_19 : decode prog_3_method_2_code 19 = .ok (.aload_n 0, 1) := by decide +kernel
theorem d7_20 : decode prog_3_method_2_code 20 = .ok (.aload 4, 2) := by decide +kernel
theorem sg7_19_2 : decs prog_3_method_2_code [(19, .aload_n 0, 1), (20, .aload 4, 2)] := ⟨d7_19, d7_20, trivial⟩
theorem d7_22 : decode prog_3_method_2_code 22 = .ok (.putfield 20, 3) := by decide +kernel
theorem own_w47 : WD (Cond.fieldLink "com/example/wary_meter/warymeter/Column" 20 "com/example/wary_meter/warymeter/Column" "text" "Ljava/util/function/Function;") := wd 47 rfl
theorem d7_25 : decode prog_3_method_2_code 25 = .ok (.return_, 1) := by decide +kernel
theorem ef_rm7_0 (m : MethodId) (x0 : Addr) (x1 : Addr) : entryFrame m #[(.ref x0), (.ref x1), .null, .null, .null] 5 = mkF m 0 #[.val (.ref x0), .val (.ref x1), .val .null, .val .null, .val .null] [] := by first | (simp [entryFrame, mkF, argsToLocals, Value.category]; done) | rfl
theorem own_pn3 : plainName "com/example/wary_meter/warymeter/Column" = true := by first | (simp [plainName, overriddenIn]; done) | decide +kernel
theorem own_w34 : WD (Cond.code ⟨"com/example/wary_meter/warymeter/Column", "<init>", "(Ljava/lang/String;Ljava/util/function/Function;Ljava/util/function/Function;Ljava/util/function/Function;)V"⟩ prog_3_method_2_code 5 (Option.none : Option Jvm.ClassFile.FieldType)) := wd 34 rfl
theorem own_pd5 : parseMethodDescriptor "(Ljava/lang/String;Ljava/util/function/Function;Ljava/util/function/Function;Ljava/util/function/Function;)V" = some ⟨[(.object "java/lang/String"), (.object "java/util/function/Function"), (.object "java/util/function/Function"), (.object "java/util/function/Function")], none⟩ := by decide +kernel
theorem own_w33 : WD (Cond.instanceMethod ⟨"com/example/wary_meter/warymeter/Column", "<init>", "(Ljava/lang/String;Ljava/util/function/Function;Ljava/util/function/Function;Ljava/util/function/Function;)V"⟩) := wd 33 rfl
theorem d6_8 : decode prog_3_method_1_code 8 = .ok (.return_, 1) := by decide +kernel
theorem ef_rm6_0 (m : MethodId) (x0 : Addr) (x1 : Addr) : entryFrame m #[(.ref x0), (.ref x1), .null] 3 = mkF m 0 #[.val (.ref x0), .val (.ref x1), .val .null] [] := by first | (simp [entryFrame, mkF, argsToLocals, Value.category]; done) | rfl
theorem own_w31 : WD (Cond.code ⟨"com/example/wary_meter/warymeter/Column", "<init>", "(Ljava/lang/String;Ljava/util/function/Function;)V"⟩ prog_3_method_1_code 3 (Option.none : Option Jvm.ClassFile.FieldType)) := wd 31 rfl
theorem own_pd6 : parseMethodDescriptor "(Ljava/lang/String;Ljava/util/function/Function;)V" = some ⟨[(.object "java/lang/String"), (.object "java/util/function/Function")], none⟩ := by decide +kernel
theorem own_w30 : WD (Cond.instanceMethod ⟨"com/example/wary_meter/warymeter/Column", "<init>", "(Ljava/lang/String;Ljava/util/function/Function;)V"⟩) := wd 30 rfl
theorem sg0_61_1 : decs code [(61, .astore 8, 2)] := ⟨at_61, trivial⟩
theorem sg0_66_2 : decs code [(66, .dup, 1), (67, .iload 4, 2)] := ⟨at_66, at_67, trivial⟩
theorem sg0_72_1 : decs code [(72, .aconst_null, 1)] := ⟨at_72, trivial⟩
theorem sg0_76_1 : decs code [(76, .astore 9, 2)] := ⟨at_76, trivial⟩
theorem sg0_81_2 : decs code [(81, .dup, 1), (82, .iload 5, 2)] := ⟨at_81, at_82, trivial⟩
theorem sg0_87_1 : decs code [(87, .aconst_null, 1)] := ⟨at_87, trivial⟩
theorem sg0_91_1 : decs code [(91, .astore 10, 2)] := ⟨at_91, trivial⟩
theorem own_w49 : WD (Cond.classLink "com/example/wary_meter/warymeter/ColumnPickPinLaw" 18 "java/util/ArrayList") := wd 49 rfl
theorem own_w50 : WD (Cond.instantiable "java/util/ArrayList" 3) := wd 50 rfl
theorem own_w51 : WD (Cond.initialized "java/util/ArrayList") := wd 51 rfl
theorem own_w69 : WD (Cond.lays "java/util/ArrayList" "java/util/AbstractList" "modCount" "I") := wd 69 rfl
theorem own_w72 : WD (Cond.lays "java/util/ArrayList" "java/util/ArrayList" "elementData" "[Ljava/lang/Object;") := wd 72 rfl
theorem own_w85 : WD (Cond.lays "java/util/ArrayList" "java/util/ArrayList" "size" "I") := wd 85 rfl
theorem own_w52 : WD (Cond.methodLink "com/example/wary_meter/warymeter/ColumnPickPinLaw" 20 ⟨"java/util/ArrayList", "<init>", "()V"⟩) := wd 52 rfl
theorem sg0_96_1 : decs code [(96, .dup, 1)] := ⟨at_96, trivial⟩
theorem d9_0 : decode jdk_38_method_2_code 0 = .ok (.aload_n 0, 1) := by decide +kernel
theorem own_w55 : WD (Cond.methodLink "java/util/ArrayList" 1 ⟨"java/util/AbstractList", "<init>", "()V"⟩) := wd 55 rfl
theorem sg9_0_1 : decs jdk_38_method_2_code [(0, .aload_n 0, 1)] := ⟨d9_0, trivial⟩
theorem d9_1 : decode jdk_38_method_2_code 1 = .ok (.invokespecial 1, 3) := by decide +kernel
theorem d10_0 : decode jdk_39_method_1_code 0 = .ok (.aload_n 0, 1) := by decide +kernel
theorem own_w61 : WD (Cond.methodLink "java/util/AbstractList" 1 ⟨"java/util/AbstractCollection", "<init>", "()V"⟩) := wd 61 rfl
theorem sg10_0_1 : decs jdk_39_method_1_code [(0, .aload_n 0, 1)] := ⟨d10_0, trivial⟩
theorem d10_1 : decode jdk_39_method_1_code 1 = .ok (.invokespecial 1, 3) := by decide +kernel
theorem d11_0 : decode jdk_22_method_1_code 0 = .ok (.aload_n 0, 1) := by decide +kernel
theorem own_w67 : WD (Cond.methodLink "java/util/AbstractCollection" 1 ⟨"java/lang/Object", "<init>", "()V"⟩) := wd 67 rfl
theorem sg11_0_1 : decs jdk_22_method_1_code [(0, .aload_n 0, 1)] := ⟨d11_0, trivial⟩
theorem d11_1 : decode jdk_22_method_1_code 1 = .ok (.invokespecial 1, 3) := by decide +kernel
theorem d11_4 : decode jdk_22_method_1_code 4 = .ok (.return_, 1) := by decide +kernel
theorem ef_rm11_0 (m : MethodId) (x0 : Addr) : entryFrame m #[(.ref x0)] 1 = mkF m 0 #[.val (.ref x0)] [] := by first | (simp [entryFrame, mkF, argsToLocals, Value.category]; done) | rfl
theorem own_pn4 : plainName "java/util/AbstractCollection" = true := by first | (simp [plainName, overriddenIn]; done) | decide +kernel
theorem own_w66 : WD (Cond.code ⟨"java/util/AbstractCollection", "<init>", "()V"⟩ jdk_22_method_1_code 1 (Option.none : Option Jvm.ClassFile.FieldType)) := wd 66 rfl
theorem own_w65 : WD (Cond.initialized "java/util/AbstractCollection") := wd 65 rfl
theorem own_w62 : WD (Cond.instanceMethod ⟨"java/util/AbstractCollection", "<init>", "()V"⟩) := wd 62 rfl
theorem d10_4 : decode jdk_39_method_1_code 4 = .ok (.aload_n 0, 1) := by decide +kernel
theorem d10_5 : decode jdk_39_method_1_code 5 = .ok (.iconst 0, 1) := by decide +kernel
theorem sg10_4_2 : decs jdk_39_method_1_code [(4, .aload_n 0, 1), (5, .iconst 0, 1)] := ⟨d10_4, d10_5, trivial⟩
theorem d10_6 : decode jdk_39_method_1_code 6 = .ok (.putfield 7, 3) := by decide +kernel
theorem own_w68 : WD (Cond.fieldLink "java/util/AbstractList" 7 "java/util/AbstractList" "modCount" "I") := wd 68 rfl
theorem d10_9 : decode jdk_39_method_1_code 9 = .ok (.return_, 1) := by decide +kernel
theorem ef_rm10_0 (m : MethodId) (x0 : Addr) : entryFrame m #[(.ref x0)] 1 = mkF m 0 #[.val (.ref x0)] [] := by first | (simp [entryFrame, mkF, argsToLocals, Value.category]; done) | rfl
theorem own_pn5 : plainName "java/util/AbstractList" = true := by first | (simp [plainName, overriddenIn]; done) | decide +kernel
theorem own_w60 : WD (Cond.code ⟨"java/util/AbstractList", "<init>", "()V"⟩ jdk_39_method_1_code 1 (Option.none : Option Jvm.ClassFile.FieldType)) := wd 60 rfl
theorem own_w59 : WD (Cond.initialized "java/util/AbstractList") := wd 59 rfl
theorem own_w56 : WD (Cond.instanceMethod ⟨"java/util/AbstractList", "<init>", "()V"⟩) := wd 56 rfl
theorem d9_4 : decode jdk_38_method_2_code 4 = .ok (.aload_n 0, 1) := by decide +kernel
theorem sg9_4_1 : decs jdk_38_method_2_code [(4, .aload_n 0, 1)] := ⟨d9_4, trivial⟩
theorem d9_5 : decode jdk_38_method_2_code 5 = .ok (.getstatic 39, 3) := by decide +kernel
theorem own_w70 : WD (Cond.fieldLink "java/util/ArrayList" 39 "java/util/ArrayList" "DEFAULTCAPACITY_EMPTY_ELEMENTDATA" "[Ljava/lang/Object;") := wd 70 rfl
theorem d9_8 : decode jdk_38_method_2_code 8 = .ok (.putfield 9, 3) := by decide +kernel
theorem own_w71 : WD (Cond.fieldLink "java/util/ArrayList" 9 "java/util/ArrayList" "elementData" "[Ljava/lang/Object;") := wd 71 rfl
theorem d9_11 : decode jdk_38_method_2_code 11 = .ok (.return_, 1) := by decide +kernel
theorem ef_rm9_0 (m : MethodId) (x0 : Addr) : entryFrame m #[(.ref x0)] 1 = mkF m 0 #[.val (.ref x0)] [] := by first | (simp [entryFrame, mkF, argsToLocals, Value.category]; done) | rfl
theorem own_pn6 : plainName "java/util/ArrayList" = true := by first | (simp [plainName, overriddenIn]; done) | decide +kernel
theorem own_w54 : WD (Cond.code ⟨"java/util/ArrayList", "<init>", "()V"⟩ jdk_38_method_2_code 1 (Option.none : Option Jvm.ClassFile.FieldType)) := wd 54 rfl
theorem own_w53 : WD (Cond.instanceMethod ⟨"java/util/ArrayList", "<init>", "()V"⟩) := wd 53 rfl
theorem sg0_100_1 : decs code [(100, .astore 11, 2)] := ⟨at_100, trivial⟩
theorem sg0_102_1 : decs code [(102, .iload 6, 2)] := ⟨at_102, trivial⟩
theorem sg0_117_2 : decs code [(117, .iload 6, 2), (119, .iconst 1, 1)] := ⟨at_117, at_119, trivial⟩
theorem sg0_133_2 : decs code [(133, .iload 6, 2), (135, .iconst 2, 1)] := ⟨at_133, at_135, trivial⟩
theorem own_w108 : WD (Cond.methodLink "com/example/wary_meter/warymeter/ColumnPickPinLaw" 27 ⟨"com/example/wary_meter/warymeter/ColumnPickPinLaw", "sel", "(II)I"⟩) := wd 108 rfl
theorem sg0_149_2 : decs code [(149, .iload_n 1, 1), (150, .iload 6, 2)] := ⟨at_149, at_150, trivial⟩
theorem d17_0 : decode method_2_code 0 = .ok (.iload_n 1, 1) := by decide +kernel
theorem sg17_0_1 : decs method_2_code [(0, .iload_n 1, 1)] := ⟨d17_0, trivial⟩
theorem d17_1 : decode method_2_code 1 = .ok (.ifCond .ne 5, 3) := by decide +kernel
theorem d17_4 : decode method_2_code 4 = .ok (.iconst 0, 1) := by decide +kernel
theorem sg17_4_1 : decs method_2_code [(4, .iconst 0, 1)] := ⟨d17_4, trivial⟩
theorem d17_5 : decode method_2_code 5 = .ok (.ireturn, 1) := by decide +kernel
theorem ef_rm17_0 (m : MethodId) (x0 : Int32) (x1 : Int32) : entryFrame m #[(.int x0), (.int x1)] 2 = mkF m 0 #[.val (.int x0), .val (.int x1)] [] := by first | (simp [entryFrame, mkF, argsToLocals, Value.category]; done) | rfl
theorem own_pn7 : plainName "com/example/wary_meter/warymeter/ColumnPickPinLaw" = true := by first | (simp [plainName, overriddenIn]; done) | decide +kernel
theorem own_w111 : WD (Cond.code ⟨"com/example/wary_meter/warymeter/ColumnPickPinLaw", "sel", "(II)I"⟩ method_2_code 2 (Option.some Jvm.ClassFile.FieldType.int)) := wd 111 rfl
theorem own_w110 : WD (Cond.initialized "com/example/wary_meter/warymeter/ColumnPickPinLaw") := wd 110 rfl
theorem own_pd7 : parseMethodDescriptor "(II)I" = some ⟨[.int, .int], some .int⟩ := by decide +kernel
theorem own_w109 : WD (Cond.static ⟨"com/example/wary_meter/warymeter/ColumnPickPinLaw", "sel", "(II)I"⟩) := wd 109 rfl
theorem sg0_155_5 : decs code [(155, .istore 12, 2), (157, .iload_n 1, 1), (158, .bipush 8, 2), (160, .iushr, 1), (161, .iload 6, 2)] := ⟨at_155, at_157, at_158, at_160, at_161, trivial⟩
theorem sg0_166_5 : decs code [(166, .istore 13, 2), (168, .iload_n 1, 1), (169, .bipush 16, 2), (171, .iushr, 1), (172, .iload 6, 2)] := ⟨at_166, at_168, at_169, at_171, at_172, trivial⟩
theorem own_w112 : WD (Cond.methodLink "com/example/wary_meter/warymeter/ColumnPickPinLaw" 33 ⟨"com/example/wary_meter/warymeter/ColumnPickPinLaw", "charAt", "(CCCI)C"⟩) := wd 112 rfl
theorem sg0_177_5 : decs code [(177, .istore 14, 2), (179, .iload_n 3, 1), (180, .iload 4, 2), (182, .iload 5, 2), (184, .iload 12, 2)] := ⟨at_177, at_179, at_180, at_182, at_184, trivial⟩
theorem d18_0 : decode method_3_code 0 = .ok (.iload_n 3, 1) := by decide +kernel
theorem d18_1 : decode method_3_code 1 = .ok (.iconst 2, 1) := by decide +kernel
theorem sg18_0_2 : decs method_3_code [(0, .iload_n 3, 1), (1, .iconst 2, 1)] := ⟨d18_0, d18_1, trivial⟩
theorem d18_2 : decode method_3_code 2 = .ok (.if_icmp .ne 5, 3) := by decide +kernel
theorem d18_7 : decode method_3_code 7 = .ok (.iload_n 3, 1) := by decide +kernel
theorem d18_8 : decode method_3_code 8 = .ok (.iconst 1, 1) := by decide +kernel
theorem sg18_7_2 : decs method_3_code [(7, .iload_n 3, 1), (8, .iconst 1, 1)] := ⟨d18_7, d18_8, trivial⟩
theorem d18_9 : decode method_3_code 9 = .ok (.if_icmp .ne 5, 3) := by decide +kernel
theorem d18_14 : decode method_3_code 14 = .ok (.iload_n 0, 1) := by decide +kernel
theorem sg18_14_1 : decs method_3_code [(14, .iload_n 0, 1)] := ⟨d18_14, trivial⟩
theorem d18_15 : decode method_3_code 15 = .ok (.ireturn, 1) := by decide +kernel
theorem ef_rm18_0 (m : MethodId) (x0 : Int32) (x1 : Int32) (x2 : Int32) (x3 : Int32) : entryFrame m #[(.int x0), (.int x1), (.int x2), (.int x3)] 4 = mkF m 0 #[.val (.int x0), .val (.int x1), .val (.int x2), .val (.int x3)] [] := by first | (simp [entryFrame, mkF, argsToLocals, Value.category]; done) | rfl
theorem own_w114 : WD (Cond.code ⟨"com/example/wary_meter/warymeter/ColumnPickPinLaw", "charAt", "(CCCI)C"⟩ method_3_code 4 (Option.some Jvm.ClassFile.FieldType.char)) := wd 114 rfl
theorem own_pd8 : parseMethodDescriptor "(CCCI)C" = some ⟨[.char, .char, .char, .int], some .char⟩ := by decide +kernel
theorem own_w113 : WD (Cond.static ⟨"com/example/wary_meter/warymeter/ColumnPickPinLaw", "charAt", "(CCCI)C"⟩) := wd 113 rfl
theorem sg0_189_5 : decs code [(189, .istore 15, 2), (191, .iload_n 3, 1), (192, .iload 4, 2), (194, .iload 5, 2), (196, .iload 13, 2)] := ⟨at_189, at_191, at_192, at_194, at_196, trivial⟩
theorem sg0_201_5 : decs code [(201, .istore 16, 2), (203, .iload_n 3, 1), (204, .iload 4, 2), (206, .iload 5, 2), (208, .iload 14, 2)] := ⟨at_201, at_203, at_204, at_206, at_208, trivial⟩
theorem sg0_213_1 : decs code [(213, .istore 17, 2)] := ⟨at_213, trivial⟩
theorem sg0_218_1 : decs code [(218, .dup, 1)] := ⟨at_218, trivial⟩
theorem sg0_222_2 : decs code [(222, .astore 18, 2), (224, .iload 7, 2)] := ⟨at_222, at_224, trivial⟩
theorem sg0_242_2 : decs code [(242, .iload 7, 2), (244, .iconst 1, 1)] := ⟨at_242, at_244, trivial⟩
theorem sg0_261_2 : decs code [(261, .iload 7, 2), (263, .iconst 2, 1)] := ⟨at_261, at_263, trivial⟩
theorem own_w115 : WD (Cond.methodLink "com/example/wary_meter/warymeter/ColumnPickPinLaw" 37 ⟨"com/example/wary_meter/warymeter/Column", "pick", "(Ljava/util/List;Ljava/util/List;)Ljava/util/List;"⟩) := wd 115 rfl
theorem sg0_280_2 : decs code [(280, .aload 11, 2), (282, .aload 18, 2)] := ⟨at_280, at_282, trivial⟩
theorem d19_0 : decode prog_3_method_5_code 0 = .ok (.new 45, 3) := by decide +kernel
theorem own_w118 : WD (Cond.classLink "com/example/wary_meter/warymeter/Column" 45 "java/util/ArrayList") := wd 118 rfl
theorem d19_3 : decode prog_3_method_5_code 3 = .ok (.dup, 1) := by decide +kernel
theorem own_w119 : WD (Cond.methodLink "com/example/wary_meter/warymeter/Column" 47 ⟨"java/util/ArrayList", "<init>", "()V"⟩) := wd 119 rfl
theorem sg19_3_1 : decs prog_3_method_5_code [(3, .dup, 1)] := ⟨d19_3, trivial⟩
theorem d19_4 : decode prog_3_method_5_code 4 = .ok (.invokespecial 47, 3) := by decide +kernel
theorem d19_7 : decode prog_3_method_5_code 7 = .ok (.astore_n 2, 1) := by decide +kernel
theorem d19_8 : decode prog_3_method_5_code 8 = .ok (.aload_n 1, 1) := by decide +kernel
theorem own_w120 : WD (Cond.methodLink "com/example/wary_meter/warymeter/Column" 48 ⟨"java/util/List", "iterator", "()Ljava/util/Iterator;"⟩) := wd 120 rfl
theorem sg19_7_2 : decs prog_3_method_5_code [(7, .astore_n 2, 1), (8, .aload_n 1, 1)] := ⟨d19_7, d19_8, trivial⟩
theorem d19_9 : decode prog_3_method_5_code 9 = .ok (.invokeinterface 48 1, 5) := by decide +kernel
theorem d20_0 : decode jdk_38_method_55_code 0 = .ok (.new 267, 3) := by decide +kernel
theorem own_w128 : WD (Cond.classLink "java/util/ArrayList" 267 "java/util/ArrayList$Itr") := wd 128 rfl
theorem own_w129 : WD (Cond.instantiable "java/util/ArrayList$Itr" 4) := wd 129 rfl
theorem own_w130 : WD (Cond.initialized "java/util/ArrayList$Itr") := wd 130 rfl
theorem own_w136 : WD (Cond.laysFinal "java/util/ArrayList$Itr" "java/util/ArrayList$Itr" "this$0" "Ljava/util/ArrayList;") := wd 136 rfl
theorem own_w139 : WD (Cond.lays "java/util/ArrayList$Itr" "java/util/ArrayList$Itr" "lastRet" "I") := wd 139 rfl
theorem own_w142 : WD (Cond.lays "java/util/ArrayList$Itr" "java/util/ArrayList$Itr" "expectedModCount" "I") := wd 142 rfl
theorem own_w153 : WD (Cond.lays "java/util/ArrayList$Itr" "java/util/ArrayList$Itr" "cursor" "I") := wd 153 rfl
theorem d20_3 : decode jdk_38_method_55_code 3 = .ok (.dup, 1) := by decide +kernel
theorem d20_4 : decode jdk_38_method_55_code 4 = .ok (.aload_n 0, 1) := by decide +kernel
theorem own_w131 : WD (Cond.methodLink "java/util/ArrayList" 269 ⟨"java/util/ArrayList$Itr", "<init>", "(Ljava/util/ArrayList;)V"⟩) := wd 131 rfl
theorem sg20_3_2 : decs jdk_38_method_55_code [(3, .dup, 1), (4, .aload_n 0, 1)] := ⟨d20_3, d20_4, trivial⟩
theorem d20_5 : decode jdk_38_method_55_code 5 = .ok (.invokespecial 269, 3) := by decide +kernel
theorem d21_0 : decode jdk_49_method_1_code 0 = .ok (.aload_n 0, 1) := by decide +kernel
theorem d21_1 : decode jdk_49_method_1_code 1 = .ok (.aload_n 1, 1) := by decide +kernel
theorem sg21_0_2 : decs jdk_49_method_1_code [(0, .aload_n 0, 1), (1, .aload_n 1, 1)] := ⟨d21_0, d21_1, trivial⟩
theorem d21_2 : decode jdk_49_method_1_code 2 = .ok (.putfield 1, 3) := by decide +kernel
theorem own_w135 : WD (Cond.fieldLink "java/util/ArrayList$Itr" 1 "java/util/ArrayList$Itr" "this$0" "Ljava/util/ArrayList;") := wd 135 rfl
theorem d21_5 : decode jdk_49_method_1_code 5 = .ok (.aload_n 0, 1) := by decide +kernel
theorem own_w137 : WD (Cond.methodLink "java/util/ArrayList$Itr" 7 ⟨"java/lang/Object", "<init>", "()V"⟩) := wd 137 rfl
theorem sg21_5_1 : decs jdk_49_method_1_code [(5, .aload_n 0, 1)] := ⟨d21_5, trivial⟩
theorem d21_6 : decode jdk_49_method_1_code 6 = .ok (.invokespecial 7, 3) := by decide +kernel
theorem d21_9 : decode jdk_49_method_1_code 9 = .ok (.aload_n 0, 1) := by decide +kernel
theorem d21_10 : decode jdk_49_method_1_code 10 = .ok (.iconst (-1), 1) := by decide +kernel
theorem sg21_9_2 : decs jdk_49_method_1_code [(9, .aload_n 0, 1), (10, .iconst (-1), 1)] := ⟨d21_9, d21_10, trivial⟩
theorem d21_11 : decode jdk_49_method_1_code 11 = .ok (.putfield 13, 3) := by decide +kernel
theorem own_w138 : WD (Cond.fieldLink "java/util/ArrayList$Itr" 13 "java/util/ArrayList$Itr" "lastRet" "I") := wd 138 rfl
theorem d21_14 : decode jdk_49_method_1_code 14 = .ok (.aload_n 0, 1) := by decide +kernel
theorem d21_15 : decode jdk_49_method_1_code 15 = .ok (.aload_n 0, 1) := by decide +kernel
theorem sg21_14_2 : decs jdk_49_method_1_code [(14, .aload_n 0, 1), (15, .aload_n 0, 1)] := ⟨d21_14, d21_15, trivial⟩
theorem d21_16 : decode jdk_49_method_1_code 16 = .ok (.getfield 1, 3) := by decide +kernel
theorem d21_19 : decode jdk_49_method_1_code 19 = .ok (.getfield 17, 3) := by decide +kernel
theorem own_w140 : WD (Cond.fieldLink "java/util/ArrayList$Itr" 17 "java/util/ArrayList" "modCount" "I") := wd 140 rfl
theorem own_w83 : WD (Cond.sameField "java/util/ArrayList" "java/util/AbstractList" "modCount" "I") := wd 83 rfl
theorem d21_22 : decode jdk_49_method_1_code 22 = .ok (.putfield 22, 3) := by decide +kernel
theorem own_w141 : WD (Cond.fieldLink "java/util/ArrayList$Itr" 22 "java/util/ArrayList$Itr" "expectedModCount" "I") := wd 141 rfl
theorem d21_25 : decode jdk_49_method_1_code 25 = .ok (.return_, 1) := by decide +kernel
theorem ef_rm21_0 (m : MethodId) (x0 : Addr) (x1 : Addr) : entryFrame m #[(.ref x0), (.ref x1)] 2 = mkF m 0 #[.val (.ref x0), .val (.ref x1)] [] := by first | (simp [entryFrame, mkF, argsToLocals, Value.category]; done) | rfl
theorem own_pn8 : plainName "java/util/ArrayList$Itr" = true := by first | (simp [plainName, overriddenIn]; done) | decide +kernel
theorem own_w134 : WD (Cond.code ⟨"java/util/ArrayList$Itr", "<init>", "(Ljava/util/ArrayList;)V"⟩ jdk_49_method_1_code 2 (Option.none : Option Jvm.ClassFile.FieldType)) := wd 134 rfl
theorem own_pd9 : parseMethodDescriptor "(Ljava/util/ArrayList;)V" = some ⟨[(.object "java/util/ArrayList")], none⟩ := by decide +kernel
theorem own_w132 : WD (Cond.instanceMethod ⟨"java/util/ArrayList$Itr", "<init>", "(Ljava/util/ArrayList;)V"⟩) := wd 132 rfl
theorem d20_8 : decode jdk_38_method_55_code 8 = .ok (.areturn, 1) := by decide +kernel
theorem ef_rm20_0 (m : MethodId) (x0 : Addr) : entryFrame m #[(.ref x0)] 1 = mkF m 0 #[.val (.ref x0)] [] := by first | (simp [entryFrame, mkF, argsToLocals, Value.category]; done) | rfl
theorem own_w127 : WD (Cond.code ⟨"java/util/ArrayList", "iterator", "()Ljava/util/Iterator;"⟩ jdk_38_method_55_code 1 (Option.some (Jvm.ClassFile.FieldType.object "java/util/Iterator"))) := wd 127 rfl
theorem own_pd10 : parseMethodDescriptor "()Ljava/util/Iterator;" = some ⟨[], some (.object "java/util/Iterator")⟩ := by decide +kernel
theorem own_w123 : WD (Cond.selects "java/util/ArrayList" ⟨"java/util/List", "iterator", "()Ljava/util/Iterator;"⟩ ⟨"java/util/ArrayList", "iterator", "()Ljava/util/Iterator;"⟩) := wd 123 rfl
theorem own_w121 : WD (Cond.declares ⟨"java/util/List", "iterator", "()Ljava/util/Iterator;"⟩) := wd 121 rfl
theorem own_w122 : WD (Cond.interfaceMethod "java/util/List" "java/util/List" "iterator" "()Ljava/util/Iterator;") := wd 122 rfl
theorem own_w124 : WD (Cond.instanceMethod ⟨"java/util/ArrayList", "iterator", "()Ljava/util/Iterator;"⟩) := wd 124 rfl
theorem own_w125 : WD (Cond.publicMethod ⟨"java/util/ArrayList", "iterator", "()Ljava/util/Iterator;"⟩) := wd 125 rfl
theorem own_w126 : WD (Cond.unhidden "java/util/ArrayList" "iterator" "()Ljava/util/Iterator;") := wd 126 rfl
theorem own_w80 : WD (Cond.castable "java/util/ArrayList" "java/util/List") := wd 80 rfl
theorem d19_14 : decode prog_3_method_5_code 14 = .ok (.astore_n 3, 1) := by decide +kernel
theorem d19_15 : decode prog_3_method_5_code 15 = .ok (.aload_n 3, 1) := by decide +kernel
theorem own_w143 : WD (Cond.methodLink "com/example/wary_meter/warymeter/Column" 52 ⟨"java/util/Iterator", "hasNext", "()Z"⟩) := wd 143 rfl
theorem d22_0 : decode jdk_49_method_2_code 0 = .ok (.aload_n 0, 1) := by decide +kernel
theorem sg22_0_1 : decs jdk_49_method_2_code [(0, .aload_n 0, 1)] := ⟨d22_0, trivial⟩
theorem d22_1 : decode jdk_49_method_2_code 1 = .ok (.getfield 25, 3) := by decide +kernel
theorem own_w152 : WD (Cond.fieldLink "java/util/ArrayList$Itr" 25 "java/util/ArrayList$Itr" "cursor" "I") := wd 152 rfl
theorem d22_4 : decode jdk_49_method_2_code 4 = .ok (.aload_n 0, 1) := by decide +kernel
theorem sg22_4_1 : decs jdk_49_method_2_code [(4, .aload_n 0, 1)] := ⟨d22_4, trivial⟩
theorem d22_5 : decode jdk_49_method_2_code 5 = .ok (.getfield 1, 3) := by decide +kernel
theorem d22_8 : decode jdk_49_method_2_code 8 = .ok (.getfield 28, 3) := by decide +kernel
theorem own_w154 : WD (Cond.fieldLinkNest "java/util/ArrayList$Itr" 28 "java/util/ArrayList" "size" "I" "java/util/ArrayList") := wd 154 rfl
theorem d22_11 : decode jdk_49_method_2_code 11 = .ok (.if_icmp .eq 7, 3) := by decide +kernel
theorem d22_18 : decode jdk_49_method_2_code 18 = .ok (.iconst 0, 1) := by decide +kernel
theorem sg22_18_1 : decs jdk_49_method_2_code [(18, .iconst 0, 1)] := ⟨d22_18, trivial⟩
theorem d22_19 : decode jdk_49_method_2_code 19 = .ok (.ireturn, 1) := by decide +kernel
theorem sg19_14_2 : decs prog_3_method_5_code [(14, .astore_n 3, 1), (15, .aload_n 3, 1)] := ⟨d19_14, d19_15, trivial⟩
theorem d19_16 : decode prog_3_method_5_code 16 = .ok (.invokeinterface 52 1, 5) := by decide +kernel
theorem ef_rm22_0 (m : MethodId) (x0 : Addr) : entryFrame m #[(.ref x0)] 1 = mkF m 0 #[.val (.ref x0)] [] := by first | (simp [entryFrame, mkF, argsToLocals, Value.category]; done) | rfl
theorem own_w151 : WD (Cond.code ⟨"java/util/ArrayList$Itr", "hasNext", "()Z"⟩ jdk_49_method_2_code 1 (Option.some Jvm.ClassFile.FieldType.boolean)) := wd 151 rfl
theorem own_pd11 : parseMethodDescriptor "()Z" = some ⟨[], some .boolean⟩ := by decide +kernel
theorem own_w146 : WD (Cond.selects "java/util/ArrayList$Itr" ⟨"java/util/Iterator", "hasNext", "()Z"⟩ ⟨"java/util/ArrayList$Itr", "hasNext", "()Z"⟩) := wd 146 rfl
theorem own_w144 : WD (Cond.declares ⟨"java/util/Iterator", "hasNext", "()Z"⟩) := wd 144 rfl
theorem own_w145 : WD (Cond.interfaceMethod "java/util/Iterator" "java/util/Iterator" "hasNext" "()Z") := wd 145 rfl
theorem own_w147 : WD (Cond.instanceMethod ⟨"java/util/ArrayList$Itr", "hasNext", "()Z"⟩) := wd 147 rfl
theorem own_w148 : WD (Cond.publicMethod ⟨"java/util/ArrayList$Itr", "hasNext", "()Z"⟩) := wd 148 rfl
theorem own_w149 : WD (Cond.unhidden "java/util/ArrayList$Itr" "hasNext" "()Z") := wd 149 rfl
theorem own_w150 : WD (Cond.castable "java/util/ArrayList$Itr" "java/util/Iterator") := wd 150 rfl
theorem d19_21 : decode prog_3_method_5_code 21 = .ok (.ifCond .eq 99, 3) := by decide +kernel
theorem d19_120 : decode prog_3_method_5_code 120 = .ok (.aload_n 2, 1) := by decide +kernel
theorem sg19_120_1 : decs prog_3_method_5_code [(120, .aload_n 2, 1)] := ⟨d19_120, trivial⟩
theorem d19_121 : decode prog_3_method_5_code 121 = .ok (.areturn, 1) := by decide +kernel
theorem ef_rm19_0 (m : MethodId) (x0 : Addr) (x1 : Addr) : entryFrame m #[(.ref x0), (.ref x1)] 8 = mkF m 0 #[.val (.ref x0), .val (.ref x1), .unset, .unset, .unset, .unset, .unset, .unset] [] := by first | (simp [entryFrame, mkF, argsToLocals, Value.category]; done) | rfl
theorem own_w117 : WD (Cond.code ⟨"com/example/wary_meter/warymeter/Column", "pick", "(Ljava/util/List;Ljava/util/List;)Ljava/util/List;"⟩ prog_3_method_5_code 8 (Option.some (Jvm.ClassFile.FieldType.object "java/util/List"))) := wd 117 rfl
theorem own_pd12 : parseMethodDescriptor "(Ljava/util/List;Ljava/util/List;)Ljava/util/List;" = some ⟨[(.object "java/util/List"), (.object "java/util/List")], some (.object "java/util/List")⟩ := by decide +kernel
theorem own_w116 : WD (Cond.static ⟨"com/example/wary_meter/warymeter/Column", "pick", "(Ljava/util/List;Ljava/util/List;)Ljava/util/List;"⟩) := wd 116 rfl
theorem own_w155 : WD (Cond.methodLink "com/example/wary_meter/warymeter/ColumnPickPinLaw" 41 ⟨"java/util/List", "size", "()I"⟩) := wd 155 rfl
theorem sg0_287_2 : decs code [(287, .astore 19, 2), (289, .aload 19, 2)] := ⟨at_287, at_289, trivial⟩
theorem d23_0 : decode jdk_38_method_8_code 0 = .ok (.aload_n 0, 1) := by decide +kernel
theorem sg23_0_1 : decs jdk_38_method_8_code [(0, .aload_n 0, 1)] := ⟨d23_0, trivial⟩
theorem d23_1 : decode jdk_38_method_8_code 1 = .ok (.getfield 48, 3) := by decide +kernel
theorem own_w84 : WD (Cond.fieldLink "java/util/ArrayList" 48 "java/util/ArrayList" "size" "I") := wd 84 rfl
theorem d23_4 : decode jdk_38_method_8_code 4 = .ok (.ireturn, 1) := by decide +kernel
theorem ef_rm23_0 (m : MethodId) (x0 : Addr) : entryFrame m #[(.ref x0)] 1 = mkF m 0 #[.val (.ref x0)] [] := by first | (simp [entryFrame, mkF, argsToLocals, Value.category]; done) | rfl
theorem own_w162 : WD (Cond.code ⟨"java/util/ArrayList", "size", "()I"⟩ jdk_38_method_8_code 1 (Option.some Jvm.ClassFile.FieldType.int)) := wd 162 rfl
theorem own_pd13 : parseMethodDescriptor "()I" = some ⟨[], some .int⟩ := by decide +kernel
theorem own_w158 : WD (Cond.selects "java/util/ArrayList" ⟨"java/util/List", "size", "()I"⟩ ⟨"java/util/ArrayList", "size", "()I"⟩) := wd 158 rfl
theorem own_w156 : WD (Cond.declares ⟨"java/util/List", "size", "()I"⟩) := wd 156 rfl
theorem own_w157 : WD (Cond.interfaceMethod "java/util/List" "java/util/List" "size" "()I") := wd 157 rfl
theorem own_w159 : WD (Cond.instanceMethod ⟨"java/util/ArrayList", "size", "()I"⟩) := wd 159 rfl
theorem own_w160 : WD (Cond.publicMethod ⟨"java/util/ArrayList", "size", "()I"⟩) := wd 160 rfl
theorem own_w161 : WD (Cond.unhidden "java/util/ArrayList" "size" "()I") := wd 161 rfl
theorem sg0_296_1 : decs code [(296, .iload 7, 2)] := ⟨at_296, trivial⟩
theorem sg0_303_1 : decs code [(303, .iload 7, 2)] := ⟨at_303, trivial⟩
theorem sg0_342_2 : decs code [(342, .iload 7, 2), (344, .iconst 1, 1)] := ⟨at_342, at_344, trivial⟩
theorem sg0_382_2 : decs code [(382, .iload 7, 2), (384, .iconst 2, 1)] := ⟨at_382, at_384, trivial⟩
theorem sg0_422_1 : decs code [(422, .iconst 1, 1)] := ⟨at_422, trivial⟩
theorem own_w73 : WD (Cond.methodLink "com/example/wary_meter/warymeter/ColumnPickPinLaw" 21 ⟨"java/util/List", "add", "(Ljava/lang/Object;)Z"⟩) := wd 73 rfl
theorem sg0_107_2 : decs code [(107, .aload 11, 2), (109, .aload 8, 2)] := ⟨at_107, at_109, trivial⟩
theorem d12_0 : decode jdk_38_method_25_code 0 = .ok (.aload_n 0, 1) := by decide +kernel
theorem d12_1 : decode jdk_38_method_25_code 1 = .ok (.dup, 1) := by decide +kernel
theorem sg12_0_2 : decs jdk_38_method_25_code [(0, .aload_n 0, 1), (1, .dup, 1)] := ⟨d12_0, d12_1, trivial⟩
theorem d12_2 : decode jdk_38_method_25_code 2 = .ok (.getfield 63, 3) := by decide +kernel
theorem own_w82 : WD (Cond.fieldLink "java/util/ArrayList" 63 "java/util/ArrayList" "modCount" "I") := wd 82 rfl
theorem d12_5 : decode jdk_38_method_25_code 5 = .ok (.iconst 1, 1) := by decide +kernel
theorem d12_6 : decode jdk_38_method_25_code 6 = .ok (.iadd, 1) := by decide +kernel
theorem sg12_5_2 : decs jdk_38_method_25_code [(5, .iconst 1, 1), (6, .iadd, 1)] := ⟨d12_5, d12_6, trivial⟩
theorem d12_7 : decode jdk_38_method_25_code 7 = .ok (.putfield 63, 3) := by decide +kernel
theorem d12_10 : decode jdk_38_method_25_code 10 = .ok (.aload_n 0, 1) := by decide +kernel
theorem d12_11 : decode jdk_38_method_25_code 11 = .ok (.aload_n 1, 1) := by decide +kernel
theorem d12_12 : decode jdk_38_method_25_code 12 = .ok (.aload_n 0, 1) := by decide +kernel
theorem sg12_10_3 : decs jdk_38_method_25_code [(10, .aload_n 0, 1), (11, .aload_n 1, 1), (12, .aload_n 0, 1)] := ⟨d12_10, d12_11, d12_12, trivial⟩
theorem d12_13 : decode jdk_38_method_25_code 13 = .ok (.getfield 9, 3) := by decide +kernel
theorem d12_16 : decode jdk_38_method_25_code 16 = .ok (.aload_n 0, 1) := by decide +kernel
theorem sg12_16_1 : decs jdk_38_method_25_code [(16, .aload_n 0, 1)] := ⟨d12_16, trivial⟩
theorem d12_17 : decode jdk_38_method_25_code 17 = .ok (.getfield 48, 3) := by decide +kernel
theorem own_w86 : WD (Cond.methodLink "java/util/ArrayList" 131 ⟨"java/util/ArrayList", "add", "(Ljava/lang/Object;[Ljava/lang/Object;I)V"⟩) := wd 86 rfl
theorem d12_20 : decode jdk_38_method_25_code 20 = .ok (.invokevirtual 131, 3) := by decide +kernel
theorem d13_0 : decode jdk_38_method_24_code 0 = .ok (.iload_n 3, 1) := by decide +kernel
theorem d13_1 : decode jdk_38_method_24_code 1 = .ok (.aload_n 2, 1) := by decide +kernel
theorem sg13_0_2 : decs jdk_38_method_24_code [(0, .iload_n 3, 1), (1, .aload_n 2, 1)] := ⟨d13_0, d13_1, trivial⟩
theorem d13_2 : decode jdk_38_method_24_code 2 = .ok (.arraylength, 1) := by decide +kernel
theorem d13_3 : decode jdk_38_method_24_code 3 = .ok (.if_icmp .ne 8, 3) := by decide +kernel
theorem d13_6 : decode jdk_38_method_24_code 6 = .ok (.aload_n 0, 1) := by decide +kernel
theorem own_w91 : WD (Cond.methodLink "java/util/ArrayList" 129 ⟨"java/util/ArrayList", "grow", "()[Ljava/lang/Object;"⟩) := wd 91 rfl
theorem sg13_6_1 : decs jdk_38_method_24_code [(6, .aload_n 0, 1)] := ⟨d13_6, trivial⟩
theorem d13_7 : decode jdk_38_method_24_code 7 = .ok (.invokevirtual 129, 3) := by decide +kernel
theorem d14_0 : decode jdk_38_method_7_code 0 = .ok (.aload_n 0, 1) := by decide +kernel
theorem d14_1 : decode jdk_38_method_7_code 1 = .ok (.aload_n 0, 1) := by decide +kernel
theorem sg14_0_2 : decs jdk_38_method_7_code [(0, .aload_n 0, 1), (1, .aload_n 0, 1)] := ⟨d14_0, d14_1, trivial⟩
theorem d14_2 : decode jdk_38_method_7_code 2 = .ok (.getfield 48, 3) := by decide +kernel
theorem d14_5 : decode jdk_38_method_7_code 5 = .ok (.iconst 1, 1) := by decide +kernel
theorem d14_6 : decode jdk_38_method_7_code 6 = .ok (.iadd, 1) := by decide +kernel
theorem own_w96 : WD (Cond.methodLink "java/util/ArrayList" 69 ⟨"java/util/ArrayList", "grow", "(I)[Ljava/lang/Object;"⟩) := wd 96 rfl
theorem sg14_5_2 : decs jdk_38_method_7_code [(5, .iconst 1, 1), (6, .iadd, 1)] := ⟨d14_5, d14_6, trivial⟩
theorem d14_7 : decode jdk_38_method_7_code 7 = .ok (.invokevirtual 69, 3) := by decide +kernel
theorem d15_0 : decode jdk_38_method_6_code 0 = .ok (.aload_n 0, 1) := by decide +kernel
theorem sg15_0_1 : decs jdk_38_method_6_code [(0, .aload_n 0, 1)] := ⟨d15_0, trivial⟩
theorem d15_1 : decode jdk_38_method_6_code 1 = .ok (.getfield 9, 3) := by decide +kernel
theorem d15_4 : decode jdk_38_method_6_code 4 = .ok (.arraylength, 1) := by decide +kernel
theorem d15_5 : decode jdk_38_method_6_code 5 = .ok (.istore_n 2, 1) := by decide +kernel
theorem d15_6 : decode jdk_38_method_6_code 6 = .ok (.iload_n 2, 1) := by decide +kernel
theorem sg15_5_2 : decs jdk_38_method_6_code [(5, .istore_n 2, 1), (6, .iload_n 2, 1)] := ⟨d15_5, d15_6, trivial⟩
theorem d15_7 : decode jdk_38_method_6_code 7 = .ok (.ifCond .gt 13, 3) := by decide +kernel
theorem d15_10 : decode jdk_38_method_6_code 10 = .ok (.aload_n 0, 1) := by decide +kernel
theorem sg15_10_1 : decs jdk_38_method_6_code [(10, .aload_n 0, 1)] := ⟨d15_10, trivial⟩
theorem d15_11 : decode jdk_38_method_6_code 11 = .ok (.getfield 9, 3) := by decide +kernel
theorem d15_14 : decode jdk_38_method_6_code 14 = .ok (.getstatic 39, 3) := by decide +kernel
theorem d15_17 : decode jdk_38_method_6_code 17 = .ok (.if_acmp .eq 28, 3) := by decide +kernel
theorem d15_45 : decode jdk_38_method_6_code 45 = .ok (.aload_n 0, 1) := by decide +kernel
theorem d15_46 : decode jdk_38_method_6_code 46 = .ok (.bipush 10, 2) := by decide +kernel
theorem d15_48 : decode jdk_38_method_6_code 48 = .ok (.iload_n 1, 1) := by decide +kernel
theorem own_w101 : WD (Cond.methodLink "java/util/ArrayList" 79 ⟨"java/lang/Math", "max", "(II)I"⟩) := wd 101 rfl
theorem sg15_45_3 : decs jdk_38_method_6_code [(45, .aload_n 0, 1), (46, .bipush 10, 2), (48, .iload_n 1, 1)] := ⟨d15_45, d15_46, d15_48, trivial⟩
theorem d15_49 : decode jdk_38_method_6_code 49 = .ok (.invokestatic 79, 3) := by decide +kernel
theorem d16_0 : decode jdk_29_method_65_code 0 = .ok (.iload_n 0, 1) := by decide +kernel
theorem d16_1 : decode jdk_29_method_65_code 1 = .ok (.iload_n 1, 1) := by decide +kernel
theorem sg16_0_2 : decs jdk_29_method_65_code [(0, .iload_n 0, 1), (1, .iload_n 1, 1)] := ⟨d16_0, d16_1, trivial⟩
theorem d16_2 : decode jdk_29_method_65_code 2 = .ok (.if_icmp .lt 7, 3) := by decide +kernel
theorem d16_5 : decode jdk_29_method_65_code 5 = .ok (.iload_n 0, 1) := by decide +kernel
theorem d16_6 : decode jdk_29_method_65_code 6 = .ok (.goto 4, 3) := by decide +kernel
theorem sg16_5_2 : decs jdk_29_method_65_code [(5, .iload_n 0, 1), (6, .goto 4, 3)] := ⟨d16_5, d16_6, trivial⟩
theorem d16_10 : decode jdk_29_method_65_code 10 = .ok (.ireturn, 1) := by decide +kernel
theorem ef_rm16_0 (m : MethodId) (x0 : Int32) (x1 : Int32) : entryFrame m #[(.int x0), (.int x1)] 2 = mkF m 0 #[.val (.int x0), .val (.int x1)] [] := by first | (simp [entryFrame, mkF, argsToLocals, Value.category]; done) | rfl
theorem own_w104 : WD (Cond.code ⟨"java/lang/Math", "max", "(II)I"⟩ jdk_29_method_65_code 2 (Option.some Jvm.ClassFile.FieldType.int)) := wd 104 rfl
theorem own_w103 : WD (Cond.initialized "java/lang/Math") := wd 103 rfl
theorem own_w102 : WD (Cond.static ⟨"java/lang/Math", "max", "(II)I"⟩) := wd 102 rfl
theorem d15_52 : decode jdk_38_method_6_code 52 = .ok (.anewarray 7, 3) := by decide +kernel
theorem own_w105 : WD (Cond.classLink "java/util/ArrayList" 7 "java/lang/Object") := wd 105 rfl
theorem own_w106 : WD (Cond.arrayOver (Jvm.ClassFile.FieldType.object "java/lang/Object")) := wd 106 rfl
theorem d15_55 : decode jdk_38_method_6_code 55 = .ok (.dup_x1, 1) := by decide +kernel
theorem sg15_55_1 : decs jdk_38_method_6_code [(55, .dup_x1, 1)] := ⟨d15_55, trivial⟩
theorem d15_56 : decode jdk_38_method_6_code 56 = .ok (.putfield 9, 3) := by decide +kernel
theorem d15_59 : decode jdk_38_method_6_code 59 = .ok (.areturn, 1) := by decide +kernel
theorem ef_rm15_0 (m : MethodId) (x0 : Addr) (x1 : Int32) : entryFrame m #[(.ref x0), (.int x1)] 4 = mkF m 0 #[.val (.ref x0), .val (.int x1), .unset, .unset] [] := by first | (simp [entryFrame, mkF, argsToLocals, Value.category]; done) | rfl
theorem own_w100 : WD (Cond.code ⟨"java/util/ArrayList", "grow", "(I)[Ljava/lang/Object;"⟩ jdk_38_method_6_code 4 (Option.some (Jvm.ClassFile.FieldType.array (Jvm.ClassFile.FieldType.object "java/lang/Object")))) := wd 100 rfl
theorem own_pd14 : parseMethodDescriptor "(I)[Ljava/lang/Object;" = some ⟨[.int], some (.array (.object "java/lang/Object"))⟩ := by decide +kernel
theorem own_w99 : WD (Cond.selects "java/util/ArrayList" ⟨"java/util/ArrayList", "grow", "(I)[Ljava/lang/Object;"⟩ ⟨"java/util/ArrayList", "grow", "(I)[Ljava/lang/Object;"⟩) := wd 99 rfl
theorem own_w97 : WD (Cond.instanceMethod ⟨"java/util/ArrayList", "grow", "(I)[Ljava/lang/Object;"⟩) := wd 97 rfl
theorem own_w98 : WD (Cond.privateMethod ⟨"java/util/ArrayList", "grow", "(I)[Ljava/lang/Object;"⟩) := wd 98 rfl
theorem d14_10 : decode jdk_38_method_7_code 10 = .ok (.areturn, 1) := by decide +kernel
theorem ef_rm14_0 (m : MethodId) (x0 : Addr) : entryFrame m #[(.ref x0)] 1 = mkF m 0 #[.val (.ref x0)] [] := by first | (simp [entryFrame, mkF, argsToLocals, Value.category]; done) | rfl
theorem own_w95 : WD (Cond.code ⟨"java/util/ArrayList", "grow", "()[Ljava/lang/Object;"⟩ jdk_38_method_7_code 1 (Option.some (Jvm.ClassFile.FieldType.array (Jvm.ClassFile.FieldType.object "java/lang/Object")))) := wd 95 rfl
theorem own_pd15 : parseMethodDescriptor "()[Ljava/lang/Object;" = some ⟨[], some (.array (.object "java/lang/Object"))⟩ := by decide +kernel
theorem own_w94 : WD (Cond.selects "java/util/ArrayList" ⟨"java/util/ArrayList", "grow", "()[Ljava/lang/Object;"⟩ ⟨"java/util/ArrayList", "grow", "()[Ljava/lang/Object;"⟩) := wd 94 rfl
theorem own_w92 : WD (Cond.instanceMethod ⟨"java/util/ArrayList", "grow", "()[Ljava/lang/Object;"⟩) := wd 92 rfl
theorem own_w93 : WD (Cond.privateMethod ⟨"java/util/ArrayList", "grow", "()[Ljava/lang/Object;"⟩) := wd 93 rfl
theorem d13_10 : decode jdk_38_method_24_code 10 = .ok (.astore_n 2, 1) := by decide +kernel
theorem d13_11 : decode jdk_38_method_24_code 11 = .ok (.aload_n 2, 1) := by decide +kernel
theorem d13_12 : decode jdk_38_method_24_code 12 = .ok (.iload_n 3, 1) := by decide +kernel
theorem d13_13 : decode jdk_38_method_24_code 13 = .ok (.aload_n 1, 1) := by decide +kernel
theorem sg13_10_4 : decs jdk_38_method_24_code [(10, .astore_n 2, 1), (11, .aload_n 2, 1), (12, .iload_n 3, 1), (13, .aload_n 1, 1)] := ⟨d13_10, d13_11, d13_12, d13_13, trivial⟩
theorem d13_14 : decode jdk_38_method_24_code 14 = .ok (.aastore, 1) := by decide +kernel
theorem own_w107 : WD (Cond.castable "com/example/wary_meter/warymeter/Column" "java/lang/Object") := wd 107 rfl
theorem d13_15 : decode jdk_38_method_24_code 15 = .ok (.aload_n 0, 1) := by decide +kernel
theorem d13_16 : decode jdk_38_method_24_code 16 = .ok (.iload_n 3, 1) := by decide +kernel
theorem d13_17 : decode jdk_38_method_24_code 17 = .ok (.iconst 1, 1) := by decide +kernel
theorem d13_18 : decode jdk_38_method_24_code 18 = .ok (.iadd, 1) := by decide +kernel
theorem sg13_15_4 : decs jdk_38_method_24_code [(15, .aload_n 0, 1), (16, .iload_n 3, 1), (17, .iconst 1, 1), (18, .iadd, 1)] := ⟨d13_15, d13_16, d13_17, d13_18, trivial⟩
theorem d13_19 : decode jdk_38_method_24_code 19 = .ok (.putfield 48, 3) := by decide +kernel
theorem d13_22 : decode jdk_38_method_24_code 22 = .ok (.return_, 1) := by decide +kernel
theorem ef_rm13_0 (m : MethodId) (x0 : Addr) (x1 : Addr) (x2 : Addr) (x3 : Int32) : entryFrame m #[(.ref x0), (.ref x1), (.ref x2), (.int x3)] 4 = mkF m 0 #[.val (.ref x0), .val (.ref x1), .val (.ref x2), .val (.int x3)] [] := by first | (simp [entryFrame, mkF, argsToLocals, Value.category]; done) | rfl
theorem own_w90 : WD (Cond.code ⟨"java/util/ArrayList", "add", "(Ljava/lang/Object;[Ljava/lang/Object;I)V"⟩ jdk_38_method_24_code 4 (Option.none : Option Jvm.ClassFile.FieldType)) := wd 90 rfl
theorem own_pd16 : parseMethodDescriptor "(Ljava/lang/Object;[Ljava/lang/Object;I)V" = some ⟨[(.object "java/lang/Object"), (.array (.object "java/lang/Object")), .int], none⟩ := by decide +kernel
theorem own_w89 : WD (Cond.selects "java/util/ArrayList" ⟨"java/util/ArrayList", "add", "(Ljava/lang/Object;[Ljava/lang/Object;I)V"⟩ ⟨"java/util/ArrayList", "add", "(Ljava/lang/Object;[Ljava/lang/Object;I)V"⟩) := wd 89 rfl
theorem own_w87 : WD (Cond.instanceMethod ⟨"java/util/ArrayList", "add", "(Ljava/lang/Object;[Ljava/lang/Object;I)V"⟩) := wd 87 rfl
theorem own_w88 : WD (Cond.privateMethod ⟨"java/util/ArrayList", "add", "(Ljava/lang/Object;[Ljava/lang/Object;I)V"⟩) := wd 88 rfl
theorem d12_23 : decode jdk_38_method_25_code 23 = .ok (.iconst 1, 1) := by decide +kernel
theorem sg12_23_1 : decs jdk_38_method_25_code [(23, .iconst 1, 1)] := ⟨d12_23, trivial⟩
theorem d12_24 : decode jdk_38_method_25_code 24 = .ok (.ireturn, 1) := by decide +kernel
theorem ef_rm12_0 (m : MethodId) (x0 : Addr) (x1 : Addr) : entryFrame m #[(.ref x0), (.ref x1)] 2 = mkF m 0 #[.val (.ref x0), .val (.ref x1)] [] := by first | (simp [entryFrame, mkF, argsToLocals, Value.category]; done) | rfl
theorem own_w81 : WD (Cond.code ⟨"java/util/ArrayList", "add", "(Ljava/lang/Object;)Z"⟩ jdk_38_method_25_code 2 (Option.some Jvm.ClassFile.FieldType.boolean)) := wd 81 rfl
theorem own_pd17 : parseMethodDescriptor "(Ljava/lang/Object;)Z" = some ⟨[(.object "java/lang/Object")], some .boolean⟩ := by decide +kernel
theorem own_w76 : WD (Cond.selects "java/util/ArrayList" ⟨"java/util/List", "add", "(Ljava/lang/Object;)Z"⟩ ⟨"java/util/ArrayList", "add", "(Ljava/lang/Object;)Z"⟩) := wd 76 rfl
theorem own_w74 : WD (Cond.declares ⟨"java/util/List", "add", "(Ljava/lang/Object;)Z"⟩) := wd 74 rfl
theorem own_w75 : WD (Cond.interfaceMethod "java/util/List" "java/util/List" "add" "(Ljava/lang/Object;)Z") := wd 75 rfl
theorem own_w77 : WD (Cond.instanceMethod ⟨"java/util/ArrayList", "add", "(Ljava/lang/Object;)Z"⟩) := wd 77 rfl
theorem own_w78 : WD (Cond.publicMethod ⟨"java/util/ArrayList", "add", "(Ljava/lang/Object;)Z"⟩) := wd 78 rfl
theorem own_w79 : WD (Cond.unhidden "java/util/ArrayList" "add" "(Ljava/lang/Object;)Z") := wd 79 rfl
theorem sg0_116_3 : decs code [(116, .pop, 1), (117, .iload 6, 2), (119, .iconst 1, 1)] := ⟨at_116, at_117, at_119, trivial⟩
theorem sg0_123_2 : decs code [(123, .aload 11, 2), (125, .aload 9, 2)] := ⟨at_123, at_125, trivial⟩
theorem sg13_11_3 : decs jdk_38_method_24_code [(11, .aload_n 2, 1), (12, .iload_n 3, 1), (13, .aload_n 1, 1)] := ⟨d13_11, d13_12, d13_13, trivial⟩
theorem ef_rm13_1 (m : MethodId) (x0 : Addr) (x1 : Addr) (x2 : Addr) (x3 : Int32) : entryFrame m #[(.ref x0), (.ref x1), (.ref x2), (.int x3)] 4 = mkF m 0 #[.val (.ref x0), .val (.ref x1), .val (.ref x2), .val (.int x3)] [] := by first | (simp [entryFrame, mkF, argsToLocals, Value.category]; done) | rfl
theorem ef_rm12_1 (m : MethodId) (x0 : Addr) (x1 : Addr) : entryFrame m #[(.ref x0), (.ref x1)] 2 = mkF m 0 #[.val (.ref x0), .val (.ref x1)] [] := by first | (simp [entryFrame, mkF, argsToLocals, Value.category]; done) | rfl
theorem sg0_132_3 : decs code [(132, .pop, 1), (133, .iload 6, 2), (135, .iconst 2, 1)] := ⟨at_132, at_133, at_135, trivial⟩
theorem sg0_139_2 : decs code [(139, .aload 11, 2), (141, .aload 10, 2)] := ⟨at_139, at_141, trivial⟩
theorem ef_rm13_2 (m : MethodId) (x0 : Addr) (x1 : Addr) (x2 : Addr) (x3 : Int32) : entryFrame m #[(.ref x0), (.ref x1), (.ref x2), (.int x3)] 4 = mkF m 0 #[.val (.ref x0), .val (.ref x1), .val (.ref x2), .val (.int x3)] [] := by first | (simp [entryFrame, mkF, argsToLocals, Value.category]; done) | rfl
theorem ef_rm12_2 (m : MethodId) (x0 : Addr) (x1 : Addr) : entryFrame m #[(.ref x0), (.ref x1)] 2 = mkF m 0 #[.val (.ref x0), .val (.ref x1)] [] := by first | (simp [entryFrame, mkF, argsToLocals, Value.category]; done) | rfl
theorem sg0_148_1 : decs code [(148, .pop, 1)] := ⟨at_148, trivial⟩
theorem d17_6 : decode method_2_code 6 = .ok (.iload_n 0, 1) := by decide +kernel
theorem d17_7 : decode method_2_code 7 = .ok (.sipush 255, 3) := by decide +kernel
theorem d17_10 : decode method_2_code 10 = .ok (.iand, 1) := by decide +kernel
theorem d17_11 : decode method_2_code 11 = .ok (.iload_n 1, 1) := by decide +kernel
theorem sg17_6_4 : decs method_2_code [(6, .iload_n 0, 1), (7, .sipush 255, 3), (10, .iand, 1), (11, .iload_n 1, 1)] := ⟨d17_6, d17_7, d17_10, d17_11, trivial⟩
theorem d17_12 : decode method_2_code 12 = .ok (.irem, 1) := by decide +kernel
theorem d17_13 : decode method_2_code 13 = .ok (.ireturn, 1) := by decide +kernel
theorem ef_rm17_1 (m : MethodId) (x0 : Int32) (x1 : Int32) : entryFrame m #[(.int x0), (.int x1)] 2 = mkF m 0 #[.val (.int x0), .val (.int x1)] [] := by first | (simp [entryFrame, mkF, argsToLocals, Value.category]; done) | rfl
theorem sg0_155_1 : decs code [(155, .istore 12, 2)] := ⟨at_155, trivial⟩
theorem sg0_157_4 : decs code [(157, .iload_n 1, 1), (158, .bipush 8, 2), (160, .iushr, 1), (161, .iload 6, 2)] := ⟨at_157, at_158, at_160, at_161, trivial⟩
theorem sg0_166_1 : decs code [(166, .istore 13, 2)] := ⟨at_166, trivial⟩
theorem sg0_168_4 : decs code [(168, .iload_n 1, 1), (169, .bipush 16, 2), (171, .iushr, 1), (172, .iload 6, 2)] := ⟨at_168, at_169, at_171, at_172, trivial⟩
theorem sg0_177_1 : decs code [(177, .istore 14, 2)] := ⟨at_177, trivial⟩
theorem sg0_179_4 : decs code [(179, .iload_n 3, 1), (180, .iload 4, 2), (182, .iload 5, 2), (184, .iload 12, 2)] := ⟨at_179, at_180, at_182, at_184, trivial⟩
theorem d18_5 : decode method_3_code 5 = .ok (.iload_n 2, 1) := by decide +kernel
theorem sg18_5_1 : decs method_3_code [(5, .iload_n 2, 1)] := ⟨d18_5, trivial⟩
theorem d18_6 : decode method_3_code 6 = .ok (.ireturn, 1) := by decide +kernel
theorem d18_12 : decode method_3_code 12 = .ok (.iload_n 1, 1) := by decide +kernel
theorem sg18_12_1 : decs method_3_code [(12, .iload_n 1, 1)] := ⟨d18_12, trivial⟩
theorem d18_13 : decode method_3_code 13 = .ok (.ireturn, 1) := by decide +kernel
def f_rm18_1 (i0 i1 i2 i3 : Int32) : Int32 := (if i3 = (2 : Int32) then i2 else (if i3 = (1 : Int32) then i1 else i0))
theorem ef_rm18_1 (m : MethodId) (x0 : Int32) (x1 : Int32) (x2 : Int32) (x3 : Int32) : entryFrame m #[(.int x0), (.int x1), (.int x2), (.int x3)] 4 = mkF m 0 #[.val (.int x0), .val (.int x1), .val (.int x2), .val (.int x3)] [] := by first | (simp [entryFrame, mkF, argsToLocals, Value.category]; done) | rfl
theorem sg0_229_2 : decs code [(229, .aload 18, 2), (231, .iload 15, 2)] := ⟨at_229, at_231, trivial⟩
theorem own_w163 : WD (Cond.castable "java/lang/String" "java/lang/Object") := wd 163 rfl
theorem ef_rm13_3 (m : MethodId) (x0 : Addr) (x1 : Addr) (x2 : Addr) (x3 : Int32) : entryFrame m #[(.ref x0), (.ref x1), (.ref x2), (.int x3)] 4 = mkF m 0 #[.val (.ref x0), .val (.ref x1), .val (.ref x2), .val (.int x3)] [] := by first | (simp [entryFrame, mkF, argsToLocals, Value.category]; done) | rfl
theorem ef_rm12_3 (m : MethodId) (x0 : Addr) (x1 : Addr) : entryFrame m #[(.ref x0), (.ref x1)] 2 = mkF m 0 #[.val (.ref x0), .val (.ref x1)] [] := by first | (simp [entryFrame, mkF, argsToLocals, Value.category]; done) | rfl
theorem sg0_241_1 : decs code [(241, .pop, 1)] := ⟨at_241, trivial⟩
theorem sg0_241_3 : decs code [(241, .pop, 1), (242, .iload 7, 2), (244, .iconst 1, 1)] := ⟨at_241, at_242, at_244, trivial⟩
theorem sg0_248_2 : decs code [(248, .aload 18, 2), (250, .iload 16, 2)] := ⟨at_248, at_250, trivial⟩
theorem ef_rm13_4 (m : MethodId) (x0 : Addr) (x1 : Addr) (x2 : Addr) (x3 : Int32) : entryFrame m #[(.ref x0), (.ref x1), (.ref x2), (.int x3)] 4 = mkF m 0 #[.val (.ref x0), .val (.ref x1), .val (.ref x2), .val (.int x3)] [] := by first | (simp [entryFrame, mkF, argsToLocals, Value.category]; done) | rfl
theorem ef_rm12_4 (m : MethodId) (x0 : Addr) (x1 : Addr) : entryFrame m #[(.ref x0), (.ref x1)] 2 = mkF m 0 #[.val (.ref x0), .val (.ref x1)] [] := by first | (simp [entryFrame, mkF, argsToLocals, Value.category]; done) | rfl
theorem sg0_260_1 : decs code [(260, .pop, 1)] := ⟨at_260, trivial⟩
theorem sg0_260_3 : decs code [(260, .pop, 1), (261, .iload 7, 2), (263, .iconst 2, 1)] := ⟨at_260, at_261, at_263, trivial⟩
theorem sg0_267_2 : decs code [(267, .aload 18, 2), (269, .iload 17, 2)] := ⟨at_267, at_269, trivial⟩
theorem ef_rm13_5 (m : MethodId) (x0 : Addr) (x1 : Addr) (x2 : Addr) (x3 : Int32) : entryFrame m #[(.ref x0), (.ref x1), (.ref x2), (.int x3)] 4 = mkF m 0 #[.val (.ref x0), .val (.ref x1), .val (.ref x2), .val (.int x3)] [] := by first | (simp [entryFrame, mkF, argsToLocals, Value.category]; done) | rfl
theorem ef_rm12_5 (m : MethodId) (x0 : Addr) (x1 : Addr) : entryFrame m #[(.ref x0), (.ref x1)] 2 = mkF m 0 #[.val (.ref x0), .val (.ref x1)] [] := by first | (simp [entryFrame, mkF, argsToLocals, Value.category]; done) | rfl
theorem sg0_279_1 : decs code [(279, .pop, 1)] := ⟨at_279, trivial⟩
theorem sg0_279_3 : decs code [(279, .pop, 1), (280, .aload 11, 2), (282, .aload 18, 2)] := ⟨at_279, at_280, at_282, trivial⟩
theorem ef_rm21_1 (m : MethodId) (x0 : Addr) (x1 : Addr) : entryFrame m #[(.ref x0), (.ref x1)] 2 = mkF m 0 #[.val (.ref x0), .val (.ref x1)] [] := by first | (simp [entryFrame, mkF, argsToLocals, Value.category]; done) | rfl
theorem ef_rm20_1 (m : MethodId) (x0 : Addr) : entryFrame m #[(.ref x0)] 1 = mkF m 0 #[.val (.ref x0)] [] := by first | (simp [entryFrame, mkF, argsToLocals, Value.category]; done) | rfl
theorem d22_14 : decode jdk_49_method_2_code 14 = .ok (.iconst 1, 1) := by decide +kernel
theorem d22_15 : decode jdk_49_method_2_code 15 = .ok (.goto 4, 3) := by decide +kernel
theorem sg22_14_2 : decs jdk_49_method_2_code [(14, .iconst 1, 1), (15, .goto 4, 3)] := ⟨d22_14, d22_15, trivial⟩
theorem ef_rm22_1 (m : MethodId) (x0 : Addr) : entryFrame m #[(.ref x0)] 1 = mkF m 0 #[.val (.ref x0)] [] := by first | (simp [entryFrame, mkF, argsToLocals, Value.category]; done) | rfl
theorem d19_24 : decode prog_3_method_5_code 24 = .ok (.aload_n 3, 1) := by decide +kernel
theorem own_w164 : WD (Cond.methodLink "com/example/wary_meter/warymeter/Column" 58 ⟨"java/util/Iterator", "next", "()Ljava/lang/Object;"⟩) := wd 164 rfl
theorem sg19_24_1 : decs prog_3_method_5_code [(24, .aload_n 3, 1)] := ⟨d19_24, trivial⟩
theorem d19_25 : decode prog_3_method_5_code 25 = .ok (.invokeinterface 58 1, 5) := by decide +kernel
theorem d24_0 : decode jdk_49_method_3_code 0 = .ok (.aload_n 0, 1) := by decide +kernel
theorem own_w172 : WD (Cond.methodLink "java/util/ArrayList$Itr" 31 ⟨"java/util/ArrayList$Itr", "checkForComodification", "()V"⟩) := wd 172 rfl
theorem sg24_0_1 : decs jdk_49_method_3_code [(0, .aload_n 0, 1)] := ⟨d24_0, trivial⟩
theorem d24_1 : decode jdk_49_method_3_code 1 = .ok (.invokevirtual 31, 3) := by decide +kernel
theorem d25_0 : decode jdk_49_method_6_code 0 = .ok (.aload_n 0, 1) := by decide +kernel
theorem sg25_0_1 : decs jdk_49_method_6_code [(0, .aload_n 0, 1)] := ⟨d25_0, trivial⟩
theorem d25_1 : decode jdk_49_method_6_code 1 = .ok (.getfield 1, 3) := by decide +kernel
theorem d25_4 : decode jdk_49_method_6_code 4 = .ok (.getfield 17, 3) := by decide +kernel
theorem d25_7 : decode jdk_49_method_6_code 7 = .ok (.aload_n 0, 1) := by decide +kernel
theorem sg25_7_1 : decs jdk_49_method_6_code [(7, .aload_n 0, 1)] := ⟨d25_7, trivial⟩
theorem d25_8 : decode jdk_49_method_6_code 8 = .ok (.getfield 22, 3) := by decide +kernel
theorem d25_11 : decode jdk_49_method_6_code 11 = .ok (.if_icmp .eq 11, 3) := by decide +kernel
theorem d25_22 : decode jdk_49_method_6_code 22 = .ok (.return_, 1) := by decide +kernel
theorem ef_rm25_0 (m : MethodId) (x0 : Addr) : entryFrame m #[(.ref x0)] 1 = mkF m 0 #[.val (.ref x0)] [] := by first | (simp [entryFrame, mkF, argsToLocals, Value.category]; done) | rfl
theorem own_w176 : WD (Cond.code ⟨"java/util/ArrayList$Itr", "checkForComodification", "()V"⟩ jdk_49_method_6_code 1 (Option.none : Option Jvm.ClassFile.FieldType)) := wd 176 rfl
theorem own_w175 : WD (Cond.selects "java/util/ArrayList$Itr" ⟨"java/util/ArrayList$Itr", "checkForComodification", "()V"⟩ ⟨"java/util/ArrayList$Itr", "checkForComodification", "()V"⟩) := wd 175 rfl
theorem own_w173 : WD (Cond.declares ⟨"java/util/ArrayList$Itr", "checkForComodification", "()V"⟩) := wd 173 rfl
theorem own_w174 : WD (Cond.instanceMethod ⟨"java/util/ArrayList$Itr", "checkForComodification", "()V"⟩) := wd 174 rfl
theorem d24_4 : decode jdk_49_method_3_code 4 = .ok (.aload_n 0, 1) := by decide +kernel
theorem sg24_4_1 : decs jdk_49_method_3_code [(4, .aload_n 0, 1)] := ⟨d24_4, trivial⟩
theorem d24_5 : decode jdk_49_method_3_code 5 = .ok (.getfield 25, 3) := by decide +kernel
theorem d24_8 : decode jdk_49_method_3_code 8 = .ok (.istore_n 1, 1) := by decide +kernel
theorem d24_9 : decode jdk_49_method_3_code 9 = .ok (.iload_n 1, 1) := by decide +kernel
theorem d24_10 : decode jdk_49_method_3_code 10 = .ok (.aload_n 0, 1) := by decide +kernel
theorem sg24_8_3 : decs jdk_49_method_3_code [(8, .istore_n 1, 1), (9, .iload_n 1, 1), (10, .aload_n 0, 1)] := ⟨d24_8, d24_9, d24_10, trivial⟩
theorem d24_11 : decode jdk_49_method_3_code 11 = .ok (.getfield 1, 3) := by decide +kernel
theorem d24_14 : decode jdk_49_method_3_code 14 = .ok (.getfield 28, 3) := by decide +kernel
theorem d24_17 : decode jdk_49_method_3_code 17 = .ok (.if_icmp .lt 11, 3) := by decide +kernel
theorem d24_28 : decode jdk_49_method_3_code 28 = .ok (.aload_n 0, 1) := by decide +kernel
theorem sg24_28_1 : decs jdk_49_method_3_code [(28, .aload_n 0, 1)] := ⟨d24_28, trivial⟩
theorem d24_29 : decode jdk_49_method_3_code 29 = .ok (.getfield 1, 3) := by decide +kernel
theorem d24_32 : decode jdk_49_method_3_code 32 = .ok (.getfield 37, 3) := by decide +kernel
theorem own_w177 : WD (Cond.fieldLink "java/util/ArrayList$Itr" 37 "java/util/ArrayList" "elementData" "[Ljava/lang/Object;") := wd 177 rfl
theorem d24_35 : decode jdk_49_method_3_code 35 = .ok (.astore_n 2, 1) := by decide +kernel
theorem d24_36 : decode jdk_49_method_3_code 36 = .ok (.iload_n 1, 1) := by decide +kernel
theorem d24_37 : decode jdk_49_method_3_code 37 = .ok (.aload_n 2, 1) := by decide +kernel
theorem sg24_35_3 : decs jdk_49_method_3_code [(35, .astore_n 2, 1), (36, .iload_n 1, 1), (37, .aload_n 2, 1)] := ⟨d24_35, d24_36, d24_37, trivial⟩
theorem d24_38 : decode jdk_49_method_3_code 38 = .ok (.arraylength, 1) := by decide +kernel
theorem d24_39 : decode jdk_49_method_3_code 39 = .ok (.if_icmp .lt 11, 3) := by decide +kernel
theorem d24_50 : decode jdk_49_method_3_code 50 = .ok (.aload_n 0, 1) := by decide +kernel
theorem d24_51 : decode jdk_49_method_3_code 51 = .ok (.iload_n 1, 1) := by decide +kernel
theorem d24_52 : decode jdk_49_method_3_code 52 = .ok (.iconst 1, 1) := by decide +kernel
theorem d24_53 : decode jdk_49_method_3_code 53 = .ok (.iadd, 1) := by decide +kernel
theorem sg24_50_4 : decs jdk_49_method_3_code [(50, .aload_n 0, 1), (51, .iload_n 1, 1), (52, .iconst 1, 1), (53, .iadd, 1)] := ⟨d24_50, d24_51, d24_52, d24_53, trivial⟩
theorem d24_54 : decode jdk_49_method_3_code 54 = .ok (.putfield 25, 3) := by decide +kernel
theorem d24_57 : decode jdk_49_method_3_code 57 = .ok (.aload_n 2, 1) := by decide +kernel
theorem d24_58 : decode jdk_49_method_3_code 58 = .ok (.aload_n 0, 1) := by decide +kernel
theorem d24_59 : decode jdk_49_method_3_code 59 = .ok (.iload_n 1, 1) := by decide +kernel
theorem d24_60 : decode jdk_49_method_3_code 60 = .ok (.dup_x1, 1) := by decide +kernel
theorem sg24_57_4 : decs jdk_49_method_3_code [(57, .aload_n 2, 1), (58, .aload_n 0, 1), (59, .iload_n 1, 1), (60, .dup_x1, 1)] := ⟨d24_57, d24_58, d24_59, d24_60, trivial⟩
theorem d24_61 : decode jdk_49_method_3_code 61 = .ok (.putfield 13, 3) := by decide +kernel
theorem d24_64 : decode jdk_49_method_3_code 64 = .ok (.aaload, 1) := by decide +kernel
theorem d24_65 : decode jdk_49_method_3_code 65 = .ok (.areturn, 1) := by decide +kernel
theorem ef_rm24_0 (m : MethodId) (x0 : Addr) : entryFrame m #[(.ref x0)] 3 = mkF m 0 #[.val (.ref x0), .unset, .unset] [] := by first | (simp [entryFrame, mkF, argsToLocals, Value.category]; done) | rfl
theorem own_w171 : WD (Cond.code ⟨"java/util/ArrayList$Itr", "next", "()Ljava/lang/Object;"⟩ jdk_49_method_3_code 3 (Option.some (Jvm.ClassFile.FieldType.object "java/lang/Object"))) := wd 171 rfl
theorem own_pd18 : parseMethodDescriptor "()Ljava/lang/Object;" = some ⟨[], some (.object "java/lang/Object")⟩ := by decide +kernel
theorem own_w167 : WD (Cond.selects "java/util/ArrayList$Itr" ⟨"java/util/Iterator", "next", "()Ljava/lang/Object;"⟩ ⟨"java/util/ArrayList$Itr", "next", "()Ljava/lang/Object;"⟩) := wd 167 rfl
theorem own_w165 : WD (Cond.declares ⟨"java/util/Iterator", "next", "()Ljava/lang/Object;"⟩) := wd 165 rfl
theorem own_w166 : WD (Cond.interfaceMethod "java/util/Iterator" "java/util/Iterator" "next" "()Ljava/lang/Object;") := wd 166 rfl
theorem own_w168 : WD (Cond.instanceMethod ⟨"java/util/ArrayList$Itr", "next", "()Ljava/lang/Object;"⟩) := wd 168 rfl
theorem own_w169 : WD (Cond.publicMethod ⟨"java/util/ArrayList$Itr", "next", "()Ljava/lang/Object;"⟩) := wd 169 rfl
theorem own_w170 : WD (Cond.unhidden "java/util/ArrayList$Itr" "next" "()Ljava/lang/Object;") := wd 170 rfl
theorem d19_30 : decode prog_3_method_5_code 30 = .ok (.checkcast 36, 3) := by decide +kernel
theorem own_w178 : WD (Cond.classLink "com/example/wary_meter/warymeter/Column" 36 "java/lang/String") := wd 178 rfl
theorem d19_33 : decode prog_3_method_5_code 33 = .ok (.astore 4, 2) := by decide +kernel
theorem d19_35 : decode prog_3_method_5_code 35 = .ok (.aconst_null, 1) := by decide +kernel
theorem d19_36 : decode prog_3_method_5_code 36 = .ok (.astore 5, 2) := by decide +kernel
theorem d19_38 : decode prog_3_method_5_code 38 = .ok (.aload_n 0, 1) := by decide +kernel
theorem sg19_33_4 : decs prog_3_method_5_code [(33, .astore 4, 2), (35, .aconst_null, 1), (36, .astore 5, 2), (38, .aload_n 0, 1)] := ⟨d19_33, d19_35, d19_36, d19_38, trivial⟩
theorem d19_39 : decode prog_3_method_5_code 39 = .ok (.invokeinterface 48 1, 5) := by decide +kernel
theorem ef_rm21_2 (m : MethodId) (x0 : Addr) (x1 : Addr) : entryFrame m #[(.ref x0), (.ref x1)] 2 = mkF m 0 #[.val (.ref x0), .val (.ref x1)] [] := by first | (simp [entryFrame, mkF, argsToLocals, Value.category]; done) | rfl
theorem ef_rm20_2 (m : MethodId) (x0 : Addr) : entryFrame m #[(.ref x0)] 1 = mkF m 0 #[.val (.ref x0)] [] := by first | (simp [entryFrame, mkF, argsToLocals, Value.category]; done) | rfl
theorem d19_44 : decode prog_3_method_5_code 44 = .ok (.astore 6, 2) := by decide +kernel
theorem sg19_44_1 : decs prog_3_method_5_code [(44, .astore 6, 2)] := ⟨d19_44, trivial⟩
theorem d19_46 : decode prog_3_method_5_code 46 = .ok (.aload 6, 2) := by decide +kernel
theorem sg19_46_1 : decs prog_3_method_5_code [(46, .aload 6, 2)] := ⟨d19_46, trivial⟩
theorem d19_48 : decode prog_3_method_5_code 48 = .ok (.invokeinterface 52 1, 5) := by decide +kernel
theorem ef_rm22_2 (m : MethodId) (x0 : Addr) : entryFrame m #[(.ref x0)] 1 = mkF m 0 #[.val (.ref x0)] [] := by first | (simp [entryFrame, mkF, argsToLocals, Value.category]; done) | rfl
theorem d19_53 : decode prog_3_method_5_code 53 = .ok (.ifCond .eq 35, 3) := by decide +kernel
theorem d19_56 : decode prog_3_method_5_code 56 = .ok (.aload 6, 2) := by decide +kernel
theorem sg19_56_1 : decs prog_3_method_5_code [(56, .aload 6, 2)] := ⟨d19_56, trivial⟩
theorem d19_58 : decode prog_3_method_5_code 58 = .ok (.invokeinterface 58 1, 5) := by decide +kernel
theorem ef_rm25_1 (m : MethodId) (x0 : Addr) : entryFrame m #[(.ref x0)] 1 = mkF m 0 #[.val (.ref x0)] [] := by first | (simp [entryFrame, mkF, argsToLocals, Value.category]; done) | rfl
theorem ef_rm24_1 (m : MethodId) (x0 : Addr) : entryFrame m #[(.ref x0)] 3 = mkF m 0 #[.val (.ref x0), .unset, .unset] [] := by first | (simp [entryFrame, mkF, argsToLocals, Value.category]; done) | rfl
theorem d19_63 : decode prog_3_method_5_code 63 = .ok (.checkcast 8, 3) := by decide +kernel
theorem own_w179 : WD (Cond.classLink "com/example/wary_meter/warymeter/Column" 8 "com/example/wary_meter/warymeter/Column") := wd 179 rfl
theorem d19_66 : decode prog_3_method_5_code 66 = .ok (.astore 7, 2) := by decide +kernel
theorem d19_68 : decode prog_3_method_5_code 68 = .ok (.aload 7, 2) := by decide +kernel
theorem own_w181 : WD (Cond.methodLink "com/example/wary_meter/warymeter/Column" 42 ⟨"com/example/wary_meter/warymeter/Column", "name", "()Ljava/lang/String;"⟩) := wd 181 rfl
theorem sg19_66_2 : decs prog_3_method_5_code [(66, .astore 7, 2), (68, .aload 7, 2)] := ⟨d19_66, d19_68, trivial⟩
theorem d19_70 : decode prog_3_method_5_code 70 = .ok (.invokevirtual 42, 3) := by decide +kernel
theorem d26_0 : decode prog_3_method_10_code 0 = .ok (.aload_n 0, 1) := by decide +kernel
theorem sg26_0_1 : decs prog_3_method_10_code [(0, .aload_n 0, 1)] := ⟨d26_0, trivial⟩
theorem d26_1 : decode prog_3_method_10_code 1 = .ok (.getfield 7, 3) := by decide +kernel
theorem d26_4 : decode prog_3_method_10_code 4 = .ok (.areturn, 1) := by decide +kernel
theorem ef_rm26_0 (m : MethodId) (x0 : Addr) : entryFrame m #[(.ref x0)] 1 = mkF m 0 #[.val (.ref x0)] [] := by first | (simp [entryFrame, mkF, argsToLocals, Value.category]; done) | rfl
theorem own_w185 : WD (Cond.code ⟨"com/example/wary_meter/warymeter/Column", "name", "()Ljava/lang/String;"⟩ prog_3_method_10_code 1 (Option.some (Jvm.ClassFile.FieldType.object "java/lang/String"))) := wd 185 rfl
theorem own_pd19 : parseMethodDescriptor "()Ljava/lang/String;" = some ⟨[], some (.object "java/lang/String")⟩ := by decide +kernel
theorem own_w184 : WD (Cond.selects "com/example/wary_meter/warymeter/Column" ⟨"com/example/wary_meter/warymeter/Column", "name", "()Ljava/lang/String;"⟩ ⟨"com/example/wary_meter/warymeter/Column", "name", "()Ljava/lang/String;"⟩) := wd 184 rfl
theorem own_w182 : WD (Cond.declares ⟨"com/example/wary_meter/warymeter/Column", "name", "()Ljava/lang/String;"⟩) := wd 182 rfl
theorem own_w183 : WD (Cond.instanceMethod ⟨"com/example/wary_meter/warymeter/Column", "name", "()Ljava/lang/String;"⟩) := wd 183 rfl
theorem d19_73 : decode prog_3_method_5_code 73 = .ok (.aload 4, 2) := by decide +kernel
theorem own_w186 : WD (Cond.methodLink "com/example/wary_meter/warymeter/Column" 62 ⟨"java/lang/String", "equals", "(Ljava/lang/Object;)Z"⟩) := wd 186 rfl
theorem sg19_73_1 : decs prog_3_method_5_code [(73, .aload 4, 2)] := ⟨d19_73, trivial⟩
theorem d19_75 : decode prog_3_method_5_code 75 = .ok (.invokevirtual 62, 3) := by decide +kernel
theorem d27_0 : decode jdk_42_method_66_code 0 = .ok (.aload_n 0, 1) := by decide +kernel
theorem d27_1 : decode jdk_42_method_66_code 1 = .ok (.aload_n 1, 1) := by decide +kernel
theorem sg27_0_2 : decs jdk_42_method_66_code [(0, .aload_n 0, 1), (1, .aload_n 1, 1)] := ⟨d27_0, d27_1, trivial⟩
theorem d27_2 : decode jdk_42_method_66_code 2 = .ok (.if_acmp .ne 5, 3) := by decide +kernel
theorem d27_7 : decode jdk_42_method_66_code 7 = .ok (.aload_n 1, 1) := by decide +kernel
theorem sg27_7_1 : decs jdk_42_method_66_code [(7, .aload_n 1, 1)] := ⟨d27_7, trivial⟩
theorem d27_8 : decode jdk_42_method_66_code 8 = .ok (.instanceof 10, 3) := by decide +kernel
theorem d27_11 : decode jdk_42_method_66_code 11 = .ok (.ifCond .eq 43, 3) := by decide +kernel
theorem d27_14 : decode jdk_42_method_66_code 14 = .ok (.aload_n 1, 1) := by decide +kernel
theorem sg27_14_1 : decs jdk_42_method_66_code [(14, .aload_n 1, 1)] := ⟨d27_14, trivial⟩
theorem d27_15 : decode jdk_42_method_66_code 15 = .ok (.checkcast 10, 3) := by decide +kernel
theorem d27_18 : decode jdk_42_method_66_code 18 = .ok (.astore_n 2, 1) := by decide +kernel
theorem sg27_18_1 : decs jdk_42_method_66_code [(18, .astore_n 2, 1)] := ⟨d27_18, trivial⟩
theorem d27_19 : decode jdk_42_method_66_code 19 = .ok (.getstatic 38, 3) := by decide +kernel
theorem d27_22 : decode jdk_42_method_66_code 22 = .ok (.ifCond .eq 14, 3) := by decide +kernel
theorem d27_25 : decode jdk_42_method_66_code 25 = .ok (.aload_n 0, 1) := by decide +kernel
theorem sg27_25_1 : decs jdk_42_method_66_code [(25, .aload_n 0, 1)] := ⟨d27_25, trivial⟩
theorem d27_26 : decode jdk_42_method_66_code 26 = .ok (.getfield 15, 3) := by decide +kernel
theorem d27_29 : decode jdk_42_method_66_code 29 = .ok (.aload_n 2, 1) := by decide +kernel
theorem sg27_29_1 : decs jdk_42_method_66_code [(29, .aload_n 2, 1)] := ⟨d27_29, trivial⟩
theorem d27_30 : decode jdk_42_method_66_code 30 = .ok (.getfield 15, 3) := by decide +kernel
theorem d27_33 : decode jdk_42_method_66_code 33 = .ok (.if_icmp .ne 21, 3) := by decide +kernel
theorem d27_36 : decode jdk_42_method_66_code 36 = .ok (.aload_n 0, 1) := by decide +kernel
theorem sg27_36_1 : decs jdk_42_method_66_code [(36, .aload_n 0, 1)] := ⟨d27_36, trivial⟩
theorem d27_37 : decode jdk_42_method_66_code 37 = .ok (.getfield 9, 3) := by decide +kernel
theorem d27_40 : decode jdk_42_method_66_code 40 = .ok (.aload_n 2, 1) := by decide +kernel
theorem sg27_40_1 : decs jdk_42_method_66_code [(40, .aload_n 2, 1)] := ⟨d27_40, trivial⟩
theorem d27_41 : decode jdk_42_method_66_code 41 = .ok (.getfield 9, 3) := by decide +kernel
theorem own_w191 : WD (Cond.methodLink "java/lang/String" 541 ⟨"java/lang/StringLatin1", "equals", "([B[B)Z"⟩) := wd 191 rfl
theorem d27_44 : decode jdk_42_method_66_code 44 = .ok (.invokestatic 541, 3) := by decide +kernel
theorem d28_0 : decode jdk_43_method_13_code 0 = .ok (.aload_n 0, 1) := by decide +kernel
theorem sg28_0_1 : decs jdk_43_method_13_code [(0, .aload_n 0, 1)] := ⟨d28_0, trivial⟩
theorem d28_1 : decode jdk_43_method_13_code 1 = .ok (.arraylength, 1) := by decide +kernel
theorem d28_2 : decode jdk_43_method_13_code 2 = .ok (.aload_n 1, 1) := by decide +kernel
theorem sg28_2_1 : decs jdk_43_method_13_code [(2, .aload_n 1, 1)] := ⟨d28_2, trivial⟩
theorem d28_3 : decode jdk_43_method_13_code 3 = .ok (.arraylength, 1) := by decide +kernel
theorem d28_4 : decode jdk_43_method_13_code 4 = .ok (.if_icmp .ne 30, 3) := by decide +kernel
theorem d28_7 : decode jdk_43_method_13_code 7 = .ok (.iconst 0, 1) := by decide +kernel
theorem d28_8 : decode jdk_43_method_13_code 8 = .ok (.istore_n 2, 1) := by decide +kernel
theorem d28_9 : decode jdk_43_method_13_code 9 = .ok (.iload_n 2, 1) := by decide +kernel
theorem d28_10 : decode jdk_43_method_13_code 10 = .ok (.aload_n 0, 1) := by decide +kernel
theorem sg28_7_4 : decs jdk_43_method_13_code [(7, .iconst 0, 1), (8, .istore_n 2, 1), (9, .iload_n 2, 1), (10, .aload_n 0, 1)] := ⟨d28_7, d28_8, d28_9, d28_10, trivial⟩
theorem d28_11 : decode jdk_43_method_13_code 11 = .ok (.arraylength, 1) := by decide +kernel
theorem d28_12 : decode jdk_43_method_13_code 12 = .ok (.if_icmp .ge 20, 3) := by decide +kernel
theorem d28_15 : decode jdk_43_method_13_code 15 = .ok (.aload_n 0, 1) := by decide +kernel
theorem d28_16 : decode jdk_43_method_13_code 16 = .ok (.iload_n 2, 1) := by decide +kernel
theorem sg28_15_2 : decs jdk_43_method_13_code [(15, .aload_n 0, 1), (16, .iload_n 2, 1)] := ⟨d28_15, d28_16, trivial⟩
theorem d28_17 : decode jdk_43_method_13_code 17 = .ok (.baload, 1) := by decide +kernel
theorem d28_18 : decode jdk_43_method_13_code 18 = .ok (.aload_n 1, 1) := by decide +kernel
theorem d28_19 : decode jdk_43_method_13_code 19 = .ok (.iload_n 2, 1) := by decide +kernel
theorem sg28_18_2 : decs jdk_43_method_13_code [(18, .aload_n 1, 1), (19, .iload_n 2, 1)] := ⟨d28_18, d28_19, trivial⟩
theorem d28_20 : decode jdk_43_method_13_code 20 = .ok (.baload, 1) := by decide +kernel
theorem d28_21 : decode jdk_43_method_13_code 21 = .ok (.if_icmp .eq 5, 3) := by decide +kernel
theorem d28_26 : decode jdk_43_method_13_code 26 = .ok (.iinc 2 1, 3) := by decide +kernel
theorem d28_29 : decode jdk_43_method_13_code 29 = .ok (.goto (-20), 3) := by decide +kernel
theorem sg28_26_4 : decs jdk_43_method_13_code [(26, .iinc 2 1, 3), (29, .goto (-20), 3), (9, .iload_n 2, 1), (10, .aload_n 0, 1)] := ⟨d28_26, d28_29, d28_9, d28_10, trivial⟩
theorem d28_32 : decode jdk_43_method_13_code 32 = .ok (.iconst 1, 1) := by decide +kernel
theorem sg28_32_1 : decs jdk_43_method_13_code [(32, .iconst 1, 1)] := ⟨d28_32, trivial⟩
theorem d28_33 : decode jdk_43_method_13_code 33 = .ok (.ireturn, 1) := by decide +kernel
theorem d28_24 : decode jdk_43_method_13_code 24 = .ok (.iconst 0, 1) := by decide +kernel
theorem sg28_24_1 : decs jdk_43_method_13_code [(24, .iconst 0, 1)] := ⟨d28_24, trivial⟩
theorem d28_25 : decode jdk_43_method_13_code 25 = .ok (.ireturn, 1) := by decide +kernel
def f_rm28_0 (u1 u2 : Int32) : Int32 := (if u1 = u2 then (1 : Int32) else (0 : Int32))
theorem ef_rm28_0 (m : MethodId) (x0 : Addr) (x1 : Addr) : entryFrame m #[(.ref x0), (.ref x1)] 3 = mkF m 0 #[.val (.ref x0), .val (.ref x1), .unset] [] := by first | (simp [entryFrame, mkF, argsToLocals, Value.category]; done) | rfl
theorem own_w193 : WD (Cond.code ⟨"java/lang/StringLatin1", "equals", "([B[B)Z"⟩ jdk_43_method_13_code 3 (Option.some Jvm.ClassFile.FieldType.boolean)) := wd 193 rfl
theorem own_pd20 : parseMethodDescriptor "([B[B)Z" = some ⟨[(.array .byte), (.array .byte)], some .boolean⟩ := by decide +kernel
theorem own_w192 : WD (Cond.static ⟨"java/lang/StringLatin1", "equals", "([B[B)Z"⟩) := wd 192 rfl
theorem d27_47 : decode jdk_42_method_66_code 47 = .ok (.ifCond .eq 7, 3) := by decide +kernel
theorem d27_54 : decode jdk_42_method_66_code 54 = .ok (.iconst 0, 1) := by decide +kernel
theorem sg27_54_1 : decs jdk_42_method_66_code [(54, .iconst 0, 1)] := ⟨d27_54, trivial⟩
theorem d27_50 : decode jdk_42_method_66_code 50 = .ok (.iconst 1, 1) := by decide +kernel
theorem d27_51 : decode jdk_42_method_66_code 51 = .ok (.goto 4, 3) := by decide +kernel
theorem sg27_50_2 : decs jdk_42_method_66_code [(50, .iconst 1, 1), (51, .goto 4, 3)] := ⟨d27_50, d27_51, trivial⟩
theorem d27_55 : decode jdk_42_method_66_code 55 = .ok (.ireturn, 1) := by decide +kernel
def f_rm27_0 (u1 u2 : Int32) : Int32 := (if (f_rm28_0 u1 u2) = (0 : Int32) then (0 : Int32) else (1 : Int32))
theorem ef_rm27_0 (m : MethodId) (x0 : Addr) (x1 : Addr) : entryFrame m #[(.ref x0), (.ref x1)] 3 = mkF m 0 #[.val (.ref x0), .val (.ref x1), .unset] [] := by first | (simp [entryFrame, mkF, argsToLocals, Value.category]; done) | rfl
theorem own_w190 : WD (Cond.code ⟨"java/lang/String", "equals", "(Ljava/lang/Object;)Z"⟩ jdk_42_method_66_code 3 (Option.some Jvm.ClassFile.FieldType.boolean)) := wd 190 rfl
theorem own_w189 : WD (Cond.selects "java/lang/String" ⟨"java/lang/String", "equals", "(Ljava/lang/Object;)Z"⟩ ⟨"java/lang/String", "equals", "(Ljava/lang/Object;)Z"⟩) := wd 189 rfl
theorem own_w187 : WD (Cond.declares ⟨"java/lang/String", "equals", "(Ljava/lang/Object;)Z"⟩) := wd 187 rfl
theorem own_w188 : WD (Cond.instanceMethod ⟨"java/lang/String", "equals", "(Ljava/lang/Object;)Z"⟩) := wd 188 rfl
theorem d19_78 : decode prog_3_method_5_code 78 = .ok (.ifCond .eq 7, 3) := by decide +kernel
theorem d19_81 : decode prog_3_method_5_code 81 = .ok (.aload 7, 2) := by decide +kernel
theorem d19_83 : decode prog_3_method_5_code 83 = .ok (.astore 5, 2) := by decide +kernel
theorem sg19_81_2 : decs prog_3_method_5_code [(81, .aload 7, 2), (83, .astore 5, 2)] := ⟨d19_81, d19_83, trivial⟩
theorem d19_85 : decode prog_3_method_5_code 85 = .ok (.goto (-39), 3) := by decide +kernel
theorem sg19_85_1 : decs prog_3_method_5_code [(85, .goto (-39), 3)] := ⟨d19_85, trivial⟩
theorem ef_rm22_3 (m : MethodId) (x0 : Addr) : entryFrame m #[(.ref x0)] 1 = mkF m 0 #[.val (.ref x0)] [] := by first | (simp [entryFrame, mkF, argsToLocals, Value.category]; done) | rfl
theorem ef_rm22_4 (m : MethodId) (x0 : Addr) : entryFrame m #[(.ref x0)] 1 = mkF m 0 #[.val (.ref x0)] [] := by first | (simp [entryFrame, mkF, argsToLocals, Value.category]; done) | rfl
theorem ef_rm24_2 (m : MethodId) (x0 : Addr) : entryFrame m #[(.ref x0)] 3 = mkF m 0 #[.val (.ref x0), .unset, .unset] [] := by first | (simp [entryFrame, mkF, argsToLocals, Value.category]; done) | rfl
theorem sg19_81_1 : decs prog_3_method_5_code [(81, .aload 7, 2)] := ⟨d19_81, trivial⟩
theorem ef_rm22_5 (m : MethodId) (x0 : Addr) : entryFrame m #[(.ref x0)] 1 = mkF m 0 #[.val (.ref x0)] [] := by first | (simp [entryFrame, mkF, argsToLocals, Value.category]; done) | rfl
theorem ef_rm22_6 (m : MethodId) (x0 : Addr) : entryFrame m #[(.ref x0)] 1 = mkF m 0 #[.val (.ref x0)] [] := by first | (simp [entryFrame, mkF, argsToLocals, Value.category]; done) | rfl
theorem ef_rm24_3 (m : MethodId) (x0 : Addr) : entryFrame m #[(.ref x0)] 3 = mkF m 0 #[.val (.ref x0), .unset, .unset] [] := by first | (simp [entryFrame, mkF, argsToLocals, Value.category]; done) | rfl
theorem ef_rm22_7 (m : MethodId) (x0 : Addr) : entryFrame m #[(.ref x0)] 1 = mkF m 0 #[.val (.ref x0)] [] := by first | (simp [entryFrame, mkF, argsToLocals, Value.category]; done) | rfl
theorem d19_88 : decode prog_3_method_5_code 88 = .ok (.aload 5, 2) := by decide +kernel
theorem d19_90 : decode prog_3_method_5_code 90 = .ok (.ifnonnull 18, 3) := by decide +kernel
theorem d19_108 : decode prog_3_method_5_code 108 = .ok (.aload_n 2, 1) := by decide +kernel
theorem d19_109 : decode prog_3_method_5_code 109 = .ok (.aload 5, 2) := by decide +kernel
theorem own_w194 : WD (Cond.methodLink "com/example/wary_meter/warymeter/Column" 75 ⟨"java/util/List", "add", "(Ljava/lang/Object;)Z"⟩) := wd 194 rfl
theorem sg19_108_2 : decs prog_3_method_5_code [(108, .aload_n 2, 1), (109, .aload 5, 2)] := ⟨d19_108, d19_109, trivial⟩
theorem d19_111 : decode prog_3_method_5_code 111 = .ok (.invokeinterface 75 2, 5) := by decide +kernel
theorem d19_116 : decode prog_3_method_5_code 116 = .ok (.pop, 1) := by decide +kernel
theorem d19_117 : decode prog_3_method_5_code 117 = .ok (.goto (-102), 3) := by decide +kernel
theorem sg19_116_3 : decs prog_3_method_5_code [(116, .pop, 1), (117, .goto (-102), 3), (15, .aload_n 3, 1)] := ⟨d19_116, d19_117, d19_15, trivial⟩
theorem ef_rm24_4 (m : MethodId) (x0 : Addr) : entryFrame m #[(.ref x0)] 3 = mkF m 0 #[.val (.ref x0), .unset, .unset] [] := by first | (simp [entryFrame, mkF, argsToLocals, Value.category]; done) | rfl
theorem sg19_68_1 : decs prog_3_method_5_code [(68, .aload 7, 2)] := ⟨d19_68, trivial⟩
theorem ef_rm19_1 (m : MethodId) (x0 : Addr) (x1 : Addr) : entryFrame m #[(.ref x0), (.ref x1)] 8 = mkF m 0 #[.val (.ref x0), .val (.ref x1), .unset, .unset, .unset, .unset, .unset, .unset] [] := by first | (simp [entryFrame, mkF, argsToLocals, Value.category]; done) | rfl
theorem ef_rm23_1 (m : MethodId) (x0 : Addr) : entryFrame m #[(.ref x0)] 1 = mkF m 0 #[.val (.ref x0)] [] := by first | (simp [entryFrame, mkF, argsToLocals, Value.category]; done) | rfl
theorem own_w195 : WD (Cond.methodLink "com/example/wary_meter/warymeter/ColumnPickPinLaw" 45 ⟨"java/util/List", "get", "(I)Ljava/lang/Object;"⟩) := wd 195 rfl
theorem sg0_308_2 : decs code [(308, .aload 19, 2), (310, .iconst 0, 1)] := ⟨at_308, at_310, trivial⟩
theorem d29_0 : decode jdk_38_method_20_code 0 = .ok (.iload_n 1, 1) := by decide +kernel
theorem d29_1 : decode jdk_38_method_20_code 1 = .ok (.aload_n 0, 1) := by decide +kernel
theorem sg29_0_2 : decs jdk_38_method_20_code [(0, .iload_n 1, 1), (1, .aload_n 0, 1)] := ⟨d29_0, d29_1, trivial⟩
theorem d29_2 : decode jdk_38_method_20_code 2 = .ok (.getfield 48, 3) := by decide +kernel
theorem own_w203 : WD (Cond.methodLink "java/util/ArrayList" 118 ⟨"java/util/Objects", "checkIndex", "(II)I"⟩) := wd 203 rfl
theorem d29_5 : decode jdk_38_method_20_code 5 = .ok (.invokestatic 118, 3) := by decide +kernel
theorem d30_0 : decode jdk_31_method_17_code 0 = .ok (.iload_n 0, 1) := by decide +kernel
theorem d30_1 : decode jdk_31_method_17_code 1 = .ok (.iload_n 1, 1) := by decide +kernel
theorem d30_2 : decode jdk_31_method_17_code 2 = .ok (.aconst_null, 1) := by decide +kernel
theorem own_w207 : WD (Cond.methodLink "java/util/Objects" 105 ⟨"jdk/internal/util/Preconditions", "checkIndex", "(IILjava/util/function/BiFunction;)I"⟩) := wd 207 rfl
theorem sg30_0_3 : decs jdk_31_method_17_code [(0, .iload_n 0, 1), (1, .iload_n 1, 1), (2, .aconst_null, 1)] := ⟨d30_0, d30_1, d30_2, trivial⟩
theorem d30_3 : decode jdk_31_method_17_code 3 = .ok (.invokestatic 105, 3) := by decide +kernel
theorem d31_0 : decode jdk_41_method_11_code 0 = .ok (.iload_n 0, 1) := by decide +kernel
theorem sg31_0_1 : decs jdk_41_method_11_code [(0, .iload_n 0, 1)] := ⟨d31_0, trivial⟩
theorem d31_1 : decode jdk_41_method_11_code 1 = .ok (.ifCond .lt 8, 3) := by decide +kernel
theorem d31_4 : decode jdk_41_method_11_code 4 = .ok (.iload_n 0, 1) := by decide +kernel
theorem d31_5 : decode jdk_41_method_11_code 5 = .ok (.iload_n 1, 1) := by decide +kernel
theorem sg31_4_2 : decs jdk_41_method_11_code [(4, .iload_n 0, 1), (5, .iload_n 1, 1)] := ⟨d31_4, d31_5, trivial⟩
theorem d31_6 : decode jdk_41_method_11_code 6 = .ok (.if_icmp .lt 10, 3) := by decide +kernel
theorem d31_16 : decode jdk_41_method_11_code 16 = .ok (.iload_n 0, 1) := by decide +kernel
theorem sg31_16_1 : decs jdk_41_method_11_code [(16, .iload_n 0, 1)] := ⟨d31_16, trivial⟩
theorem d31_17 : decode jdk_41_method_11_code 17 = .ok (.ireturn, 1) := by decide +kernel
theorem ef_rm31_0 (m : MethodId) (x0 : Int32) (x1 : Int32) : entryFrame m #[(.int x0), (.int x1), .null] 3 = mkF m 0 #[.val (.int x0), .val (.int x1), .val .null] [] := by first | (simp [entryFrame, mkF, argsToLocals, Value.category]; done) | rfl
theorem own_pn9 : plainName "jdk/internal/util/Preconditions" = true := by first | (simp [plainName, overriddenIn]; done) | decide +kernel
theorem own_w210 : WD (Cond.code ⟨"jdk/internal/util/Preconditions", "checkIndex", "(IILjava/util/function/BiFunction;)I"⟩ jdk_41_method_11_code 3 (Option.some Jvm.ClassFile.FieldType.int)) := wd 210 rfl
theorem own_w209 : WD (Cond.initialized "jdk/internal/util/Preconditions") := wd 209 rfl
theorem own_pd21 : parseMethodDescriptor "(IILjava/util/function/BiFunction;)I" = some ⟨[.int, .int, (.object "java/util/function/BiFunction")], some .int⟩ := by decide +kernel
theorem own_w208 : WD (Cond.static ⟨"jdk/internal/util/Preconditions", "checkIndex", "(IILjava/util/function/BiFunction;)I"⟩) := wd 208 rfl
theorem d30_6 : decode jdk_31_method_17_code 6 = .ok (.ireturn, 1) := by decide +kernel
theorem ef_rm30_0 (m : MethodId) (x0 : Int32) (x1 : Int32) : entryFrame m #[(.int x0), (.int x1)] 2 = mkF m 0 #[.val (.int x0), .val (.int x1)] [] := by first | (simp [entryFrame, mkF, argsToLocals, Value.category]; done) | rfl
theorem own_pn10 : plainName "java/util/Objects" = true := by first | (simp [plainName, overriddenIn]; done) | decide +kernel
theorem own_w206 : WD (Cond.code ⟨"java/util/Objects", "checkIndex", "(II)I"⟩ jdk_31_method_17_code 2 (Option.some Jvm.ClassFile.FieldType.int)) := wd 206 rfl
theorem own_w205 : WD (Cond.initialized "java/util/Objects") := wd 205 rfl
theorem own_w204 : WD (Cond.static ⟨"java/util/Objects", "checkIndex", "(II)I"⟩) := wd 204 rfl
theorem d29_8 : decode jdk_38_method_20_code 8 = .ok (.pop, 1) := by decide +kernel
theorem d29_9 : decode jdk_38_method_20_code 9 = .ok (.aload_n 0, 1) := by decide +kernel
theorem d29_10 : decode jdk_38_method_20_code 10 = .ok (.iload_n 1, 1) := by decide +kernel
theorem own_w211 : WD (Cond.methodLink "java/util/ArrayList" 123 ⟨"java/util/ArrayList", "elementData", "(I)Ljava/lang/Object;"⟩) := wd 211 rfl
theorem sg29_8_3 : decs jdk_38_method_20_code [(8, .pop, 1), (9, .aload_n 0, 1), (10, .iload_n 1, 1)] := ⟨d29_8, d29_9, d29_10, trivial⟩
theorem d29_11 : decode jdk_38_method_20_code 11 = .ok (.invokevirtual 123, 3) := by decide +kernel
theorem d32_0 : decode jdk_38_method_18_code 0 = .ok (.aload_n 0, 1) := by decide +kernel
theorem sg32_0_1 : decs jdk_38_method_18_code [(0, .aload_n 0, 1)] := ⟨d32_0, trivial⟩
theorem d32_1 : decode jdk_38_method_18_code 1 = .ok (.getfield 9, 3) := by decide +kernel
theorem d32_4 : decode jdk_38_method_18_code 4 = .ok (.iload_n 1, 1) := by decide +kernel
theorem sg32_4_1 : decs jdk_38_method_18_code [(4, .iload_n 1, 1)] := ⟨d32_4, trivial⟩
theorem d32_5 : decode jdk_38_method_18_code 5 = .ok (.aaload, 1) := by decide +kernel
theorem d32_6 : decode jdk_38_method_18_code 6 = .ok (.areturn, 1) := by decide +kernel
theorem ef_rm32_0 (m : MethodId) (x0 : Addr) (x1 : Int32) : entryFrame m #[(.ref x0), (.int x1)] 2 = mkF m 0 #[.val (.ref x0), .val (.int x1)] [] := by first | (simp [entryFrame, mkF, argsToLocals, Value.category]; done) | rfl
theorem own_w215 : WD (Cond.code ⟨"java/util/ArrayList", "elementData", "(I)Ljava/lang/Object;"⟩ jdk_38_method_18_code 2 (Option.some (Jvm.ClassFile.FieldType.object "java/lang/Object"))) := wd 215 rfl
theorem own_pd22 : parseMethodDescriptor "(I)Ljava/lang/Object;" = some ⟨[.int], some (.object "java/lang/Object")⟩ := by decide +kernel
theorem own_w214 : WD (Cond.selects "java/util/ArrayList" ⟨"java/util/ArrayList", "elementData", "(I)Ljava/lang/Object;"⟩ ⟨"java/util/ArrayList", "elementData", "(I)Ljava/lang/Object;"⟩) := wd 214 rfl
theorem own_w212 : WD (Cond.declares ⟨"java/util/ArrayList", "elementData", "(I)Ljava/lang/Object;"⟩) := wd 212 rfl
theorem own_w213 : WD (Cond.instanceMethod ⟨"java/util/ArrayList", "elementData", "(I)Ljava/lang/Object;"⟩) := wd 213 rfl
theorem d29_14 : decode jdk_38_method_20_code 14 = .ok (.areturn, 1) := by decide +kernel
theorem ef_rm29_0 (m : MethodId) (x0 : Addr) (x1 : Int32) : entryFrame m #[(.ref x0), (.int x1)] 2 = mkF m 0 #[.val (.ref x0), .val (.int x1)] [] := by first | (simp [entryFrame, mkF, argsToLocals, Value.category]; done) | rfl
theorem own_w202 : WD (Cond.code ⟨"java/util/ArrayList", "get", "(I)Ljava/lang/Object;"⟩ jdk_38_method_20_code 2 (Option.some (Jvm.ClassFile.FieldType.object "java/lang/Object"))) := wd 202 rfl
theorem own_w198 : WD (Cond.selects "java/util/ArrayList" ⟨"java/util/List", "get", "(I)Ljava/lang/Object;"⟩ ⟨"java/util/ArrayList", "get", "(I)Ljava/lang/Object;"⟩) := wd 198 rfl
theorem own_w196 : WD (Cond.declares ⟨"java/util/List", "get", "(I)Ljava/lang/Object;"⟩) := wd 196 rfl
theorem own_w197 : WD (Cond.interfaceMethod "java/util/List" "java/util/List" "get" "(I)Ljava/lang/Object;") := wd 197 rfl
theorem own_w199 : WD (Cond.instanceMethod ⟨"java/util/ArrayList", "get", "(I)Ljava/lang/Object;"⟩) := wd 199 rfl
theorem own_w200 : WD (Cond.publicMethod ⟨"java/util/ArrayList", "get", "(I)Ljava/lang/Object;"⟩) := wd 200 rfl
theorem own_w201 : WD (Cond.unhidden "java/util/ArrayList" "get" "(I)Ljava/lang/Object;") := wd 201 rfl
theorem own_w216 : WD (Cond.methodLink "com/example/wary_meter/warymeter/ColumnPickPinLaw" 49 ⟨"com/example/wary_meter/warymeter/ColumnPickPinLaw", "last", "(CCCIC)I"⟩) := wd 216 rfl
theorem sg0_316_8 : decs code [(316, .aload 8, 2), (318, .aload 9, 2), (320, .aload 10, 2), (322, .iload_n 3, 1), (323, .iload 4, 2), (325, .iload 5, 2), (327, .iload 6, 2), (329, .iload 15, 2)] := ⟨at_316, at_318, at_320, at_322, at_323, at_325, at_327, at_329, trivial⟩
theorem d33_0 : decode method_4_code 0 = .ok (.iload_n 3, 1) := by decide +kernel
theorem d33_1 : decode method_4_code 1 = .ok (.iconst 2, 1) := by decide +kernel
theorem sg33_0_2 : decs method_4_code [(0, .iload_n 3, 1), (1, .iconst 2, 1)] := ⟨d33_0, d33_1, trivial⟩
theorem d33_2 : decode method_4_code 2 = .ok (.if_icmp .le 11, 3) := by decide +kernel
theorem d33_5 : decode method_4_code 5 = .ok (.iload_n 2, 1) := by decide +kernel
theorem d33_6 : decode method_4_code 6 = .ok (.iload 4, 2) := by decide +kernel
theorem sg33_5_2 : decs method_4_code [(5, .iload_n 2, 1), (6, .iload 4, 2)] := ⟨d33_5, d33_6, trivial⟩
theorem d33_8 : decode method_4_code 8 = .ok (.if_icmp .ne 5, 3) := by decide +kernel
theorem d33_11 : decode method_4_code 11 = .ok (.iconst 2, 1) := by decide +kernel
theorem sg33_11_1 : decs method_4_code [(11, .iconst 2, 1)] := ⟨d33_11, trivial⟩
theorem d33_12 : decode method_4_code 12 = .ok (.ireturn, 1) := by decide +kernel
theorem d33_13 : decode method_4_code 13 = .ok (.iload_n 3, 1) := by decide +kernel
theorem d33_14 : decode method_4_code 14 = .ok (.iconst 1, 1) := by decide +kernel
theorem sg33_13_2 : decs method_4_code [(13, .iload_n 3, 1), (14, .iconst 1, 1)] := ⟨d33_13, d33_14, trivial⟩
theorem d33_15 : decode method_4_code 15 = .ok (.if_icmp .le 11, 3) := by decide +kernel
theorem d33_18 : decode method_4_code 18 = .ok (.iload_n 1, 1) := by decide +kernel
theorem d33_19 : decode method_4_code 19 = .ok (.iload 4, 2) := by decide +kernel
theorem sg33_18_2 : decs method_4_code [(18, .iload_n 1, 1), (19, .iload 4, 2)] := ⟨d33_18, d33_19, trivial⟩
theorem d33_21 : decode method_4_code 21 = .ok (.if_icmp .ne 5, 3) := by decide +kernel
theorem d33_24 : decode method_4_code 24 = .ok (.iconst 1, 1) := by decide +kernel
theorem sg33_24_1 : decs method_4_code [(24, .iconst 1, 1)] := ⟨d33_24, trivial⟩
theorem d33_25 : decode method_4_code 25 = .ok (.ireturn, 1) := by decide +kernel
theorem d33_26 : decode method_4_code 26 = .ok (.iconst 0, 1) := by decide +kernel
theorem sg33_26_1 : decs method_4_code [(26, .iconst 0, 1)] := ⟨d33_26, trivial⟩
theorem d33_27 : decode method_4_code 27 = .ok (.ireturn, 1) := by decide +kernel
def f_rm33_0 (i1 i2 i3 i4 : Int32) : Int32 := (if (2 : Int32) < i3 then (if i2 = i4 then (2 : Int32) else (if i1 = i4 then (1 : Int32) else (0 : Int32))) else (if (1 : Int32) < i3 then (if i1 = i4 then (1 : Int32) else (0 : Int32)) else (0 : Int32)))
theorem ef_rm33_0 (m : MethodId) (x0 : Int32) (x1 : Int32) (x2 : Int32) (x3 : Int32) (x4 : Int32) : entryFrame m #[(.int x0), (.int x1), (.int x2), (.int x3), (.int x4)] 5 = mkF m 0 #[.val (.int x0), .val (.int x1), .val (.int x2), .val (.int x3), .val (.int x4)] [] := by first | (simp [entryFrame, mkF, argsToLocals, Value.category]; done) | rfl
theorem own_w218 : WD (Cond.code ⟨"com/example/wary_meter/warymeter/ColumnPickPinLaw", "last", "(CCCIC)I"⟩ method_4_code 5 (Option.some Jvm.ClassFile.FieldType.int)) := wd 218 rfl
theorem own_pd23 : parseMethodDescriptor "(CCCIC)I" = some ⟨[.char, .char, .char, .int, .char], some .int⟩ := by decide +kernel
theorem own_w217 : WD (Cond.static ⟨"com/example/wary_meter/warymeter/ColumnPickPinLaw", "last", "(CCCIC)I"⟩) := wd 217 rfl
theorem own_w219 : WD (Cond.methodLink "com/example/wary_meter/warymeter/ColumnPickPinLaw" 53 ⟨"com/example/wary_meter/warymeter/ColumnPickPinLaw", "colAt", "(Lcom/example/wary_meter/warymeter/Column;Lcom/example/wary_meter/warymeter/Column;Lcom/example/wary_meter/warymeter/Column;I)Lcom/example/wary_meter/warymeter/Column;"⟩) := wd 219 rfl
theorem d34_0 : decode method_5_code 0 = .ok (.iload_n 3, 1) := by decide +kernel
theorem d34_1 : decode method_5_code 1 = .ok (.iconst 2, 1) := by decide +kernel
theorem sg34_0_2 : decs method_5_code [(0, .iload_n 3, 1), (1, .iconst 2, 1)] := ⟨d34_0, d34_1, trivial⟩
theorem d34_2 : decode method_5_code 2 = .ok (.if_icmp .ne 5, 3) := by decide +kernel
theorem d34_5 : decode method_5_code 5 = .ok (.aload_n 2, 1) := by decide +kernel
theorem sg34_5_1 : decs method_5_code [(5, .aload_n 2, 1)] := ⟨d34_5, trivial⟩
theorem d34_6 : decode method_5_code 6 = .ok (.areturn, 1) := by decide +kernel
theorem d34_7 : decode method_5_code 7 = .ok (.iload_n 3, 1) := by decide +kernel
theorem d34_8 : decode method_5_code 8 = .ok (.iconst 1, 1) := by decide +kernel
theorem sg34_7_2 : decs method_5_code [(7, .iload_n 3, 1), (8, .iconst 1, 1)] := ⟨d34_7, d34_8, trivial⟩
theorem d34_9 : decode method_5_code 9 = .ok (.if_icmp .ne 5, 3) := by decide +kernel
theorem d34_12 : decode method_5_code 12 = .ok (.aload_n 1, 1) := by decide +kernel
theorem sg34_12_1 : decs method_5_code [(12, .aload_n 1, 1)] := ⟨d34_12, trivial⟩
theorem d34_13 : decode method_5_code 13 = .ok (.areturn, 1) := by decide +kernel
theorem d34_14 : decode method_5_code 14 = .ok (.aload_n 0, 1) := by decide +kernel
theorem sg34_14_1 : decs method_5_code [(14, .aload_n 0, 1)] := ⟨d34_14, trivial⟩
theorem d34_15 : decode method_5_code 15 = .ok (.areturn, 1) := by decide +kernel
def f_rm34_0 (o0 o1 o2 : Addr) (i3 : Int32) : Value := (if i3 = (2 : Int32) then (.ref o2) else (if i3 = (1 : Int32) then (.ref o1) else (.ref o0)))
theorem ef_rm34_0 (m : MethodId) (x0 : Addr) (x1 : Addr) (x2 : Addr) (x3 : Int32) : entryFrame m #[(.ref x0), (.ref x1), (.ref x2), (.int x3)] 4 = mkF m 0 #[.val (.ref x0), .val (.ref x1), .val (.ref x2), .val (.int x3)] [] := by first | (simp [entryFrame, mkF, argsToLocals, Value.category]; done) | rfl
theorem own_w221 : WD (Cond.code ⟨"com/example/wary_meter/warymeter/ColumnPickPinLaw", "colAt", "(Lcom/example/wary_meter/warymeter/Column;Lcom/example/wary_meter/warymeter/Column;Lcom/example/wary_meter/warymeter/Column;I)Lcom/example/wary_meter/warymeter/Column;"⟩ method_5_code 4 (Option.some (Jvm.ClassFile.FieldType.object "com/example/wary_meter/warymeter/Column"))) := wd 221 rfl
theorem own_pd24 : parseMethodDescriptor "(Lcom/example/wary_meter/warymeter/Column;Lcom/example/wary_meter/warymeter/Column;Lcom/example/wary_meter/warymeter/Column;I)Lcom/example/wary_meter/warymeter/Column;" = some ⟨[(.object "com/example/wary_meter/warymeter/Column"), (.object "com/example/wary_meter/warymeter/Column"), (.object "com/example/wary_meter/warymeter/Column"), .int], some (.object "com/example/wary_meter/warymeter/Column")⟩ := by decide +kernel
theorem own_w220 : WD (Cond.static ⟨"com/example/wary_meter/warymeter/ColumnPickPinLaw", "colAt", "(Lcom/example/wary_meter/warymeter/Column;Lcom/example/wary_meter/warymeter/Column;Lcom/example/wary_meter/warymeter/Column;I)Lcom/example/wary_meter/warymeter/Column;"⟩) := wd 220 rfl
theorem sg0_348_2 : decs code [(348, .aload 19, 2), (350, .iconst 1, 1)] := ⟨at_348, at_350, trivial⟩
theorem ef_rm31_1 (m : MethodId) (x0 : Int32) (x1 : Int32) : entryFrame m #[(.int x0), (.int x1), .null] 3 = mkF m 0 #[.val (.int x0), .val (.int x1), .val .null] [] := by first | (simp [entryFrame, mkF, argsToLocals, Value.category]; done) | rfl
theorem ef_rm30_1 (m : MethodId) (x0 : Int32) (x1 : Int32) : entryFrame m #[(.int x0), (.int x1)] 2 = mkF m 0 #[.val (.int x0), .val (.int x1)] [] := by first | (simp [entryFrame, mkF, argsToLocals, Value.category]; done) | rfl
theorem ef_rm32_1 (m : MethodId) (x0 : Addr) (x1 : Int32) : entryFrame m #[(.ref x0), (.int x1)] 2 = mkF m 0 #[.val (.ref x0), .val (.int x1)] [] := by first | (simp [entryFrame, mkF, argsToLocals, Value.category]; done) | rfl
theorem ef_rm29_1 (m : MethodId) (x0 : Addr) (x1 : Int32) : entryFrame m #[(.ref x0), (.int x1)] 2 = mkF m 0 #[.val (.ref x0), .val (.int x1)] [] := by first | (simp [entryFrame, mkF, argsToLocals, Value.category]; done) | rfl
theorem sg0_356_8 : decs code [(356, .aload 8, 2), (358, .aload 9, 2), (360, .aload 10, 2), (362, .iload_n 3, 1), (363, .iload 4, 2), (365, .iload 5, 2), (367, .iload 6, 2), (369, .iload 16, 2)] := ⟨at_356, at_358, at_360, at_362, at_363, at_365, at_367, at_369, trivial⟩
theorem sg0_388_2 : decs code [(388, .aload 19, 2), (390, .iconst 2, 1)] := ⟨at_388, at_390, trivial⟩
theorem ef_rm31_2 (m : MethodId) (x0 : Int32) (x1 : Int32) : entryFrame m #[(.int x0), (.int x1), .null] 3 = mkF m 0 #[.val (.int x0), .val (.int x1), .val .null] [] := by first | (simp [entryFrame, mkF, argsToLocals, Value.category]; done) | rfl
theorem ef_rm30_2 (m : MethodId) (x0 : Int32) (x1 : Int32) : entryFrame m #[(.int x0), (.int x1)] 2 = mkF m 0 #[.val (.int x0), .val (.int x1)] [] := by first | (simp [entryFrame, mkF, argsToLocals, Value.category]; done) | rfl
theorem ef_rm32_2 (m : MethodId) (x0 : Addr) (x1 : Int32) : entryFrame m #[(.ref x0), (.int x1)] 2 = mkF m 0 #[.val (.ref x0), .val (.int x1)] [] := by first | (simp [entryFrame, mkF, argsToLocals, Value.category]; done) | rfl
theorem ef_rm29_2 (m : MethodId) (x0 : Addr) (x1 : Int32) : entryFrame m #[(.ref x0), (.int x1)] 2 = mkF m 0 #[.val (.ref x0), .val (.int x1)] [] := by first | (simp [entryFrame, mkF, argsToLocals, Value.category]; done) | rfl
theorem sg0_396_8 : decs code [(396, .aload 8, 2), (398, .aload 9, 2), (400, .aload 10, 2), (402, .iload_n 3, 1), (403, .iload 4, 2), (405, .iload 5, 2), (407, .iload 6, 2), (409, .iload 17, 2)] := ⟨at_396, at_398, at_400, at_402, at_403, at_405, at_407, at_409, trivial⟩
theorem ef_rm24_5 (m : MethodId) (x0 : Addr) : entryFrame m #[(.ref x0)] 3 = mkF m 0 #[.val (.ref x0), .unset, .unset] [] := by first | (simp [entryFrame, mkF, argsToLocals, Value.category]; done) | rfl
theorem ef_rm24_6 (m : MethodId) (x0 : Addr) : entryFrame m #[(.ref x0)] 3 = mkF m 0 #[.val (.ref x0), .unset, .unset] [] := by first | (simp [entryFrame, mkF, argsToLocals, Value.category]; done) | rfl
theorem ef_rm19_2 (m : MethodId) (x0 : Addr) (x1 : Addr) : entryFrame m #[(.ref x0), (.ref x1)] 8 = mkF m 0 #[.val (.ref x0), .val (.ref x1), .unset, .unset, .unset, .unset, .unset, .unset] [] := by first | (simp [entryFrame, mkF, argsToLocals, Value.category]; done) | rfl
theorem ef_rm23_2 (m : MethodId) (x0 : Addr) : entryFrame m #[(.ref x0)] 1 = mkF m 0 #[.val (.ref x0)] [] := by first | (simp [entryFrame, mkF, argsToLocals, Value.category]; done) | rfl
theorem ef_rm31_3 (m : MethodId) (x0 : Int32) (x1 : Int32) : entryFrame m #[(.int x0), (.int x1), .null] 3 = mkF m 0 #[.val (.int x0), .val (.int x1), .val .null] [] := by first | (simp [entryFrame, mkF, argsToLocals, Value.category]; done) | rfl
theorem ef_rm30_3 (m : MethodId) (x0 : Int32) (x1 : Int32) : entryFrame m #[(.int x0), (.int x1)] 2 = mkF m 0 #[.val (.int x0), .val (.int x1)] [] := by first | (simp [entryFrame, mkF, argsToLocals, Value.category]; done) | rfl
theorem ef_rm32_3 (m : MethodId) (x0 : Addr) (x1 : Int32) : entryFrame m #[(.ref x0), (.int x1)] 2 = mkF m 0 #[.val (.ref x0), .val (.int x1)] [] := by first | (simp [entryFrame, mkF, argsToLocals, Value.category]; done) | rfl
theorem ef_rm29_3 (m : MethodId) (x0 : Addr) (x1 : Int32) : entryFrame m #[(.ref x0), (.int x1)] 2 = mkF m 0 #[.val (.ref x0), .val (.int x1)] [] := by first | (simp [entryFrame, mkF, argsToLocals, Value.category]; done) | rfl
theorem ef_rm31_4 (m : MethodId) (x0 : Int32) (x1 : Int32) : entryFrame m #[(.int x0), (.int x1), .null] 3 = mkF m 0 #[.val (.int x0), .val (.int x1), .val .null] [] := by first | (simp [entryFrame, mkF, argsToLocals, Value.category]; done) | rfl
theorem ef_rm30_4 (m : MethodId) (x0 : Int32) (x1 : Int32) : entryFrame m #[(.int x0), (.int x1)] 2 = mkF m 0 #[.val (.int x0), .val (.int x1)] [] := by first | (simp [entryFrame, mkF, argsToLocals, Value.category]; done) | rfl
theorem ef_rm32_4 (m : MethodId) (x0 : Addr) (x1 : Int32) : entryFrame m #[(.ref x0), (.int x1)] 2 = mkF m 0 #[.val (.ref x0), .val (.int x1)] [] := by first | (simp [entryFrame, mkF, argsToLocals, Value.category]; done) | rfl
theorem ef_rm29_4 (m : MethodId) (x0 : Addr) (x1 : Int32) : entryFrame m #[(.ref x0), (.int x1)] 2 = mkF m 0 #[.val (.ref x0), .val (.int x1)] [] := by first | (simp [entryFrame, mkF, argsToLocals, Value.category]; done) | rfl
theorem ef_rm24_7 (m : MethodId) (x0 : Addr) : entryFrame m #[(.ref x0)] 3 = mkF m 0 #[.val (.ref x0), .unset, .unset] [] := by first | (simp [entryFrame, mkF, argsToLocals, Value.category]; done) | rfl
theorem ef_rm19_3 (m : MethodId) (x0 : Addr) (x1 : Addr) : entryFrame m #[(.ref x0), (.ref x1)] 8 = mkF m 0 #[.val (.ref x0), .val (.ref x1), .unset, .unset, .unset, .unset, .unset, .unset] [] := by first | (simp [entryFrame, mkF, argsToLocals, Value.category]; done) | rfl
theorem ef_rm23_3 (m : MethodId) (x0 : Addr) : entryFrame m #[(.ref x0)] 1 = mkF m 0 #[.val (.ref x0)] [] := by first | (simp [entryFrame, mkF, argsToLocals, Value.category]; done) | rfl
theorem ef_rm31_5 (m : MethodId) (x0 : Int32) (x1 : Int32) : entryFrame m #[(.int x0), (.int x1), .null] 3 = mkF m 0 #[.val (.int x0), .val (.int x1), .val .null] [] := by first | (simp [entryFrame, mkF, argsToLocals, Value.category]; done) | rfl
theorem ef_rm30_5 (m : MethodId) (x0 : Int32) (x1 : Int32) : entryFrame m #[(.int x0), (.int x1)] 2 = mkF m 0 #[.val (.int x0), .val (.int x1)] [] := by first | (simp [entryFrame, mkF, argsToLocals, Value.category]; done) | rfl
theorem ef_rm32_5 (m : MethodId) (x0 : Addr) (x1 : Int32) : entryFrame m #[(.ref x0), (.int x1)] 2 = mkF m 0 #[.val (.ref x0), .val (.int x1)] [] := by first | (simp [entryFrame, mkF, argsToLocals, Value.category]; done) | rfl
theorem ef_rm29_5 (m : MethodId) (x0 : Addr) (x1 : Int32) : entryFrame m #[(.ref x0), (.int x1)] 2 = mkF m 0 #[.val (.ref x0), .val (.int x1)] [] := by first | (simp [entryFrame, mkF, argsToLocals, Value.category]; done) | rfl
theorem ef_rm0 (m : MethodId) (x0 : Int32) (x1 : Int32) (x2 : Int32) : entryFrame m #[(.int x0), (.int x1), (.int x2)] maxLocals = mkF m 0 #[.val (.int x0), .val (.int x1), .val (.int x2), .unset, .unset, .unset, .unset, .unset, .unset, .unset, .unset, .unset, .unset, .unset, .unset, .unset, .unset, .unset, .unset, .unset] [] := by first | (simp [entryFrame, mkF, argsToLocals, Value.category, maxLocals]; done) | rfl
theorem rm2_0 (l : Launch) (Z : State) (a0 : Array Value) (hw : HW a0 Z) (ws : List Jvm.Cond) (i0 : Int32) (h0 : Heap) (n0 : Nat) (O0 : Old Z n0 h0) (bnd_i0 : ¬ i0 < (0 : Int32) ∧ ¬ (255 : Int32) < i0) :
    Con l Z (⟨"java/lang/StringLatin1", "canEncode", "(C)Z"⟩ : MethodName) jdk_43_method_3_code 1 (some .boolean) ws ({ frames := 0, cells := 0, slots := 0, locals := 0 } : Room) #[(.int i0)] h0 (Pur (some (.int (1 : Int32))) h0) := by
 refine own_body (plainFor_of_name own_pn0) (fun m => ef_rm2_0 m i0) ?_
 intro p e s m below meth c s₁ hx hby hlk hml hret hZ hown hnm X0 e0
 have N0 := Fr.nil n0
 refine Home.run X0 hx hby sg2_0_2 (pc' := 4) (L' := #[.val (.int i0)]) (S' := [(.int (255 : Int32)), (.int i0)]) rfl ?_
 refine Home.go (fun _ => XS.icmpNo X0.here hx rfl (hb hby d2_4) rfl (flt (bnd_nlt (bnd_lit (255 : Int32)) bnd_i0 (by decide +kernel))).2.2.1) ?_
 refine Home.run X0 hx hby sg2_7_2 (pc' := 12) (L' := #[.val (.int i0)]) (S' := [(.int (1 : Int32))]) rfl ?_
 exact Home.retN X0 hx hlk (t := .boolean) hret (by simp) (hb hby d2_12) ⟨congrArg some (congrArg Value.int (by first | rfl | exact nar_i2c _ | exact nar_i2b _)), rfl, e0⟩ (by decide) (by decide)
theorem rm3_0 (l : Launch) (Z : State) (a0 : Array Value) (hw : HW a0 Z) (ws : List Jvm.Cond) (i0 : Int32) (h0 : Heap) (n0 : Nat) (O0 : Old Z n0 h0) (bnd_i0 : ¬ i0 < (0 : Int32) ∧ ¬ (255 : Int32) < i0) :
    Con l Z (⟨"java/lang/StringLatin1", "toBytes", "(C)[B"⟩ : MethodName) jdk_43_method_46_code 1 (some (.array .byte)) ws ({ frames := 0, cells := 1, slots := 1, locals := 0 } : Room) #[(.int i0)] h0 (fun v h L => ∃ (b1 : Addr), ∃ (k1 : ClassId), v = some (.ref b1) ∧ Fr n0 L ∧ h0.size ≤ b1 ∧ Keep h0 h [] ∧ Arv Z h b1 k1 .byte (1 : Int32) [(.int (i0.toInt8.toInt32))] (.int (0 : Int32))) := by
 refine own_body (plainFor_of_name own_pn0) (fun m => ef_rm3_0 m i0) ?_
 intro p e s m below meth c s₁ hx hby hlk hml hret hZ hown hnm X0 e0
 have N0 := Fr.nil n0
 refine Home.run X0 hx hby sg3_0_1 (pc' := 1) (L' := #[.val (.int i0)]) (S' := [(.int (1 : Int32))]) rfl ?_
 refine Home.na (own_newP (aty := .byte) X0 hx hZ (own_w17 hw) e0 (g := (mkF m 1 #[.val (.int i0)] [(.int (1 : Int32))])) rfl (hb hby d3_1) rfl (by decide) (cap := 1) (by decide) (by decide) (by decide) (by decide)) fun T1 h1 k1 b1 g1 X1 e1 E1 A1 => ?_
 have g_b1 : n0 ≤ b1 := Nat.le_trans (Old.le O0) (Nat.le_of_eq g1.symm)
 have V1 : Arv Z h1 b1 k1 .byte (1 : Int32) [(.int (0 : Int32))] (.int (0 : Int32)) := (Arv.new A1 (by decide)).pad (pad_rep [] (.int (0 : Int32)) 1)
 have O1 := O0.ext E1
 have K1 : Keep h0 h1 ([] : List Addr) := Keep.ext (Keep.refl h0 ([] : List Addr)) E1
 refine Home.run X1 hx hby sg3_3_4 (pc' := 7) (L' := #[.val (.int i0)]) (S' := [(.int (i0.toInt8.toInt32)), (.int (0 : Int32)), (.ref b1), (.ref b1)]) rfl ?_
 obtain ⟨cl2, Ar2, q2, S2, M2, H2, G2⟩ := id V1
 refine Home.wr (stB X1 hx hZ e1 Ar2 (j := (0 : Int32)) (inb_of S2 ⟨by decide, by decide⟩) rfl rfl (hb hby d3_7)) fun T2 h2 X2 e2 W2 => ?_
 have W2' := Wr.to W2 (congrArg Value.int (nar_byte_id (bnd_i2b i0) (by decide +kernel) (by decide +kernel)))
 have V2 : Arv Z h2 b1 k1 .byte (1 : Int32) [(.int (i0.toInt8.toInt32))] (.int (0 : Int32)) := Arv.set Ar2 q2 S2 M2 H2 G2 (fits_byte_b (bnd_i2b i0) (by decide +kernel) (by decide +kernel)) W2' 0 rfl (Nat.le_of_ble_eq_true rfl)
 have O2 := O1.wr W2 g_b1
 have K2 : Keep h0 h2 ([] : List Addr) := Keep.wr K1 W2 (Or.inr (Nat.le_trans (Nat.le_refl _) (Nat.le_of_eq g1.symm)))
 have N2 := Fr.snoc X2 N0 g_b1
 show Home T2 (mkF m 8 #[.val (.int i0)] [(.ref b1)])
 exact Home.retR X2 hx hlk hret rfl rfl (hb hby d3_8) (by rw [show T2.heap = h2 from e2]; exact ⟨b1, k1, rfl, N2, (Nat.le_trans (Nat.le_refl _) (Nat.le_of_eq g1.symm)), K2, V2⟩) (by decide) (by decide)
theorem rm4_0 (l : Launch) (Z : State) (a0 : Array Value) (hw : HW a0 Z) (ws : List Jvm.Cond) (o0 o1 : Addr) (h0 : Heap) (n0 : Nat) (O0 : Old Z n0 h0) (E_o0 : Exa Z h0 o0 "java/lang/String") (F_value_o0 : Fld Z h0 o0 "java/lang/String" "value" "[B" .null) (g_o0 : n0 ≤ o0) (F_coder_o0 : Fld Z h0 o0 "java/lang/String" "coder" "B" (.int (0 : Int32))) :
    Con l Z (⟨"java/lang/String", "<init>", "([BB)V"⟩ : MethodName) jdk_42_method_151_code 3 none ws ({ frames := 1, cells := 0, slots := 0, locals := 12 } : Room) #[(.ref o0), (.ref o1), (.int (0 : Int32))] h0 (fun v h L => v = none ∧ Fr n0 L ∧ Keep h0 h [o0] ∧ Exa Z h o0 "java/lang/String" ∧ Fld Z h o0 "java/lang/String" "value" "[B" (.ref o1) ∧ Fld Z h o0 "java/lang/String" "coder" "B" (.int (0 : Int32))) := by
 refine own_body (plainFor_of_name own_pn1) (fun m => ef_rm4_0 m o0 o1 (0 : Int32)) ?_
 intro p e s m below meth c s₁ hx hby hlk hml hret hZ hown hnm X0 e0
 have N0 := Fr.nil n0
 refine Home.run X0 hx hby sg4_0_1 (pc' := 1) (L' := #[sr o0, sr o1, .val (.int (0 : Int32))]) (S' := [(.ref o0)]) rfl ?_
 refine Home.st (initO X0 hx hZ hown (own_w22 hw) (own_w23 hw) (own_w24 hw) e0 rfl (by rw [hml]; rfl) rfl (hb hby d4_1) (by decide) (W := 0) (by exact hW0) (by decide)) fun T1 X1 e1 => ?_
 refine Home.run X1 hx hby sg4_4_2 (pc' := 6) (L' := #[sr o0, sr o1, .val (.int (0 : Int32))]) (S' := [(.ref o1), (.ref o0)]) rfl ?_
 refine Home.wr (putF X1 hx hZ hown (host := "") (Or.inl (own_w25 hw)) Via.refl e1 F_value_o0 E_o0 (Or.inr ⟨(own_w26 hw), rfl, hnm⟩) (own_w13 hw) (ty := (.array .byte)) (by decide) rfl rfl rfl rfl (hb hby d4_6)) fun T2 h2 X2 e2 W2 => ?_
 have Fw2 := F_value_o0.same W2
 have O2 := O0.wr W2 g_o0
 have K2 : Keep h0 h2 ([o0] : List Addr) := Keep.wr (Keep.refl h0 ([o0] : List Addr)) W2 (Or.inl (List.mem_of_getElem? (i := 0) rfl))
 have N2 := Fr.snoc X2 N0 g_o0
 refine Home.run X2 hx hby sg4_9_2 (pc' := 11) (L' := #[sr o0, sr o1, .val (.int (0 : Int32))]) (S' := [(.int (0 : Int32)), (.ref o0)]) rfl ?_
 have q3 := (F_coder_o0.other W2 (Or.inr (slot_ne (Or.inr (own_w28 hw)) (Or.inr (own_w26 hw)) (by decide) (t := .byte) (t' := (.array .byte)) (by decide) (by decide))))
 refine Home.wr (putFN X2 hx hZ hown (own_w27 hw) Via.refl e2 q3 (E_o0.keep K2) (Or.inr ⟨(own_w28 hw), rfl, hnm⟩) (own_w13 hw) (ty := .byte) (v := (.int (0 : Int32))) (v' := (.int (0 : Int32))) (by decide) rfl rfl rfl rfl (hb hby d4_11)) fun T4 h4 X4 e4 W4 => ?_
 have Fw4 := q3.same W4
 have O4 := O2.wr W4 g_o0
 have K4 : Keep h0 h4 ([o0] : List Addr) := Keep.wr K2 W4 (Or.inl (List.mem_of_getElem? (i := 0) rfl))
 have N4 := Fr.snoc X4 N2 g_o0
 show Home T4 (mkF m 14 #[sr o0, sr o1, .val (.int (0 : Int32))] [])
 have q5 := (Fw2.other W4 (Or.inr (slot_ne (Or.inr (own_w26 hw)) (Or.inr (own_w28 hw)) (by decide) (t := (.array .byte)) (t' := .byte) (by decide) (by decide))))
 exact Home.ret0 X4 hx hlk hret (hb hby d4_14) (by rw [show T4.heap = h4 from e4]; exact ⟨rfl, N4, K4, (E_o0.keep K4), q5, Fw4⟩) (by decide) (by decide)
theorem rm1_0 (l : Launch) (Z : State) (a0 : Array Value) (hw : HW a0 Z) (ws : List Jvm.Cond) (i0 sv_COMPACT_STRINGS : Int32) (h0 : Heap) (n0 : Nat) (O0 : Old Z n0 h0) (bnd_i0 : ¬ i0 < (0 : Int32) ∧ ¬ (255 : Int32) < i0) (S_COMPACT_STRINGS : Sta Z Z.heap "java/lang/String" "COMPACT_STRINGS" "Z" (.int sv_COMPACT_STRINGS)) (hCS : ¬ (sv_COMPACT_STRINGS = (0 : Int32))) :
    Con l Z (⟨"java/lang/String", "valueOf", "(C)Ljava/lang/String;"⟩ : MethodName) jdk_42_method_139_code 1 (some (.object "java/lang/String")) ws ({ frames := 2, cells := 2, slots := 5, locals := 27 } : Room) #[(.int i0)] h0 (fun v h L => ∃ (b3 : Addr), ∃ (b1_4 : Addr), ∃ (k1_4 : ClassId), v = some (.ref b3) ∧ Fr n0 L ∧ h0.size ≤ b3 ∧ h0.size ≤ b1_4 ∧ Keep h0 h [] ∧ Exa Z h b3 "java/lang/String" ∧ Fld Z h b3 "java/lang/String" "value" "[B" (.ref b1_4) ∧ Fld Z h b3 "java/lang/String" "coder" "B" (.int (0 : Int32)) ∧ Arv Z h b1_4 k1_4 .byte (1 : Int32) [(.int (i0.toInt8.toInt32))] (.int (0 : Int32))) := by
 refine own_body (plainFor_of_name own_pn1) (fun m => ef_rm1_0 m i0) ?_
 intro p e s m below meth c s₁ hx hby hlk hml hret hZ hown hnm X0 e0
 have N0 := Fr.nil n0
 refine Home.st (getS2 X0 hx hZ hown (host := "") (Or.inl (own_w7 hw)) Via.refl e0 (S_COMPACT_STRINGS.ext O0.2) rfl (hb hby d1_0)) fun T1 X1 e1 => ?_
 refine Home.go (fun _ => XS.ifNo X1.here hx rfl (hb hby d1_3) rfl ((if0 _ _).trans (feq hCS).1)) ?_
 refine Home.run X1 hx hby sg1_6_1 (pc' := 7) (L' := #[.val (.int i0)]) (S' := [(.int i0)]) rfl ?_
 refine Home.st (own_pure (own_static X1 hx hZ hown (own_w8 hw) (own_w9 hw) (own_w10 hw) (own_w11 hw) (by decide) (rm2_0 l Z a0 hw [] i0 h0 n0 O0 bnd_i0) e1 rfl (by rw [hml]; rfl) (argsL := [(.int i0)]) (rest := []) (lenOf own_pd0 rfl) rfl rfl (W := 0) (by exact hW0) (by decide) (by decide) (hb hby d1_7) (by decide) (by decide))) fun T2 X2 e2 => ?_
 refine Home.go (fun _ => XS.ifNo X2.here hx rfl (hb hby d1_10) rfl ((if0 _ _).trans (feq (by decide)).1)) ?_
 refine Home.nw (own_newO X2 hx hZ hown (own_w12 hw) (own_w13 hw) (own_w5 hw) e2 rfl (hb hby d1_13) (by decide) (by decide)) fun T3 h3 b3 g3 X3 e3 E3 A3 D3 => ?_
 have g_b3 : n0 ≤ b3 := Nat.le_trans (Old.le O0) (Nat.le_of_eq g3.symm)
 have F_value_b3 : Fld Z h3 b3 "java/lang/String" "value" "[B" .null := D3 (Or.inr (own_w26 hw)) (ty := (.array .byte)) (by decide)
 have F_coder_b3 : Fld Z h3 b3 "java/lang/String" "coder" "B" (.int (0 : Int32)) := D3 (Or.inr (own_w28 hw)) (ty := .byte) (by decide)
 have O3 := O0.ext E3
 have K3 : Keep h0 h3 ([] : List Addr) := Keep.ext (Keep.refl h0 ([] : List Addr)) E3
 refine Home.run X3 hx hby sg1_16_2 (pc' := 18) (L' := #[.val (.int i0)]) (S' := [(.int i0), (.ref b3), (.ref b3)]) rfl ?_
 refine Home.call (own_static X3 hx hZ hown (own_w14 hw) (own_w15 hw) (own_w10 hw) (own_w16 hw) (by decide) (rm3_0 l Z a0 hw [] i0 h3 n0 O3 bnd_i0) e3 rfl (by rw [hml]; rfl) (argsL := [(.int i0)]) (rest := [(.ref b3), (.ref b3)]) (lenOf own_pd1 rfl) rfl rfl (W := 2) (by exact hW0) (by decide) (by decide) (hb hby d1_18) (by decide) (by decide)) ?_
 rintro _ T4 L4 X4 ⟨b1_4, k1_4, rfl, N4q, sz_b1_4, K4q, P4_0⟩
 have g_b1_4 : n0 ≤ b1_4 := Nat.le_trans (Old.le O3) sz_b1_4
 have O4 := Old.keep O3 K4q all0
 have K4 : Keep h0 T4.heap ([] : List Addr) := Keep.trans K3 K4q all0
 have N4 := Fr.app N0 N4q
 show Home T4 (mkF m 21 #[.val (.int i0)] [(.ref b1_4), (.ref b3), (.ref b3)])
 refine Home.run X4 hx hby sg1_21_1 (pc' := 22) (L' := #[.val (.int i0)]) (S' := [(.int (0 : Int32)), (.ref b1_4), (.ref b3), (.ref b3)]) rfl ?_
 have q5 := (A3.keep K4q)
 have q6 := (F_value_b3.keep K4q nin0)
 have q7 := (F_coder_b3.keep K4q nin0)
 refine Home.call (own_special X4 hx hZ hown rfl (own_w18 hw) (own_w19 hw) (own_w5 hw) (own_w21 hw) (by decide) (rm4_0 l Z a0 hw [] b3 b1_4 T4.heap n0 O4 q5 q6 g_b3 q7) rfl rfl (by rw [hml]; rfl) (a := b3) (argsL := [(.ref b1_4), (.int (0 : Int32))]) (rest := [(.ref b3)]) (lenOf own_pd2 rfl) rfl rfl (W := 1) (by exact hW0) (by decide) (by decide) (hb hby d1_22) (by decide) (by decide)) ?_
 rintro _ T8 L8 X8 ⟨rfl, N8q, K8q, P8_0, P8_1, P8_2⟩
 have O8 := Old.keep O4 K8q (allS g_b3 all0)
 have K8 : Keep h0 T8.heap ([] : List Addr) := Keep.trans K4 K8q (allS (Or.inr (Nat.le_trans (Nat.le_refl _) (Nat.le_of_eq g3.symm))) all0)
 have N8 := Fr.app N4 N8q
 have ne9 : b1_4 ≠ b3 := (Ne.symm (Nat.ne_of_lt (Nat.lt_of_lt_of_le A3.lt (Nat.le_trans (Nat.le_refl _) sz_b1_4))))
 have q10 := (P4_0.keep K8q (ninS ne9 nin0))
 exact Home.retR X8 hx hlk hret rfl rfl (hb hby d1_25) ⟨b3, b1_4, k1_4, rfl, N8, (Nat.le_trans (Nat.le_refl _) (Nat.le_of_eq g3.symm)), (Nat.le_trans E3.1 sz_b1_4), K8, P8_0, P8_1, P8_2, q10⟩ (by decide) (by decide)
theorem rm8_0 (l : Launch) (Z : State) (a0 : Array Value) (hw : HW a0 Z) (ws : List Jvm.Cond) (o0 : Addr) (h0 : Heap) (n0 : Nat) (O0 : Old Z n0 h0) :
    Con l Z (⟨"java/lang/Record", "<init>", "()V"⟩ : MethodName) jdk_30_method_1_code 1 none ws ({ frames := 1, cells := 0, slots := 0, locals := 12 } : Room) #[(.ref o0)] h0 (Pur none h0) := by
 refine own_body (plainFor_of_name own_pn2) (fun m => ef_rm8_0 m o0) ?_
 intro p e s m below meth c s₁ hx hby hlk hml hret hZ hown hnm X0 e0
 have N0 := Fr.nil n0
 refine Home.run X0 hx hby sg8_0_1 (pc' := 1) (L' := #[sr o0]) (S' := [(.ref o0)]) rfl ?_
 refine Home.st (initO X0 hx hZ hown (own_w40 hw) (own_w23 hw) (own_w24 hw) e0 rfl (by rw [hml]; rfl) rfl (hb hby d8_1) (by decide) (W := 0) (by exact hW0) (by decide)) fun T1 X1 e1 => ?_
 exact Home.ret0 X1 hx hlk hret (hb hby d8_4) ⟨rfl, rfl, e1⟩ (by decide) (by decide)
theorem rm7_0 (l : Launch) (Z : State) (a0 : Array Value) (hw : HW a0 Z) (ws : List Jvm.Cond) (o0 o1 : Addr) (h0 : Heap) (n0 : Nat) (O0 : Old Z n0 h0) (E_o0 : Exa Z h0 o0 "com/example/wary_meter/warymeter/Column") (F_name_o0 : Fld Z h0 o0 "com/example/wary_meter/warymeter/Column" "name" "Ljava/lang/String;" .null) (g_o0 : n0 ≤ o0) (F_value_o0 : Fld Z h0 o0 "com/example/wary_meter/warymeter/Column" "value" "Ljava/util/function/Function;" .null) (F_key_o0 : Fld Z h0 o0 "com/example/wary_meter/warymeter/Column" "key" "Ljava/util/function/Function;" .null) (F_text_o0 : Fld Z h0 o0 "com/example/wary_meter/warymeter/Column" "text" "Ljava/util/function/Function;" .null) :
    Con l Z (⟨"com/example/wary_meter/warymeter/Column", "<init>", "(Ljava/lang/String;Ljava/util/function/Function;Ljava/util/function/Function;Ljava/util/function/Function;)V"⟩ : MethodName) prog_3_method_2_code 5 none ws ({ frames := 2, cells := 0, slots := 0, locals := 24 } : Room) #[(.ref o0), (.ref o1), .null, .null, .null] h0 (fun v h L => v = none ∧ Fr n0 L ∧ Keep h0 h [o0] ∧ Exa Z h o0 "com/example/wary_meter/warymeter/Column" ∧ Fld Z h o0 "com/example/wary_meter/warymeter/Column" "name" "Ljava/lang/String;" (.ref o1) ∧ Fld Z h o0 "com/example/wary_meter/warymeter/Column" "value" "Ljava/util/function/Function;" .null ∧ Fld Z h o0 "com/example/wary_meter/warymeter/Column" "key" "Ljava/util/function/Function;" .null ∧ Fld Z h o0 "com/example/wary_meter/warymeter/Column" "text" "Ljava/util/function/Function;" .null) := by
 refine own_body (plainFor_of_name own_pn3) (fun m => ef_rm7_0 m o0 o1) ?_
 intro p e s m below meth c s₁ hx hby hlk hml hret hZ hown hnm X0 e0
 have N0 := Fr.nil n0
 refine Home.run X0 hx hby sg7_0_1 (pc' := 1) (L' := #[sr o0, sr o1, .val .null, .val .null, .val .null]) (S' := [(.ref o0)]) rfl ?_
 refine Home.st (own_pure (own_special X0 hx hZ hown rfl (own_w35 hw) (own_w36 hw) (own_w38 hw) (own_w39 hw) (by decide) (rm8_0 l Z a0 hw [] o0 h0 n0 O0) e0 rfl (by rw [hml]; rfl) (a := o0) (argsL := []) (rest := []) (lenOf own_pd4 rfl) rfl rfl (W := 0) (by exact hW0) (by decide) (by decide) (hb hby d7_1) (by decide) (by decide))) fun T1 X1 e1 => ?_
 refine Home.run X1 hx hby sg7_4_2 (pc' := 6) (L' := #[sr o0, sr o1, .val .null, .val .null, .val .null]) (S' := [(.ref o1), (.ref o0)]) rfl ?_
 refine Home.wr (putF X1 hx hZ hown (host := "") (Or.inl (own_w41 hw)) Via.refl e1 F_name_o0 E_o0 (Or.inr ⟨(own_w42 hw), rfl, hnm⟩) (own_w1 hw) (ty := (.object "java/lang/String")) (by decide) rfl rfl rfl rfl (hb hby d7_6)) fun T2 h2 X2 e2 W2 => ?_
 have Fw2 := F_name_o0.same W2
 have O2 := O0.wr W2 g_o0
 have K2 : Keep h0 h2 ([o0] : List Addr) := Keep.wr (Keep.refl h0 ([o0] : List Addr)) W2 (Or.inl (List.mem_of_getElem? (i := 0) rfl))
 have N2 := Fr.snoc X2 N0 g_o0
 refine Home.run X2 hx hby sg7_9_2 (pc' := 11) (L' := #[sr o0, sr o1, .val .null, .val .null, .val .null]) (S' := [.null, (.ref o0)]) rfl ?_
 have q3 := (F_value_o0.other W2 (Or.inr (slot_ne (Or.inr (own_w44 hw)) (Or.inr (own_w42 hw)) (by decide) (t := (.object "java/util/function/Function")) (t' := (.object "java/lang/String")) (by decide) (by decide))))
 refine Home.wr (putF X2 hx hZ hown (host := "") (Or.inl (own_w43 hw)) Via.refl e2 q3 (E_o0.keep K2) (Or.inr ⟨(own_w44 hw), rfl, hnm⟩) (own_w1 hw) (ty := (.object "java/util/function/Function")) (by decide) rfl rfl rfl rfl (hb hby d7_11)) fun T4 h4 X4 e4 W4 => ?_
 have Fw4 := q3.same W4
 have O4 := O2.wr W4 g_o0
 have K4 : Keep h0 h4 ([o0] : List Addr) := Keep.wr K2 W4 (Or.inl (List.mem_of_getElem? (i := 0) rfl))
 have N4 := Fr.snoc X4 N2 g_o0
 show Home T4 (mkF m 14 #[sr o0, sr o1, .val .null, .val .null, .val .null] [])
 refine Home.run X4 hx hby sg7_14_2 (pc' := 16) (L' := #[sr o0, sr o1, .val .null, .val .null, .val .null]) (S' := [.null, (.ref o0)]) rfl ?_
 have q5 := ((F_key_o0.other W2 (Or.inr (slot_ne (Or.inr (own_w46 hw)) (Or.inr (own_w42 hw)) (by decide) (t := (.object "java/util/function/Function")) (t' := (.object "java/lang/String")) (by decide) (by decide)))).other W4 (Or.inr (slot_ne (Or.inr (own_w46 hw)) (Or.inr (own_w44 hw)) (by decide) (t := (.object "java/util/function/Function")) (t' := (.object "java/util/function/Function")) (by decide) (by decide))))
 refine Home.wr (putF X4 hx hZ hown (host := "") (Or.inl (own_w45 hw)) Via.refl e4 q5 (E_o0.keep K4) (Or.inr ⟨(own_w46 hw), rfl, hnm⟩) (own_w1 hw) (ty := (.object "java/util/function/Function")) (by decide) rfl rfl rfl rfl (hb hby d7_16)) fun T6 h6 X6 e6 W6 => ?_
 have Fw6 := q5.same W6
 have O6 := O4.wr W6 g_o0
 have K6 : Keep h0 h6 ([o0] : List Addr) := Keep.wr K4 W6 (Or.inl (List.mem_of_getElem? (i := 0) rfl))
 have N6 := Fr.snoc X6 N4 g_o0
 refine Home.run X6 hx hby sg7_19_2 (pc' := 22) (L' := #[sr o0, sr o1, .val .null, .val .null, .val .null]) (S' := [.null, (.ref o0)]) rfl ?_
 have q7 := (((F_text_o0.other W2 (Or.inr (slot_ne (Or.inr (own_w48 hw)) (Or.inr (own_w42 hw)) (by decide) (t := (.object "java/util/function/Function")) (t' := (.object "java/lang/String")) (by decide) (by decide)))).other W4 (Or.inr (slot_ne (Or.inr (own_w48 hw)) (Or.inr (own_w44 hw)) (by decide) (t := (.object "java/util/function/Function")) (t' := (.object "java/util/function/Function")) (by decide) (by decide)))).other W6 (Or.inr (slot_ne (Or.inr (own_w48 hw)) (Or.inr (own_w46 hw)) (by decide) (t := (.object "java/util/function/Function")) (t' := (.object "java/util/function/Function")) (by decide) (by decide))))
 refine Home.wr (putF X6 hx hZ hown (host := "") (Or.inl (own_w47 hw)) Via.refl e6 q7 (E_o0.keep K6) (Or.inr ⟨(own_w48 hw), rfl, hnm⟩) (own_w1 hw) (ty := (.object "java/util/function/Function")) (by decide) rfl rfl rfl rfl (hb hby d7_22)) fun T8 h8 X8 e8 W8 => ?_
 have Fw8 := q7.same W8
 have O8 := O6.wr W8 g_o0
 have K8 : Keep h0 h8 ([o0] : List Addr) := Keep.wr K6 W8 (Or.inl (List.mem_of_getElem? (i := 0) rfl))
 have N8 := Fr.snoc X8 N6 g_o0
 show Home T8 (mkF m 25 #[sr o0, sr o1, .val .null, .val .null, .val .null] [])
 have q9 := (((Fw2.other W4 (Or.inr (slot_ne (Or.inr (own_w42 hw)) (Or.inr (own_w44 hw)) (by decide) (t := (.object "java/lang/String")) (t' := (.object "java/util/function/Function")) (by decide) (by decide)))).other W6 (Or.inr (slot_ne (Or.inr (own_w42 hw)) (Or.inr (own_w46 hw)) (by decide) (t := (.object "java/lang/String")) (t' := (.object "java/util/function/Function")) (by decide) (by decide)))).other W8 (Or.inr (slot_ne (Or.inr (own_w42 hw)) (Or.inr (own_w48 hw)) (by decide) (t := (.object "java/lang/String")) (t' := (.object "java/util/function/Function")) (by decide) (by decide))))
 have q10 := ((Fw4.other W6 (Or.inr (slot_ne (Or.inr (own_w44 hw)) (Or.inr (own_w46 hw)) (by decide) (t := (.object "java/util/function/Function")) (t' := (.object "java/util/function/Function")) (by decide) (by decide)))).other W8 (Or.inr (slot_ne (Or.inr (own_w44 hw)) (Or.inr (own_w48 hw)) (by decide) (t := (.object "java/util/function/Function")) (t' := (.object "java/util/function/Function")) (by decide) (by decide))))
 have q11 := (Fw6.other W8 (Or.inr (slot_ne (Or.inr (own_w46 hw)) (Or.inr (own_w48 hw)) (by decide) (t := (.object "java/util/function/Function")) (t' := (.object "java/util/function/Function")) (by decide) (by decide))))
 exact Home.ret0 X8 hx hlk hret (hb hby d7_25) (by rw [show T8.heap = h8 from e8]; exact ⟨rfl, N8, K8, (E_o0.keep K8), q9, q10, q11, Fw8⟩) (by decide) (by decide)
theorem rm6_0 (l : Launch) (Z : State) (a0 : Array Value) (hw : HW a0 Z) (ws : List Jvm.Cond) (o0 o1 : Addr) (h0 : Heap) (n0 : Nat) (O0 : Old Z n0 h0) (E_o0 : Exa Z h0 o0 "com/example/wary_meter/warymeter/Column") (F_name_o0 : Fld Z h0 o0 "com/example/wary_meter/warymeter/Column" "name" "Ljava/lang/String;" .null) (F_value_o0 : Fld Z h0 o0 "com/example/wary_meter/warymeter/Column" "value" "Ljava/util/function/Function;" .null) (F_key_o0 : Fld Z h0 o0 "com/example/wary_meter/warymeter/Column" "key" "Ljava/util/function/Function;" .null) (F_text_o0 : Fld Z h0 o0 "com/example/wary_meter/warymeter/Column" "text" "Ljava/util/function/Function;" .null) (g_o0 : n0 ≤ o0) :
    Con l Z (⟨"com/example/wary_meter/warymeter/Column", "<init>", "(Ljava/lang/String;Ljava/util/function/Function;)V"⟩ : MethodName) prog_3_method_1_code 3 none ws ({ frames := 3, cells := 0, slots := 0, locals := 40 } : Room) #[(.ref o0), (.ref o1), .null] h0 (fun v h L => v = none ∧ Fr n0 L ∧ Keep h0 h [o0] ∧ Exa Z h o0 "com/example/wary_meter/warymeter/Column" ∧ Fld Z h o0 "com/example/wary_meter/warymeter/Column" "name" "Ljava/lang/String;" (.ref o1) ∧ Fld Z h o0 "com/example/wary_meter/warymeter/Column" "value" "Ljava/util/function/Function;" .null ∧ Fld Z h o0 "com/example/wary_meter/warymeter/Column" "key" "Ljava/util/function/Function;" .null ∧ Fld Z h o0 "com/example/wary_meter/warymeter/Column" "text" "Ljava/util/function/Function;" .null) := by
 refine own_body (plainFor_of_name own_pn3) (fun m => ef_rm6_0 m o0 o1) ?_
 intro p e s m below meth c s₁ hx hby hlk hml hret hZ hown hnm X0 e0
 have N0 := Fr.nil n0
 refine Home.run X0 hx hby sg6_0_5 (pc' := 5) (L' := #[sr o0, sr o1, .val .null]) (S' := [.null, .null, .null, (.ref o1), (.ref o0)]) rfl ?_
 refine Home.call (own_special X0 hx hZ hown rfl (own_w32 hw) (own_w33 hw) (own_w2 hw) (own_w34 hw) (by decide) (rm7_0 l Z a0 hw [] o0 o1 h0 n0 O0 E_o0 F_name_o0 g_o0 F_value_o0 F_key_o0 F_text_o0) e0 rfl (by rw [hml]; rfl) (a := o0) (argsL := [(.ref o1), .null, .null, .null]) (rest := []) (lenOf own_pd5 rfl) rfl rfl (W := 0) (by exact hW0) (by decide) (by decide) (hb hby d6_5) (by decide) (by decide)) ?_
 rintro _ T1 L1 X1 ⟨rfl, N1q, K1q, P1_0, P1_1, P1_2, P1_3, P1_4⟩
 have O1 := Old.keep O0 K1q (allS g_o0 all0)
 have K1 : Keep h0 T1.heap ([o0] : List Addr) := Keep.trans (Keep.refl h0 ([o0] : List Addr)) K1q (allS (Or.inl (List.mem_of_getElem? (i := 0) rfl)) all0)
 have N1 := Fr.app N0 N1q
 exact Home.ret0 X1 hx hlk hret (hb hby d6_8) ⟨rfl, N1, K1, P1_0, P1_1, P1_2, P1_3, P1_4⟩ (by decide) (by decide)
theorem rm11_0 (l : Launch) (Z : State) (a0 : Array Value) (hw : HW a0 Z) (ws : List Jvm.Cond) (o0 : Addr) (h0 : Heap) (n0 : Nat) (O0 : Old Z n0 h0) :
    Con l Z (⟨"java/util/AbstractCollection", "<init>", "()V"⟩ : MethodName) jdk_22_method_1_code 1 none ws ({ frames := 1, cells := 0, slots := 0, locals := 12 } : Room) #[(.ref o0)] h0 (Pur none h0) := by
 refine own_body (plainFor_of_name own_pn4) (fun m => ef_rm11_0 m o0) ?_
 intro p e s m below meth c s₁ hx hby hlk hml hret hZ hown hnm X0 e0
 have N0 := Fr.nil n0
 refine Home.run X0 hx hby sg11_0_1 (pc' := 1) (L' := #[sr o0]) (S' := [(.ref o0)]) rfl ?_
 refine Home.st (initO X0 hx hZ hown (own_w67 hw) (own_w23 hw) (own_w24 hw) e0 rfl (by rw [hml]; rfl) rfl (hb hby d11_1) (by decide) (W := 0) (by exact hW0) (by decide)) fun T1 X1 e1 => ?_
 exact Home.ret0 X1 hx hlk hret (hb hby d11_4) ⟨rfl, rfl, e1⟩ (by decide) (by decide)
theorem rm10_0 (l : Launch) (Z : State) (a0 : Array Value) (hw : HW a0 Z) (ws : List Jvm.Cond) (o0 : Addr) (h0 : Heap) (n0 : Nat) (O0 : Old Z n0 h0) (E_o0 : Exa Z h0 o0 "java/util/ArrayList") (F_modCount_o0 : Fld Z h0 o0 "java/util/AbstractList" "modCount" "I" (.int (0 : Int32))) (g_o0 : n0 ≤ o0) (F_elementData_o0 : Fld Z h0 o0 "java/util/ArrayList" "elementData" "[Ljava/lang/Object;" .null) (F_size_o0 : Fld Z h0 o0 "java/util/ArrayList" "size" "I" (.int (0 : Int32))) :
    Con l Z (⟨"java/util/AbstractList", "<init>", "()V"⟩ : MethodName) jdk_39_method_1_code 1 none ws ({ frames := 2, cells := 0, slots := 0, locals := 24 } : Room) #[(.ref o0)] h0 (fun v h L => v = none ∧ Fr n0 L ∧ Keep h0 h [o0] ∧ Exa Z h o0 "java/util/ArrayList" ∧ Fld Z h o0 "java/util/AbstractList" "modCount" "I" (.int (0 : Int32)) ∧ Fld Z h o0 "java/util/ArrayList" "elementData" "[Ljava/lang/Object;" .null ∧ Fld Z h o0 "java/util/ArrayList" "size" "I" (.int (0 : Int32))) := by
 refine own_body (plainFor_of_name own_pn5) (fun m => ef_rm10_0 m o0) ?_
 intro p e s m below meth c s₁ hx hby hlk hml hret hZ hown hnm X0 e0
 have N0 := Fr.nil n0
 refine Home.run X0 hx hby sg10_0_1 (pc' := 1) (L' := #[sr o0]) (S' := [(.ref o0)]) rfl ?_
 refine Home.st (own_pure (own_special X0 hx hZ hown rfl (own_w61 hw) (own_w62 hw) (own_w65 hw) (own_w66 hw) (by decide) (rm11_0 l Z a0 hw [] o0 h0 n0 O0) e0 rfl (by rw [hml]; rfl) (a := o0) (argsL := []) (rest := []) (lenOf own_pd4 rfl) rfl rfl (W := 0) (by exact hW0) (by decide) (by decide) (hb hby d10_1) (by decide) (by decide))) fun T1 X1 e1 => ?_
 refine Home.run X1 hx hby sg10_4_2 (pc' := 6) (L' := #[sr o0]) (S' := [(.int (0 : Int32)), (.ref o0)]) rfl ?_
 refine Home.wr (putF X1 hx hZ hown (host := "") (Or.inl (own_w68 hw)) Via.refl e1 F_modCount_o0 E_o0 (Or.inl (own_w69 hw)) (own_w50 hw) (ty := .int) (by decide) rfl rfl rfl rfl (hb hby d10_6)) fun T2 h2 X2 e2 W2 => ?_
 have Fw2 := F_modCount_o0.same W2
 have O2 := O0.wr W2 g_o0
 have K2 : Keep h0 h2 ([o0] : List Addr) := Keep.wr (Keep.refl h0 ([o0] : List Addr)) W2 (Or.inl (List.mem_of_getElem? (i := 0) rfl))
 have N2 := Fr.snoc X2 N0 g_o0
 have q3 := (F_elementData_o0.other W2 (Or.inr (slot_ne (Or.inl (own_w72 hw)) (Or.inl (own_w69 hw)) (by decide) (t := (.array (.object "java/lang/Object"))) (t' := .int) (by decide) (by decide))))
 have q4 := (F_size_o0.other W2 (Or.inr (slot_ne (Or.inl (own_w85 hw)) (Or.inl (own_w69 hw)) (by decide) (t := .int) (t' := .int) (by decide) (by decide))))
 exact Home.ret0 X2 hx hlk hret (hb hby d10_9) (by rw [show T2.heap = h2 from e2]; exact ⟨rfl, N2, K2, (E_o0.keep K2), Fw2, q3, q4⟩) (by decide) (by decide)
theorem rm9_0 (l : Launch) (Z : State) (a0 : Array Value) (hw : HW a0 Z) (ws : List Jvm.Cond) (o0 sv_DEFAULTCAPACITY_EMPTY_ELEMENTDATA : Addr) (h0 : Heap) (n0 : Nat) (O0 : Old Z n0 h0) (E_o0 : Exa Z h0 o0 "java/util/ArrayList") (F_modCount_o0 : Fld Z h0 o0 "java/util/AbstractList" "modCount" "I" (.int (0 : Int32))) (F_elementData_o0 : Fld Z h0 o0 "java/util/ArrayList" "elementData" "[Ljava/lang/Object;" .null) (F_size_o0 : Fld Z h0 o0 "java/util/ArrayList" "size" "I" (.int (0 : Int32))) (g_o0 : n0 ≤ o0) (S_DEFAULTCAPACITY_EMPTY_ELEMENTDATA : Sta Z Z.heap "java/util/ArrayList" "DEFAULTCAPACITY_EMPTY_ELEMENTDATA" "[Ljava/lang/Object;" (.ref sv_DEFAULTCAPACITY_EMPTY_ELEMENTDATA)) :
    Con l Z (⟨"java/util/ArrayList", "<init>", "()V"⟩ : MethodName) jdk_38_method_2_code 1 none ws ({ frames := 3, cells := 0, slots := 0, locals := 36 } : Room) #[(.ref o0)] h0 (fun v h L => v = none ∧ Fr n0 L ∧ Keep h0 h [o0] ∧ Exa Z h o0 "java/util/ArrayList" ∧ Fld Z h o0 "java/util/AbstractList" "modCount" "I" (.int (0 : Int32)) ∧ Fld Z h o0 "java/util/ArrayList" "elementData" "[Ljava/lang/Object;" (.ref sv_DEFAULTCAPACITY_EMPTY_ELEMENTDATA) ∧ Fld Z h o0 "java/util/ArrayList" "size" "I" (.int (0 : Int32))) := by
 refine own_body (plainFor_of_name own_pn6) (fun m => ef_rm9_0 m o0) ?_
 intro p e s m below meth c s₁ hx hby hlk hml hret hZ hown hnm X0 e0
 have N0 := Fr.nil n0
 refine Home.run X0 hx hby sg9_0_1 (pc' := 1) (L' := #[sr o0]) (S' := [(.ref o0)]) rfl ?_
 refine Home.call (own_special X0 hx hZ hown rfl (own_w55 hw) (own_w56 hw) (own_w59 hw) (own_w60 hw) (by decide) (rm10_0 l Z a0 hw [] o0 h0 n0 O0 E_o0 F_modCount_o0 g_o0 F_elementData_o0 F_size_o0) e0 rfl (by rw [hml]; rfl) (a := o0) (argsL := []) (rest := []) (lenOf own_pd4 rfl) rfl rfl (W := 0) (by exact hW0) (by decide) (by decide) (hb hby d9_1) (by decide) (by decide)) ?_
 rintro _ T1 L1 X1 ⟨rfl, N1q, K1q, P1_0, P1_1, P1_2, P1_3⟩
 have O1 := Old.keep O0 K1q (allS g_o0 all0)
 have K1 : Keep h0 T1.heap ([o0] : List Addr) := Keep.trans (Keep.refl h0 ([o0] : List Addr)) K1q (allS (Or.inl (List.mem_of_getElem? (i := 0) rfl)) all0)
 have N1 := Fr.app N0 N1q
 refine Home.run X1 hx hby sg9_4_1 (pc' := 5) (L' := #[sr o0]) (S' := [(.ref o0)]) rfl ?_
 refine Home.st (getS2 X1 hx hZ hown (host := "") (Or.inl (own_w70 hw)) Via.refl rfl (S_DEFAULTCAPACITY_EMPTY_ELEMENTDATA.ext O1.2) rfl (hb hby d9_5)) fun T2 X2 e2 => ?_
 refine Home.wr (putF X2 hx hZ hown (host := "") (Or.inl (own_w71 hw)) Via.refl e2 P1_2 P1_0 (Or.inl (own_w72 hw)) (own_w50 hw) (ty := (.array (.object "java/lang/Object"))) (by decide) rfl rfl rfl rfl (hb hby d9_8)) fun T3 h3 X3 e3 W3 => ?_
 have Fw3 := P1_2.same W3
 have O3 := O1.wr W3 g_o0
 have K3 : Keep h0 h3 ([o0] : List Addr) := Keep.wr K1 W3 (Or.inl (List.mem_of_getElem? (i := 0) rfl))
 have N3 := Fr.snoc X3 N1 g_o0
 have q4 := (P1_1.other W3 (Or.inr (slot_ne (Or.inl (own_w69 hw)) (Or.inl (own_w72 hw)) (by decide) (t := .int) (t' := (.array (.object "java/lang/Object"))) (by decide) (by decide))))
 have q5 := (P1_3.other W3 (Or.inr (slot_ne (Or.inl (own_w85 hw)) (Or.inl (own_w72 hw)) (by decide) (t := .int) (t' := (.array (.object "java/lang/Object"))) (by decide) (by decide))))
 exact Home.ret0 X3 hx hlk hret (hb hby d9_11) (by rw [show T3.heap = h3 from e3]; exact ⟨rfl, N3, K3, (E_o0.keep K3), q4, Fw3, q5⟩) (by decide) (by decide)
theorem rm17_0 (l : Launch) (Z : State) (a0 : Array Value) (hw : HW a0 Z) (ws : List Jvm.Cond) (i0 : Int32) (h0 : Heap) (n0 : Nat) (O0 : Old Z n0 h0) :
    Con l Z (⟨"com/example/wary_meter/warymeter/ColumnPickPinLaw", "sel", "(II)I"⟩ : MethodName) method_2_code 2 (some .int) ws ({ frames := 0, cells := 0, slots := 0, locals := 0 } : Room) #[(.int i0), (.int (0 : Int32))] h0 (Pur (some (.int (0 : Int32))) h0) := by
 refine own_body (plainFor_of_name own_pn7) (fun m => ef_rm17_0 m i0 (0 : Int32)) ?_
 intro p e s m below meth c s₁ hx hby hlk hml hret hZ hown hnm X0 e0
 have N0 := Fr.nil n0
 refine Home.run X0 hx hby sg17_0_1 (pc' := 1) (L' := #[.val (.int i0), .val (.int (0 : Int32))]) (S' := [(.int (0 : Int32))]) rfl ?_
 refine Home.go (fun _ => XS.ifNo X0.here hx rfl (hb hby d17_1) rfl ((if0 _ _).trans (teq (by decide)).2)) ?_
 refine Home.run X0 hx hby sg17_4_1 (pc' := 5) (L' := #[.val (.int i0), .val (.int (0 : Int32))]) (S' := [(.int (0 : Int32))]) rfl ?_
 exact Home.retI X0 hx hlk hret (hb hby d17_5) ⟨rfl, rfl, e0⟩ (by decide) (by decide)
theorem rm18_0 (l : Launch) (Z : State) (a0 : Array Value) (hw : HW a0 Z) (ws : List Jvm.Cond) (i0 i1 i2 : Int32) (h0 : Heap) (n0 : Nat) (O0 : Old Z n0 h0) (bnd_i0 : ¬ i0 < (0 : Int32) ∧ ¬ (255 : Int32) < i0) (bnd_i1 : ¬ i1 < (0 : Int32) ∧ ¬ (255 : Int32) < i1) (bnd_i2 : ¬ i2 < (0 : Int32) ∧ ¬ (255 : Int32) < i2) :
    Con l Z (⟨"com/example/wary_meter/warymeter/ColumnPickPinLaw", "charAt", "(CCCI)C"⟩ : MethodName) method_3_code 4 (some .char) ws ({ frames := 0, cells := 0, slots := 0, locals := 0 } : Room) #[(.int i0), (.int i1), (.int i2), (.int (0 : Int32))] h0 (Pur (some (.int i0)) h0) := by
 refine own_body (plainFor_of_name own_pn7) (fun m => ef_rm18_0 m i0 i1 i2 (0 : Int32)) ?_
 intro p e s m below meth c s₁ hx hby hlk hml hret hZ hown hnm X0 e0
 have N0 := Fr.nil n0
 refine Home.run X0 hx hby sg18_0_2 (pc' := 2) (L' := #[.val (.int i0), .val (.int i1), .val (.int i2), .val (.int (0 : Int32))]) (S' := [(.int (2 : Int32)), (.int (0 : Int32))]) rfl ?_
 refine Home.go (fun _ => XS.icmpYes X0.here hx rfl (pc0 := 2) (pc' := 7) rfl (hb hby d18_2) rfl (feq (by decide)).2 (by decide) (by decide)) ?_
 refine Home.run X0 hx hby sg18_7_2 (pc' := 9) (L' := #[.val (.int i0), .val (.int i1), .val (.int i2), .val (.int (0 : Int32))]) (S' := [(.int (1 : Int32)), (.int (0 : Int32))]) rfl ?_
 refine Home.go (fun _ => XS.icmpYes X0.here hx rfl (pc0 := 9) (pc' := 14) rfl (hb hby d18_9) rfl (feq (by decide)).2 (by decide) (by decide)) ?_
 refine Home.run X0 hx hby sg18_14_1 (pc' := 15) (L' := #[.val (.int i0), .val (.int i1), .val (.int i2), .val (.int (0 : Int32))]) (S' := [(.int i0)]) rfl ?_
 exact Home.retN X0 hx hlk (t := .char) hret (by simp) (hb hby d18_15) ⟨congrArg some (congrArg Value.int (by first | rfl | exact nar_i2c _ | exact nar_i2b _ | exact nar_char_id bnd_i0 (by decide +kernel) (by decide +kernel))), rfl, e0⟩ (by decide) (by decide)
theorem rm21_0 (l : Launch) (Z : State) (a0 : Array Value) (hw : HW a0 Z) (ws : List Jvm.Cond) (o0 o1 : Addr) (h0 : Heap) (n0 : Nat) (O0 : Old Z n0 h0) (E_o0 : Exa Z h0 o0 "java/util/ArrayList$Itr") (F_this_0_o0 : Fld Z h0 o0 "java/util/ArrayList$Itr" "this$0" "Ljava/util/ArrayList;" .null) (g_o0 : n0 ≤ o0) (F_lastRet_o0 : Fld Z h0 o0 "java/util/ArrayList$Itr" "lastRet" "I" (.int (0 : Int32))) (F_modCount_o1 : Fld Z h0 o1 "java/util/AbstractList" "modCount" "I" (.int (0 : Int32))) (E_o1 : Exa Z h0 o1 "java/util/ArrayList") (F_expectedModCount_o0 : Fld Z h0 o0 "java/util/ArrayList$Itr" "expectedModCount" "I" (.int (0 : Int32))) (F_cursor_o0 : Fld Z h0 o0 "java/util/ArrayList$Itr" "cursor" "I" (.int (0 : Int32))) :
    Con l Z (⟨"java/util/ArrayList$Itr", "<init>", "(Ljava/util/ArrayList;)V"⟩ : MethodName) jdk_49_method_1_code 2 none ws ({ frames := 1, cells := 0, slots := 0, locals := 12 } : Room) #[(.ref o0), (.ref o1)] h0 (fun v h L => v = none ∧ Fr n0 L ∧ Keep h0 h [o0] ∧ Exa Z h o0 "java/util/ArrayList$Itr" ∧ Fld Z h o0 "java/util/ArrayList$Itr" "this$0" "Ljava/util/ArrayList;" (.ref o1) ∧ Fld Z h o0 "java/util/ArrayList$Itr" "lastRet" "I" (.int (-1 : Int32)) ∧ Fld Z h o0 "java/util/ArrayList$Itr" "expectedModCount" "I" (.int (0 : Int32)) ∧ Fld Z h o0 "java/util/ArrayList$Itr" "cursor" "I" (.int (0 : Int32))) := by
 refine own_body (plainFor_of_name own_pn8) (fun m => ef_rm21_0 m o0 o1) ?_
 intro p e s m below meth c s₁ hx hby hlk hml hret hZ hown hnm X0 e0
 have N0 := Fr.nil n0
 refine Home.run X0 hx hby sg21_0_2 (pc' := 2) (L' := #[sr o0, sr o1]) (S' := [(.ref o1), (.ref o0)]) rfl ?_
 refine Home.wr (putF X0 hx hZ hown (host := "") (Or.inl (own_w135 hw)) Via.refl e0 F_this_0_o0 E_o0 (Or.inr ⟨(own_w136 hw), rfl, hnm⟩) (own_w129 hw) (ty := (.object "java/util/ArrayList")) (by decide) rfl rfl rfl rfl (hb hby d21_2)) fun T1 h1 X1 e1 W1 => ?_
 have Fw1 := F_this_0_o0.same W1
 have O1 := O0.wr W1 g_o0
 have K1 : Keep h0 h1 ([o0] : List Addr) := Keep.wr (Keep.refl h0 ([o0] : List Addr)) W1 (Or.inl (List.mem_of_getElem? (i := 0) rfl))
 have N1 := Fr.snoc X1 N0 g_o0
 refine Home.run X1 hx hby sg21_5_1 (pc' := 6) (L' := #[sr o0, sr o1]) (S' := [(.ref o0)]) rfl ?_
 refine Home.st (initO X1 hx hZ hown (own_w137 hw) (own_w23 hw) (own_w24 hw) e1 rfl (by rw [hml]; rfl) rfl (hb hby d21_6) (by decide) (W := 0) (by exact hW0) (by decide)) fun T2 X2 e2 => ?_
 refine Home.run X2 hx hby sg21_9_2 (pc' := 11) (L' := #[sr o0, sr o1]) (S' := [(.int (-1 : Int32)), (.ref o0)]) rfl ?_
 have q3 := (F_lastRet_o0.other W1 (Or.inr (slot_ne (Or.inl (own_w139 hw)) (Or.inr (own_w136 hw)) (by decide) (t := .int) (t' := (.object "java/util/ArrayList")) (by decide) (by decide))))
 refine Home.wr (putF X2 hx hZ hown (host := "") (Or.inl (own_w138 hw)) Via.refl e2 q3 (E_o0.keep K1) (Or.inl (own_w139 hw)) (own_w129 hw) (ty := .int) (by decide) rfl rfl rfl rfl (hb hby d21_11)) fun T4 h4 X4 e4 W4 => ?_
 have Fw4 := q3.same W4
 have O4 := O1.wr W4 g_o0
 have K4 : Keep h0 h4 ([o0] : List Addr) := Keep.wr K1 W4 (Or.inl (List.mem_of_getElem? (i := 0) rfl))
 have N4 := Fr.snoc X4 N1 g_o0
 show Home T4 (mkF m 14 #[sr o0, sr o1] [])
 refine Home.run X4 hx hby sg21_14_2 (pc' := 16) (L' := #[sr o0, sr o1]) (S' := [(.ref o0), (.ref o0)]) rfl ?_
 have q5 := (Fw1.other W4 (Or.inr (slot_ne (Or.inr (own_w136 hw)) (Or.inl (own_w139 hw)) (by decide) (t := (.object "java/util/ArrayList")) (t' := .int) (by decide) (by decide))))
 refine Home.st (getF X4 hx hZ hown (host := "") (Or.inl (own_w135 hw)) Via.refl e4 q5 rfl rfl (hb hby d21_16)) fun T6 X6 e6 => ?_
 have ne7 : o1 ≠ o0 := (ne_exa (E_o1.keep K4) (E_o0.keep K4) (by decide))
 have q8 := (F_modCount_o1.keep K4 (ninS ne7 nin0))
 refine Home.st (getF X6 hx hZ hown (host := "") (Or.inl (own_w140 hw)) (Via.of (own_w83 hw)) e6 q8 rfl rfl (hb hby d21_19)) fun T9 X9 e9 => ?_
 have q10 := ((F_expectedModCount_o0.other W1 (Or.inr (slot_ne (Or.inl (own_w142 hw)) (Or.inr (own_w136 hw)) (by decide) (t := .int) (t' := (.object "java/util/ArrayList")) (by decide) (by decide)))).other W4 (Or.inr (slot_ne (Or.inl (own_w142 hw)) (Or.inl (own_w139 hw)) (by decide) (t := .int) (t' := .int) (by decide) (by decide))))
 refine Home.wr (putF X9 hx hZ hown (host := "") (Or.inl (own_w141 hw)) Via.refl e9 q10 (E_o0.keep K4) (Or.inl (own_w142 hw)) (own_w129 hw) (ty := .int) (by decide) rfl rfl rfl rfl (hb hby d21_22)) fun T11 h11 X11 e11 W11 => ?_
 have Fw11 := q10.same W11
 have O11 := O4.wr W11 g_o0
 have K11 : Keep h0 h11 ([o0] : List Addr) := Keep.wr K4 W11 (Or.inl (List.mem_of_getElem? (i := 0) rfl))
 have N11 := Fr.snoc X11 N4 g_o0
 have q12 := (q5.other W11 (Or.inr (slot_ne (Or.inr (own_w136 hw)) (Or.inl (own_w142 hw)) (by decide) (t := (.object "java/util/ArrayList")) (t' := .int) (by decide) (by decide))))
 have q13 := (Fw4.other W11 (Or.inr (slot_ne (Or.inl (own_w139 hw)) (Or.inl (own_w142 hw)) (by decide) (t := .int) (t' := .int) (by decide) (by decide))))
 have q14 := (((F_cursor_o0.other W1 (Or.inr (slot_ne (Or.inl (own_w153 hw)) (Or.inr (own_w136 hw)) (by decide) (t := .int) (t' := (.object "java/util/ArrayList")) (by decide) (by decide)))).other W4 (Or.inr (slot_ne (Or.inl (own_w153 hw)) (Or.inl (own_w139 hw)) (by decide) (t := .int) (t' := .int) (by decide) (by decide)))).other W11 (Or.inr (slot_ne (Or.inl (own_w153 hw)) (Or.inl (own_w142 hw)) (by decide) (t := .int) (t' := .int) (by decide) (by decide))))
 exact Home.ret0 X11 hx hlk hret (hb hby d21_25) (by rw [show T11.heap = h11 from e11]; exact ⟨rfl, N11, K11, (E_o0.keep K11), q12, q13, Fw11, q14⟩) (by decide) (by decide)
theorem rm20_0 (l : Launch) (Z : State) (a0 : Array Value) (hw : HW a0 Z) (ws : List Jvm.Cond) (o0 : Addr) (h0 : Heap) (n0 : Nat) (O0 : Old Z n0 h0) (F_modCount_o0 : Fld Z h0 o0 "java/util/AbstractList" "modCount" "I" (.int (0 : Int32))) (E_o0 : Exa Z h0 o0 "java/util/ArrayList") :
    Con l Z (⟨"java/util/ArrayList", "iterator", "()Ljava/util/Iterator;"⟩ : MethodName) jdk_38_method_55_code 1 (some (.object "java/util/Iterator")) ws ({ frames := 2, cells := 1, slots := 4, locals := 26 } : Room) #[(.ref o0)] h0 (fun v h L => ∃ (b1 : Addr), v = some (.ref b1) ∧ Fr n0 L ∧ h0.size ≤ b1 ∧ Keep h0 h [] ∧ Exa Z h b1 "java/util/ArrayList$Itr" ∧ Fld Z h b1 "java/util/ArrayList$Itr" "this$0" "Ljava/util/ArrayList;" (.ref o0) ∧ Fld Z h b1 "java/util/ArrayList$Itr" "lastRet" "I" (.int (-1 : Int32)) ∧ Fld Z h b1 "java/util/ArrayList$Itr" "expectedModCount" "I" (.int (0 : Int32)) ∧ Fld Z h b1 "java/util/ArrayList$Itr" "cursor" "I" (.int (0 : Int32))) := by
 refine own_body (plainFor_of_name own_pn6) (fun m => ef_rm20_0 m o0) ?_
 intro p e s m below meth c s₁ hx hby hlk hml hret hZ hown hnm X0 e0
 have N0 := Fr.nil n0
 refine Home.nw (own_newO X0 hx hZ hown (own_w128 hw) (own_w129 hw) (own_w130 hw) e0 rfl (hb hby d20_0) (by decide) (by decide)) fun T1 h1 b1 g1 X1 e1 E1 A1 D1 => ?_
 have g_b1 : n0 ≤ b1 := Nat.le_trans (Old.le O0) (Nat.le_of_eq g1.symm)
 have F_this_0_b1 : Fld Z h1 b1 "java/util/ArrayList$Itr" "this$0" "Ljava/util/ArrayList;" .null := D1 (Or.inr (own_w136 hw)) (ty := (.object "java/util/ArrayList")) (by decide)
 have F_lastRet_b1 : Fld Z h1 b1 "java/util/ArrayList$Itr" "lastRet" "I" (.int (0 : Int32)) := D1 (Or.inl (own_w139 hw)) (ty := .int) (by decide)
 have F_expectedModCount_b1 : Fld Z h1 b1 "java/util/ArrayList$Itr" "expectedModCount" "I" (.int (0 : Int32)) := D1 (Or.inl (own_w142 hw)) (ty := .int) (by decide)
 have F_cursor_b1 : Fld Z h1 b1 "java/util/ArrayList$Itr" "cursor" "I" (.int (0 : Int32)) := D1 (Or.inl (own_w153 hw)) (ty := .int) (by decide)
 have O1 := O0.ext E1
 have K1 : Keep h0 h1 ([] : List Addr) := Keep.ext (Keep.refl h0 ([] : List Addr)) E1
 refine Home.run X1 hx hby sg20_3_2 (pc' := 5) (L' := #[sr o0]) (S' := [(.ref o0), (.ref b1), (.ref b1)]) rfl ?_
 refine Home.call (own_special X1 hx hZ hown rfl (own_w131 hw) (own_w132 hw) (own_w130 hw) (own_w134 hw) (by decide) (rm21_0 l Z a0 hw [] b1 o0 h1 n0 O1 A1 F_this_0_b1 g_b1 F_lastRet_b1 (F_modCount_o0.keep K1 nin0) (E_o0.keep K1) F_expectedModCount_b1 F_cursor_b1) e1 rfl (by rw [hml]; rfl) (a := b1) (argsL := [(.ref o0)]) (rest := [(.ref b1)]) (lenOf own_pd9 rfl) rfl rfl (W := 1) (by exact hW0) (by decide) (by decide) (hb hby d20_5) (by decide) (by decide)) ?_
 rintro _ T2 L2 X2 ⟨rfl, N2q, K2q, P2_0, P2_1, P2_2, P2_3, P2_4⟩
 have O2 := Old.keep O1 K2q (allS g_b1 all0)
 have K2 : Keep h0 T2.heap ([] : List Addr) := Keep.trans K1 K2q (allS (Or.inr (Nat.le_trans (Nat.le_refl _) (Nat.le_of_eq g1.symm))) all0)
 have N2 := Fr.app N0 N2q
 show Home T2 (mkF m 8 #[sr o0] [(.ref b1)])
 exact Home.retR X2 hx hlk hret rfl rfl (hb hby d20_8) ⟨b1, rfl, N2, (Nat.le_trans (Nat.le_refl _) (Nat.le_of_eq g1.symm)), K2, P2_0, P2_1, P2_2, P2_3, P2_4⟩ (by decide) (by decide)
theorem rm22_0 (l : Launch) (Z : State) (a0 : Array Value) (hw : HW a0 Z) (ws : List Jvm.Cond) (o0 p2 : Addr) (h0 : Heap) (n0 : Nat) (O0 : Old Z n0 h0) (F_cursor_o0 : Fld Z h0 o0 "java/util/ArrayList$Itr" "cursor" "I" (.int (0 : Int32))) (F_this_0_o0 : Fld Z h0 o0 "java/util/ArrayList$Itr" "this$0" "Ljava/util/ArrayList;" (.ref p2)) (F_size_p2 : Fld Z h0 p2 "java/util/ArrayList" "size" "I" (.int (0 : Int32))) :
    Con l Z (⟨"java/util/ArrayList$Itr", "hasNext", "()Z"⟩ : MethodName) jdk_49_method_2_code 1 (some .boolean) ws ({ frames := 0, cells := 0, slots := 0, locals := 0 } : Room) #[(.ref o0)] h0 (Pur (some (.int (0 : Int32))) h0) := by
 refine own_body (plainFor_of_name own_pn8) (fun m => ef_rm22_0 m o0) ?_
 intro p e s m below meth c s₁ hx hby hlk hml hret hZ hown hnm X0 e0
 have N0 := Fr.nil n0
 refine Home.run X0 hx hby sg22_0_1 (pc' := 1) (L' := #[sr o0]) (S' := [(.ref o0)]) rfl ?_
 refine Home.st (getF X0 hx hZ hown (host := "") (Or.inl (own_w152 hw)) Via.refl e0 F_cursor_o0 rfl rfl (hb hby d22_1)) fun T1 X1 e1 => ?_
 refine Home.run X1 hx hby sg22_4_1 (pc' := 5) (L' := #[sr o0]) (S' := [(.ref o0), (.int (0 : Int32))]) rfl ?_
 refine Home.st (getF X1 hx hZ hown (host := "") (Or.inl (own_w135 hw)) Via.refl e1 F_this_0_o0 rfl rfl (hb hby d22_5)) fun T2 X2 e2 => ?_
 refine Home.st (getF X2 hx hZ hown (Or.inr (own_w154 hw)) Via.refl e2 F_size_p2 rfl rfl (hb hby d22_8)) fun T3 X3 e3 => ?_
 refine Home.go (fun _ => XS.icmpYes X3.here hx rfl (pc0 := 11) (pc' := 18) rfl (hb hby d22_11) rfl (teq (by decide)).1 (by decide) (by decide)) ?_
 refine Home.run X3 hx hby sg22_18_1 (pc' := 19) (L' := #[sr o0]) (S' := [(.int (0 : Int32))]) rfl ?_
 exact Home.retN X3 hx hlk (t := .boolean) hret (by simp) (hb hby d22_19) ⟨congrArg some (congrArg Value.int (by first | rfl | exact nar_i2c _ | exact nar_i2b _)), rfl, e3⟩ (by decide) (by decide)
theorem rm19_0 (l : Launch) (Z : State) (a0 : Array Value) (hw : HW a0 Z) (ws : List Jvm.Cond) (o0 o1 sv_DEFAULTCAPACITY_EMPTY_ELEMENTDATA : Addr) (h0 : Heap) (n0 : Nat) (O0 : Old Z n0 h0) (S_DEFAULTCAPACITY_EMPTY_ELEMENTDATA : Sta Z Z.heap "java/util/ArrayList" "DEFAULTCAPACITY_EMPTY_ELEMENTDATA" "[Ljava/lang/Object;" (.ref sv_DEFAULTCAPACITY_EMPTY_ELEMENTDATA)) (E_o1 : Exa Z h0 o1 "java/util/ArrayList") (F_modCount_o1 : Fld Z h0 o1 "java/util/AbstractList" "modCount" "I" (.int (0 : Int32))) (F_size_o1 : Fld Z h0 o1 "java/util/ArrayList" "size" "I" (.int (0 : Int32))) :
    Con l Z (⟨"com/example/wary_meter/warymeter/Column", "pick", "(Ljava/util/List;Ljava/util/List;)Ljava/util/List;"⟩ : MethodName) prog_3_method_5_code 8 (some (.object "java/util/List")) ws ({ frames := 4, cells := 2, slots := 7, locals := 49 } : Room) #[(.ref o0), (.ref o1)] h0 (fun v h L => ∃ (b1 : Addr), v = some (.ref b1) ∧ Fr n0 L ∧ h0.size ≤ b1 ∧ Keep h0 h [] ∧ Exa Z h b1 "java/util/ArrayList" ∧ Fld Z h b1 "java/util/AbstractList" "modCount" "I" (.int (0 : Int32)) ∧ Fld Z h b1 "java/util/ArrayList" "elementData" "[Ljava/lang/Object;" (.ref sv_DEFAULTCAPACITY_EMPTY_ELEMENTDATA) ∧ Fld Z h b1 "java/util/ArrayList" "size" "I" (.int (0 : Int32))) := by
 refine own_body (plainFor_of_name own_pn3) (fun m => ef_rm19_0 m o0 o1) ?_
 intro p e s m below meth c s₁ hx hby hlk hml hret hZ hown hnm X0 e0
 have N0 := Fr.nil n0
 refine Home.nw (own_newO X0 hx hZ hown (own_w118 hw) (own_w50 hw) (own_w51 hw) e0 rfl (hb hby d19_0) (by decide) (by decide)) fun T1 h1 b1 g1 X1 e1 E1 A1 D1 => ?_
 have g_b1 : n0 ≤ b1 := Nat.le_trans (Old.le O0) (Nat.le_of_eq g1.symm)
 have F_modCount_b1 : Fld Z h1 b1 "java/util/AbstractList" "modCount" "I" (.int (0 : Int32)) := D1 (Or.inl (own_w69 hw)) (ty := .int) (by decide)
 have F_elementData_b1 : Fld Z h1 b1 "java/util/ArrayList" "elementData" "[Ljava/lang/Object;" .null := D1 (Or.inl (own_w72 hw)) (ty := (.array (.object "java/lang/Object"))) (by decide)
 have F_size_b1 : Fld Z h1 b1 "java/util/ArrayList" "size" "I" (.int (0 : Int32)) := D1 (Or.inl (own_w85 hw)) (ty := .int) (by decide)
 have O1 := O0.ext E1
 have K1 : Keep h0 h1 ([] : List Addr) := Keep.ext (Keep.refl h0 ([] : List Addr)) E1
 refine Home.run X1 hx hby sg19_3_1 (pc' := 4) (L' := #[sr o0, sr o1, .unset, .unset, .unset, .unset, .unset, .unset]) (S' := [(.ref b1), (.ref b1)]) rfl ?_
 refine Home.call (own_special X1 hx hZ hown rfl (own_w119 hw) (own_w53 hw) (own_w51 hw) (own_w54 hw) (by decide) (rm9_0 l Z a0 hw [] b1 sv_DEFAULTCAPACITY_EMPTY_ELEMENTDATA h1 n0 O1 A1 F_modCount_b1 F_elementData_b1 F_size_b1 g_b1 S_DEFAULTCAPACITY_EMPTY_ELEMENTDATA) e1 rfl (by rw [hml]; rfl) (a := b1) (argsL := []) (rest := [(.ref b1)]) (lenOf own_pd4 rfl) rfl rfl (W := 1) (by exact hW0) (by decide) (by decide) (hb hby d19_4) (by decide) (by decide)) ?_
 rintro _ T2 L2 X2 ⟨rfl, N2q, K2q, P2_0, P2_1, P2_2, P2_3⟩
 have O2 := Old.keep O1 K2q (allS g_b1 all0)
 have K2 : Keep h0 T2.heap ([] : List Addr) := Keep.trans K1 K2q (allS (Or.inr (Nat.le_trans (Nat.le_refl _) (Nat.le_of_eq g1.symm))) all0)
 have N2 := Fr.app N0 N2q
 refine Home.run X2 hx hby sg19_7_2 (pc' := 9) (L' := #[sr o0, sr o1, sr b1, .unset, .unset, .unset, .unset, .unset]) (S' := [(.ref o1)]) rfl ?_
 refine Home.call (own_face X2 hx hZ hown (own_w120 hw) (own_w121 hw) (mvT hZ (own_w122 hw)) (own_w123 hw) (own_w124 hw) (own_w125 hw) (own_w126 hw) (own_w80 hw) (own_w51 hw) (own_w127 hw) (by decide) (rm20_0 l Z a0 hw [] o1 T2.heap n0 O2 (F_modCount_o1.keep K2 nin0) (E_o1.keep K2)) rfl (E_o1.keep K2) rfl (by rw [hml]; rfl) (argsL := []) (rest := []) (lenOf own_pd10 rfl) rfl rfl (W := 0) (by exact hW0) (by decide) (by decide) (hb hby d19_9) (by decide) (by decide)) ?_
 rintro _ T3 L3 X3 ⟨b1_3, rfl, N3q, sz_b1_3, K3q, P3_0, P3_1, P3_2, P3_3, P3_4⟩
 have g_b1_3 : n0 ≤ b1_3 := Nat.le_trans (Old.le O2) sz_b1_3
 have O3 := Old.keep O2 K3q all0
 have K3 : Keep h0 T3.heap ([] : List Addr) := Keep.trans K2 K3q all0
 have N3 := Fr.app N2 N3q
 show Home T3 (mkF m 14 #[sr o0, sr o1, sr b1, .unset, .unset, .unset, .unset, .unset] [(.ref b1_3)])
 refine Home.run X3 hx hby sg19_14_2 (pc' := 16) (L' := #[sr o0, sr o1, sr b1, sr b1_3, .unset, .unset, .unset, .unset]) (S' := [(.ref b1_3)]) rfl ?_
 refine Home.st (own_pure (own_face X3 hx hZ hown (own_w143 hw) (own_w144 hw) (mvT hZ (own_w145 hw)) (own_w146 hw) (own_w147 hw) (own_w148 hw) (own_w149 hw) (own_w150 hw) (own_w130 hw) (own_w151 hw) (by decide) (rm22_0 l Z a0 hw [] b1_3 o1 T3.heap n0 O3 P3_4 P3_1 (F_size_o1.keep K3 nin0)) rfl P3_0 rfl (by rw [hml]; rfl) (argsL := []) (rest := []) (lenOf own_pd11 rfl) rfl rfl (W := 0) (by exact hW0) (by decide) (by decide) (hb hby d19_16) (by decide) (by decide))) fun T4 X4 e4 => ?_
 refine Home.go (fun _ => XS.ifYes X4.here hx rfl (pc0 := 21) (pc' := 120) rfl (hb hby d19_21) rfl ((if0 _ _).trans (teq (by decide)).1) (by decide) (by decide)) ?_
 refine Home.run X4 hx hby sg19_120_1 (pc' := 121) (L' := #[sr o0, sr o1, sr b1, sr b1_3, .unset, .unset, .unset, .unset]) (S' := [(.ref b1)]) rfl ?_
 have q5 := (P2_0.keep K3q)
 have q6 := (P2_1.keep K3q nin0)
 have q7 := (P2_2.keep K3q nin0)
 have q8 := (P2_3.keep K3q nin0)
 exact Home.retR X4 hx hlk hret rfl rfl (hb hby d19_121) (by rw [show T4.heap = T3.heap from e4]; exact ⟨b1, rfl, N3, (Nat.le_trans (Nat.le_refl _) (Nat.le_of_eq g1.symm)), K3, q5, q6, q7, q8⟩) (by decide) (by decide)
theorem rm23_0 (l : Launch) (Z : State) (a0 : Array Value) (hw : HW a0 Z) (ws : List Jvm.Cond) (o0 : Addr) (h0 : Heap) (n0 : Nat) (O0 : Old Z n0 h0) (F_size_o0 : Fld Z h0 o0 "java/util/ArrayList" "size" "I" (.int (0 : Int32))) :
    Con l Z (⟨"java/util/ArrayList", "size", "()I"⟩ : MethodName) jdk_38_method_8_code 1 (some .int) ws ({ frames := 0, cells := 0, slots := 0, locals := 0 } : Room) #[(.ref o0)] h0 (Pur (some (.int (0 : Int32))) h0) := by
 refine own_body (plainFor_of_name own_pn6) (fun m => ef_rm23_0 m o0) ?_
 intro p e s m below meth c s₁ hx hby hlk hml hret hZ hown hnm X0 e0
 have N0 := Fr.nil n0
 refine Home.run X0 hx hby sg23_0_1 (pc' := 1) (L' := #[sr o0]) (S' := [(.ref o0)]) rfl ?_
 refine Home.st (getF X0 hx hZ hown (host := "") (Or.inl (own_w84 hw)) Via.refl e0 F_size_o0 rfl rfl (hb hby d23_1)) fun T1 X1 e1 => ?_
 exact Home.retI X1 hx hlk hret (hb hby d23_4) ⟨rfl, rfl, e1⟩ (by decide) (by decide)
theorem rm16_0 (l : Launch) (Z : State) (a0 : Array Value) (hw : HW a0 Z) (ws : List Jvm.Cond)  (h0 : Heap) (n0 : Nat) (O0 : Old Z n0 h0) :
    Con l Z (⟨"java/lang/Math", "max", "(II)I"⟩ : MethodName) jdk_29_method_65_code 2 (some .int) ws ({ frames := 0, cells := 0, slots := 0, locals := 0 } : Room) #[(.int (10 : Int32)), (.int (1 : Int32))] h0 (Pur (some (.int (10 : Int32))) h0) := by
 refine own_body (Jvm.Free.JP.mathPlain rfl (by decide +kernel)) (fun m => ef_rm16_0 m (10 : Int32) (1 : Int32)) ?_
 intro p e s m below meth c s₁ hx hby hlk hml hret hZ hown hnm X0 e0
 have N0 := Fr.nil n0
 refine Home.run X0 hx hby sg16_0_2 (pc' := 2) (L' := #[.val (.int (10 : Int32)), .val (.int (1 : Int32))]) (S' := [(.int (1 : Int32)), (.int (10 : Int32))]) rfl ?_
 refine Home.go (fun _ => XS.icmpNo X0.here hx rfl (hb hby d16_2) rfl (flt (by decide)).1) ?_
 refine Home.run X0 hx hby sg16_5_2 (pc' := 10) (L' := #[.val (.int (10 : Int32)), .val (.int (1 : Int32))]) (S' := [(.int (10 : Int32))]) rfl ?_
 exact Home.retI X0 hx hlk hret (hb hby d16_10) ⟨rfl, rfl, e0⟩ (by decide) (by decide)
theorem rm15_0 (l : Launch) (Z : State) (a0 : Array Value) (hw : HW a0 Z) (ws : List Jvm.Cond) (o0 sv_DEFAULTCAPACITY_EMPTY_ELEMENTDATA : Addr) (kde : ClassId) (h0 : Heap) (n0 : Nat) (O0 : Old Z n0 h0) (F_elementData_o0 : Fld Z h0 o0 "java/util/ArrayList" "elementData" "[Ljava/lang/Object;" (.ref sv_DEFAULTCAPACITY_EMPTY_ELEMENTDATA)) (V_de : Arv Z Z.heap sv_DEFAULTCAPACITY_EMPTY_ELEMENTDATA kde (.object "java/lang/Object") (0 : Int32) [] .null) (S_DEFAULTCAPACITY_EMPTY_ELEMENTDATA : Sta Z Z.heap "java/util/ArrayList" "DEFAULTCAPACITY_EMPTY_ELEMENTDATA" "[Ljava/lang/Object;" (.ref sv_DEFAULTCAPACITY_EMPTY_ELEMENTDATA)) (E_o0 : Exa Z h0 o0 "java/util/ArrayList") (g_o0 : n0 ≤ o0) (F_size_o0 : Fld Z h0 o0 "java/util/ArrayList" "size" "I" (.int (0 : Int32))) (F_modCount_o0 : Fld Z h0 o0 "java/util/AbstractList" "modCount" "I" (.int (1 : Int32))) :
    Con l Z (⟨"java/util/ArrayList", "grow", "(I)[Ljava/lang/Object;"⟩ : MethodName) jdk_38_method_6_code 4 (some (.array (.object "java/lang/Object"))) ws ({ frames := 1, cells := 1, slots := 10, locals := 14 } : Room) #[(.ref o0), (.int (1 : Int32))] h0 (fun v h L => ∃ (b6 : Addr), ∃ (k6 : ClassId), v = some (.ref b6) ∧ Fr n0 L ∧ h0.size ≤ b6 ∧ Keep h0 h [o0] ∧ Fld Z h o0 "java/util/ArrayList" "elementData" "[Ljava/lang/Object;" (.ref b6) ∧ Exa Z h o0 "java/util/ArrayList" ∧ Fld Z h o0 "java/util/ArrayList" "size" "I" (.int (0 : Int32)) ∧ Fld Z h o0 "java/util/AbstractList" "modCount" "I" (.int (1 : Int32)) ∧ Arv Z h b6 k6 (.object "java/lang/Object") (10 : Int32) [.null, .null, .null, .null, .null, .null, .null, .null, .null, .null] .null ∧ Ovr Z k6 "java/lang/Object") := by
 refine own_body (plainFor_of_name own_pn6) (fun m => ef_rm15_0 m o0 (1 : Int32)) ?_
 intro p e s m below meth c s₁ hx hby hlk hml hret hZ hown hnm X0 e0
 have N0 := Fr.nil n0
 refine Home.run X0 hx hby sg15_0_1 (pc' := 1) (L' := #[sr o0, .val (.int (1 : Int32)), .unset, .unset]) (S' := [(.ref o0)]) rfl ?_
 refine Home.st (getF X0 hx hZ hown (host := "") (Or.inl (own_w71 hw)) Via.refl e0 F_elementData_o0 rfl rfl (hb hby d15_1)) fun T1 X1 e1 => ?_
 obtain ⟨cl2, Ar2, q2, S2, M2, H2, G2⟩ := id (V_de.ext O0.2)
 refine Home.go (own_alen X1 hx hZ e1 Ar2 S2 M2 rfl rfl (hb hby d15_4)) ?_
 refine Home.run X1 hx hby sg15_5_2 (pc' := 7) (L' := #[sr o0, .val (.int (1 : Int32)), .val (.int (0 : Int32)), .unset]) (S' := [(.int (0 : Int32))]) rfl ?_
 refine Home.go (fun _ => XS.ifNo X1.here hx rfl (hb hby d15_7) rfl ((if0 _ _).trans (flt (by decide)).2.2.1)) ?_
 refine Home.run X1 hx hby sg15_10_1 (pc' := 11) (L' := #[sr o0, .val (.int (1 : Int32)), .val (.int (0 : Int32)), .unset]) (S' := [(.ref o0)]) rfl ?_
 refine Home.st (getF X1 hx hZ hown (host := "") (Or.inl (own_w71 hw)) Via.refl e1 F_elementData_o0 rfl rfl (hb hby d15_11)) fun T3 X3 e3 => ?_
 refine Home.st (getS2 X3 hx hZ hown (host := "") (Or.inl (own_w70 hw)) Via.refl e3 (S_DEFAULTCAPACITY_EMPTY_ELEMENTDATA.ext O0.2) rfl (hb hby d15_14)) fun T4 X4 e4 => ?_
 refine Home.go (fun _ => Jvm.RoadKit.acmp X4 hx rfl rfl rfl (pc0 := 17) (pc' := 45) (same := true) rfl (hb hby d15_17) rfl (decide_eq_true rfl) (by decide) (by decide)) ?_
 show Home T4 (mkF m 45 #[sr o0, .val (.int (1 : Int32)), .val (.int (0 : Int32)), .unset] [])
 refine Home.run X4 hx hby sg15_45_3 (pc' := 49) (L' := #[sr o0, .val (.int (1 : Int32)), .val (.int (0 : Int32)), .unset]) (S' := [(.int (1 : Int32)), (.int (10 : Int32)), (.ref o0)]) rfl ?_
 refine Home.st (own_pure (own_static X4 hx hZ hown (own_w101 hw) (own_w102 hw) (own_w103 hw) (own_w104 hw) (by decide) (rm16_0 l Z a0 hw []  h0 n0 O0) e4 rfl (by rw [hml]; rfl) (argsL := [(.int (10 : Int32)), (.int (1 : Int32))]) (rest := [(.ref o0)]) (lenOf own_pd7 rfl) rfl rfl (W := 1) (by exact hW0) (by decide) (by decide) (hb hby d15_49) (by decide) (by decide))) fun T5 X5 e5 => ?_
 refine Home.nr (own_newR X5 hx hZ hown (own_w105 hw) (own_w106 hw) e5 (g := (mkF m 52 #[.val (.ref o0), .val (.int (1 : Int32)), .val (.int (0 : Int32)), .unset] [(.int (10 : Int32)), (.ref o0)])) rfl (hb hby d15_52) rfl (by decide) (cap := 10) (by decide) (by decide) (by decide) (by decide)) fun T6 h6 k6 b6 g6 X6 e6 E6 A6 Ov6 => ?_
 have g_b6 : n0 ≤ b6 := Nat.le_trans (Old.le O0) (Nat.le_of_eq g6.symm)
 have V6 : Arv Z h6 b6 k6 (.object "java/lang/Object") (10 : Int32) [.null, .null, .null, .null, .null, .null, .null, .null, .null, .null] .null := (Arv.new A6 (by decide)).pad (pad_rep [] .null 10)
 have O6 := O0.ext E6
 have K6 : Keep h0 h6 ([o0] : List Addr) := Keep.ext (Keep.refl h0 ([o0] : List Addr)) E6
 refine Home.run X6 hx hby sg15_55_1 (pc' := 56) (L' := #[sr o0, .val (.int (1 : Int32)), .val (.int (0 : Int32)), .unset]) (S' := [(.ref b6), (.ref o0), (.ref b6)]) rfl ?_
 have q7 := (F_elementData_o0.ext E6)
 refine Home.wr (putF X6 hx hZ hown (host := "") (Or.inl (own_w71 hw)) Via.refl e6 q7 (E_o0.keep K6) (Or.inl (own_w72 hw)) (own_w50 hw) (ty := (.array (.object "java/lang/Object"))) (by decide) rfl rfl rfl rfl (hb hby d15_56)) fun T8 h8 X8 e8 W8 => ?_
 have Fw8 := q7.same W8
 have O8 := O6.wr W8 g_o0
 have K8 : Keep h0 h8 ([o0] : List Addr) := Keep.wr K6 W8 (Or.inl (List.mem_of_getElem? (i := 0) rfl))
 have N8 := Fr.snoc X8 N0 g_o0
 show Home T8 (mkF m 59 #[sr o0, .val (.int (1 : Int32)), .val (.int (0 : Int32)), .unset] [(.ref b6)])
 have q9 := ((F_size_o0.ext E6).other W8 (Or.inr (slot_ne (Or.inl (own_w85 hw)) (Or.inl (own_w72 hw)) (by decide) (t := .int) (t' := (.array (.object "java/lang/Object"))) (by decide) (by decide))))
 have q10 := ((F_modCount_o0.ext E6).other W8 (Or.inr (slot_ne (Or.inl (own_w69 hw)) (Or.inl (own_w72 hw)) (by decide) (t := .int) (t' := (.array (.object "java/lang/Object"))) (by decide) (by decide))))
 have ne11 : b6 ≠ o0 := (Ne.symm (Nat.ne_of_lt (Nat.lt_of_lt_of_le F_elementData_o0.lt (Nat.le_trans (Nat.le_refl _) (Nat.le_of_eq g6.symm)))))
 have q12 := (V6.other W8 ne11)
 exact Home.retR X8 hx hlk hret rfl rfl (hb hby d15_59) (by rw [show T8.heap = h8 from e8]; exact ⟨b6, k6, rfl, N8, (Nat.le_trans (Nat.le_refl _) (Nat.le_of_eq g6.symm)), K8, Fw8, (E_o0.keep K8), q9, q10, q12, Ov6⟩) (by decide) (by decide)
theorem rm14_0 (l : Launch) (Z : State) (a0 : Array Value) (hw : HW a0 Z) (ws : List Jvm.Cond) (o0 sv_DEFAULTCAPACITY_EMPTY_ELEMENTDATA : Addr) (kde : ClassId) (h0 : Heap) (n0 : Nat) (O0 : Old Z n0 h0) (F_size_o0 : Fld Z h0 o0 "java/util/ArrayList" "size" "I" (.int (0 : Int32))) (E_o0 : Exa Z h0 o0 "java/util/ArrayList") (F_elementData_o0 : Fld Z h0 o0 "java/util/ArrayList" "elementData" "[Ljava/lang/Object;" (.ref sv_DEFAULTCAPACITY_EMPTY_ELEMENTDATA)) (V_de : Arv Z Z.heap sv_DEFAULTCAPACITY_EMPTY_ELEMENTDATA kde (.object "java/lang/Object") (0 : Int32) [] .null) (S_DEFAULTCAPACITY_EMPTY_ELEMENTDATA : Sta Z Z.heap "java/util/ArrayList" "DEFAULTCAPACITY_EMPTY_ELEMENTDATA" "[Ljava/lang/Object;" (.ref sv_DEFAULTCAPACITY_EMPTY_ELEMENTDATA)) (F_modCount_o0 : Fld Z h0 o0 "java/util/AbstractList" "modCount" "I" (.int (1 : Int32))) (g_o0 : n0 ≤ o0) :
    Con l Z (⟨"java/util/ArrayList", "grow", "()[Ljava/lang/Object;"⟩ : MethodName) jdk_38_method_7_code 1 (some (.array (.object "java/lang/Object"))) ws ({ frames := 2, cells := 1, slots := 10, locals := 29 } : Room) #[(.ref o0)] h0 (fun v h L => ∃ (b6_2 : Addr), ∃ (k6_2 : ClassId), v = some (.ref b6_2) ∧ Fr n0 L ∧ h0.size ≤ b6_2 ∧ Keep h0 h [o0] ∧ Fld Z h o0 "java/util/ArrayList" "size" "I" (.int (0 : Int32)) ∧ Exa Z h o0 "java/util/ArrayList" ∧ Fld Z h o0 "java/util/ArrayList" "elementData" "[Ljava/lang/Object;" (.ref b6_2) ∧ Fld Z h o0 "java/util/AbstractList" "modCount" "I" (.int (1 : Int32)) ∧ Arv Z h b6_2 k6_2 (.object "java/lang/Object") (10 : Int32) [.null, .null, .null, .null, .null, .null, .null, .null, .null, .null] .null ∧ Ovr Z k6_2 "java/lang/Object") := by
 refine own_body (plainFor_of_name own_pn6) (fun m => ef_rm14_0 m o0) ?_
 intro p e s m below meth c s₁ hx hby hlk hml hret hZ hown hnm X0 e0
 have N0 := Fr.nil n0
 refine Home.run X0 hx hby sg14_0_2 (pc' := 2) (L' := #[sr o0]) (S' := [(.ref o0), (.ref o0)]) rfl ?_
 refine Home.st (getF X0 hx hZ hown (host := "") (Or.inl (own_w84 hw)) Via.refl e0 F_size_o0 rfl rfl (hb hby d14_2)) fun T1 X1 e1 => ?_
 refine Home.run X1 hx hby sg14_5_2 (pc' := 7) (L' := #[sr o0]) (S' := [(.int (1 : Int32)), (.ref o0)]) rfl ?_
 refine Home.call (own_private X1 hx hZ hown (own_w96 hw) (own_w97 hw) (own_w99 hw) (Cond.privateMethod_at (mvP hZ (own_w98 hw) (args := #[]))) (own_w51 hw) (own_w100 hw) (by decide) (rm15_0 l Z a0 hw [] o0 sv_DEFAULTCAPACITY_EMPTY_ELEMENTDATA kde h0 n0 O0 F_elementData_o0 V_de S_DEFAULTCAPACITY_EMPTY_ELEMENTDATA E_o0 g_o0 F_size_o0 F_modCount_o0) e1 E_o0 rfl (by rw [hml]; rfl) (argsL := [(.int (1 : Int32))]) (rest := []) (lenOf own_pd14 rfl) rfl rfl (W := 0) (by exact hW0) (by decide) (by decide) (hb hby d14_7) (by decide) (by decide)) ?_
 rintro _ T2 L2 X2 ⟨b6_2, k6_2, rfl, N2q, sz_b6_2, K2q, P2_0, P2_1, P2_2, P2_3, P2_4, P2_5⟩
 have g_b6_2 : n0 ≤ b6_2 := Nat.le_trans (Old.le O0) sz_b6_2
 have O2 := Old.keep O0 K2q (allS g_o0 all0)
 have K2 : Keep h0 T2.heap ([o0] : List Addr) := Keep.trans (Keep.refl h0 ([o0] : List Addr)) K2q (allS (Or.inl (List.mem_of_getElem? (i := 0) rfl)) all0)
 have N2 := Fr.app N0 N2q
 exact Home.retR X2 hx hlk hret rfl rfl (hb hby d14_10) ⟨b6_2, k6_2, rfl, N2, (Nat.le_trans (Nat.le_refl _) sz_b6_2), K2, P2_2, P2_1, P2_0, P2_3, P2_4, P2_5⟩ (by decide) (by decide)
theorem rm13_0 (l : Launch) (Z : State) (a0 : Array Value) (hw : HW a0 Z) (ws : List Jvm.Cond) (o0 o1 sv_DEFAULTCAPACITY_EMPTY_ELEMENTDATA : Addr) (kde : ClassId) (h0 : Heap) (n0 : Nat) (O0 : Old Z n0 h0) (V_de : Arv Z Z.heap sv_DEFAULTCAPACITY_EMPTY_ELEMENTDATA kde (.object "java/lang/Object") (0 : Int32) [] .null) (E_o0 : Exa Z h0 o0 "java/util/ArrayList") (F_size_o0 : Fld Z h0 o0 "java/util/ArrayList" "size" "I" (.int (0 : Int32))) (F_elementData_o0 : Fld Z h0 o0 "java/util/ArrayList" "elementData" "[Ljava/lang/Object;" (.ref sv_DEFAULTCAPACITY_EMPTY_ELEMENTDATA)) (S_DEFAULTCAPACITY_EMPTY_ELEMENTDATA : Sta Z Z.heap "java/util/ArrayList" "DEFAULTCAPACITY_EMPTY_ELEMENTDATA" "[Ljava/lang/Object;" (.ref sv_DEFAULTCAPACITY_EMPTY_ELEMENTDATA)) (F_modCount_o0 : Fld Z h0 o0 "java/util/AbstractList" "modCount" "I" (.int (1 : Int32))) (g_o0 : n0 ≤ o0) (E_o1 : Exa Z h0 o1 "com/example/wary_meter/warymeter/Column") :
    Con l Z (⟨"java/util/ArrayList", "add", "(Ljava/lang/Object;[Ljava/lang/Object;I)V"⟩ : MethodName) jdk_38_method_24_code 4 none ws ({ frames := 3, cells := 1, slots := 10, locals := 41 } : Room) #[(.ref o0), (.ref o1), (.ref sv_DEFAULTCAPACITY_EMPTY_ELEMENTDATA), (.int (0 : Int32))] h0 (fun v h L => ∃ (b6_2_2 : Addr), ∃ (k6_2_2 : ClassId), v = none ∧ Fr n0 L ∧ h0.size ≤ b6_2_2 ∧ Keep h0 h [o0] ∧ Exa Z h o0 "java/util/ArrayList" ∧ Fld Z h o0 "java/util/ArrayList" "size" "I" (.int (1 : Int32)) ∧ Fld Z h o0 "java/util/ArrayList" "elementData" "[Ljava/lang/Object;" (.ref b6_2_2) ∧ Fld Z h o0 "java/util/AbstractList" "modCount" "I" (.int (1 : Int32)) ∧ Arv Z h b6_2_2 k6_2_2 (.object "java/lang/Object") (10 : Int32) [(.ref o1), .null, .null, .null, .null, .null, .null, .null, .null, .null] .null ∧ Ovr Z k6_2_2 "java/lang/Object") := by
 refine own_body (plainFor_of_name own_pn6) (fun m => ef_rm13_0 m o0 o1 sv_DEFAULTCAPACITY_EMPTY_ELEMENTDATA (0 : Int32)) ?_
 intro p e s m below meth c s₁ hx hby hlk hml hret hZ hown hnm X0 e0
 have N0 := Fr.nil n0
 refine Home.run X0 hx hby sg13_0_2 (pc' := 2) (L' := #[sr o0, sr o1, sr sv_DEFAULTCAPACITY_EMPTY_ELEMENTDATA, .val (.int (0 : Int32))]) (S' := [(.ref sv_DEFAULTCAPACITY_EMPTY_ELEMENTDATA), (.int (0 : Int32))]) rfl ?_
 obtain ⟨cl1, Ar1, q1, S1, M1, H1, G1⟩ := id (V_de.ext O0.2)
 refine Home.go (own_alen X0 hx hZ e0 Ar1 S1 M1 rfl rfl (hb hby d13_2)) ?_
 refine Home.go (fun _ => XS.icmpNo X0.here hx rfl (hb hby d13_3) rfl (teq (by decide)).2) ?_
 refine Home.run X0 hx hby sg13_6_1 (pc' := 7) (L' := #[sr o0, sr o1, sr sv_DEFAULTCAPACITY_EMPTY_ELEMENTDATA, .val (.int (0 : Int32))]) (S' := [(.ref o0)]) rfl ?_
 refine Home.call (own_private X0 hx hZ hown (own_w91 hw) (own_w92 hw) (own_w94 hw) (Cond.privateMethod_at (mvP hZ (own_w93 hw) (args := #[]))) (own_w51 hw) (own_w95 hw) (by decide) (rm14_0 l Z a0 hw [] o0 sv_DEFAULTCAPACITY_EMPTY_ELEMENTDATA kde h0 n0 O0 F_size_o0 E_o0 F_elementData_o0 V_de S_DEFAULTCAPACITY_EMPTY_ELEMENTDATA F_modCount_o0 g_o0) e0 E_o0 rfl (by rw [hml]; rfl) (argsL := []) (rest := []) (lenOf own_pd15 rfl) rfl rfl (W := 0) (by exact hW0) (by decide) (by decide) (hb hby d13_7) (by decide) (by decide)) ?_
 rintro _ T2 L2 X2 ⟨b6_2_2, k6_2_2, rfl, N2q, sz_b6_2_2, K2q, P2_0, P2_1, P2_2, P2_3, P2_4, P2_5⟩
 have g_b6_2_2 : n0 ≤ b6_2_2 := Nat.le_trans (Old.le O0) sz_b6_2_2
 have O2 := Old.keep O0 K2q (allS g_o0 all0)
 have K2 : Keep h0 T2.heap ([o0] : List Addr) := Keep.trans (Keep.refl h0 ([o0] : List Addr)) K2q (allS (Or.inl (List.mem_of_getElem? (i := 0) rfl)) all0)
 have N2 := Fr.app N0 N2q
 refine Home.run X2 hx hby sg13_10_4 (pc' := 14) (L' := #[sr o0, sr o1, sr b6_2_2, .val (.int (0 : Int32))]) (S' := [(.ref o1), (.int (0 : Int32)), (.ref b6_2_2)]) rfl ?_
 obtain ⟨cl3, Ar3, q3, S3, M3, H3, G3⟩ := id P2_4
 have q4 := (Ins.keep (Ins.of_exa E_o1 (own_w107 hw)) K2q)
 refine Home.wr (stR X2 hx hZ rfl Ar3 (j := (0 : Int32)) (inb_of S3 ⟨by decide, by decide⟩) rfl (Sto.ofV Ar3 q3 P2_5 q4) rfl rfl (hb hby d13_14)) fun T3 h3 X3 e3 W3 => ?_
 have V3 : Arv Z h3 b6_2_2 k6_2_2 (.object "java/lang/Object") (10 : Int32) [(.ref o1), .null, .null, .null, .null, .null, .null, .null, .null, .null] .null := Arv.set Ar3 q3 S3 M3 H3 G3 rfl W3 0 rfl (Nat.le_of_ble_eq_true rfl)
 have O3 := O2.wr W3 g_b6_2_2
 have K3 : Keep h0 h3 ([o0] : List Addr) := Keep.wr K2 W3 (Or.inr (Nat.le_trans (Nat.le_refl _) sz_b6_2_2))
 have N3 := Fr.snoc X3 N2 g_b6_2_2
 show Home T3 (mkF m 15 #[sr o0, sr o1, sr b6_2_2, .val (.int (0 : Int32))] [])
 refine Home.run X3 hx hby sg13_15_4 (pc' := 19) (L' := #[sr o0, sr o1, sr b6_2_2, .val (.int (0 : Int32))]) (S' := [(.int (1 : Int32)), (.ref o0)]) rfl ?_
 have ne5 : o0 ≠ b6_2_2 := (Nat.ne_of_lt (Nat.lt_of_lt_of_le E_o0.lt (Nat.le_trans (Nat.le_refl _) sz_b6_2_2)))
 have q6 := (P2_0.other W3 (Or.inl ne5))
 refine Home.wr (putF X3 hx hZ hown (host := "") (Or.inl (own_w84 hw)) Via.refl e3 q6 (E_o0.keep K3) (Or.inl (own_w85 hw)) (own_w50 hw) (ty := .int) (by decide) rfl rfl rfl rfl (hb hby d13_19)) fun T7 h7 X7 e7 W7 => ?_
 have Fw7 := q6.same W7
 have O7 := O3.wr W7 g_o0
 have K7 : Keep h0 h7 ([o0] : List Addr) := Keep.wr K3 W7 (Or.inl (List.mem_of_getElem? (i := 0) rfl))
 have N7 := Fr.snoc X7 N3 g_o0
 have q8 := ((P2_2.other W3 (Or.inl ne5)).other W7 (Or.inr (slot_ne (Or.inl (own_w72 hw)) (Or.inl (own_w85 hw)) (by decide) (t := (.array (.object "java/lang/Object"))) (t' := .int) (by decide) (by decide))))
 have q9 := ((P2_3.other W3 (Or.inl ne5)).other W7 (Or.inr (slot_ne (Or.inl (own_w69 hw)) (Or.inl (own_w85 hw)) (by decide) (t := .int) (t' := .int) (by decide) (by decide))))
 have ne10 : b6_2_2 ≠ o0 := (Ne.symm ne5)
 have q11 := (V3.other W7 ne10)
 exact Home.ret0 X7 hx hlk hret (hb hby d13_22) (by rw [show T7.heap = h7 from e7]; exact ⟨b6_2_2, k6_2_2, rfl, N7, (Nat.le_trans (Nat.le_refl _) sz_b6_2_2), K7, (E_o0.keep K7), Fw7, q8, q9, q11, P2_5⟩) (by decide) (by decide)
theorem rm12_0 (l : Launch) (Z : State) (a0 : Array Value) (hw : HW a0 Z) (ws : List Jvm.Cond) (o0 o1 sv_DEFAULTCAPACITY_EMPTY_ELEMENTDATA : Addr) (kde : ClassId) (h0 : Heap) (n0 : Nat) (O0 : Old Z n0 h0) (F_modCount_o0 : Fld Z h0 o0 "java/util/AbstractList" "modCount" "I" (.int (0 : Int32))) (E_o0 : Exa Z h0 o0 "java/util/ArrayList") (g_o0 : n0 ≤ o0) (F_elementData_o0 : Fld Z h0 o0 "java/util/ArrayList" "elementData" "[Ljava/lang/Object;" (.ref sv_DEFAULTCAPACITY_EMPTY_ELEMENTDATA)) (F_size_o0 : Fld Z h0 o0 "java/util/ArrayList" "size" "I" (.int (0 : Int32))) (V_de : Arv Z Z.heap sv_DEFAULTCAPACITY_EMPTY_ELEMENTDATA kde (.object "java/lang/Object") (0 : Int32) [] .null) (S_DEFAULTCAPACITY_EMPTY_ELEMENTDATA : Sta Z Z.heap "java/util/ArrayList" "DEFAULTCAPACITY_EMPTY_ELEMENTDATA" "[Ljava/lang/Object;" (.ref sv_DEFAULTCAPACITY_EMPTY_ELEMENTDATA)) (E_o1 : Exa Z h0 o1 "com/example/wary_meter/warymeter/Column") :
    Con l Z (⟨"java/util/ArrayList", "add", "(Ljava/lang/Object;)Z"⟩ : MethodName) jdk_38_method_25_code 2 (some .boolean) ws ({ frames := 4, cells := 1, slots := 10, locals := 56 } : Room) #[(.ref o0), (.ref o1)] h0 (fun v h L => ∃ (b6_2_2_7 : Addr), ∃ (k6_2_2_7 : ClassId), v = some (.int (1 : Int32)) ∧ Fr n0 L ∧ h0.size ≤ b6_2_2_7 ∧ Keep h0 h [o0] ∧ Fld Z h o0 "java/util/AbstractList" "modCount" "I" (.int (1 : Int32)) ∧ Exa Z h o0 "java/util/ArrayList" ∧ Fld Z h o0 "java/util/ArrayList" "elementData" "[Ljava/lang/Object;" (.ref b6_2_2_7) ∧ Fld Z h o0 "java/util/ArrayList" "size" "I" (.int (1 : Int32)) ∧ Arv Z h b6_2_2_7 k6_2_2_7 (.object "java/lang/Object") (10 : Int32) [(.ref o1), .null, .null, .null, .null, .null, .null, .null, .null, .null] .null ∧ Ovr Z k6_2_2_7 "java/lang/Object") := by
 refine own_body (plainFor_of_name own_pn6) (fun m => ef_rm12_0 m o0 o1) ?_
 intro p e s m below meth c s₁ hx hby hlk hml hret hZ hown hnm X0 e0
 have N0 := Fr.nil n0
 refine Home.run X0 hx hby sg12_0_2 (pc' := 2) (L' := #[sr o0, sr o1]) (S' := [(.ref o0), (.ref o0)]) rfl ?_
 refine Home.st (getF X0 hx hZ hown (host := "") (Or.inl (own_w82 hw)) (Via.of (own_w83 hw)) e0 F_modCount_o0 rfl rfl (hb hby d12_2)) fun T1 X1 e1 => ?_
 refine Home.run X1 hx hby sg12_5_2 (pc' := 7) (L' := #[sr o0, sr o1]) (S' := [(.int (1 : Int32)), (.ref o0)]) rfl ?_
 refine Home.wr (putF X1 hx hZ hown (host := "") (Or.inl (own_w82 hw)) (Via.of (own_w83 hw)) e1 F_modCount_o0 E_o0 (Or.inl (own_w69 hw)) (own_w50 hw) (ty := .int) (by decide) rfl rfl rfl rfl (hb hby d12_7)) fun T2 h2 X2 e2 W2 => ?_
 have Fw2 := F_modCount_o0.same W2
 have O2 := O0.wr W2 g_o0
 have K2 : Keep h0 h2 ([o0] : List Addr) := Keep.wr (Keep.refl h0 ([o0] : List Addr)) W2 (Or.inl (List.mem_of_getElem? (i := 0) rfl))
 have N2 := Fr.snoc X2 N0 g_o0
 refine Home.run X2 hx hby sg12_10_3 (pc' := 13) (L' := #[sr o0, sr o1]) (S' := [(.ref o0), (.ref o1), (.ref o0)]) rfl ?_
 have q3 := (F_elementData_o0.other W2 (Or.inr (slot_ne (Or.inl (own_w72 hw)) (Or.inl (own_w69 hw)) (by decide) (t := (.array (.object "java/lang/Object"))) (t' := .int) (by decide) (by decide))))
 refine Home.st (getF X2 hx hZ hown (host := "") (Or.inl (own_w71 hw)) Via.refl e2 q3 rfl rfl (hb hby d12_13)) fun T4 X4 e4 => ?_
 refine Home.run X4 hx hby sg12_16_1 (pc' := 17) (L' := #[sr o0, sr o1]) (S' := [(.ref o0), (.ref sv_DEFAULTCAPACITY_EMPTY_ELEMENTDATA), (.ref o1), (.ref o0)]) rfl ?_
 have q5 := (F_size_o0.other W2 (Or.inr (slot_ne (Or.inl (own_w85 hw)) (Or.inl (own_w69 hw)) (by decide) (t := .int) (t' := .int) (by decide) (by decide))))
 refine Home.st (getF X4 hx hZ hown (host := "") (Or.inl (own_w84 hw)) Via.refl e4 q5 rfl rfl (hb hby d12_17)) fun T6 X6 e6 => ?_
 show Home T6 (mkF m 20 #[sr o0, sr o1] [(.int (0 : Int32)), (.ref sv_DEFAULTCAPACITY_EMPTY_ELEMENTDATA), (.ref o1), (.ref o0)])
 refine Home.call (own_private X6 hx hZ hown (own_w86 hw) (own_w87 hw) (own_w89 hw) (Cond.privateMethod_at (mvP hZ (own_w88 hw) (args := #[]))) (own_w51 hw) (own_w90 hw) (by decide) (rm13_0 l Z a0 hw [] o0 o1 sv_DEFAULTCAPACITY_EMPTY_ELEMENTDATA kde h2 n0 O2 V_de (E_o0.keep K2) q5 q3 S_DEFAULTCAPACITY_EMPTY_ELEMENTDATA Fw2 g_o0 (E_o1.keep K2)) e6 (E_o0.keep K2) rfl (by rw [hml]; rfl) (argsL := [(.ref o1), (.ref sv_DEFAULTCAPACITY_EMPTY_ELEMENTDATA), (.int (0 : Int32))]) (rest := []) (lenOf own_pd16 rfl) rfl rfl (W := 0) (by exact hW0) (by decide) (by decide) (hb hby d12_20) (by decide) (by decide)) ?_
 rintro _ T7 L7 X7 ⟨b6_2_2_7, k6_2_2_7, rfl, N7q, sz_b6_2_2_7, K7q, P7_0, P7_1, P7_2, P7_3, P7_4, P7_5⟩
 have g_b6_2_2_7 : n0 ≤ b6_2_2_7 := Nat.le_trans (Old.le O2) sz_b6_2_2_7
 have O7 := Old.keep O2 K7q (allS g_o0 all0)
 have K7 : Keep h0 T7.heap ([o0] : List Addr) := Keep.trans K2 K7q (allS (Or.inl (List.mem_of_getElem? (i := 0) rfl)) all0)
 have N7 := Fr.app N2 N7q
 refine Home.run X7 hx hby sg12_23_1 (pc' := 24) (L' := #[sr o0, sr o1]) (S' := [(.int (1 : Int32))]) rfl ?_
 exact Home.retN X7 hx hlk (t := .boolean) hret (by simp) (hb hby d12_24) ⟨b6_2_2_7, k6_2_2_7, rfl, N7, (Nat.le_trans (Nat.le_of_eq W2.size.symm) sz_b6_2_2_7), K7, P7_3, P7_0, P7_2, P7_1, P7_4, P7_5⟩ (by decide) (by decide)
theorem rm13_1 (l : Launch) (Z : State) (a0 : Array Value) (hw : HW a0 Z) (ws : List Jvm.Cond) (o0 o1 o2 : Addr) (k_o2 : ClassId) (p5 : Addr) (h0 : Heap) (n0 : Nat) (O0 : Old Z n0 h0) (V_o2 : Arv Z h0 o2 k_o2 (.object "java/lang/Object") (10 : Int32) [(.ref p5), .null, .null, .null, .null, .null, .null, .null, .null, .null] .null) (O_o2 : Ovr Z k_o2 "java/lang/Object") (E_o1 : Exa Z h0 o1 "com/example/wary_meter/warymeter/Column") (g_o2 : n0 ≤ o2) (E_o0 : Exa Z h0 o0 "java/util/ArrayList") (F_size_o0 : Fld Z h0 o0 "java/util/ArrayList" "size" "I" (.int (1 : Int32))) (g_o0 : n0 ≤ o0) (F_modCount_o0 : Fld Z h0 o0 "java/util/AbstractList" "modCount" "I" (.int (2 : Int32))) (F_elementData_o0 : Fld Z h0 o0 "java/util/ArrayList" "elementData" "[Ljava/lang/Object;" (.ref o2)) :
    Con l Z (⟨"java/util/ArrayList", "add", "(Ljava/lang/Object;[Ljava/lang/Object;I)V"⟩ : MethodName) jdk_38_method_24_code 4 none ws ({ frames := 0, cells := 0, slots := 0, locals := 0 } : Room) #[(.ref o0), (.ref o1), (.ref o2), (.int (1 : Int32))] h0 (fun v h L => v = none ∧ Fr n0 L ∧ Keep h0 h [o2, o0] ∧ Arv Z h o2 k_o2 (.object "java/lang/Object") (10 : Int32) [(.ref p5), (.ref o1), .null, .null, .null, .null, .null, .null, .null, .null] .null ∧ Exa Z h o0 "java/util/ArrayList" ∧ Fld Z h o0 "java/util/ArrayList" "size" "I" (.int (2 : Int32)) ∧ Fld Z h o0 "java/util/AbstractList" "modCount" "I" (.int (2 : Int32)) ∧ Fld Z h o0 "java/util/ArrayList" "elementData" "[Ljava/lang/Object;" (.ref o2)) := by
 refine own_body (plainFor_of_name own_pn6) (fun m => ef_rm13_1 m o0 o1 o2 (1 : Int32)) ?_
 intro p e s m below meth c s₁ hx hby hlk hml hret hZ hown hnm X0 e0
 have N0 := Fr.nil n0
 refine Home.run X0 hx hby sg13_0_2 (pc' := 2) (L' := #[sr o0, sr o1, sr o2, .val (.int (1 : Int32))]) (S' := [(.ref o2), (.int (1 : Int32))]) rfl ?_
 obtain ⟨cl1, Ar1, q1, S1, M1, H1, G1⟩ := id V_o2
 refine Home.go (own_alen X0 hx hZ e0 Ar1 S1 M1 rfl rfl (hb hby d13_2)) ?_
 refine Home.go (fun _ => XS.icmpYes X0.here hx rfl (pc0 := 3) (pc' := 11) rfl (hb hby d13_3) rfl (feq (by decide)).2 (by decide) (by decide)) ?_
 refine Home.run X0 hx hby sg13_11_3 (pc' := 14) (L' := #[sr o0, sr o1, sr o2, .val (.int (1 : Int32))]) (S' := [(.ref o1), (.int (1 : Int32)), (.ref o2)]) rfl ?_
 obtain ⟨cl2, Ar2, q2, S2, M2, H2, G2⟩ := id V_o2
 refine Home.wr (stR X0 hx hZ e0 Ar2 (j := (1 : Int32)) (inb_of S2 ⟨by decide, by decide⟩) rfl (Sto.ofV Ar2 q2 O_o2 (Ins.of_exa E_o1 (own_w107 hw))) rfl rfl (hb hby d13_14)) fun T2 h2 X2 e2 W2 => ?_
 have V2 : Arv Z h2 o2 k_o2 (.object "java/lang/Object") (10 : Int32) [(.ref p5), (.ref o1), .null, .null, .null, .null, .null, .null, .null, .null] .null := Arv.set Ar2 q2 S2 M2 H2 G2 rfl W2 1 rfl (Nat.le_of_ble_eq_true rfl)
 have O2 := O0.wr W2 g_o2
 have K2 : Keep h0 h2 ([o2, o0] : List Addr) := Keep.wr (Keep.refl h0 ([o2, o0] : List Addr)) W2 (Or.inl (List.mem_of_getElem? (i := 0) rfl))
 have N2 := Fr.snoc X2 N0 g_o2
 refine Home.run X2 hx hby sg13_15_4 (pc' := 19) (L' := #[sr o0, sr o1, sr o2, .val (.int (1 : Int32))]) (S' := [(.int (2 : Int32)), (.ref o0)]) rfl ?_
 have ne3 : o0 ≠ o2 := (own_neAV (E_o0.wr W2) (own_w50 hw) V2)
 have q4 := (F_size_o0.other W2 (Or.inl ne3))
 refine Home.wr (putF X2 hx hZ hown (host := "") (Or.inl (own_w84 hw)) Via.refl e2 q4 (E_o0.keep K2) (Or.inl (own_w85 hw)) (own_w50 hw) (ty := .int) (by decide) rfl rfl rfl rfl (hb hby d13_19)) fun T5 h5 X5 e5 W5 => ?_
 have Fw5 := q4.same W5
 have O5 := O2.wr W5 g_o0
 have K5 : Keep h0 h5 ([o2, o0] : List Addr) := Keep.wr K2 W5 (Or.inl (List.mem_of_getElem? (i := 1) rfl))
 have N5 := Fr.snoc X5 N2 g_o0
 show Home T5 (mkF m 22 #[sr o0, sr o1, sr o2, .val (.int (1 : Int32))] [])
 have ne6 : o2 ≠ o0 := (Ne.symm ne3)
 have q7 := (V2.other W5 ne6)
 have q8 := ((F_modCount_o0.other W2 (Or.inl ne3)).other W5 (Or.inr (slot_ne (Or.inl (own_w69 hw)) (Or.inl (own_w85 hw)) (by decide) (t := .int) (t' := .int) (by decide) (by decide))))
 have q9 := ((F_elementData_o0.other W2 (Or.inl ne3)).other W5 (Or.inr (slot_ne (Or.inl (own_w72 hw)) (Or.inl (own_w85 hw)) (by decide) (t := (.array (.object "java/lang/Object"))) (t' := .int) (by decide) (by decide))))
 exact Home.ret0 X5 hx hlk hret (hb hby d13_22) (by rw [show T5.heap = h5 from e5]; exact ⟨rfl, N5, K5, q7, (E_o0.keep K5), Fw5, q8, q9⟩) (by decide) (by decide)
theorem rm12_1 (l : Launch) (Z : State) (a0 : Array Value) (hw : HW a0 Z) (ws : List Jvm.Cond) (o0 o1 p3 : Addr) (k_p3 : ClassId) (p5 : Addr) (h0 : Heap) (n0 : Nat) (O0 : Old Z n0 h0) (F_modCount_o0 : Fld Z h0 o0 "java/util/AbstractList" "modCount" "I" (.int (1 : Int32))) (E_o0 : Exa Z h0 o0 "java/util/ArrayList") (g_o0 : n0 ≤ o0) (F_elementData_o0 : Fld Z h0 o0 "java/util/ArrayList" "elementData" "[Ljava/lang/Object;" (.ref p3)) (F_size_o0 : Fld Z h0 o0 "java/util/ArrayList" "size" "I" (.int (1 : Int32))) (V_p3 : Arv Z h0 p3 k_p3 (.object "java/lang/Object") (10 : Int32) [(.ref p5), .null, .null, .null, .null, .null, .null, .null, .null, .null] .null) (O_p3 : Ovr Z k_p3 "java/lang/Object") (E_o1 : Exa Z h0 o1 "com/example/wary_meter/warymeter/Column") (g_p3 : n0 ≤ p3) :
    Con l Z (⟨"java/util/ArrayList", "add", "(Ljava/lang/Object;)Z"⟩ : MethodName) jdk_38_method_25_code 2 (some .boolean) ws ({ frames := 1, cells := 0, slots := 0, locals := 15 } : Room) #[(.ref o0), (.ref o1)] h0 (fun v h L => v = some (.int (1 : Int32)) ∧ Fr n0 L ∧ Keep h0 h [o0, p3] ∧ Fld Z h o0 "java/util/AbstractList" "modCount" "I" (.int (2 : Int32)) ∧ Exa Z h o0 "java/util/ArrayList" ∧ Fld Z h o0 "java/util/ArrayList" "elementData" "[Ljava/lang/Object;" (.ref p3) ∧ Fld Z h o0 "java/util/ArrayList" "size" "I" (.int (2 : Int32)) ∧ Arv Z h p3 k_p3 (.object "java/lang/Object") (10 : Int32) [(.ref p5), (.ref o1), .null, .null, .null, .null, .null, .null, .null, .null] .null) := by
 refine own_body (plainFor_of_name own_pn6) (fun m => ef_rm12_1 m o0 o1) ?_
 intro p e s m below meth c s₁ hx hby hlk hml hret hZ hown hnm X0 e0
 have N0 := Fr.nil n0
 refine Home.run X0 hx hby sg12_0_2 (pc' := 2) (L' := #[sr o0, sr o1]) (S' := [(.ref o0), (.ref o0)]) rfl ?_
 refine Home.st (getF X0 hx hZ hown (host := "") (Or.inl (own_w82 hw)) (Via.of (own_w83 hw)) e0 F_modCount_o0 rfl rfl (hb hby d12_2)) fun T1 X1 e1 => ?_
 refine Home.run X1 hx hby sg12_5_2 (pc' := 7) (L' := #[sr o0, sr o1]) (S' := [(.int (2 : Int32)), (.ref o0)]) rfl ?_
 refine Home.wr (putF X1 hx hZ hown (host := "") (Or.inl (own_w82 hw)) (Via.of (own_w83 hw)) e1 F_modCount_o0 E_o0 (Or.inl (own_w69 hw)) (own_w50 hw) (ty := .int) (by decide) rfl rfl rfl rfl (hb hby d12_7)) fun T2 h2 X2 e2 W2 => ?_
 have Fw2 := F_modCount_o0.same W2
 have O2 := O0.wr W2 g_o0
 have K2 : Keep h0 h2 ([o0, p3] : List Addr) := Keep.wr (Keep.refl h0 ([o0, p3] : List Addr)) W2 (Or.inl (List.mem_of_getElem? (i := 0) rfl))
 have N2 := Fr.snoc X2 N0 g_o0
 refine Home.run X2 hx hby sg12_10_3 (pc' := 13) (L' := #[sr o0, sr o1]) (S' := [(.ref o0), (.ref o1), (.ref o0)]) rfl ?_
 have q3 := (F_elementData_o0.other W2 (Or.inr (slot_ne (Or.inl (own_w72 hw)) (Or.inl (own_w69 hw)) (by decide) (t := (.array (.object "java/lang/Object"))) (t' := .int) (by decide) (by decide))))
 refine Home.st (getF X2 hx hZ hown (host := "") (Or.inl (own_w71 hw)) Via.refl e2 q3 rfl rfl (hb hby d12_13)) fun T4 X4 e4 => ?_
 refine Home.run X4 hx hby sg12_16_1 (pc' := 17) (L' := #[sr o0, sr o1]) (S' := [(.ref o0), (.ref p3), (.ref o1), (.ref o0)]) rfl ?_
 have q5 := (F_size_o0.other W2 (Or.inr (slot_ne (Or.inl (own_w85 hw)) (Or.inl (own_w69 hw)) (by decide) (t := .int) (t' := .int) (by decide) (by decide))))
 refine Home.st (getF X4 hx hZ hown (host := "") (Or.inl (own_w84 hw)) Via.refl e4 q5 rfl rfl (hb hby d12_17)) fun T6 X6 e6 => ?_
 show Home T6 (mkF m 20 #[sr o0, sr o1] [(.int (1 : Int32)), (.ref p3), (.ref o1), (.ref o0)])
 have ne7 : p3 ≠ o0 := (Ne.symm (own_neAV E_o0 (own_w50 hw) V_p3))
 have q8 := (V_p3.other W2 ne7)
 refine Home.call (own_private X6 hx hZ hown (own_w86 hw) (own_w87 hw) (own_w89 hw) (Cond.privateMethod_at (mvP hZ (own_w88 hw) (args := #[]))) (own_w51 hw) (own_w90 hw) (by decide) (rm13_1 l Z a0 hw [] o0 o1 p3 k_p3 p5 h2 n0 O2 q8 O_p3 (E_o1.keep K2) g_p3 (E_o0.keep K2) q5 g_o0 Fw2 q3) e6 (E_o0.keep K2) rfl (by rw [hml]; rfl) (argsL := [(.ref o1), (.ref p3), (.int (1 : Int32))]) (rest := []) (lenOf own_pd16 rfl) rfl rfl (W := 0) (by exact hW0) (by decide) (by decide) (hb hby d12_20) (by decide) (by decide)) ?_
 rintro _ T9 L9 X9 ⟨rfl, N9q, K9q, P9_0, P9_1, P9_2, P9_3, P9_4⟩
 have O9 := Old.keep O2 K9q (allS g_p3 (allS g_o0 all0))
 have K9 : Keep h0 T9.heap ([o0, p3] : List Addr) := Keep.trans K2 K9q (allS (Or.inl (List.mem_of_getElem? (i := 1) rfl)) (allS (Or.inl (List.mem_of_getElem? (i := 0) rfl)) all0))
 have N9 := Fr.app N2 N9q
 refine Home.run X9 hx hby sg12_23_1 (pc' := 24) (L' := #[sr o0, sr o1]) (S' := [(.int (1 : Int32))]) rfl ?_
 exact Home.retN X9 hx hlk (t := .boolean) hret (by simp) (hb hby d12_24) ⟨rfl, N9, K9, P9_3, P9_1, P9_4, P9_2, P9_0⟩ (by decide) (by decide)
theorem rm13_2 (l : Launch) (Z : State) (a0 : Array Value) (hw : HW a0 Z) (ws : List Jvm.Cond) (o0 o1 o2 : Addr) (k_o2 : ClassId) (p5 p6 : Addr) (h0 : Heap) (n0 : Nat) (O0 : Old Z n0 h0) (V_o2 : Arv Z h0 o2 k_o2 (.object "java/lang/Object") (10 : Int32) [(.ref p5), (.ref p6), .null, .null, .null, .null, .null, .null, .null, .null] .null) (O_o2 : Ovr Z k_o2 "java/lang/Object") (E_o1 : Exa Z h0 o1 "com/example/wary_meter/warymeter/Column") (g_o2 : n0 ≤ o2) (E_o0 : Exa Z h0 o0 "java/util/ArrayList") (F_size_o0 : Fld Z h0 o0 "java/util/ArrayList" "size" "I" (.int (2 : Int32))) (g_o0 : n0 ≤ o0) (F_modCount_o0 : Fld Z h0 o0 "java/util/AbstractList" "modCount" "I" (.int (3 : Int32))) (F_elementData_o0 : Fld Z h0 o0 "java/util/ArrayList" "elementData" "[Ljava/lang/Object;" (.ref o2)) :
    Con l Z (⟨"java/util/ArrayList", "add", "(Ljava/lang/Object;[Ljava/lang/Object;I)V"⟩ : MethodName) jdk_38_method_24_code 4 none ws ({ frames := 0, cells := 0, slots := 0, locals := 0 } : Room) #[(.ref o0), (.ref o1), (.ref o2), (.int (2 : Int32))] h0 (fun v h L => v = none ∧ Fr n0 L ∧ Keep h0 h [o2, o0] ∧ Arv Z h o2 k_o2 (.object "java/lang/Object") (10 : Int32) [(.ref p5), (.ref p6), (.ref o1), .null, .null, .null, .null, .null, .null, .null] .null ∧ Exa Z h o0 "java/util/ArrayList" ∧ Fld Z h o0 "java/util/ArrayList" "size" "I" (.int (3 : Int32)) ∧ Fld Z h o0 "java/util/AbstractList" "modCount" "I" (.int (3 : Int32)) ∧ Fld Z h o0 "java/util/ArrayList" "elementData" "[Ljava/lang/Object;" (.ref o2)) := by
 refine own_body (plainFor_of_name own_pn6) (fun m => ef_rm13_2 m o0 o1 o2 (2 : Int32)) ?_
 intro p e s m below meth c s₁ hx hby hlk hml hret hZ hown hnm X0 e0
 have N0 := Fr.nil n0
 refine Home.run X0 hx hby sg13_0_2 (pc' := 2) (L' := #[sr o0, sr o1, sr o2, .val (.int (2 : Int32))]) (S' := [(.ref o2), (.int (2 : Int32))]) rfl ?_
 obtain ⟨cl1, Ar1, q1, S1, M1, H1, G1⟩ := id V_o2
 refine Home.go (own_alen X0 hx hZ e0 Ar1 S1 M1 rfl rfl (hb hby d13_2)) ?_
 refine Home.go (fun _ => XS.icmpYes X0.here hx rfl (pc0 := 3) (pc' := 11) rfl (hb hby d13_3) rfl (feq (by decide)).2 (by decide) (by decide)) ?_
 refine Home.run X0 hx hby sg13_11_3 (pc' := 14) (L' := #[sr o0, sr o1, sr o2, .val (.int (2 : Int32))]) (S' := [(.ref o1), (.int (2 : Int32)), (.ref o2)]) rfl ?_
 obtain ⟨cl2, Ar2, q2, S2, M2, H2, G2⟩ := id V_o2
 refine Home.wr (stR X0 hx hZ e0 Ar2 (j := (2 : Int32)) (inb_of S2 ⟨by decide, by decide⟩) rfl (Sto.ofV Ar2 q2 O_o2 (Ins.of_exa E_o1 (own_w107 hw))) rfl rfl (hb hby d13_14)) fun T2 h2 X2 e2 W2 => ?_
 have V2 : Arv Z h2 o2 k_o2 (.object "java/lang/Object") (10 : Int32) [(.ref p5), (.ref p6), (.ref o1), .null, .null, .null, .null, .null, .null, .null] .null := Arv.set Ar2 q2 S2 M2 H2 G2 rfl W2 2 rfl (Nat.le_of_ble_eq_true rfl)
 have O2 := O0.wr W2 g_o2
 have K2 : Keep h0 h2 ([o2, o0] : List Addr) := Keep.wr (Keep.refl h0 ([o2, o0] : List Addr)) W2 (Or.inl (List.mem_of_getElem? (i := 0) rfl))
 have N2 := Fr.snoc X2 N0 g_o2
 refine Home.run X2 hx hby sg13_15_4 (pc' := 19) (L' := #[sr o0, sr o1, sr o2, .val (.int (2 : Int32))]) (S' := [(.int (3 : Int32)), (.ref o0)]) rfl ?_
 have ne3 : o0 ≠ o2 := (own_neAV (E_o0.wr W2) (own_w50 hw) V2)
 have q4 := (F_size_o0.other W2 (Or.inl ne3))
 refine Home.wr (putF X2 hx hZ hown (host := "") (Or.inl (own_w84 hw)) Via.refl e2 q4 (E_o0.keep K2) (Or.inl (own_w85 hw)) (own_w50 hw) (ty := .int) (by decide) rfl rfl rfl rfl (hb hby d13_19)) fun T5 h5 X5 e5 W5 => ?_
 have Fw5 := q4.same W5
 have O5 := O2.wr W5 g_o0
 have K5 : Keep h0 h5 ([o2, o0] : List Addr) := Keep.wr K2 W5 (Or.inl (List.mem_of_getElem? (i := 1) rfl))
 have N5 := Fr.snoc X5 N2 g_o0
 show Home T5 (mkF m 22 #[sr o0, sr o1, sr o2, .val (.int (2 : Int32))] [])
 have ne6 : o2 ≠ o0 := (Ne.symm ne3)
 have q7 := (V2.other W5 ne6)
 have q8 := ((F_modCount_o0.other W2 (Or.inl ne3)).other W5 (Or.inr (slot_ne (Or.inl (own_w69 hw)) (Or.inl (own_w85 hw)) (by decide) (t := .int) (t' := .int) (by decide) (by decide))))
 have q9 := ((F_elementData_o0.other W2 (Or.inl ne3)).other W5 (Or.inr (slot_ne (Or.inl (own_w72 hw)) (Or.inl (own_w85 hw)) (by decide) (t := (.array (.object "java/lang/Object"))) (t' := .int) (by decide) (by decide))))
 exact Home.ret0 X5 hx hlk hret (hb hby d13_22) (by rw [show T5.heap = h5 from e5]; exact ⟨rfl, N5, K5, q7, (E_o0.keep K5), Fw5, q8, q9⟩) (by decide) (by decide)
theorem rm12_2 (l : Launch) (Z : State) (a0 : Array Value) (hw : HW a0 Z) (ws : List Jvm.Cond) (o0 o1 p3 : Addr) (k_p3 : ClassId) (p5 p6 : Addr) (h0 : Heap) (n0 : Nat) (O0 : Old Z n0 h0) (F_modCount_o0 : Fld Z h0 o0 "java/util/AbstractList" "modCount" "I" (.int (2 : Int32))) (E_o0 : Exa Z h0 o0 "java/util/ArrayList") (g_o0 : n0 ≤ o0) (F_elementData_o0 : Fld Z h0 o0 "java/util/ArrayList" "elementData" "[Ljava/lang/Object;" (.ref p3)) (F_size_o0 : Fld Z h0 o0 "java/util/ArrayList" "size" "I" (.int (2 : Int32))) (V_p3 : Arv Z h0 p3 k_p3 (.object "java/lang/Object") (10 : Int32) [(.ref p5), (.ref p6), .null, .null, .null, .null, .null, .null, .null, .null] .null) (O_p3 : Ovr Z k_p3 "java/lang/Object") (E_o1 : Exa Z h0 o1 "com/example/wary_meter/warymeter/Column") (g_p3 : n0 ≤ p3) :
    Con l Z (⟨"java/util/ArrayList", "add", "(Ljava/lang/Object;)Z"⟩ : MethodName) jdk_38_method_25_code 2 (some .boolean) ws ({ frames := 1, cells := 0, slots := 0, locals := 15 } : Room) #[(.ref o0), (.ref o1)] h0 (fun v h L => v = some (.int (1 : Int32)) ∧ Fr n0 L ∧ Keep h0 h [o0, p3] ∧ Fld Z h o0 "java/util/AbstractList" "modCount" "I" (.int (3 : Int32)) ∧ Exa Z h o0 "java/util/ArrayList" ∧ Fld Z h o0 "java/util/ArrayList" "elementData" "[Ljava/lang/Object;" (.ref p3) ∧ Fld Z h o0 "java/util/ArrayList" "size" "I" (.int (3 : Int32)) ∧ Arv Z h p3 k_p3 (.object "java/lang/Object") (10 : Int32) [(.ref p5), (.ref p6), (.ref o1), .null, .null, .null, .null, .null, .null, .null] .null) := by
 refine own_body (plainFor_of_name own_pn6) (fun m => ef_rm12_2 m o0 o1) ?_
 intro p e s m below meth c s₁ hx hby hlk hml hret hZ hown hnm X0 e0
 have N0 := Fr.nil n0
 refine Home.run X0 hx hby sg12_0_2 (pc' := 2) (L' := #[sr o0, sr o1]) (S' := [(.ref o0), (.ref o0)]) rfl ?_
 refine Home.st (getF X0 hx hZ hown (host := "") (Or.inl (own_w82 hw)) (Via.of (own_w83 hw)) e0 F_modCount_o0 rfl rfl (hb hby d12_2)) fun T1 X1 e1 => ?_
 refine Home.run X1 hx hby sg12_5_2 (pc' := 7) (L' := #[sr o0, sr o1]) (S' := [(.int (3 : Int32)), (.ref o0)]) rfl ?_
 refine Home.wr (putF X1 hx hZ hown (host := "") (Or.inl (own_w82 hw)) (Via.of (own_w83 hw)) e1 F_modCount_o0 E_o0 (Or.inl (own_w69 hw)) (own_w50 hw) (ty := .int) (by decide) rfl rfl rfl rfl (hb hby d12_7)) fun T2 h2 X2 e2 W2 => ?_
 have Fw2 := F_modCount_o0.same W2
 have O2 := O0.wr W2 g_o0
 have K2 : Keep h0 h2 ([o0, p3] : List Addr) := Keep.wr (Keep.refl h0 ([o0, p3] : List Addr)) W2 (Or.inl (List.mem_of_getElem? (i := 0) rfl))
 have N2 := Fr.snoc X2 N0 g_o0
 refine Home.run X2 hx hby sg12_10_3 (pc' := 13) (L' := #[sr o0, sr o1]) (S' := [(.ref o0), (.ref o1), (.ref o0)]) rfl ?_
 have q3 := (F_elementData_o0.other W2 (Or.inr (slot_ne (Or.inl (own_w72 hw)) (Or.inl (own_w69 hw)) (by decide) (t := (.array (.object "java/lang/Object"))) (t' := .int) (by decide) (by decide))))
 refine Home.st (getF X2 hx hZ hown (host := "") (Or.inl (own_w71 hw)) Via.refl e2 q3 rfl rfl (hb hby d12_13)) fun T4 X4 e4 => ?_
 refine Home.run X4 hx hby sg12_16_1 (pc' := 17) (L' := #[sr o0, sr o1]) (S' := [(.ref o0), (.ref p3), (.ref o1), (.ref o0)]) rfl ?_
 have q5 := (F_size_o0.other W2 (Or.inr (slot_ne (Or.inl (own_w85 hw)) (Or.inl (own_w69 hw)) (by decide) (t := .int) (t' := .int) (by decide) (by decide))))
 refine Home.st (getF X4 hx hZ hown (host := "") (Or.inl (own_w84 hw)) Via.refl e4 q5 rfl rfl (hb hby d12_17)) fun T6 X6 e6 => ?_
 show Home T6 (mkF m 20 #[sr o0, sr o1] [(.int (2 : Int32)), (.ref p3), (.ref o1), (.ref o0)])
 have ne7 : p3 ≠ o0 := (Ne.symm (own_neAV E_o0 (own_w50 hw) V_p3))
 have q8 := (V_p3.other W2 ne7)
 refine Home.call (own_private X6 hx hZ hown (own_w86 hw) (own_w87 hw) (own_w89 hw) (Cond.privateMethod_at (mvP hZ (own_w88 hw) (args := #[]))) (own_w51 hw) (own_w90 hw) (by decide) (rm13_2 l Z a0 hw [] o0 o1 p3 k_p3 p5 p6 h2 n0 O2 q8 O_p3 (E_o1.keep K2) g_p3 (E_o0.keep K2) q5 g_o0 Fw2 q3) e6 (E_o0.keep K2) rfl (by rw [hml]; rfl) (argsL := [(.ref o1), (.ref p3), (.int (2 : Int32))]) (rest := []) (lenOf own_pd16 rfl) rfl rfl (W := 0) (by exact hW0) (by decide) (by decide) (hb hby d12_20) (by decide) (by decide)) ?_
 rintro _ T9 L9 X9 ⟨rfl, N9q, K9q, P9_0, P9_1, P9_2, P9_3, P9_4⟩
 have O9 := Old.keep O2 K9q (allS g_p3 (allS g_o0 all0))
 have K9 : Keep h0 T9.heap ([o0, p3] : List Addr) := Keep.trans K2 K9q (allS (Or.inl (List.mem_of_getElem? (i := 1) rfl)) (allS (Or.inl (List.mem_of_getElem? (i := 0) rfl)) all0))
 have N9 := Fr.app N2 N9q
 refine Home.run X9 hx hby sg12_23_1 (pc' := 24) (L' := #[sr o0, sr o1]) (S' := [(.int (1 : Int32))]) rfl ?_
 exact Home.retN X9 hx hlk (t := .boolean) hret (by simp) (hb hby d12_24) ⟨rfl, N9, K9, P9_3, P9_1, P9_4, P9_2, P9_0⟩ (by decide) (by decide)
theorem rm17_1 (l : Launch) (Z : State) (a0 : Array Value) (hw : HW a0 Z) (ws : List Jvm.Cond) (i0 i1 : Int32) (h0 : Heap) (n0 : Nat) (O0 : Old Z n0 h0) (bnd_i1 : ¬ i1 < (1 : Int32) ∧ ¬ (3 : Int32) < i1) :
    Con l Z (⟨"com/example/wary_meter/warymeter/ColumnPickPinLaw", "sel", "(II)I"⟩ : MethodName) method_2_code 2 (some .int) ws ({ frames := 0, cells := 0, slots := 0, locals := 0 } : Room) #[(.int i0), (.int i1)] h0 (Pur (some (.int ((i0 &&& (255 : Int32)) % i1))) h0) := by
 refine own_body (plainFor_of_name own_pn7) (fun m => ef_rm17_1 m i0 i1) ?_
 intro p e s m below meth c s₁ hx hby hlk hml hret hZ hown hnm X0 e0
 have N0 := Fr.nil n0
 refine Home.run X0 hx hby sg17_0_1 (pc' := 1) (L' := #[.val (.int i0), .val (.int i1)]) (S' := [(.int i1)]) rfl ?_
 refine Home.go (fun _ => XS.ifYes X0.here hx rfl (pc0 := 1) (pc' := 6) rfl (hb hby d17_1) rfl ((if0 _ _).trans (feq (bnd_ne bnd_i1 (bnd_lit (0 : Int32)) (by decide +kernel))).2) (by decide) (by decide)) ?_
 refine Home.run X0 hx hby sg17_6_4 (pc' := 12) (L' := #[.val (.int i0), .val (.int i1)]) (S' := [(.int i1), (.int (i0 &&& (255 : Int32)))]) rfl ?_
 refine Home.go (fun _ => iremM X0 hx rfl (hb hby d17_12) rfl (bnd_ne bnd_i1 (bnd_lit (0 : Int32)) (by decide +kernel))) ?_
 exact Home.retI X0 hx hlk hret (hb hby d17_13) ⟨rfl, rfl, e0⟩ (by decide) (by decide)
theorem rm18_1 (l : Launch) (Z : State) (a0 : Array Value) (hw : HW a0 Z) (ws : List Jvm.Cond) (i0 i1 i2 i3 : Int32) (h0 : Heap) (n0 : Nat) (O0 : Old Z n0 h0) (bnd_i0 : ¬ i0 < (0 : Int32) ∧ ¬ (255 : Int32) < i0) (bnd_i1 : ¬ i1 < (0 : Int32) ∧ ¬ (255 : Int32) < i1) (bnd_i2 : ¬ i2 < (0 : Int32) ∧ ¬ (255 : Int32) < i2) (bnd_i3 : ¬ i3 < (0 : Int32) ∧ ¬ (2 : Int32) < i3) :
    Con l Z (⟨"com/example/wary_meter/warymeter/ColumnPickPinLaw", "charAt", "(CCCI)C"⟩ : MethodName) method_3_code 4 (some .char) ws ({ frames := 0, cells := 0, slots := 0, locals := 0 } : Room) #[(.int i0), (.int i1), (.int i2), (.int i3)] h0 (Pur (some (.int (f_rm18_1 i0 i1 i2 i3))) h0) := by
 refine own_body (plainFor_of_name own_pn7) (fun m => ef_rm18_1 m i0 i1 i2 i3) ?_
 intro p e s m below meth c s₁ hx hby hlk hml hret hZ hown hnm X0 e0
 have N0 := Fr.nil n0
 refine Home.run X0 hx hby sg18_0_2 (pc' := 2) (L' := #[.val (.int i0), .val (.int i1), .val (.int i2), .val (.int i3)]) (S' := [(.int (2 : Int32)), (.int i3)]) rfl ?_
 by_cases c1 : i3 = (2 : Int32)
 ·
  refine Home.go (fun _ => XS.icmpNo X0.here hx rfl (hb hby d18_2) rfl (teq c1).2) ?_
  have bd2 : ¬ i3 < (2 : Int32) ∧ ¬ (2 : Int32) < i3 := ⟨(bnd_eql c1), (bnd_eqr c1)⟩
  refine Home.run X0 hx hby sg18_5_1 (pc' := 6) (L' := #[.val (.int i0), .val (.int i1), .val (.int i2), .val (.int i3)]) (S' := [(.int i2)]) rfl ?_
  exact Home.retN X0 hx hlk (t := .char) hret (by simp) (hb hby d18_6) ⟨congrArg some (congrArg Value.int (by first | rfl | (simp only [f_rm18_1, if_pos c1, nar_char_id bnd_i2 (by decide +kernel) (by decide +kernel), nar_i2c, nar_i2b] <;> rfl) | (simp [f_rm18_1, if_pos c1, nar_char_id bnd_i2 (by decide +kernel) (by decide +kernel)]; done))), rfl, e0⟩ (by decide) (by decide)
 ·
  refine Home.go (fun _ => XS.icmpYes X0.here hx rfl (pc0 := 2) (pc' := 7) rfl (hb hby d18_2) rfl (feq c1).2 (by decide) (by decide)) ?_
  have bd3 : ¬ i3 < (0 : Int32) ∧ ¬ (1 : Int32) < i3 := ⟨bnd_i3.1, (bnd_ner bnd_i3.2 c1 (by decide +kernel))⟩
  refine Home.run X0 hx hby sg18_7_2 (pc' := 9) (L' := #[.val (.int i0), .val (.int i1), .val (.int i2), .val (.int i3)]) (S' := [(.int (1 : Int32)), (.int i3)]) rfl ?_
  by_cases c4 : i3 = (1 : Int32)
  ·
   refine Home.go (fun _ => XS.icmpNo X0.here hx rfl (hb hby d18_9) rfl (teq c4).2) ?_
   have bd5 : ¬ i3 < (1 : Int32) ∧ ¬ (1 : Int32) < i3 := ⟨(bnd_eql c4), (bnd_eqr c4)⟩
   refine Home.run X0 hx hby sg18_12_1 (pc' := 13) (L' := #[.val (.int i0), .val (.int i1), .val (.int i2), .val (.int i3)]) (S' := [(.int i1)]) rfl ?_
   exact Home.retN X0 hx hlk (t := .char) hret (by simp) (hb hby d18_13) ⟨congrArg some (congrArg Value.int (by first | rfl | (simp only [f_rm18_1, if_neg c1, if_pos c4, nar_char_id bnd_i1 (by decide +kernel) (by decide +kernel), nar_i2c, nar_i2b] <;> rfl) | (simp [f_rm18_1, if_neg c1, if_pos c4, nar_char_id bnd_i1 (by decide +kernel) (by decide +kernel)]; done))), rfl, e0⟩ (by decide) (by decide)
  ·
   refine Home.go (fun _ => XS.icmpYes X0.here hx rfl (pc0 := 9) (pc' := 14) rfl (hb hby d18_9) rfl (feq c4).2 (by decide) (by decide)) ?_
   have bd6 : ¬ i3 < (0 : Int32) ∧ ¬ (0 : Int32) < i3 := ⟨bd3.1, (bnd_ner bd3.2 c4 (by decide +kernel))⟩
   refine Home.run X0 hx hby sg18_14_1 (pc' := 15) (L' := #[.val (.int i0), .val (.int i1), .val (.int i2), .val (.int i3)]) (S' := [(.int i0)]) rfl ?_
   exact Home.retN X0 hx hlk (t := .char) hret (by simp) (hb hby d18_15) ⟨congrArg some (congrArg Value.int (by first | rfl | (simp only [f_rm18_1, if_neg c1, if_neg c4, nar_char_id bnd_i0 (by decide +kernel) (by decide +kernel), nar_i2c, nar_i2b] <;> rfl) | (simp [f_rm18_1, if_neg c1, if_neg c4, nar_char_id bnd_i0 (by decide +kernel) (by decide +kernel)]; done))), rfl, e0⟩ (by decide) (by decide)
theorem f_rm18_1_bnd (i0 : Int32) (i1 : Int32) (i2 : Int32) (i3 : Int32) (bnd_i0 : ¬ i0 < (0 : Int32) ∧ ¬ (255 : Int32) < i0) (bnd_i1 : ¬ i1 < (0 : Int32) ∧ ¬ (255 : Int32) < i1) (bnd_i2 : ¬ i2 < (0 : Int32) ∧ ¬ (255 : Int32) < i2) (bnd_i3 : ¬ i3 < (0 : Int32) ∧ ¬ (2 : Int32) < i3) : ¬ (f_rm18_1 i0 i1 i2 i3) < (0 : Int32) ∧ ¬ (255 : Int32) < (f_rm18_1 i0 i1 i2 i3) := by unfold f_rm18_1; (repeat' split) <;> first | exact bnd_mono bnd_i2 (by decide +kernel) (by decide +kernel) | exact bnd_mono bnd_i1 (by decide +kernel) (by decide +kernel) | exact bnd_mono bnd_i0 (by decide +kernel) (by decide +kernel)
theorem rm13_3 (l : Launch) (Z : State) (a0 : Array Value) (hw : HW a0 Z) (ws : List Jvm.Cond) (o0 o1 sv_DEFAULTCAPACITY_EMPTY_ELEMENTDATA : Addr) (kde : ClassId) (h0 : Heap) (n0 : Nat) (O0 : Old Z n0 h0) (V_de : Arv Z Z.heap sv_DEFAULTCAPACITY_EMPTY_ELEMENTDATA kde (.object "java/lang/Object") (0 : Int32) [] .null) (E_o0 : Exa Z h0 o0 "java/util/ArrayList") (F_size_o0 : Fld Z h0 o0 "java/util/ArrayList" "size" "I" (.int (0 : Int32))) (F_elementData_o0 : Fld Z h0 o0 "java/util/ArrayList" "elementData" "[Ljava/lang/Object;" (.ref sv_DEFAULTCAPACITY_EMPTY_ELEMENTDATA)) (S_DEFAULTCAPACITY_EMPTY_ELEMENTDATA : Sta Z Z.heap "java/util/ArrayList" "DEFAULTCAPACITY_EMPTY_ELEMENTDATA" "[Ljava/lang/Object;" (.ref sv_DEFAULTCAPACITY_EMPTY_ELEMENTDATA)) (F_modCount_o0 : Fld Z h0 o0 "java/util/AbstractList" "modCount" "I" (.int (1 : Int32))) (g_o0 : n0 ≤ o0) (E_o1 : Exa Z h0 o1 "java/lang/String") :
    Con l Z (⟨"java/util/ArrayList", "add", "(Ljava/lang/Object;[Ljava/lang/Object;I)V"⟩ : MethodName) jdk_38_method_24_code 4 none ws ({ frames := 3, cells := 1, slots := 10, locals := 41 } : Room) #[(.ref o0), (.ref o1), (.ref sv_DEFAULTCAPACITY_EMPTY_ELEMENTDATA), (.int (0 : Int32))] h0 (fun v h L => ∃ (b6_2_2 : Addr), ∃ (k6_2_2 : ClassId), v = none ∧ Fr n0 L ∧ h0.size ≤ b6_2_2 ∧ Keep h0 h [o0] ∧ Exa Z h o0 "java/util/ArrayList" ∧ Fld Z h o0 "java/util/ArrayList" "size" "I" (.int (1 : Int32)) ∧ Fld Z h o0 "java/util/ArrayList" "elementData" "[Ljava/lang/Object;" (.ref b6_2_2) ∧ Fld Z h o0 "java/util/AbstractList" "modCount" "I" (.int (1 : Int32)) ∧ Arv Z h b6_2_2 k6_2_2 (.object "java/lang/Object") (10 : Int32) [(.ref o1), .null, .null, .null, .null, .null, .null, .null, .null, .null] .null ∧ Ovr Z k6_2_2 "java/lang/Object") := by
 refine own_body (plainFor_of_name own_pn6) (fun m => ef_rm13_3 m o0 o1 sv_DEFAULTCAPACITY_EMPTY_ELEMENTDATA (0 : Int32)) ?_
 intro p e s m below meth c s₁ hx hby hlk hml hret hZ hown hnm X0 e0
 have N0 := Fr.nil n0
 refine Home.run X0 hx hby sg13_0_2 (pc' := 2) (L' := #[sr o0, sr o1, sr sv_DEFAULTCAPACITY_EMPTY_ELEMENTDATA, .val (.int (0 : Int32))]) (S' := [(.ref sv_DEFAULTCAPACITY_EMPTY_ELEMENTDATA), (.int (0 : Int32))]) rfl ?_
 obtain ⟨cl1, Ar1, q1, S1, M1, H1, G1⟩ := id (V_de.ext O0.2)
 refine Home.go (own_alen X0 hx hZ e0 Ar1 S1 M1 rfl rfl (hb hby d13_2)) ?_
 refine Home.go (fun _ => XS.icmpNo X0.here hx rfl (hb hby d13_3) rfl (teq (by decide)).2) ?_
 refine Home.run X0 hx hby sg13_6_1 (pc' := 7) (L' := #[sr o0, sr o1, sr sv_DEFAULTCAPACITY_EMPTY_ELEMENTDATA, .val (.int (0 : Int32))]) (S' := [(.ref o0)]) rfl ?_
 refine Home.call (own_private X0 hx hZ hown (own_w91 hw) (own_w92 hw) (own_w94 hw) (Cond.privateMethod_at (mvP hZ (own_w93 hw) (args := #[]))) (own_w51 hw) (own_w95 hw) (by decide) (rm14_0 l Z a0 hw [] o0 sv_DEFAULTCAPACITY_EMPTY_ELEMENTDATA kde h0 n0 O0 F_size_o0 E_o0 F_elementData_o0 V_de S_DEFAULTCAPACITY_EMPTY_ELEMENTDATA F_modCount_o0 g_o0) e0 E_o0 rfl (by rw [hml]; rfl) (argsL := []) (rest := []) (lenOf own_pd15 rfl) rfl rfl (W := 0) (by exact hW0) (by decide) (by decide) (hb hby d13_7) (by decide) (by decide)) ?_
 rintro _ T2 L2 X2 ⟨b6_2_2, k6_2_2, rfl, N2q, sz_b6_2_2, K2q, P2_0, P2_1, P2_2, P2_3, P2_4, P2_5⟩
 have g_b6_2_2 : n0 ≤ b6_2_2 := Nat.le_trans (Old.le O0) sz_b6_2_2
 have O2 := Old.keep O0 K2q (allS g_o0 all0)
 have K2 : Keep h0 T2.heap ([o0] : List Addr) := Keep.trans (Keep.refl h0 ([o0] : List Addr)) K2q (allS (Or.inl (List.mem_of_getElem? (i := 0) rfl)) all0)
 have N2 := Fr.app N0 N2q
 refine Home.run X2 hx hby sg13_10_4 (pc' := 14) (L' := #[sr o0, sr o1, sr b6_2_2, .val (.int (0 : Int32))]) (S' := [(.ref o1), (.int (0 : Int32)), (.ref b6_2_2)]) rfl ?_
 obtain ⟨cl3, Ar3, q3, S3, M3, H3, G3⟩ := id P2_4
 have q4 := (Ins.keep (Ins.of_exa E_o1 (own_w163 hw)) K2q)
 refine Home.wr (stR X2 hx hZ rfl Ar3 (j := (0 : Int32)) (inb_of S3 ⟨by decide, by decide⟩) rfl (Sto.ofV Ar3 q3 P2_5 q4) rfl rfl (hb hby d13_14)) fun T3 h3 X3 e3 W3 => ?_
 have V3 : Arv Z h3 b6_2_2 k6_2_2 (.object "java/lang/Object") (10 : Int32) [(.ref o1), .null, .null, .null, .null, .null, .null, .null, .null, .null] .null := Arv.set Ar3 q3 S3 M3 H3 G3 rfl W3 0 rfl (Nat.le_of_ble_eq_true rfl)
 have O3 := O2.wr W3 g_b6_2_2
 have K3 : Keep h0 h3 ([o0] : List Addr) := Keep.wr K2 W3 (Or.inr (Nat.le_trans (Nat.le_refl _) sz_b6_2_2))
 have N3 := Fr.snoc X3 N2 g_b6_2_2
 show Home T3 (mkF m 15 #[sr o0, sr o1, sr b6_2_2, .val (.int (0 : Int32))] [])
 refine Home.run X3 hx hby sg13_15_4 (pc' := 19) (L' := #[sr o0, sr o1, sr b6_2_2, .val (.int (0 : Int32))]) (S' := [(.int (1 : Int32)), (.ref o0)]) rfl ?_
 have ne5 : o0 ≠ b6_2_2 := (Nat.ne_of_lt (Nat.lt_of_lt_of_le E_o0.lt (Nat.le_trans (Nat.le_refl _) sz_b6_2_2)))
 have q6 := (P2_0.other W3 (Or.inl ne5))
 refine Home.wr (putF X3 hx hZ hown (host := "") (Or.inl (own_w84 hw)) Via.refl e3 q6 (E_o0.keep K3) (Or.inl (own_w85 hw)) (own_w50 hw) (ty := .int) (by decide) rfl rfl rfl rfl (hb hby d13_19)) fun T7 h7 X7 e7 W7 => ?_
 have Fw7 := q6.same W7
 have O7 := O3.wr W7 g_o0
 have K7 : Keep h0 h7 ([o0] : List Addr) := Keep.wr K3 W7 (Or.inl (List.mem_of_getElem? (i := 0) rfl))
 have N7 := Fr.snoc X7 N3 g_o0
 have q8 := ((P2_2.other W3 (Or.inl ne5)).other W7 (Or.inr (slot_ne (Or.inl (own_w72 hw)) (Or.inl (own_w85 hw)) (by decide) (t := (.array (.object "java/lang/Object"))) (t' := .int) (by decide) (by decide))))
 have q9 := ((P2_3.other W3 (Or.inl ne5)).other W7 (Or.inr (slot_ne (Or.inl (own_w69 hw)) (Or.inl (own_w85 hw)) (by decide) (t := .int) (t' := .int) (by decide) (by decide))))
 have ne10 : b6_2_2 ≠ o0 := (Ne.symm ne5)
 have q11 := (V3.other W7 ne10)
 exact Home.ret0 X7 hx hlk hret (hb hby d13_22) (by rw [show T7.heap = h7 from e7]; exact ⟨b6_2_2, k6_2_2, rfl, N7, (Nat.le_trans (Nat.le_refl _) sz_b6_2_2), K7, (E_o0.keep K7), Fw7, q8, q9, q11, P2_5⟩) (by decide) (by decide)
theorem rm12_3 (l : Launch) (Z : State) (a0 : Array Value) (hw : HW a0 Z) (ws : List Jvm.Cond) (o0 o1 sv_DEFAULTCAPACITY_EMPTY_ELEMENTDATA : Addr) (kde : ClassId) (h0 : Heap) (n0 : Nat) (O0 : Old Z n0 h0) (F_modCount_o0 : Fld Z h0 o0 "java/util/AbstractList" "modCount" "I" (.int (0 : Int32))) (E_o0 : Exa Z h0 o0 "java/util/ArrayList") (g_o0 : n0 ≤ o0) (F_elementData_o0 : Fld Z h0 o0 "java/util/ArrayList" "elementData" "[Ljava/lang/Object;" (.ref sv_DEFAULTCAPACITY_EMPTY_ELEMENTDATA)) (F_size_o0 : Fld Z h0 o0 "java/util/ArrayList" "size" "I" (.int (0 : Int32))) (V_de : Arv Z Z.heap sv_DEFAULTCAPACITY_EMPTY_ELEMENTDATA kde (.object "java/lang/Object") (0 : Int32) [] .null) (S_DEFAULTCAPACITY_EMPTY_ELEMENTDATA : Sta Z Z.heap "java/util/ArrayList" "DEFAULTCAPACITY_EMPTY_ELEMENTDATA" "[Ljava/lang/Object;" (.ref sv_DEFAULTCAPACITY_EMPTY_ELEMENTDATA)) (E_o1 : Exa Z h0 o1 "java/lang/String") :
    Con l Z (⟨"java/util/ArrayList", "add", "(Ljava/lang/Object;)Z"⟩ : MethodName) jdk_38_method_25_code 2 (some .boolean) ws ({ frames := 4, cells := 1, slots := 10, locals := 56 } : Room) #[(.ref o0), (.ref o1)] h0 (fun v h L => ∃ (b6_2_2_7 : Addr), ∃ (k6_2_2_7 : ClassId), v = some (.int (1 : Int32)) ∧ Fr n0 L ∧ h0.size ≤ b6_2_2_7 ∧ Keep h0 h [o0] ∧ Fld Z h o0 "java/util/AbstractList" "modCount" "I" (.int (1 : Int32)) ∧ Exa Z h o0 "java/util/ArrayList" ∧ Fld Z h o0 "java/util/ArrayList" "elementData" "[Ljava/lang/Object;" (.ref b6_2_2_7) ∧ Fld Z h o0 "java/util/ArrayList" "size" "I" (.int (1 : Int32)) ∧ Arv Z h b6_2_2_7 k6_2_2_7 (.object "java/lang/Object") (10 : Int32) [(.ref o1), .null, .null, .null, .null, .null, .null, .null, .null, .null] .null ∧ Ovr Z k6_2_2_7 "java/lang/Object") := by
 refine own_body (plainFor_of_name own_pn6) (fun m => ef_rm12_3 m o0 o1) ?_
 intro p e s m below meth c s₁ hx hby hlk hml hret hZ hown hnm X0 e0
 have N0 := Fr.nil n0
 refine Home.run X0 hx hby sg12_0_2 (pc' := 2) (L' := #[sr o0, sr o1]) (S' := [(.ref o0), (.ref o0)]) rfl ?_
 refine Home.st (getF X0 hx hZ hown (host := "") (Or.inl (own_w82 hw)) (Via.of (own_w83 hw)) e0 F_modCount_o0 rfl rfl (hb hby d12_2)) fun T1 X1 e1 => ?_
 refine Home.run X1 hx hby sg12_5_2 (pc' := 7) (L' := #[sr o0, sr o1]) (S' := [(.int (1 : Int32)), (.ref o0)]) rfl ?_
 refine Home.wr (putF X1 hx hZ hown (host := "") (Or.inl (own_w82 hw)) (Via.of (own_w83 hw)) e1 F_modCount_o0 E_o0 (Or.inl (own_w69 hw)) (own_w50 hw) (ty := .int) (by decide) rfl rfl rfl rfl (hb hby d12_7)) fun T2 h2 X2 e2 W2 => ?_
 have Fw2 := F_modCount_o0.same W2
 have O2 := O0.wr W2 g_o0
 have K2 : Keep h0 h2 ([o0] : List Addr) := Keep.wr (Keep.refl h0 ([o0] : List Addr)) W2 (Or.inl (List.mem_of_getElem? (i := 0) rfl))
 have N2 := Fr.snoc X2 N0 g_o0
 refine Home.run X2 hx hby sg12_10_3 (pc' := 13) (L' := #[sr o0, sr o1]) (S' := [(.ref o0), (.ref o1), (.ref o0)]) rfl ?_
 have q3 := (F_elementData_o0.other W2 (Or.inr (slot_ne (Or.inl (own_w72 hw)) (Or.inl (own_w69 hw)) (by decide) (t := (.array (.object "java/lang/Object"))) (t' := .int) (by decide) (by decide))))
 refine Home.st (getF X2 hx hZ hown (host := "") (Or.inl (own_w71 hw)) Via.refl e2 q3 rfl rfl (hb hby d12_13)) fun T4 X4 e4 => ?_
 refine Home.run X4 hx hby sg12_16_1 (pc' := 17) (L' := #[sr o0, sr o1]) (S' := [(.ref o0), (.ref sv_DEFAULTCAPACITY_EMPTY_ELEMENTDATA), (.ref o1), (.ref o0)]) rfl ?_
 have q5 := (F_size_o0.other W2 (Or.inr (slot_ne (Or.inl (own_w85 hw)) (Or.inl (own_w69 hw)) (by decide) (t := .int) (t' := .int) (by decide) (by decide))))
 refine Home.st (getF X4 hx hZ hown (host := "") (Or.inl (own_w84 hw)) Via.refl e4 q5 rfl rfl (hb hby d12_17)) fun T6 X6 e6 => ?_
 show Home T6 (mkF m 20 #[sr o0, sr o1] [(.int (0 : Int32)), (.ref sv_DEFAULTCAPACITY_EMPTY_ELEMENTDATA), (.ref o1), (.ref o0)])
 refine Home.call (own_private X6 hx hZ hown (own_w86 hw) (own_w87 hw) (own_w89 hw) (Cond.privateMethod_at (mvP hZ (own_w88 hw) (args := #[]))) (own_w51 hw) (own_w90 hw) (by decide) (rm13_3 l Z a0 hw [] o0 o1 sv_DEFAULTCAPACITY_EMPTY_ELEMENTDATA kde h2 n0 O2 V_de (E_o0.keep K2) q5 q3 S_DEFAULTCAPACITY_EMPTY_ELEMENTDATA Fw2 g_o0 (E_o1.keep K2)) e6 (E_o0.keep K2) rfl (by rw [hml]; rfl) (argsL := [(.ref o1), (.ref sv_DEFAULTCAPACITY_EMPTY_ELEMENTDATA), (.int (0 : Int32))]) (rest := []) (lenOf own_pd16 rfl) rfl rfl (W := 0) (by exact hW0) (by decide) (by decide) (hb hby d12_20) (by decide) (by decide)) ?_
 rintro _ T7 L7 X7 ⟨b6_2_2_7, k6_2_2_7, rfl, N7q, sz_b6_2_2_7, K7q, P7_0, P7_1, P7_2, P7_3, P7_4, P7_5⟩
 have g_b6_2_2_7 : n0 ≤ b6_2_2_7 := Nat.le_trans (Old.le O2) sz_b6_2_2_7
 have O7 := Old.keep O2 K7q (allS g_o0 all0)
 have K7 : Keep h0 T7.heap ([o0] : List Addr) := Keep.trans K2 K7q (allS (Or.inl (List.mem_of_getElem? (i := 0) rfl)) all0)
 have N7 := Fr.app N2 N7q
 refine Home.run X7 hx hby sg12_23_1 (pc' := 24) (L' := #[sr o0, sr o1]) (S' := [(.int (1 : Int32))]) rfl ?_
 exact Home.retN X7 hx hlk (t := .boolean) hret (by simp) (hb hby d12_24) ⟨b6_2_2_7, k6_2_2_7, rfl, N7, (Nat.le_trans (Nat.le_of_eq W2.size.symm) sz_b6_2_2_7), K7, P7_3, P7_0, P7_2, P7_1, P7_4, P7_5⟩ (by decide) (by decide)
theorem rm13_4 (l : Launch) (Z : State) (a0 : Array Value) (hw : HW a0 Z) (ws : List Jvm.Cond) (o0 o1 o2 : Addr) (k_o2 : ClassId) (p5 : Addr) (h0 : Heap) (n0 : Nat) (O0 : Old Z n0 h0) (V_o2 : Arv Z h0 o2 k_o2 (.object "java/lang/Object") (10 : Int32) [(.ref p5), .null, .null, .null, .null, .null, .null, .null, .null, .null] .null) (O_o2 : Ovr Z k_o2 "java/lang/Object") (E_o1 : Exa Z h0 o1 "java/lang/String") (g_o2 : n0 ≤ o2) (E_o0 : Exa Z h0 o0 "java/util/ArrayList") (F_size_o0 : Fld Z h0 o0 "java/util/ArrayList" "size" "I" (.int (1 : Int32))) (g_o0 : n0 ≤ o0) (F_modCount_o0 : Fld Z h0 o0 "java/util/AbstractList" "modCount" "I" (.int (2 : Int32))) (F_elementData_o0 : Fld Z h0 o0 "java/util/ArrayList" "elementData" "[Ljava/lang/Object;" (.ref o2)) :
    Con l Z (⟨"java/util/ArrayList", "add", "(Ljava/lang/Object;[Ljava/lang/Object;I)V"⟩ : MethodName) jdk_38_method_24_code 4 none ws ({ frames := 0, cells := 0, slots := 0, locals := 0 } : Room) #[(.ref o0), (.ref o1), (.ref o2), (.int (1 : Int32))] h0 (fun v h L => v = none ∧ Fr n0 L ∧ Keep h0 h [o2, o0] ∧ Arv Z h o2 k_o2 (.object "java/lang/Object") (10 : Int32) [(.ref p5), (.ref o1), .null, .null, .null, .null, .null, .null, .null, .null] .null ∧ Exa Z h o0 "java/util/ArrayList" ∧ Fld Z h o0 "java/util/ArrayList" "size" "I" (.int (2 : Int32)) ∧ Fld Z h o0 "java/util/AbstractList" "modCount" "I" (.int (2 : Int32)) ∧ Fld Z h o0 "java/util/ArrayList" "elementData" "[Ljava/lang/Object;" (.ref o2)) := by
 refine own_body (plainFor_of_name own_pn6) (fun m => ef_rm13_4 m o0 o1 o2 (1 : Int32)) ?_
 intro p e s m below meth c s₁ hx hby hlk hml hret hZ hown hnm X0 e0
 have N0 := Fr.nil n0
 refine Home.run X0 hx hby sg13_0_2 (pc' := 2) (L' := #[sr o0, sr o1, sr o2, .val (.int (1 : Int32))]) (S' := [(.ref o2), (.int (1 : Int32))]) rfl ?_
 obtain ⟨cl1, Ar1, q1, S1, M1, H1, G1⟩ := id V_o2
 refine Home.go (own_alen X0 hx hZ e0 Ar1 S1 M1 rfl rfl (hb hby d13_2)) ?_
 refine Home.go (fun _ => XS.icmpYes X0.here hx rfl (pc0 := 3) (pc' := 11) rfl (hb hby d13_3) rfl (feq (by decide)).2 (by decide) (by decide)) ?_
 refine Home.run X0 hx hby sg13_11_3 (pc' := 14) (L' := #[sr o0, sr o1, sr o2, .val (.int (1 : Int32))]) (S' := [(.ref o1), (.int (1 : Int32)), (.ref o2)]) rfl ?_
 obtain ⟨cl2, Ar2, q2, S2, M2, H2, G2⟩ := id V_o2
 refine Home.wr (stR X0 hx hZ e0 Ar2 (j := (1 : Int32)) (inb_of S2 ⟨by decide, by decide⟩) rfl (Sto.ofV Ar2 q2 O_o2 (Ins.of_exa E_o1 (own_w163 hw))) rfl rfl (hb hby d13_14)) fun T2 h2 X2 e2 W2 => ?_
 have V2 : Arv Z h2 o2 k_o2 (.object "java/lang/Object") (10 : Int32) [(.ref p5), (.ref o1), .null, .null, .null, .null, .null, .null, .null, .null] .null := Arv.set Ar2 q2 S2 M2 H2 G2 rfl W2 1 rfl (Nat.le_of_ble_eq_true rfl)
 have O2 := O0.wr W2 g_o2
 have K2 : Keep h0 h2 ([o2, o0] : List Addr) := Keep.wr (Keep.refl h0 ([o2, o0] : List Addr)) W2 (Or.inl (List.mem_of_getElem? (i := 0) rfl))
 have N2 := Fr.snoc X2 N0 g_o2
 refine Home.run X2 hx hby sg13_15_4 (pc' := 19) (L' := #[sr o0, sr o1, sr o2, .val (.int (1 : Int32))]) (S' := [(.int (2 : Int32)), (.ref o0)]) rfl ?_
 have ne3 : o0 ≠ o2 := (own_neAV (E_o0.wr W2) (own_w50 hw) V2)
 have q4 := (F_size_o0.other W2 (Or.inl ne3))
 refine Home.wr (putF X2 hx hZ hown (host := "") (Or.inl (own_w84 hw)) Via.refl e2 q4 (E_o0.keep K2) (Or.inl (own_w85 hw)) (own_w50 hw) (ty := .int) (by decide) rfl rfl rfl rfl (hb hby d13_19)) fun T5 h5 X5 e5 W5 => ?_
 have Fw5 := q4.same W5
 have O5 := O2.wr W5 g_o0
 have K5 : Keep h0 h5 ([o2, o0] : List Addr) := Keep.wr K2 W5 (Or.inl (List.mem_of_getElem? (i := 1) rfl))
 have N5 := Fr.snoc X5 N2 g_o0
 show Home T5 (mkF m 22 #[sr o0, sr o1, sr o2, .val (.int (1 : Int32))] [])
 have ne6 : o2 ≠ o0 := (Ne.symm ne3)
 have q7 := (V2.other W5 ne6)
 have q8 := ((F_modCount_o0.other W2 (Or.inl ne3)).other W5 (Or.inr (slot_ne (Or.inl (own_w69 hw)) (Or.inl (own_w85 hw)) (by decide) (t := .int) (t' := .int) (by decide) (by decide))))
 have q9 := ((F_elementData_o0.other W2 (Or.inl ne3)).other W5 (Or.inr (slot_ne (Or.inl (own_w72 hw)) (Or.inl (own_w85 hw)) (by decide) (t := (.array (.object "java/lang/Object"))) (t' := .int) (by decide) (by decide))))
 exact Home.ret0 X5 hx hlk hret (hb hby d13_22) (by rw [show T5.heap = h5 from e5]; exact ⟨rfl, N5, K5, q7, (E_o0.keep K5), Fw5, q8, q9⟩) (by decide) (by decide)
theorem rm12_4 (l : Launch) (Z : State) (a0 : Array Value) (hw : HW a0 Z) (ws : List Jvm.Cond) (o0 o1 p3 : Addr) (k_p3 : ClassId) (p5 : Addr) (h0 : Heap) (n0 : Nat) (O0 : Old Z n0 h0) (F_modCount_o0 : Fld Z h0 o0 "java/util/AbstractList" "modCount" "I" (.int (1 : Int32))) (E_o0 : Exa Z h0 o0 "java/util/ArrayList") (g_o0 : n0 ≤ o0) (F_elementData_o0 : Fld Z h0 o0 "java/util/ArrayList" "elementData" "[Ljava/lang/Object;" (.ref p3)) (F_size_o0 : Fld Z h0 o0 "java/util/ArrayList" "size" "I" (.int (1 : Int32))) (V_p3 : Arv Z h0 p3 k_p3 (.object "java/lang/Object") (10 : Int32) [(.ref p5), .null, .null, .null, .null, .null, .null, .null, .null, .null] .null) (O_p3 : Ovr Z k_p3 "java/lang/Object") (E_o1 : Exa Z h0 o1 "java/lang/String") (g_p3 : n0 ≤ p3) :
    Con l Z (⟨"java/util/ArrayList", "add", "(Ljava/lang/Object;)Z"⟩ : MethodName) jdk_38_method_25_code 2 (some .boolean) ws ({ frames := 1, cells := 0, slots := 0, locals := 15 } : Room) #[(.ref o0), (.ref o1)] h0 (fun v h L => v = some (.int (1 : Int32)) ∧ Fr n0 L ∧ Keep h0 h [o0, p3] ∧ Fld Z h o0 "java/util/AbstractList" "modCount" "I" (.int (2 : Int32)) ∧ Exa Z h o0 "java/util/ArrayList" ∧ Fld Z h o0 "java/util/ArrayList" "elementData" "[Ljava/lang/Object;" (.ref p3) ∧ Fld Z h o0 "java/util/ArrayList" "size" "I" (.int (2 : Int32)) ∧ Arv Z h p3 k_p3 (.object "java/lang/Object") (10 : Int32) [(.ref p5), (.ref o1), .null, .null, .null, .null, .null, .null, .null, .null] .null) := by
 refine own_body (plainFor_of_name own_pn6) (fun m => ef_rm12_4 m o0 o1) ?_
 intro p e s m below meth c s₁ hx hby hlk hml hret hZ hown hnm X0 e0
 have N0 := Fr.nil n0
 refine Home.run X0 hx hby sg12_0_2 (pc' := 2) (L' := #[sr o0, sr o1]) (S' := [(.ref o0), (.ref o0)]) rfl ?_
 refine Home.st (getF X0 hx hZ hown (host := "") (Or.inl (own_w82 hw)) (Via.of (own_w83 hw)) e0 F_modCount_o0 rfl rfl (hb hby d12_2)) fun T1 X1 e1 => ?_
 refine Home.run X1 hx hby sg12_5_2 (pc' := 7) (L' := #[sr o0, sr o1]) (S' := [(.int (2 : Int32)), (.ref o0)]) rfl ?_
 refine Home.wr (putF X1 hx hZ hown (host := "") (Or.inl (own_w82 hw)) (Via.of (own_w83 hw)) e1 F_modCount_o0 E_o0 (Or.inl (own_w69 hw)) (own_w50 hw) (ty := .int) (by decide) rfl rfl rfl rfl (hb hby d12_7)) fun T2 h2 X2 e2 W2 => ?_
 have Fw2 := F_modCount_o0.same W2
 have O2 := O0.wr W2 g_o0
 have K2 : Keep h0 h2 ([o0, p3] : List Addr) := Keep.wr (Keep.refl h0 ([o0, p3] : List Addr)) W2 (Or.inl (List.mem_of_getElem? (i := 0) rfl))
 have N2 := Fr.snoc X2 N0 g_o0
 refine Home.run X2 hx hby sg12_10_3 (pc' := 13) (L' := #[sr o0, sr o1]) (S' := [(.ref o0), (.ref o1), (.ref o0)]) rfl ?_
 have q3 := (F_elementData_o0.other W2 (Or.inr (slot_ne (Or.inl (own_w72 hw)) (Or.inl (own_w69 hw)) (by decide) (t := (.array (.object "java/lang/Object"))) (t' := .int) (by decide) (by decide))))
 refine Home.st (getF X2 hx hZ hown (host := "") (Or.inl (own_w71 hw)) Via.refl e2 q3 rfl rfl (hb hby d12_13)) fun T4 X4 e4 => ?_
 refine Home.run X4 hx hby sg12_16_1 (pc' := 17) (L' := #[sr o0, sr o1]) (S' := [(.ref o0), (.ref p3), (.ref o1), (.ref o0)]) rfl ?_
 have q5 := (F_size_o0.other W2 (Or.inr (slot_ne (Or.inl (own_w85 hw)) (Or.inl (own_w69 hw)) (by decide) (t := .int) (t' := .int) (by decide) (by decide))))
 refine Home.st (getF X4 hx hZ hown (host := "") (Or.inl (own_w84 hw)) Via.refl e4 q5 rfl rfl (hb hby d12_17)) fun T6 X6 e6 => ?_
 show Home T6 (mkF m 20 #[sr o0, sr o1] [(.int (1 : Int32)), (.ref p3), (.ref o1), (.ref o0)])
 have ne7 : p3 ≠ o0 := (Ne.symm (own_neAV E_o0 (own_w50 hw) V_p3))
 have q8 := (V_p3.other W2 ne7)
 refine Home.call (own_private X6 hx hZ hown (own_w86 hw) (own_w87 hw) (own_w89 hw) (Cond.privateMethod_at (mvP hZ (own_w88 hw) (args := #[]))) (own_w51 hw) (own_w90 hw) (by decide) (rm13_4 l Z a0 hw [] o0 o1 p3 k_p3 p5 h2 n0 O2 q8 O_p3 (E_o1.keep K2) g_p3 (E_o0.keep K2) q5 g_o0 Fw2 q3) e6 (E_o0.keep K2) rfl (by rw [hml]; rfl) (argsL := [(.ref o1), (.ref p3), (.int (1 : Int32))]) (rest := []) (lenOf own_pd16 rfl) rfl rfl (W := 0) (by exact hW0) (by decide) (by decide) (hb hby d12_20) (by decide) (by decide)) ?_
 rintro _ T9 L9 X9 ⟨rfl, N9q, K9q, P9_0, P9_1, P9_2, P9_3, P9_4⟩
 have O9 := Old.keep O2 K9q (allS g_p3 (allS g_o0 all0))
 have K9 : Keep h0 T9.heap ([o0, p3] : List Addr) := Keep.trans K2 K9q (allS (Or.inl (List.mem_of_getElem? (i := 1) rfl)) (allS (Or.inl (List.mem_of_getElem? (i := 0) rfl)) all0))
 have N9 := Fr.app N2 N9q
 refine Home.run X9 hx hby sg12_23_1 (pc' := 24) (L' := #[sr o0, sr o1]) (S' := [(.int (1 : Int32))]) rfl ?_
 exact Home.retN X9 hx hlk (t := .boolean) hret (by simp) (hb hby d12_24) ⟨rfl, N9, K9, P9_3, P9_1, P9_4, P9_2, P9_0⟩ (by decide) (by decide)
theorem rm13_5 (l : Launch) (Z : State) (a0 : Array Value) (hw : HW a0 Z) (ws : List Jvm.Cond) (o0 o1 o2 : Addr) (k_o2 : ClassId) (p5 p6 : Addr) (h0 : Heap) (n0 : Nat) (O0 : Old Z n0 h0) (V_o2 : Arv Z h0 o2 k_o2 (.object "java/lang/Object") (10 : Int32) [(.ref p5), (.ref p6), .null, .null, .null, .null, .null, .null, .null, .null] .null) (O_o2 : Ovr Z k_o2 "java/lang/Object") (E_o1 : Exa Z h0 o1 "java/lang/String") (g_o2 : n0 ≤ o2) (E_o0 : Exa Z h0 o0 "java/util/ArrayList") (F_size_o0 : Fld Z h0 o0 "java/util/ArrayList" "size" "I" (.int (2 : Int32))) (g_o0 : n0 ≤ o0) (F_modCount_o0 : Fld Z h0 o0 "java/util/AbstractList" "modCount" "I" (.int (3 : Int32))) (F_elementData_o0 : Fld Z h0 o0 "java/util/ArrayList" "elementData" "[Ljava/lang/Object;" (.ref o2)) :
    Con l Z (⟨"java/util/ArrayList", "add", "(Ljava/lang/Object;[Ljava/lang/Object;I)V"⟩ : MethodName) jdk_38_method_24_code 4 none ws ({ frames := 0, cells := 0, slots := 0, locals := 0 } : Room) #[(.ref o0), (.ref o1), (.ref o2), (.int (2 : Int32))] h0 (fun v h L => v = none ∧ Fr n0 L ∧ Keep h0 h [o2, o0] ∧ Arv Z h o2 k_o2 (.object "java/lang/Object") (10 : Int32) [(.ref p5), (.ref p6), (.ref o1), .null, .null, .null, .null, .null, .null, .null] .null ∧ Exa Z h o0 "java/util/ArrayList" ∧ Fld Z h o0 "java/util/ArrayList" "size" "I" (.int (3 : Int32)) ∧ Fld Z h o0 "java/util/AbstractList" "modCount" "I" (.int (3 : Int32)) ∧ Fld Z h o0 "java/util/ArrayList" "elementData" "[Ljava/lang/Object;" (.ref o2)) := by
 refine own_body (plainFor_of_name own_pn6) (fun m => ef_rm13_5 m o0 o1 o2 (2 : Int32)) ?_
 intro p e s m below meth c s₁ hx hby hlk hml hret hZ hown hnm X0 e0
 have N0 := Fr.nil n0
 refine Home.run X0 hx hby sg13_0_2 (pc' := 2) (L' := #[sr o0, sr o1, sr o2, .val (.int (2 : Int32))]) (S' := [(.ref o2), (.int (2 : Int32))]) rfl ?_
 obtain ⟨cl1, Ar1, q1, S1, M1, H1, G1⟩ := id V_o2
 refine Home.go (own_alen X0 hx hZ e0 Ar1 S1 M1 rfl rfl (hb hby d13_2)) ?_
 refine Home.go (fun _ => XS.icmpYes X0.here hx rfl (pc0 := 3) (pc' := 11) rfl (hb hby d13_3) rfl (feq (by decide)).2 (by decide) (by decide)) ?_
 refine Home.run X0 hx hby sg13_11_3 (pc' := 14) (L' := #[sr o0, sr o1, sr o2, .val (.int (2 : Int32))]) (S' := [(.ref o1), (.int (2 : Int32)), (.ref o2)]) rfl ?_
 obtain ⟨cl2, Ar2, q2, S2, M2, H2, G2⟩ := id V_o2
 refine Home.wr (stR X0 hx hZ e0 Ar2 (j := (2 : Int32)) (inb_of S2 ⟨by decide, by decide⟩) rfl (Sto.ofV Ar2 q2 O_o2 (Ins.of_exa E_o1 (own_w163 hw))) rfl rfl (hb hby d13_14)) fun T2 h2 X2 e2 W2 => ?_
 have V2 : Arv Z h2 o2 k_o2 (.object "java/lang/Object") (10 : Int32) [(.ref p5), (.ref p6), (.ref o1), .null, .null, .null, .null, .null, .null, .null] .null := Arv.set Ar2 q2 S2 M2 H2 G2 rfl W2 2 rfl (Nat.le_of_ble_eq_true rfl)
 have O2 := O0.wr W2 g_o2
 have K2 : Keep h0 h2 ([o2, o0] : List Addr) := Keep.wr (Keep.refl h0 ([o2, o0] : List Addr)) W2 (Or.inl (List.mem_of_getElem? (i := 0) rfl))
 have N2 := Fr.snoc X2 N0 g_o2
 refine Home.run X2 hx hby sg13_15_4 (pc' := 19) (L' := #[sr o0, sr o1, sr o2, .val (.int (2 : Int32))]) (S' := [(.int (3 : Int32)), (.ref o0)]) rfl ?_
 have ne3 : o0 ≠ o2 := (own_neAV (E_o0.wr W2) (own_w50 hw) V2)
 have q4 := (F_size_o0.other W2 (Or.inl ne3))
 refine Home.wr (putF X2 hx hZ hown (host := "") (Or.inl (own_w84 hw)) Via.refl e2 q4 (E_o0.keep K2) (Or.inl (own_w85 hw)) (own_w50 hw) (ty := .int) (by decide) rfl rfl rfl rfl (hb hby d13_19)) fun T5 h5 X5 e5 W5 => ?_
 have Fw5 := q4.same W5
 have O5 := O2.wr W5 g_o0
 have K5 : Keep h0 h5 ([o2, o0] : List Addr) := Keep.wr K2 W5 (Or.inl (List.mem_of_getElem? (i := 1) rfl))
 have N5 := Fr.snoc X5 N2 g_o0
 show Home T5 (mkF m 22 #[sr o0, sr o1, sr o2, .val (.int (2 : Int32))] [])
 have ne6 : o2 ≠ o0 := (Ne.symm ne3)
 have q7 := (V2.other W5 ne6)
 have q8 := ((F_modCount_o0.other W2 (Or.inl ne3)).other W5 (Or.inr (slot_ne (Or.inl (own_w69 hw)) (Or.inl (own_w85 hw)) (by decide) (t := .int) (t' := .int) (by decide) (by decide))))
 have q9 := ((F_elementData_o0.other W2 (Or.inl ne3)).other W5 (Or.inr (slot_ne (Or.inl (own_w72 hw)) (Or.inl (own_w85 hw)) (by decide) (t := (.array (.object "java/lang/Object"))) (t' := .int) (by decide) (by decide))))
 exact Home.ret0 X5 hx hlk hret (hb hby d13_22) (by rw [show T5.heap = h5 from e5]; exact ⟨rfl, N5, K5, q7, (E_o0.keep K5), Fw5, q8, q9⟩) (by decide) (by decide)
theorem rm12_5 (l : Launch) (Z : State) (a0 : Array Value) (hw : HW a0 Z) (ws : List Jvm.Cond) (o0 o1 p3 : Addr) (k_p3 : ClassId) (p5 p6 : Addr) (h0 : Heap) (n0 : Nat) (O0 : Old Z n0 h0) (F_modCount_o0 : Fld Z h0 o0 "java/util/AbstractList" "modCount" "I" (.int (2 : Int32))) (E_o0 : Exa Z h0 o0 "java/util/ArrayList") (g_o0 : n0 ≤ o0) (F_elementData_o0 : Fld Z h0 o0 "java/util/ArrayList" "elementData" "[Ljava/lang/Object;" (.ref p3)) (F_size_o0 : Fld Z h0 o0 "java/util/ArrayList" "size" "I" (.int (2 : Int32))) (V_p3 : Arv Z h0 p3 k_p3 (.object "java/lang/Object") (10 : Int32) [(.ref p5), (.ref p6), .null, .null, .null, .null, .null, .null, .null, .null] .null) (O_p3 : Ovr Z k_p3 "java/lang/Object") (E_o1 : Exa Z h0 o1 "java/lang/String") (g_p3 : n0 ≤ p3) :
    Con l Z (⟨"java/util/ArrayList", "add", "(Ljava/lang/Object;)Z"⟩ : MethodName) jdk_38_method_25_code 2 (some .boolean) ws ({ frames := 1, cells := 0, slots := 0, locals := 15 } : Room) #[(.ref o0), (.ref o1)] h0 (fun v h L => v = some (.int (1 : Int32)) ∧ Fr n0 L ∧ Keep h0 h [o0, p3] ∧ Fld Z h o0 "java/util/AbstractList" "modCount" "I" (.int (3 : Int32)) ∧ Exa Z h o0 "java/util/ArrayList" ∧ Fld Z h o0 "java/util/ArrayList" "elementData" "[Ljava/lang/Object;" (.ref p3) ∧ Fld Z h o0 "java/util/ArrayList" "size" "I" (.int (3 : Int32)) ∧ Arv Z h p3 k_p3 (.object "java/lang/Object") (10 : Int32) [(.ref p5), (.ref p6), (.ref o1), .null, .null, .null, .null, .null, .null, .null] .null) := by
 refine own_body (plainFor_of_name own_pn6) (fun m => ef_rm12_5 m o0 o1) ?_
 intro p e s m below meth c s₁ hx hby hlk hml hret hZ hown hnm X0 e0
 have N0 := Fr.nil n0
 refine Home.run X0 hx hby sg12_0_2 (pc' := 2) (L' := #[sr o0, sr o1]) (S' := [(.ref o0), (.ref o0)]) rfl ?_
 refine Home.st (getF X0 hx hZ hown (host := "") (Or.inl (own_w82 hw)) (Via.of (own_w83 hw)) e0 F_modCount_o0 rfl rfl (hb hby d12_2)) fun T1 X1 e1 => ?_
 refine Home.run X1 hx hby sg12_5_2 (pc' := 7) (L' := #[sr o0, sr o1]) (S' := [(.int (3 : Int32)), (.ref o0)]) rfl ?_
 refine Home.wr (putF X1 hx hZ hown (host := "") (Or.inl (own_w82 hw)) (Via.of (own_w83 hw)) e1 F_modCount_o0 E_o0 (Or.inl (own_w69 hw)) (own_w50 hw) (ty := .int) (by decide) rfl rfl rfl rfl (hb hby d12_7)) fun T2 h2 X2 e2 W2 => ?_
 have Fw2 := F_modCount_o0.same W2
 have O2 := O0.wr W2 g_o0
 have K2 : Keep h0 h2 ([o0, p3] : List Addr) := Keep.wr (Keep.refl h0 ([o0, p3] : List Addr)) W2 (Or.inl (List.mem_of_getElem? (i := 0) rfl))
 have N2 := Fr.snoc X2 N0 g_o0
 refine Home.run X2 hx hby sg12_10_3 (pc' := 13) (L' := #[sr o0, sr o1]) (S' := [(.ref o0), (.ref o1), (.ref o0)]) rfl ?_
 have q3 := (F_elementData_o0.other W2 (Or.inr (slot_ne (Or.inl (own_w72 hw)) (Or.inl (own_w69 hw)) (by decide) (t := (.array (.object "java/lang/Object"))) (t' := .int) (by decide) (by decide))))
 refine Home.st (getF X2 hx hZ hown (host := "") (Or.inl (own_w71 hw)) Via.refl e2 q3 rfl rfl (hb hby d12_13)) fun T4 X4 e4 => ?_
 refine Home.run X4 hx hby sg12_16_1 (pc' := 17) (L' := #[sr o0, sr o1]) (S' := [(.ref o0), (.ref p3), (.ref o1), (.ref o0)]) rfl ?_
 have q5 := (F_size_o0.other W2 (Or.inr (slot_ne (Or.inl (own_w85 hw)) (Or.inl (own_w69 hw)) (by decide) (t := .int) (t' := .int) (by decide) (by decide))))
 refine Home.st (getF X4 hx hZ hown (host := "") (Or.inl (own_w84 hw)) Via.refl e4 q5 rfl rfl (hb hby d12_17)) fun T6 X6 e6 => ?_
 show Home T6 (mkF m 20 #[sr o0, sr o1] [(.int (2 : Int32)), (.ref p3), (.ref o1), (.ref o0)])
 have ne7 : p3 ≠ o0 := (Ne.symm (own_neAV E_o0 (own_w50 hw) V_p3))
 have q8 := (V_p3.other W2 ne7)
 refine Home.call (own_private X6 hx hZ hown (own_w86 hw) (own_w87 hw) (own_w89 hw) (Cond.privateMethod_at (mvP hZ (own_w88 hw) (args := #[]))) (own_w51 hw) (own_w90 hw) (by decide) (rm13_5 l Z a0 hw [] o0 o1 p3 k_p3 p5 p6 h2 n0 O2 q8 O_p3 (E_o1.keep K2) g_p3 (E_o0.keep K2) q5 g_o0 Fw2 q3) e6 (E_o0.keep K2) rfl (by rw [hml]; rfl) (argsL := [(.ref o1), (.ref p3), (.int (2 : Int32))]) (rest := []) (lenOf own_pd16 rfl) rfl rfl (W := 0) (by exact hW0) (by decide) (by decide) (hb hby d12_20) (by decide) (by decide)) ?_
 rintro _ T9 L9 X9 ⟨rfl, N9q, K9q, P9_0, P9_1, P9_2, P9_3, P9_4⟩
 have O9 := Old.keep O2 K9q (allS g_p3 (allS g_o0 all0))
 have K9 : Keep h0 T9.heap ([o0, p3] : List Addr) := Keep.trans K2 K9q (allS (Or.inl (List.mem_of_getElem? (i := 1) rfl)) (allS (Or.inl (List.mem_of_getElem? (i := 0) rfl)) all0))
 have N9 := Fr.app N2 N9q
 refine Home.run X9 hx hby sg12_23_1 (pc' := 24) (L' := #[sr o0, sr o1]) (S' := [(.int (1 : Int32))]) rfl ?_
 exact Home.retN X9 hx hlk (t := .boolean) hret (by simp) (hb hby d12_24) ⟨rfl, N9, K9, P9_3, P9_1, P9_4, P9_2, P9_0⟩ (by decide) (by decide)
theorem rm21_1 (l : Launch) (Z : State) (a0 : Array Value) (hw : HW a0 Z) (ws : List Jvm.Cond) (o0 o1 : Addr) (h0 : Heap) (n0 : Nat) (O0 : Old Z n0 h0) (E_o0 : Exa Z h0 o0 "java/util/ArrayList$Itr") (F_this_0_o0 : Fld Z h0 o0 "java/util/ArrayList$Itr" "this$0" "Ljava/util/ArrayList;" .null) (g_o0 : n0 ≤ o0) (F_lastRet_o0 : Fld Z h0 o0 "java/util/ArrayList$Itr" "lastRet" "I" (.int (0 : Int32))) (F_modCount_o1 : Fld Z h0 o1 "java/util/AbstractList" "modCount" "I" (.int (3 : Int32))) (E_o1 : Exa Z h0 o1 "java/util/ArrayList") (F_expectedModCount_o0 : Fld Z h0 o0 "java/util/ArrayList$Itr" "expectedModCount" "I" (.int (0 : Int32))) (F_cursor_o0 : Fld Z h0 o0 "java/util/ArrayList$Itr" "cursor" "I" (.int (0 : Int32))) :
    Con l Z (⟨"java/util/ArrayList$Itr", "<init>", "(Ljava/util/ArrayList;)V"⟩ : MethodName) jdk_49_method_1_code 2 none ws ({ frames := 1, cells := 0, slots := 0, locals := 12 } : Room) #[(.ref o0), (.ref o1)] h0 (fun v h L => v = none ∧ Fr n0 L ∧ Keep h0 h [o0] ∧ Exa Z h o0 "java/util/ArrayList$Itr" ∧ Fld Z h o0 "java/util/ArrayList$Itr" "this$0" "Ljava/util/ArrayList;" (.ref o1) ∧ Fld Z h o0 "java/util/ArrayList$Itr" "lastRet" "I" (.int (-1 : Int32)) ∧ Fld Z h o0 "java/util/ArrayList$Itr" "expectedModCount" "I" (.int (3 : Int32)) ∧ Fld Z h o0 "java/util/ArrayList$Itr" "cursor" "I" (.int (0 : Int32))) := by
 refine own_body (plainFor_of_name own_pn8) (fun m => ef_rm21_1 m o0 o1) ?_
 intro p e s m below meth c s₁ hx hby hlk hml hret hZ hown hnm X0 e0
 have N0 := Fr.nil n0
 refine Home.run X0 hx hby sg21_0_2 (pc' := 2) (L' := #[sr o0, sr o1]) (S' := [(.ref o1), (.ref o0)]) rfl ?_
 refine Home.wr (putF X0 hx hZ hown (host := "") (Or.inl (own_w135 hw)) Via.refl e0 F_this_0_o0 E_o0 (Or.inr ⟨(own_w136 hw), rfl, hnm⟩) (own_w129 hw) (ty := (.object "java/util/ArrayList")) (by decide) rfl rfl rfl rfl (hb hby d21_2)) fun T1 h1 X1 e1 W1 => ?_
 have Fw1 := F_this_0_o0.same W1
 have O1 := O0.wr W1 g_o0
 have K1 : Keep h0 h1 ([o0] : List Addr) := Keep.wr (Keep.refl h0 ([o0] : List Addr)) W1 (Or.inl (List.mem_of_getElem? (i := 0) rfl))
 have N1 := Fr.snoc X1 N0 g_o0
 refine Home.run X1 hx hby sg21_5_1 (pc' := 6) (L' := #[sr o0, sr o1]) (S' := [(.ref o0)]) rfl ?_
 refine Home.st (initO X1 hx hZ hown (own_w137 hw) (own_w23 hw) (own_w24 hw) e1 rfl (by rw [hml]; rfl) rfl (hb hby d21_6) (by decide) (W := 0) (by exact hW0) (by decide)) fun T2 X2 e2 => ?_
 refine Home.run X2 hx hby sg21_9_2 (pc' := 11) (L' := #[sr o0, sr o1]) (S' := [(.int (-1 : Int32)), (.ref o0)]) rfl ?_
 have q3 := (F_lastRet_o0.other W1 (Or.inr (slot_ne (Or.inl (own_w139 hw)) (Or.inr (own_w136 hw)) (by decide) (t := .int) (t' := (.object "java/util/ArrayList")) (by decide) (by decide))))
 refine Home.wr (putF X2 hx hZ hown (host := "") (Or.inl (own_w138 hw)) Via.refl e2 q3 (E_o0.keep K1) (Or.inl (own_w139 hw)) (own_w129 hw) (ty := .int) (by decide) rfl rfl rfl rfl (hb hby d21_11)) fun T4 h4 X4 e4 W4 => ?_
 have Fw4 := q3.same W4
 have O4 := O1.wr W4 g_o0
 have K4 : Keep h0 h4 ([o0] : List Addr) := Keep.wr K1 W4 (Or.inl (List.mem_of_getElem? (i := 0) rfl))
 have N4 := Fr.snoc X4 N1 g_o0
 show Home T4 (mkF m 14 #[sr o0, sr o1] [])
 refine Home.run X4 hx hby sg21_14_2 (pc' := 16) (L' := #[sr o0, sr o1]) (S' := [(.ref o0), (.ref o0)]) rfl ?_
 have q5 := (Fw1.other W4 (Or.inr (slot_ne (Or.inr (own_w136 hw)) (Or.inl (own_w139 hw)) (by decide) (t := (.object "java/util/ArrayList")) (t' := .int) (by decide) (by decide))))
 refine Home.st (getF X4 hx hZ hown (host := "") (Or.inl (own_w135 hw)) Via.refl e4 q5 rfl rfl (hb hby d21_16)) fun T6 X6 e6 => ?_
 have ne7 : o1 ≠ o0 := (ne_exa (E_o1.keep K4) (E_o0.keep K4) (by decide))
 have q8 := (F_modCount_o1.keep K4 (ninS ne7 nin0))
 refine Home.st (getF X6 hx hZ hown (host := "") (Or.inl (own_w140 hw)) (Via.of (own_w83 hw)) e6 q8 rfl rfl (hb hby d21_19)) fun T9 X9 e9 => ?_
 have q10 := ((F_expectedModCount_o0.other W1 (Or.inr (slot_ne (Or.inl (own_w142 hw)) (Or.inr (own_w136 hw)) (by decide) (t := .int) (t' := (.object "java/util/ArrayList")) (by decide) (by decide)))).other W4 (Or.inr (slot_ne (Or.inl (own_w142 hw)) (Or.inl (own_w139 hw)) (by decide) (t := .int) (t' := .int) (by decide) (by decide))))
 refine Home.wr (putF X9 hx hZ hown (host := "") (Or.inl (own_w141 hw)) Via.refl e9 q10 (E_o0.keep K4) (Or.inl (own_w142 hw)) (own_w129 hw) (ty := .int) (by decide) rfl rfl rfl rfl (hb hby d21_22)) fun T11 h11 X11 e11 W11 => ?_
 have Fw11 := q10.same W11
 have O11 := O4.wr W11 g_o0
 have K11 : Keep h0 h11 ([o0] : List Addr) := Keep.wr K4 W11 (Or.inl (List.mem_of_getElem? (i := 0) rfl))
 have N11 := Fr.snoc X11 N4 g_o0
 have q12 := (q5.other W11 (Or.inr (slot_ne (Or.inr (own_w136 hw)) (Or.inl (own_w142 hw)) (by decide) (t := (.object "java/util/ArrayList")) (t' := .int) (by decide) (by decide))))
 have q13 := (Fw4.other W11 (Or.inr (slot_ne (Or.inl (own_w139 hw)) (Or.inl (own_w142 hw)) (by decide) (t := .int) (t' := .int) (by decide) (by decide))))
 have q14 := (((F_cursor_o0.other W1 (Or.inr (slot_ne (Or.inl (own_w153 hw)) (Or.inr (own_w136 hw)) (by decide) (t := .int) (t' := (.object "java/util/ArrayList")) (by decide) (by decide)))).other W4 (Or.inr (slot_ne (Or.inl (own_w153 hw)) (Or.inl (own_w139 hw)) (by decide) (t := .int) (t' := .int) (by decide) (by decide)))).other W11 (Or.inr (slot_ne (Or.inl (own_w153 hw)) (Or.inl (own_w142 hw)) (by decide) (t := .int) (t' := .int) (by decide) (by decide))))
 exact Home.ret0 X11 hx hlk hret (hb hby d21_25) (by rw [show T11.heap = h11 from e11]; exact ⟨rfl, N11, K11, (E_o0.keep K11), q12, q13, Fw11, q14⟩) (by decide) (by decide)
theorem rm20_1 (l : Launch) (Z : State) (a0 : Array Value) (hw : HW a0 Z) (ws : List Jvm.Cond) (o0 : Addr) (h0 : Heap) (n0 : Nat) (O0 : Old Z n0 h0) (F_modCount_o0 : Fld Z h0 o0 "java/util/AbstractList" "modCount" "I" (.int (3 : Int32))) (E_o0 : Exa Z h0 o0 "java/util/ArrayList") :
    Con l Z (⟨"java/util/ArrayList", "iterator", "()Ljava/util/Iterator;"⟩ : MethodName) jdk_38_method_55_code 1 (some (.object "java/util/Iterator")) ws ({ frames := 2, cells := 1, slots := 4, locals := 26 } : Room) #[(.ref o0)] h0 (fun v h L => ∃ (b1 : Addr), v = some (.ref b1) ∧ Fr n0 L ∧ h0.size ≤ b1 ∧ Keep h0 h [] ∧ Exa Z h b1 "java/util/ArrayList$Itr" ∧ Fld Z h b1 "java/util/ArrayList$Itr" "this$0" "Ljava/util/ArrayList;" (.ref o0) ∧ Fld Z h b1 "java/util/ArrayList$Itr" "lastRet" "I" (.int (-1 : Int32)) ∧ Fld Z h b1 "java/util/ArrayList$Itr" "expectedModCount" "I" (.int (3 : Int32)) ∧ Fld Z h b1 "java/util/ArrayList$Itr" "cursor" "I" (.int (0 : Int32))) := by
 refine own_body (plainFor_of_name own_pn6) (fun m => ef_rm20_1 m o0) ?_
 intro p e s m below meth c s₁ hx hby hlk hml hret hZ hown hnm X0 e0
 have N0 := Fr.nil n0
 refine Home.nw (own_newO X0 hx hZ hown (own_w128 hw) (own_w129 hw) (own_w130 hw) e0 rfl (hb hby d20_0) (by decide) (by decide)) fun T1 h1 b1 g1 X1 e1 E1 A1 D1 => ?_
 have g_b1 : n0 ≤ b1 := Nat.le_trans (Old.le O0) (Nat.le_of_eq g1.symm)
 have F_this_0_b1 : Fld Z h1 b1 "java/util/ArrayList$Itr" "this$0" "Ljava/util/ArrayList;" .null := D1 (Or.inr (own_w136 hw)) (ty := (.object "java/util/ArrayList")) (by decide)
 have F_lastRet_b1 : Fld Z h1 b1 "java/util/ArrayList$Itr" "lastRet" "I" (.int (0 : Int32)) := D1 (Or.inl (own_w139 hw)) (ty := .int) (by decide)
 have F_expectedModCount_b1 : Fld Z h1 b1 "java/util/ArrayList$Itr" "expectedModCount" "I" (.int (0 : Int32)) := D1 (Or.inl (own_w142 hw)) (ty := .int) (by decide)
 have F_cursor_b1 : Fld Z h1 b1 "java/util/ArrayList$Itr" "cursor" "I" (.int (0 : Int32)) := D1 (Or.inl (own_w153 hw)) (ty := .int) (by decide)
 have O1 := O0.ext E1
 have K1 : Keep h0 h1 ([] : List Addr) := Keep.ext (Keep.refl h0 ([] : List Addr)) E1
 refine Home.run X1 hx hby sg20_3_2 (pc' := 5) (L' := #[sr o0]) (S' := [(.ref o0), (.ref b1), (.ref b1)]) rfl ?_
 refine Home.call (own_special X1 hx hZ hown rfl (own_w131 hw) (own_w132 hw) (own_w130 hw) (own_w134 hw) (by decide) (rm21_1 l Z a0 hw [] b1 o0 h1 n0 O1 A1 F_this_0_b1 g_b1 F_lastRet_b1 (F_modCount_o0.keep K1 nin0) (E_o0.keep K1) F_expectedModCount_b1 F_cursor_b1) e1 rfl (by rw [hml]; rfl) (a := b1) (argsL := [(.ref o0)]) (rest := [(.ref b1)]) (lenOf own_pd9 rfl) rfl rfl (W := 1) (by exact hW0) (by decide) (by decide) (hb hby d20_5) (by decide) (by decide)) ?_
 rintro _ T2 L2 X2 ⟨rfl, N2q, K2q, P2_0, P2_1, P2_2, P2_3, P2_4⟩
 have O2 := Old.keep O1 K2q (allS g_b1 all0)
 have K2 : Keep h0 T2.heap ([] : List Addr) := Keep.trans K1 K2q (allS (Or.inr (Nat.le_trans (Nat.le_refl _) (Nat.le_of_eq g1.symm))) all0)
 have N2 := Fr.app N0 N2q
 show Home T2 (mkF m 8 #[sr o0] [(.ref b1)])
 exact Home.retR X2 hx hlk hret rfl rfl (hb hby d20_8) ⟨b1, rfl, N2, (Nat.le_trans (Nat.le_refl _) (Nat.le_of_eq g1.symm)), K2, P2_0, P2_1, P2_2, P2_3, P2_4⟩ (by decide) (by decide)
theorem rm22_1 (l : Launch) (Z : State) (a0 : Array Value) (hw : HW a0 Z) (ws : List Jvm.Cond) (o0 p2 : Addr) (h0 : Heap) (n0 : Nat) (O0 : Old Z n0 h0) (F_cursor_o0 : Fld Z h0 o0 "java/util/ArrayList$Itr" "cursor" "I" (.int (0 : Int32))) (F_this_0_o0 : Fld Z h0 o0 "java/util/ArrayList$Itr" "this$0" "Ljava/util/ArrayList;" (.ref p2)) (F_size_p2 : Fld Z h0 p2 "java/util/ArrayList" "size" "I" (.int (3 : Int32))) :
    Con l Z (⟨"java/util/ArrayList$Itr", "hasNext", "()Z"⟩ : MethodName) jdk_49_method_2_code 1 (some .boolean) ws ({ frames := 0, cells := 0, slots := 0, locals := 0 } : Room) #[(.ref o0)] h0 (Pur (some (.int (1 : Int32))) h0) := by
 refine own_body (plainFor_of_name own_pn8) (fun m => ef_rm22_1 m o0) ?_
 intro p e s m below meth c s₁ hx hby hlk hml hret hZ hown hnm X0 e0
 have N0 := Fr.nil n0
 refine Home.run X0 hx hby sg22_0_1 (pc' := 1) (L' := #[sr o0]) (S' := [(.ref o0)]) rfl ?_
 refine Home.st (getF X0 hx hZ hown (host := "") (Or.inl (own_w152 hw)) Via.refl e0 F_cursor_o0 rfl rfl (hb hby d22_1)) fun T1 X1 e1 => ?_
 refine Home.run X1 hx hby sg22_4_1 (pc' := 5) (L' := #[sr o0]) (S' := [(.ref o0), (.int (0 : Int32))]) rfl ?_
 refine Home.st (getF X1 hx hZ hown (host := "") (Or.inl (own_w135 hw)) Via.refl e1 F_this_0_o0 rfl rfl (hb hby d22_5)) fun T2 X2 e2 => ?_
 refine Home.st (getF X2 hx hZ hown (Or.inr (own_w154 hw)) Via.refl e2 F_size_p2 rfl rfl (hb hby d22_8)) fun T3 X3 e3 => ?_
 refine Home.go (fun _ => XS.icmpNo X3.here hx rfl (hb hby d22_11) rfl (feq (by decide)).1) ?_
 refine Home.run X3 hx hby sg22_14_2 (pc' := 19) (L' := #[sr o0]) (S' := [(.int (1 : Int32))]) rfl ?_
 exact Home.retN X3 hx hlk (t := .boolean) hret (by simp) (hb hby d22_19) ⟨congrArg some (congrArg Value.int (by first | rfl | exact nar_i2c _ | exact nar_i2b _)), rfl, e3⟩ (by decide) (by decide)
theorem rm25_0 (l : Launch) (Z : State) (a0 : Array Value) (hw : HW a0 Z) (ws : List Jvm.Cond) (o0 p2 : Addr) (h0 : Heap) (n0 : Nat) (O0 : Old Z n0 h0) (F_this_0_o0 : Fld Z h0 o0 "java/util/ArrayList$Itr" "this$0" "Ljava/util/ArrayList;" (.ref p2)) (F_modCount_p2 : Fld Z h0 p2 "java/util/AbstractList" "modCount" "I" (.int (3 : Int32))) (F_expectedModCount_o0 : Fld Z h0 o0 "java/util/ArrayList$Itr" "expectedModCount" "I" (.int (3 : Int32))) :
    Con l Z (⟨"java/util/ArrayList$Itr", "checkForComodification", "()V"⟩ : MethodName) jdk_49_method_6_code 1 none ws ({ frames := 0, cells := 0, slots := 0, locals := 0 } : Room) #[(.ref o0)] h0 (Pur none h0) := by
 refine own_body (plainFor_of_name own_pn8) (fun m => ef_rm25_0 m o0) ?_
 intro p e s m below meth c s₁ hx hby hlk hml hret hZ hown hnm X0 e0
 have N0 := Fr.nil n0
 refine Home.run X0 hx hby sg25_0_1 (pc' := 1) (L' := #[sr o0]) (S' := [(.ref o0)]) rfl ?_
 refine Home.st (getF X0 hx hZ hown (host := "") (Or.inl (own_w135 hw)) Via.refl e0 F_this_0_o0 rfl rfl (hb hby d25_1)) fun T1 X1 e1 => ?_
 refine Home.st (getF X1 hx hZ hown (host := "") (Or.inl (own_w140 hw)) (Via.of (own_w83 hw)) e1 F_modCount_p2 rfl rfl (hb hby d25_4)) fun T2 X2 e2 => ?_
 refine Home.run X2 hx hby sg25_7_1 (pc' := 8) (L' := #[sr o0]) (S' := [(.ref o0), (.int (3 : Int32))]) rfl ?_
 refine Home.st (getF X2 hx hZ hown (host := "") (Or.inl (own_w141 hw)) Via.refl e2 F_expectedModCount_o0 rfl rfl (hb hby d25_8)) fun T3 X3 e3 => ?_
 refine Home.go (fun _ => XS.icmpYes X3.here hx rfl (pc0 := 11) (pc' := 22) rfl (hb hby d25_11) rfl (teq (by decide)).1 (by decide) (by decide)) ?_
 exact Home.ret0 X3 hx hlk hret (hb hby d25_22) ⟨rfl, rfl, e3⟩ (by decide) (by decide)
theorem rm24_0 (l : Launch) (Z : State) (a0 : Array Value) (hw : HW a0 Z) (ws : List Jvm.Cond) (o0 p2 p3 : Addr) (k_p3 : ClassId) (p4 p5 p6 : Addr) (h0 : Heap) (n0 : Nat) (O0 : Old Z n0 h0) (E_o0 : Exa Z h0 o0 "java/util/ArrayList$Itr") (F_this_0_o0 : Fld Z h0 o0 "java/util/ArrayList$Itr" "this$0" "Ljava/util/ArrayList;" (.ref p2)) (F_modCount_p2 : Fld Z h0 p2 "java/util/AbstractList" "modCount" "I" (.int (3 : Int32))) (F_expectedModCount_o0 : Fld Z h0 o0 "java/util/ArrayList$Itr" "expectedModCount" "I" (.int (3 : Int32))) (F_cursor_o0 : Fld Z h0 o0 "java/util/ArrayList$Itr" "cursor" "I" (.int (0 : Int32))) (F_size_p2 : Fld Z h0 p2 "java/util/ArrayList" "size" "I" (.int (3 : Int32))) (F_elementData_p2 : Fld Z h0 p2 "java/util/ArrayList" "elementData" "[Ljava/lang/Object;" (.ref p3)) (V_p3 : Arv Z h0 p3 k_p3 (.object "java/lang/Object") (10 : Int32) [(.ref p4), (.ref p5), (.ref p6), .null, .null, .null, .null, .null, .null, .null] .null) (g_o0 : n0 ≤ o0) (F_lastRet_o0 : Fld Z h0 o0 "java/util/ArrayList$Itr" "lastRet" "I" (.int (-1 : Int32))) :
    Con l Z (⟨"java/util/ArrayList$Itr", "next", "()Ljava/lang/Object;"⟩ : MethodName) jdk_49_method_3_code 3 (some (.object "java/lang/Object")) ws ({ frames := 1, cells := 0, slots := 0, locals := 12 } : Room) #[(.ref o0)] h0 (fun v h L => v = some (.ref p4) ∧ Fr n0 L ∧ Keep h0 h [o0] ∧ Exa Z h o0 "java/util/ArrayList$Itr" ∧ Fld Z h o0 "java/util/ArrayList$Itr" "this$0" "Ljava/util/ArrayList;" (.ref p2) ∧ Fld Z h o0 "java/util/ArrayList$Itr" "expectedModCount" "I" (.int (3 : Int32)) ∧ Fld Z h o0 "java/util/ArrayList$Itr" "cursor" "I" (.int (1 : Int32)) ∧ Fld Z h o0 "java/util/ArrayList$Itr" "lastRet" "I" (.int (0 : Int32))) := by
 refine own_body (plainFor_of_name own_pn8) (fun m => ef_rm24_0 m o0) ?_
 intro p e s m below meth c s₁ hx hby hlk hml hret hZ hown hnm X0 e0
 have N0 := Fr.nil n0
 refine Home.run X0 hx hby sg24_0_1 (pc' := 1) (L' := #[sr o0, .unset, .unset]) (S' := [(.ref o0)]) rfl ?_
 refine Home.st (own_pure (own_virtual X0 hx hZ hown (own_w172 hw) (own_w173 hw) (notFace_of_selects (args := #[]) (mvT hZ (own_w175 hw))) (own_w175 hw) (own_w174 hw) (own_w130 hw) (own_w176 hw) (by decide) (rm25_0 l Z a0 hw [] o0 p2 h0 n0 O0 F_this_0_o0 F_modCount_p2 F_expectedModCount_o0) e0 E_o0 rfl (by rw [hml]; rfl) (argsL := []) (rest := []) (lenOf own_pd4 rfl) rfl rfl (W := 0) (by exact hW0) (by decide) (by decide) (hb hby d24_1) (by decide) (by decide))) fun T1 X1 e1 => ?_
 refine Home.run X1 hx hby sg24_4_1 (pc' := 5) (L' := #[sr o0, .unset, .unset]) (S' := [(.ref o0)]) rfl ?_
 refine Home.st (getF X1 hx hZ hown (host := "") (Or.inl (own_w152 hw)) Via.refl e1 F_cursor_o0 rfl rfl (hb hby d24_5)) fun T2 X2 e2 => ?_
 refine Home.run X2 hx hby sg24_8_3 (pc' := 11) (L' := #[sr o0, .val (.int (0 : Int32)), .unset]) (S' := [(.ref o0), (.int (0 : Int32))]) rfl ?_
 refine Home.st (getF X2 hx hZ hown (host := "") (Or.inl (own_w135 hw)) Via.refl e2 F_this_0_o0 rfl rfl (hb hby d24_11)) fun T3 X3 e3 => ?_
 refine Home.st (getF X3 hx hZ hown (Or.inr (own_w154 hw)) Via.refl e3 F_size_p2 rfl rfl (hb hby d24_14)) fun T4 X4 e4 => ?_
 refine Home.go (fun _ => XS.icmpYes X4.here hx rfl (pc0 := 17) (pc' := 28) rfl (hb hby d24_17) rfl (tlt (by decide)).1 (by decide) (by decide)) ?_
 refine Home.run X4 hx hby sg24_28_1 (pc' := 29) (L' := #[sr o0, .val (.int (0 : Int32)), .unset]) (S' := [(.ref o0)]) rfl ?_
 refine Home.st (getF X4 hx hZ hown (host := "") (Or.inl (own_w135 hw)) Via.refl e4 F_this_0_o0 rfl rfl (hb hby d24_29)) fun T5 X5 e5 => ?_
 refine Home.st (getF X5 hx hZ hown (host := "") (Or.inl (own_w177 hw)) Via.refl e5 F_elementData_p2 rfl rfl (hb hby d24_32)) fun T6 X6 e6 => ?_
 refine Home.run X6 hx hby sg24_35_3 (pc' := 38) (L' := #[sr o0, .val (.int (0 : Int32)), sr p3]) (S' := [(.ref p3), (.int (0 : Int32))]) rfl ?_
 obtain ⟨cl7, Ar7, q7, S7, M7, H7, G7⟩ := id V_p3
 refine Home.go (own_alen X6 hx hZ e6 Ar7 S7 M7 rfl rfl (hb hby d24_38)) ?_
 show Home T6 (mkF m 39 #[sr o0, .val (.int (0 : Int32)), sr p3] [(.int (10 : Int32)), (.int (0 : Int32))])
 refine Home.go (fun _ => XS.icmpYes X6.here hx rfl (pc0 := 39) (pc' := 50) rfl (hb hby d24_39) rfl (tlt (by decide)).1 (by decide) (by decide)) ?_
 refine Home.run X6 hx hby sg24_50_4 (pc' := 54) (L' := #[sr o0, .val (.int (0 : Int32)), sr p3]) (S' := [(.int (1 : Int32)), (.ref o0)]) rfl ?_
 refine Home.wr (putF X6 hx hZ hown (host := "") (Or.inl (own_w152 hw)) Via.refl e6 F_cursor_o0 E_o0 (Or.inl (own_w153 hw)) (own_w129 hw) (ty := .int) (by decide) rfl rfl rfl rfl (hb hby d24_54)) fun T8 h8 X8 e8 W8 => ?_
 have Fw8 := F_cursor_o0.same W8
 have O8 := O0.wr W8 g_o0
 have K8 : Keep h0 h8 ([o0] : List Addr) := Keep.wr (Keep.refl h0 ([o0] : List Addr)) W8 (Or.inl (List.mem_of_getElem? (i := 0) rfl))
 have N8 := Fr.snoc X8 N0 g_o0
 refine Home.run X8 hx hby sg24_57_4 (pc' := 61) (L' := #[sr o0, .val (.int (0 : Int32)), sr p3]) (S' := [(.int (0 : Int32)), (.ref o0), (.int (0 : Int32)), (.ref p3)]) rfl ?_
 have q9 := (F_lastRet_o0.other W8 (Or.inr (slot_ne (Or.inl (own_w139 hw)) (Or.inl (own_w153 hw)) (by decide) (t := .int) (t' := .int) (by decide) (by decide))))
 refine Home.wr (putF X8 hx hZ hown (host := "") (Or.inl (own_w138 hw)) Via.refl e8 q9 (E_o0.keep K8) (Or.inl (own_w139 hw)) (own_w129 hw) (ty := .int) (by decide) rfl rfl rfl rfl (hb hby d24_61)) fun T10 h10 X10 e10 W10 => ?_
 have Fw10 := q9.same W10
 have O10 := O8.wr W10 g_o0
 have K10 : Keep h0 h10 ([o0] : List Addr) := Keep.wr K8 W10 (Or.inl (List.mem_of_getElem? (i := 0) rfl))
 have N10 := Fr.snoc X10 N8 g_o0
 show Home T10 (mkF m 64 #[sr o0, .val (.int (0 : Int32)), sr p3] [(.int (0 : Int32)), (.ref p3)])
 have ne11 : p3 ≠ o0 := (Ne.symm (own_neAV E_o0 (own_w129 hw) V_p3))
 have q12 := (V_p3.keep K10 (ninS ne11 nin0))
 obtain ⟨cl13, Ar13, q13, S13, M13, H13, G13⟩ := id q12
 have ib13 : ¬ ((0 : Int32) < 0 ∨ cl13.slots.size ≤ ((0 : Int32)).toNatClampNeg) := inb_of S13 ⟨by decide, by decide⟩
 refine Home.go (X10.aaload hx (j := (0 : Int32)) (v := (.ref p4)) (by rw [e10]; exact Ar13.1) (State.isArrayOf_alike hZ.alike Ar13.2.1) rfl Ar13.2.2 ib13 (Has.at H13 ib13 rfl) rfl rfl (hb hby d24_64)) ?_
 have q14 := ((F_this_0_o0.other W8 (Or.inr (slot_ne (Or.inr (own_w136 hw)) (Or.inl (own_w153 hw)) (by decide) (t := (.object "java/util/ArrayList")) (t' := .int) (by decide) (by decide)))).other W10 (Or.inr (slot_ne (Or.inr (own_w136 hw)) (Or.inl (own_w139 hw)) (by decide) (t := (.object "java/util/ArrayList")) (t' := .int) (by decide) (by decide))))
 have q15 := ((F_expectedModCount_o0.other W8 (Or.inr (slot_ne (Or.inl (own_w142 hw)) (Or.inl (own_w153 hw)) (by decide) (t := .int) (t' := .int) (by decide) (by decide)))).other W10 (Or.inr (slot_ne (Or.inl (own_w142 hw)) (Or.inl (own_w139 hw)) (by decide) (t := .int) (t' := .int) (by decide) (by decide))))
 have q16 := (Fw8.other W10 (Or.inr (slot_ne (Or.inl (own_w153 hw)) (Or.inl (own_w139 hw)) (by decide) (t := .int) (t' := .int) (by decide) (by decide))))
 exact Home.retR X10 hx hlk hret rfl rfl (hb hby d24_65) (by rw [show T10.heap = h10 from e10]; exact ⟨rfl, N10, K10, (E_o0.keep K10), q14, q15, q16, Fw10⟩) (by decide) (by decide)
theorem rm21_2 (l : Launch) (Z : State) (a0 : Array Value) (hw : HW a0 Z) (ws : List Jvm.Cond) (o0 o1 : Addr) (u1 : Int32) (h0 : Heap) (n0 : Nat) (O0 : Old Z n0 h0) (E_o0 : Exa Z h0 o0 "java/util/ArrayList$Itr") (F_this_0_o0 : Fld Z h0 o0 "java/util/ArrayList$Itr" "this$0" "Ljava/util/ArrayList;" .null) (g_o0 : n0 ≤ o0) (F_lastRet_o0 : Fld Z h0 o0 "java/util/ArrayList$Itr" "lastRet" "I" (.int (0 : Int32))) (F_modCount_o1 : Fld Z h0 o1 "java/util/AbstractList" "modCount" "I" (.int u1)) (E_o1 : Exa Z h0 o1 "java/util/ArrayList") (F_expectedModCount_o0 : Fld Z h0 o0 "java/util/ArrayList$Itr" "expectedModCount" "I" (.int (0 : Int32))) (F_cursor_o0 : Fld Z h0 o0 "java/util/ArrayList$Itr" "cursor" "I" (.int (0 : Int32))) :
    Con l Z (⟨"java/util/ArrayList$Itr", "<init>", "(Ljava/util/ArrayList;)V"⟩ : MethodName) jdk_49_method_1_code 2 none ws ({ frames := 1, cells := 0, slots := 0, locals := 12 } : Room) #[(.ref o0), (.ref o1)] h0 (fun v h L => v = none ∧ Fr n0 L ∧ Keep h0 h [o0] ∧ Exa Z h o0 "java/util/ArrayList$Itr" ∧ Fld Z h o0 "java/util/ArrayList$Itr" "this$0" "Ljava/util/ArrayList;" (.ref o1) ∧ Fld Z h o0 "java/util/ArrayList$Itr" "lastRet" "I" (.int (-1 : Int32)) ∧ Fld Z h o0 "java/util/ArrayList$Itr" "expectedModCount" "I" (.int u1) ∧ Fld Z h o0 "java/util/ArrayList$Itr" "cursor" "I" (.int (0 : Int32))) := by
 refine own_body (plainFor_of_name own_pn8) (fun m => ef_rm21_2 m o0 o1) ?_
 intro p e s m below meth c s₁ hx hby hlk hml hret hZ hown hnm X0 e0
 have N0 := Fr.nil n0
 refine Home.run X0 hx hby sg21_0_2 (pc' := 2) (L' := #[sr o0, sr o1]) (S' := [(.ref o1), (.ref o0)]) rfl ?_
 refine Home.wr (putF X0 hx hZ hown (host := "") (Or.inl (own_w135 hw)) Via.refl e0 F_this_0_o0 E_o0 (Or.inr ⟨(own_w136 hw), rfl, hnm⟩) (own_w129 hw) (ty := (.object "java/util/ArrayList")) (by decide) rfl rfl rfl rfl (hb hby d21_2)) fun T1 h1 X1 e1 W1 => ?_
 have Fw1 := F_this_0_o0.same W1
 have O1 := O0.wr W1 g_o0
 have K1 : Keep h0 h1 ([o0] : List Addr) := Keep.wr (Keep.refl h0 ([o0] : List Addr)) W1 (Or.inl (List.mem_of_getElem? (i := 0) rfl))
 have N1 := Fr.snoc X1 N0 g_o0
 refine Home.run X1 hx hby sg21_5_1 (pc' := 6) (L' := #[sr o0, sr o1]) (S' := [(.ref o0)]) rfl ?_
 refine Home.st (initO X1 hx hZ hown (own_w137 hw) (own_w23 hw) (own_w24 hw) e1 rfl (by rw [hml]; rfl) rfl (hb hby d21_6) (by decide) (W := 0) (by exact hW0) (by decide)) fun T2 X2 e2 => ?_
 refine Home.run X2 hx hby sg21_9_2 (pc' := 11) (L' := #[sr o0, sr o1]) (S' := [(.int (-1 : Int32)), (.ref o0)]) rfl ?_
 have q3 := (F_lastRet_o0.other W1 (Or.inr (slot_ne (Or.inl (own_w139 hw)) (Or.inr (own_w136 hw)) (by decide) (t := .int) (t' := (.object "java/util/ArrayList")) (by decide) (by decide))))
 refine Home.wr (putF X2 hx hZ hown (host := "") (Or.inl (own_w138 hw)) Via.refl e2 q3 (E_o0.keep K1) (Or.inl (own_w139 hw)) (own_w129 hw) (ty := .int) (by decide) rfl rfl rfl rfl (hb hby d21_11)) fun T4 h4 X4 e4 W4 => ?_
 have Fw4 := q3.same W4
 have O4 := O1.wr W4 g_o0
 have K4 : Keep h0 h4 ([o0] : List Addr) := Keep.wr K1 W4 (Or.inl (List.mem_of_getElem? (i := 0) rfl))
 have N4 := Fr.snoc X4 N1 g_o0
 show Home T4 (mkF m 14 #[sr o0, sr o1] [])
 refine Home.run X4 hx hby sg21_14_2 (pc' := 16) (L' := #[sr o0, sr o1]) (S' := [(.ref o0), (.ref o0)]) rfl ?_
 have q5 := (Fw1.other W4 (Or.inr (slot_ne (Or.inr (own_w136 hw)) (Or.inl (own_w139 hw)) (by decide) (t := (.object "java/util/ArrayList")) (t' := .int) (by decide) (by decide))))
 refine Home.st (getF X4 hx hZ hown (host := "") (Or.inl (own_w135 hw)) Via.refl e4 q5 rfl rfl (hb hby d21_16)) fun T6 X6 e6 => ?_
 have ne7 : o1 ≠ o0 := (ne_exa (E_o1.keep K4) (E_o0.keep K4) (by decide))
 have q8 := (F_modCount_o1.keep K4 (ninS ne7 nin0))
 refine Home.st (getF X6 hx hZ hown (host := "") (Or.inl (own_w140 hw)) (Via.of (own_w83 hw)) e6 q8 rfl rfl (hb hby d21_19)) fun T9 X9 e9 => ?_
 have q10 := ((F_expectedModCount_o0.other W1 (Or.inr (slot_ne (Or.inl (own_w142 hw)) (Or.inr (own_w136 hw)) (by decide) (t := .int) (t' := (.object "java/util/ArrayList")) (by decide) (by decide)))).other W4 (Or.inr (slot_ne (Or.inl (own_w142 hw)) (Or.inl (own_w139 hw)) (by decide) (t := .int) (t' := .int) (by decide) (by decide))))
 refine Home.wr (putF X9 hx hZ hown (host := "") (Or.inl (own_w141 hw)) Via.refl e9 q10 (E_o0.keep K4) (Or.inl (own_w142 hw)) (own_w129 hw) (ty := .int) (by decide) rfl rfl rfl rfl (hb hby d21_22)) fun T11 h11 X11 e11 W11 => ?_
 have Fw11 := q10.same W11
 have O11 := O4.wr W11 g_o0
 have K11 : Keep h0 h11 ([o0] : List Addr) := Keep.wr K4 W11 (Or.inl (List.mem_of_getElem? (i := 0) rfl))
 have N11 := Fr.snoc X11 N4 g_o0
 have q12 := (q5.other W11 (Or.inr (slot_ne (Or.inr (own_w136 hw)) (Or.inl (own_w142 hw)) (by decide) (t := (.object "java/util/ArrayList")) (t' := .int) (by decide) (by decide))))
 have q13 := (Fw4.other W11 (Or.inr (slot_ne (Or.inl (own_w139 hw)) (Or.inl (own_w142 hw)) (by decide) (t := .int) (t' := .int) (by decide) (by decide))))
 have q14 := (((F_cursor_o0.other W1 (Or.inr (slot_ne (Or.inl (own_w153 hw)) (Or.inr (own_w136 hw)) (by decide) (t := .int) (t' := (.object "java/util/ArrayList")) (by decide) (by decide)))).other W4 (Or.inr (slot_ne (Or.inl (own_w153 hw)) (Or.inl (own_w139 hw)) (by decide) (t := .int) (t' := .int) (by decide) (by decide)))).other W11 (Or.inr (slot_ne (Or.inl (own_w153 hw)) (Or.inl (own_w142 hw)) (by decide) (t := .int) (t' := .int) (by decide) (by decide))))
 exact Home.ret0 X11 hx hlk hret (hb hby d21_25) (by rw [show T11.heap = h11 from e11]; exact ⟨rfl, N11, K11, (E_o0.keep K11), q12, q13, Fw11, q14⟩) (by decide) (by decide)
theorem rm20_2 (l : Launch) (Z : State) (a0 : Array Value) (hw : HW a0 Z) (ws : List Jvm.Cond) (o0 : Addr) (u1 : Int32) (h0 : Heap) (n0 : Nat) (O0 : Old Z n0 h0) (F_modCount_o0 : Fld Z h0 o0 "java/util/AbstractList" "modCount" "I" (.int u1)) (E_o0 : Exa Z h0 o0 "java/util/ArrayList") :
    Con l Z (⟨"java/util/ArrayList", "iterator", "()Ljava/util/Iterator;"⟩ : MethodName) jdk_38_method_55_code 1 (some (.object "java/util/Iterator")) ws ({ frames := 2, cells := 1, slots := 4, locals := 26 } : Room) #[(.ref o0)] h0 (fun v h L => ∃ (b1 : Addr), v = some (.ref b1) ∧ Fr n0 L ∧ h0.size ≤ b1 ∧ Keep h0 h [] ∧ Exa Z h b1 "java/util/ArrayList$Itr" ∧ Fld Z h b1 "java/util/ArrayList$Itr" "this$0" "Ljava/util/ArrayList;" (.ref o0) ∧ Fld Z h b1 "java/util/ArrayList$Itr" "lastRet" "I" (.int (-1 : Int32)) ∧ Fld Z h b1 "java/util/ArrayList$Itr" "expectedModCount" "I" (.int u1) ∧ Fld Z h b1 "java/util/ArrayList$Itr" "cursor" "I" (.int (0 : Int32))) := by
 refine own_body (plainFor_of_name own_pn6) (fun m => ef_rm20_2 m o0) ?_
 intro p e s m below meth c s₁ hx hby hlk hml hret hZ hown hnm X0 e0
 have N0 := Fr.nil n0
 refine Home.nw (own_newO X0 hx hZ hown (own_w128 hw) (own_w129 hw) (own_w130 hw) e0 rfl (hb hby d20_0) (by decide) (by decide)) fun T1 h1 b1 g1 X1 e1 E1 A1 D1 => ?_
 have g_b1 : n0 ≤ b1 := Nat.le_trans (Old.le O0) (Nat.le_of_eq g1.symm)
 have F_this_0_b1 : Fld Z h1 b1 "java/util/ArrayList$Itr" "this$0" "Ljava/util/ArrayList;" .null := D1 (Or.inr (own_w136 hw)) (ty := (.object "java/util/ArrayList")) (by decide)
 have F_lastRet_b1 : Fld Z h1 b1 "java/util/ArrayList$Itr" "lastRet" "I" (.int (0 : Int32)) := D1 (Or.inl (own_w139 hw)) (ty := .int) (by decide)
 have F_expectedModCount_b1 : Fld Z h1 b1 "java/util/ArrayList$Itr" "expectedModCount" "I" (.int (0 : Int32)) := D1 (Or.inl (own_w142 hw)) (ty := .int) (by decide)
 have F_cursor_b1 : Fld Z h1 b1 "java/util/ArrayList$Itr" "cursor" "I" (.int (0 : Int32)) := D1 (Or.inl (own_w153 hw)) (ty := .int) (by decide)
 have O1 := O0.ext E1
 have K1 : Keep h0 h1 ([] : List Addr) := Keep.ext (Keep.refl h0 ([] : List Addr)) E1
 refine Home.run X1 hx hby sg20_3_2 (pc' := 5) (L' := #[sr o0]) (S' := [(.ref o0), (.ref b1), (.ref b1)]) rfl ?_
 refine Home.call (own_special X1 hx hZ hown rfl (own_w131 hw) (own_w132 hw) (own_w130 hw) (own_w134 hw) (by decide) (rm21_2 l Z a0 hw [] b1 o0 u1 h1 n0 O1 A1 F_this_0_b1 g_b1 F_lastRet_b1 (F_modCount_o0.keep K1 nin0) (E_o0.keep K1) F_expectedModCount_b1 F_cursor_b1) e1 rfl (by rw [hml]; rfl) (a := b1) (argsL := [(.ref o0)]) (rest := [(.ref b1)]) (lenOf own_pd9 rfl) rfl rfl (W := 1) (by exact hW0) (by decide) (by decide) (hb hby d20_5) (by decide) (by decide)) ?_
 rintro _ T2 L2 X2 ⟨rfl, N2q, K2q, P2_0, P2_1, P2_2, P2_3, P2_4⟩
 have O2 := Old.keep O1 K2q (allS g_b1 all0)
 have K2 : Keep h0 T2.heap ([] : List Addr) := Keep.trans K1 K2q (allS (Or.inr (Nat.le_trans (Nat.le_refl _) (Nat.le_of_eq g1.symm))) all0)
 have N2 := Fr.app N0 N2q
 show Home T2 (mkF m 8 #[sr o0] [(.ref b1)])
 exact Home.retR X2 hx hlk hret rfl rfl (hb hby d20_8) ⟨b1, rfl, N2, (Nat.le_trans (Nat.le_refl _) (Nat.le_of_eq g1.symm)), K2, P2_0, P2_1, P2_2, P2_3, P2_4⟩ (by decide) (by decide)
theorem rm22_2 (l : Launch) (Z : State) (a0 : Array Value) (hw : HW a0 Z) (ws : List Jvm.Cond) (o0 p2 : Addr) (u1 : Int32) (h0 : Heap) (n0 : Nat) (O0 : Old Z n0 h0) (F_cursor_o0 : Fld Z h0 o0 "java/util/ArrayList$Itr" "cursor" "I" (.int (0 : Int32))) (F_this_0_o0 : Fld Z h0 o0 "java/util/ArrayList$Itr" "this$0" "Ljava/util/ArrayList;" (.ref p2)) (F_size_p2 : Fld Z h0 p2 "java/util/ArrayList" "size" "I" (.int u1)) (bnd_u1 : ¬ u1 < (1 : Int32) ∧ ¬ (3 : Int32) < u1) :
    Con l Z (⟨"java/util/ArrayList$Itr", "hasNext", "()Z"⟩ : MethodName) jdk_49_method_2_code 1 (some .boolean) ws ({ frames := 0, cells := 0, slots := 0, locals := 0 } : Room) #[(.ref o0)] h0 (Pur (some (.int (1 : Int32))) h0) := by
 refine own_body (plainFor_of_name own_pn8) (fun m => ef_rm22_2 m o0) ?_
 intro p e s m below meth c s₁ hx hby hlk hml hret hZ hown hnm X0 e0
 have N0 := Fr.nil n0
 refine Home.run X0 hx hby sg22_0_1 (pc' := 1) (L' := #[sr o0]) (S' := [(.ref o0)]) rfl ?_
 refine Home.st (getF X0 hx hZ hown (host := "") (Or.inl (own_w152 hw)) Via.refl e0 F_cursor_o0 rfl rfl (hb hby d22_1)) fun T1 X1 e1 => ?_
 refine Home.run X1 hx hby sg22_4_1 (pc' := 5) (L' := #[sr o0]) (S' := [(.ref o0), (.int (0 : Int32))]) rfl ?_
 refine Home.st (getF X1 hx hZ hown (host := "") (Or.inl (own_w135 hw)) Via.refl e1 F_this_0_o0 rfl rfl (hb hby d22_5)) fun T2 X2 e2 => ?_
 refine Home.st (getF X2 hx hZ hown (Or.inr (own_w154 hw)) Via.refl e2 F_size_p2 rfl rfl (hb hby d22_8)) fun T3 X3 e3 => ?_
 refine Home.go (fun _ => XS.icmpNo X3.here hx rfl (hb hby d22_11) rfl (feq (bnd_ne (bnd_lit (0 : Int32)) bnd_u1 (by decide +kernel))).1) ?_
 refine Home.run X3 hx hby sg22_14_2 (pc' := 19) (L' := #[sr o0]) (S' := [(.int (1 : Int32))]) rfl ?_
 exact Home.retN X3 hx hlk (t := .boolean) hret (by simp) (hb hby d22_19) ⟨congrArg some (congrArg Value.int (by first | rfl | exact nar_i2c _ | exact nar_i2b _)), rfl, e3⟩ (by decide) (by decide)
theorem rm25_1 (l : Launch) (Z : State) (a0 : Array Value) (hw : HW a0 Z) (ws : List Jvm.Cond) (o0 p2 : Addr) (u1 : Int32) (h0 : Heap) (n0 : Nat) (O0 : Old Z n0 h0) (F_this_0_o0 : Fld Z h0 o0 "java/util/ArrayList$Itr" "this$0" "Ljava/util/ArrayList;" (.ref p2)) (F_modCount_p2 : Fld Z h0 p2 "java/util/AbstractList" "modCount" "I" (.int u1)) (F_expectedModCount_o0 : Fld Z h0 o0 "java/util/ArrayList$Itr" "expectedModCount" "I" (.int u1)) :
    Con l Z (⟨"java/util/ArrayList$Itr", "checkForComodification", "()V"⟩ : MethodName) jdk_49_method_6_code 1 none ws ({ frames := 0, cells := 0, slots := 0, locals := 0 } : Room) #[(.ref o0)] h0 (Pur none h0) := by
 refine own_body (plainFor_of_name own_pn8) (fun m => ef_rm25_1 m o0) ?_
 intro p e s m below meth c s₁ hx hby hlk hml hret hZ hown hnm X0 e0
 have N0 := Fr.nil n0
 refine Home.run X0 hx hby sg25_0_1 (pc' := 1) (L' := #[sr o0]) (S' := [(.ref o0)]) rfl ?_
 refine Home.st (getF X0 hx hZ hown (host := "") (Or.inl (own_w135 hw)) Via.refl e0 F_this_0_o0 rfl rfl (hb hby d25_1)) fun T1 X1 e1 => ?_
 refine Home.st (getF X1 hx hZ hown (host := "") (Or.inl (own_w140 hw)) (Via.of (own_w83 hw)) e1 F_modCount_p2 rfl rfl (hb hby d25_4)) fun T2 X2 e2 => ?_
 refine Home.run X2 hx hby sg25_7_1 (pc' := 8) (L' := #[sr o0]) (S' := [(.ref o0), (.int u1)]) rfl ?_
 refine Home.st (getF X2 hx hZ hown (host := "") (Or.inl (own_w141 hw)) Via.refl e2 F_expectedModCount_o0 rfl rfl (hb hby d25_8)) fun T3 X3 e3 => ?_
 refine Home.go (fun _ => XS.icmpYes X3.here hx rfl (pc0 := 11) (pc' := 22) rfl (hb hby d25_11) rfl (teq rfl).1 (by decide) (by decide)) ?_
 exact Home.ret0 X3 hx hlk hret (hb hby d25_22) ⟨rfl, rfl, e3⟩ (by decide) (by decide)
theorem rm24_1 (l : Launch) (Z : State) (a0 : Array Value) (hw : HW a0 Z) (ws : List Jvm.Cond) (o0 p2 : Addr) (u1 : Int32) (p3 : Addr) (k_p3 : ClassId) (p4 p5 p6 : Addr) (h0 : Heap) (n0 : Nat) (O0 : Old Z n0 h0) (E_o0 : Exa Z h0 o0 "java/util/ArrayList$Itr") (F_this_0_o0 : Fld Z h0 o0 "java/util/ArrayList$Itr" "this$0" "Ljava/util/ArrayList;" (.ref p2)) (F_modCount_p2 : Fld Z h0 p2 "java/util/AbstractList" "modCount" "I" (.int u1)) (F_expectedModCount_o0 : Fld Z h0 o0 "java/util/ArrayList$Itr" "expectedModCount" "I" (.int u1)) (F_cursor_o0 : Fld Z h0 o0 "java/util/ArrayList$Itr" "cursor" "I" (.int (0 : Int32))) (F_size_p2 : Fld Z h0 p2 "java/util/ArrayList" "size" "I" (.int u1)) (bnd_u1 : ¬ u1 < (1 : Int32) ∧ ¬ (3 : Int32) < u1) (F_elementData_p2 : Fld Z h0 p2 "java/util/ArrayList" "elementData" "[Ljava/lang/Object;" (.ref p3)) (V_p3 : Arv Z h0 p3 k_p3 (.object "java/lang/Object") (10 : Int32) [(.ref p4), (own_el1 u1 p5), (own_el2 u1 p6), .null, .null, .null, .null, .null, .null, .null] .null) (g_o0 : n0 ≤ o0) (F_lastRet_o0 : Fld Z h0 o0 "java/util/ArrayList$Itr" "lastRet" "I" (.int (-1 : Int32))) :
    Con l Z (⟨"java/util/ArrayList$Itr", "next", "()Ljava/lang/Object;"⟩ : MethodName) jdk_49_method_3_code 3 (some (.object "java/lang/Object")) ws ({ frames := 1, cells := 0, slots := 0, locals := 12 } : Room) #[(.ref o0)] h0 (fun v h L => v = some (.ref p4) ∧ Fr n0 L ∧ Keep h0 h [o0] ∧ Exa Z h o0 "java/util/ArrayList$Itr" ∧ Fld Z h o0 "java/util/ArrayList$Itr" "this$0" "Ljava/util/ArrayList;" (.ref p2) ∧ Fld Z h o0 "java/util/ArrayList$Itr" "expectedModCount" "I" (.int u1) ∧ Fld Z h o0 "java/util/ArrayList$Itr" "cursor" "I" (.int (1 : Int32)) ∧ Fld Z h o0 "java/util/ArrayList$Itr" "lastRet" "I" (.int (0 : Int32))) := by
 refine own_body (plainFor_of_name own_pn8) (fun m => ef_rm24_1 m o0) ?_
 intro p e s m below meth c s₁ hx hby hlk hml hret hZ hown hnm X0 e0
 have N0 := Fr.nil n0
 refine Home.run X0 hx hby sg24_0_1 (pc' := 1) (L' := #[sr o0, .unset, .unset]) (S' := [(.ref o0)]) rfl ?_
 refine Home.st (own_pure (own_virtual X0 hx hZ hown (own_w172 hw) (own_w173 hw) (notFace_of_selects (args := #[]) (mvT hZ (own_w175 hw))) (own_w175 hw) (own_w174 hw) (own_w130 hw) (own_w176 hw) (by decide) (rm25_1 l Z a0 hw [] o0 p2 u1 h0 n0 O0 F_this_0_o0 F_modCount_p2 F_expectedModCount_o0) e0 E_o0 rfl (by rw [hml]; rfl) (argsL := []) (rest := []) (lenOf own_pd4 rfl) rfl rfl (W := 0) (by exact hW0) (by decide) (by decide) (hb hby d24_1) (by decide) (by decide))) fun T1 X1 e1 => ?_
 refine Home.run X1 hx hby sg24_4_1 (pc' := 5) (L' := #[sr o0, .unset, .unset]) (S' := [(.ref o0)]) rfl ?_
 refine Home.st (getF X1 hx hZ hown (host := "") (Or.inl (own_w152 hw)) Via.refl e1 F_cursor_o0 rfl rfl (hb hby d24_5)) fun T2 X2 e2 => ?_
 refine Home.run X2 hx hby sg24_8_3 (pc' := 11) (L' := #[sr o0, .val (.int (0 : Int32)), .unset]) (S' := [(.ref o0), (.int (0 : Int32))]) rfl ?_
 refine Home.st (getF X2 hx hZ hown (host := "") (Or.inl (own_w135 hw)) Via.refl e2 F_this_0_o0 rfl rfl (hb hby d24_11)) fun T3 X3 e3 => ?_
 refine Home.st (getF X3 hx hZ hown (Or.inr (own_w154 hw)) Via.refl e3 F_size_p2 rfl rfl (hb hby d24_14)) fun T4 X4 e4 => ?_
 refine Home.go (fun _ => XS.icmpYes X4.here hx rfl (pc0 := 17) (pc' := 28) rfl (hb hby d24_17) rfl (tlt (bnd_lt (bnd_lit (0 : Int32)) bnd_u1 (by decide +kernel))).1 (by decide) (by decide)) ?_
 refine Home.run X4 hx hby sg24_28_1 (pc' := 29) (L' := #[sr o0, .val (.int (0 : Int32)), .unset]) (S' := [(.ref o0)]) rfl ?_
 refine Home.st (getF X4 hx hZ hown (host := "") (Or.inl (own_w135 hw)) Via.refl e4 F_this_0_o0 rfl rfl (hb hby d24_29)) fun T5 X5 e5 => ?_
 refine Home.st (getF X5 hx hZ hown (host := "") (Or.inl (own_w177 hw)) Via.refl e5 F_elementData_p2 rfl rfl (hb hby d24_32)) fun T6 X6 e6 => ?_
 refine Home.run X6 hx hby sg24_35_3 (pc' := 38) (L' := #[sr o0, .val (.int (0 : Int32)), sr p3]) (S' := [(.ref p3), (.int (0 : Int32))]) rfl ?_
 obtain ⟨cl7, Ar7, q7, S7, M7, H7, G7⟩ := id V_p3
 refine Home.go (own_alen X6 hx hZ e6 Ar7 S7 M7 rfl rfl (hb hby d24_38)) ?_
 show Home T6 (mkF m 39 #[sr o0, .val (.int (0 : Int32)), sr p3] [(.int (10 : Int32)), (.int (0 : Int32))])
 refine Home.go (fun _ => XS.icmpYes X6.here hx rfl (pc0 := 39) (pc' := 50) rfl (hb hby d24_39) rfl (tlt (by decide)).1 (by decide) (by decide)) ?_
 refine Home.run X6 hx hby sg24_50_4 (pc' := 54) (L' := #[sr o0, .val (.int (0 : Int32)), sr p3]) (S' := [(.int (1 : Int32)), (.ref o0)]) rfl ?_
 refine Home.wr (putF X6 hx hZ hown (host := "") (Or.inl (own_w152 hw)) Via.refl e6 F_cursor_o0 E_o0 (Or.inl (own_w153 hw)) (own_w129 hw) (ty := .int) (by decide) rfl rfl rfl rfl (hb hby d24_54)) fun T8 h8 X8 e8 W8 => ?_
 have Fw8 := F_cursor_o0.same W8
 have O8 := O0.wr W8 g_o0
 have K8 : Keep h0 h8 ([o0] : List Addr) := Keep.wr (Keep.refl h0 ([o0] : List Addr)) W8 (Or.inl (List.mem_of_getElem? (i := 0) rfl))
 have N8 := Fr.snoc X8 N0 g_o0
 refine Home.run X8 hx hby sg24_57_4 (pc' := 61) (L' := #[sr o0, .val (.int (0 : Int32)), sr p3]) (S' := [(.int (0 : Int32)), (.ref o0), (.int (0 : Int32)), (.ref p3)]) rfl ?_
 have q9 := (F_lastRet_o0.other W8 (Or.inr (slot_ne (Or.inl (own_w139 hw)) (Or.inl (own_w153 hw)) (by decide) (t := .int) (t' := .int) (by decide) (by decide))))
 refine Home.wr (putF X8 hx hZ hown (host := "") (Or.inl (own_w138 hw)) Via.refl e8 q9 (E_o0.keep K8) (Or.inl (own_w139 hw)) (own_w129 hw) (ty := .int) (by decide) rfl rfl rfl rfl (hb hby d24_61)) fun T10 h10 X10 e10 W10 => ?_
 have Fw10 := q9.same W10
 have O10 := O8.wr W10 g_o0
 have K10 : Keep h0 h10 ([o0] : List Addr) := Keep.wr K8 W10 (Or.inl (List.mem_of_getElem? (i := 0) rfl))
 have N10 := Fr.snoc X10 N8 g_o0
 show Home T10 (mkF m 64 #[sr o0, .val (.int (0 : Int32)), sr p3] [(.int (0 : Int32)), (.ref p3)])
 have ne11 : p3 ≠ o0 := (Ne.symm (own_neAV E_o0 (own_w129 hw) V_p3))
 have q12 := (V_p3.keep K10 (ninS ne11 nin0))
 obtain ⟨cl13, Ar13, q13, S13, M13, H13, G13⟩ := id q12
 have ib13 : ¬ ((0 : Int32) < 0 ∨ cl13.slots.size ≤ ((0 : Int32)).toNatClampNeg) := inb_of S13 ⟨by decide, by decide⟩
 refine Home.go (X10.aaload hx (j := (0 : Int32)) (v := (.ref p4)) (by rw [e10]; exact Ar13.1) (State.isArrayOf_alike hZ.alike Ar13.2.1) rfl Ar13.2.2 ib13 (Has.at H13 ib13 rfl) rfl rfl (hb hby d24_64)) ?_
 have q14 := ((F_this_0_o0.other W8 (Or.inr (slot_ne (Or.inr (own_w136 hw)) (Or.inl (own_w153 hw)) (by decide) (t := (.object "java/util/ArrayList")) (t' := .int) (by decide) (by decide)))).other W10 (Or.inr (slot_ne (Or.inr (own_w136 hw)) (Or.inl (own_w139 hw)) (by decide) (t := (.object "java/util/ArrayList")) (t' := .int) (by decide) (by decide))))
 have q15 := ((F_expectedModCount_o0.other W8 (Or.inr (slot_ne (Or.inl (own_w142 hw)) (Or.inl (own_w153 hw)) (by decide) (t := .int) (t' := .int) (by decide) (by decide)))).other W10 (Or.inr (slot_ne (Or.inl (own_w142 hw)) (Or.inl (own_w139 hw)) (by decide) (t := .int) (t' := .int) (by decide) (by decide))))
 have q16 := (Fw8.other W10 (Or.inr (slot_ne (Or.inl (own_w153 hw)) (Or.inl (own_w139 hw)) (by decide) (t := .int) (t' := .int) (by decide) (by decide))))
 exact Home.retR X10 hx hlk hret rfl rfl (hb hby d24_65) (by rw [show T10.heap = h10 from e10]; exact ⟨rfl, N10, K10, (E_o0.keep K10), q14, q15, q16, Fw10⟩) (by decide) (by decide)
theorem rm26_0 (l : Launch) (Z : State) (a0 : Array Value) (hw : HW a0 Z) (ws : List Jvm.Cond) (o0 p2 : Addr) (h0 : Heap) (n0 : Nat) (O0 : Old Z n0 h0) (F_name_o0 : Fld Z h0 o0 "com/example/wary_meter/warymeter/Column" "name" "Ljava/lang/String;" (.ref p2)) :
    Con l Z (⟨"com/example/wary_meter/warymeter/Column", "name", "()Ljava/lang/String;"⟩ : MethodName) prog_3_method_10_code 1 (some (.object "java/lang/String")) ws ({ frames := 0, cells := 0, slots := 0, locals := 0 } : Room) #[(.ref o0)] h0 (Pur (some (.ref p2)) h0) := by
 refine own_body (plainFor_of_name own_pn3) (fun m => ef_rm26_0 m o0) ?_
 intro p e s m below meth c s₁ hx hby hlk hml hret hZ hown hnm X0 e0
 have N0 := Fr.nil n0
 refine Home.run X0 hx hby sg26_0_1 (pc' := 1) (L' := #[sr o0]) (S' := [(.ref o0)]) rfl ?_
 refine Home.st (getF X0 hx hZ hown (host := "") (Or.inl (own_w41 hw)) Via.refl e0 F_name_o0 rfl rfl (hb hby d26_1)) fun T1 X1 e1 => ?_
 exact Home.retR X1 hx hlk hret rfl rfl (hb hby d26_4) ⟨rfl, rfl, e1⟩ (by decide) (by decide)
theorem rm28_0 (l : Launch) (Z : State) (a0 : Array Value) (hw : HW a0 Z) (ws : List Jvm.Cond) (o0 o1 : Addr) (k_o0 : ClassId) (u1 : Int32) (k_o1 : ClassId) (u2 : Int32) (h0 : Heap) (n0 : Nat) (O0 : Old Z n0 h0) (V_o0 : Arv Z h0 o0 k_o0 .byte (1 : Int32) [(.int u1)] (.int (0 : Int32))) (V_o1 : Arv Z h0 o1 k_o1 .byte (1 : Int32) [(.int u2)] (.int (0 : Int32))) :
    Con l Z (⟨"java/lang/StringLatin1", "equals", "([B[B)Z"⟩ : MethodName) jdk_43_method_13_code 3 (some .boolean) ws ({ frames := 0, cells := 0, slots := 0, locals := 0 } : Room) #[(.ref o0), (.ref o1)] h0 (Pur (some (.int (f_rm28_0 u1 u2))) h0) := by
 refine own_body (plainFor_of_name own_pn0) (fun m => ef_rm28_0 m o0 o1) ?_
 intro p e s m below meth c s₁ hx hby hlk hml hret hZ hown hnm X0 e0
 have N0 := Fr.nil n0
 refine Home.run X0 hx hby sg28_0_1 (pc' := 1) (L' := #[sr o0, sr o1, .unset]) (S' := [(.ref o0)]) rfl ?_
 obtain ⟨cl1, Ar1, q1, S1, M1, H1, G1⟩ := id V_o0
 refine Home.go (own_alen X0 hx hZ e0 Ar1 S1 M1 rfl rfl (hb hby d28_1)) ?_
 refine Home.run X0 hx hby sg28_2_1 (pc' := 3) (L' := #[sr o0, sr o1, .unset]) (S' := [(.ref o1), (.int (1 : Int32))]) rfl ?_
 obtain ⟨cl2, Ar2, q2, S2, M2, H2, G2⟩ := id V_o1
 refine Home.go (own_alen X0 hx hZ e0 Ar2 S2 M2 rfl rfl (hb hby d28_3)) ?_
 refine Home.go (fun _ => XS.icmpNo X0.here hx rfl (hb hby d28_4) rfl (teq (by decide)).2) ?_
 refine Home.run X0 hx hby sg28_7_4 (pc' := 11) (L' := #[sr o0, sr o1, .val (.int (0 : Int32))]) (S' := [(.ref o0), (.int (0 : Int32))]) rfl ?_
 obtain ⟨cl3, Ar3, q3, S3, M3, H3, G3⟩ := id V_o0
 refine Home.go (own_alen X0 hx hZ e0 Ar3 S3 M3 rfl rfl (hb hby d28_11)) ?_
 refine Home.go (fun _ => XS.icmpNo X0.here hx rfl (hb hby d28_12) rfl (tlt (by decide)).2.1) ?_
 refine Home.run X0 hx hby sg28_15_2 (pc' := 17) (L' := #[sr o0, sr o1, .val (.int (0 : Int32))]) (S' := [(.int (0 : Int32)), (.ref o0)]) rfl ?_
 obtain ⟨cl4, Ar4, q4, S4, M4, H4, G4⟩ := id V_o0
 have ib4 : ¬ ((0 : Int32) < 0 ∨ cl4.slots.size ≤ ((0 : Int32)).toNatClampNeg) := inb_of S4 ⟨by decide, by decide⟩
 refine Home.go (X0.baloadBytes hx (j := (0 : Int32)) (v := (.int u1)) (by rw [e0]; exact Ar4.1) (State.isArrayOf_alike hZ.alike Ar4.2.1) Ar4.2.2 ib4 (Has.at H4 ib4 rfl) rfl rfl (hb hby d28_17)) ?_
 show Home s₁ (mkF m 18 #[sr o0, sr o1, .val (.int (0 : Int32))] [(.int u1)])
 refine Home.run X0 hx hby sg28_18_2 (pc' := 20) (L' := #[sr o0, sr o1, .val (.int (0 : Int32))]) (S' := [(.int (0 : Int32)), (.ref o1), (.int u1)]) rfl ?_
 obtain ⟨cl5, Ar5, q5, S5, M5, H5, G5⟩ := id V_o1
 have ib5 : ¬ ((0 : Int32) < 0 ∨ cl5.slots.size ≤ ((0 : Int32)).toNatClampNeg) := inb_of S5 ⟨by decide, by decide⟩
 refine Home.go (X0.baloadBytes hx (j := (0 : Int32)) (v := (.int u2)) (by rw [e0]; exact Ar5.1) (State.isArrayOf_alike hZ.alike Ar5.2.1) Ar5.2.2 ib5 (Has.at H5 ib5 rfl) rfl rfl (hb hby d28_20)) ?_
 by_cases c6 : u1 = u2
 ·
  refine Home.go (fun _ => XS.icmpYes X0.here hx rfl (pc0 := 21) (pc' := 26) rfl (hb hby d28_21) rfl (teq c6).1 (by decide) (by decide)) ?_
  refine Home.run X0 hx hby sg28_26_4 (pc' := 11) (L' := #[sr o0, sr o1, .val (.int (1 : Int32))]) (S' := [(.ref o0), (.int (1 : Int32))]) rfl ?_
  obtain ⟨cl7, Ar7, q7, S7, M7, H7, G7⟩ := id V_o0
  refine Home.go (own_alen X0 hx hZ e0 Ar7 S7 M7 rfl rfl (hb hby d28_11)) ?_
  refine Home.go (fun _ => XS.icmpYes X0.here hx rfl (pc0 := 12) (pc' := 32) rfl (hb hby d28_12) rfl (flt (by decide)).2.1 (by decide) (by decide)) ?_
  refine Home.run X0 hx hby sg28_32_1 (pc' := 33) (L' := #[sr o0, sr o1, .val (.int (1 : Int32))]) (S' := [(.int (1 : Int32))]) rfl ?_
  exact Home.retN X0 hx hlk (t := .boolean) hret (by simp) (hb hby d28_33) ⟨congrArg some (congrArg Value.int (by first | rfl | (simp only [f_rm28_0, if_pos c6, nar_i2c, nar_i2b] <;> rfl) | (simp [f_rm28_0, if_pos c6]; done))), rfl, e0⟩ (by decide) (by decide)
 ·
  refine Home.go (fun _ => XS.icmpNo X0.here hx rfl (hb hby d28_21) rfl (feq c6).1) ?_
  refine Home.run X0 hx hby sg28_24_1 (pc' := 25) (L' := #[sr o0, sr o1, .val (.int (0 : Int32))]) (S' := [(.int (0 : Int32))]) rfl ?_
  exact Home.retN X0 hx hlk (t := .boolean) hret (by simp) (hb hby d28_25) ⟨congrArg some (congrArg Value.int (by first | rfl | (simp only [f_rm28_0, if_neg c6, nar_i2c, nar_i2b] <;> rfl) | (simp [f_rm28_0, if_neg c6]; done))), rfl, e0⟩ (by decide) (by decide)
theorem f_rm28_0_bnd (u1 : Int32) (u2 : Int32) : ¬ (f_rm28_0 u1 u2) < (0 : Int32) ∧ ¬ (1 : Int32) < (f_rm28_0 u1 u2) := by unfold f_rm28_0; (repeat' split) <;> first | exact bnd_mono (bnd_lit (1 : Int32)) (by decide +kernel) (by decide +kernel) | exact bnd_mono (bnd_lit (0 : Int32)) (by decide +kernel) (by decide +kernel)
theorem rm27_0 (l : Launch) (Z : State) (a0 : Array Value) (hw : HW a0 Z) (ws : List Jvm.Cond) (o0 o1 : Addr) (sv_COMPACT_STRINGS : Int32) (p3 p4 : Addr) (k_p3 : ClassId) (u1 : Int32) (k_p4 : ClassId) (u2 : Int32) (h0 : Heap) (n0 : Nat) (O0 : Old Z n0 h0) (E_o0 : Exa Z h0 o0 "java/lang/String") (E_o1 : Exa Z h0 o1 "java/lang/String") (ne_o0_o1 : o0 ≠ o1) (S_COMPACT_STRINGS : Sta Z Z.heap "java/lang/String" "COMPACT_STRINGS" "Z" (.int sv_COMPACT_STRINGS)) (hCS : ¬ (sv_COMPACT_STRINGS = (0 : Int32))) (F_coder_o0 : Fld Z h0 o0 "java/lang/String" "coder" "B" (.int (0 : Int32))) (F_coder_o1 : Fld Z h0 o1 "java/lang/String" "coder" "B" (.int (0 : Int32))) (F_value_o0 : Fld Z h0 o0 "java/lang/String" "value" "[B" (.ref p3)) (F_value_o1 : Fld Z h0 o1 "java/lang/String" "value" "[B" (.ref p4)) (V_p3 : Arv Z h0 p3 k_p3 .byte (1 : Int32) [(.int u1)] (.int (0 : Int32))) (V_p4 : Arv Z h0 p4 k_p4 .byte (1 : Int32) [(.int u2)] (.int (0 : Int32))) :
    Con l Z (⟨"java/lang/String", "equals", "(Ljava/lang/Object;)Z"⟩ : MethodName) jdk_42_method_66_code 3 (some .boolean) ws ({ frames := 1, cells := 0, slots := 0, locals := 14 } : Room) #[(.ref o0), (.ref o1)] h0 (Pur (some (.int (f_rm27_0 u1 u2))) h0) := by
 refine own_body (plainFor_of_name own_pn1) (fun m => ef_rm27_0 m o0 o1) ?_
 intro p e s m below meth c s₁ hx hby hlk hml hret hZ hown hnm X0 e0
 have N0 := Fr.nil n0
 refine Home.run X0 hx hby sg27_0_2 (pc' := 2) (L' := #[sr o0, sr o1, .unset]) (S' := [(.ref o1), (.ref o0)]) rfl ?_
 refine Home.go (fun _ => Jvm.RoadKit.acmp X0 hx rfl rfl rfl (pc0 := 2) (pc' := 7) (same := false) rfl (hb hby d27_2) rfl (decide_eq_false fun q => ne_o0_o1 (Value.ref.inj q)) (by decide) (by decide)) ?_
 show Home s₁ (mkF m 7 #[sr o0, sr o1, .unset] [])
 refine Home.run X0 hx hby sg27_7_1 (pc' := 8) (L' := #[sr o0, sr o1, .unset]) (S' := [(.ref o1)]) rfl ?_
 refine Home.st (instY X0 hx hZ hown (own_w12 hw) e0 (Ins.self E_o1) rfl rfl (hb hby d27_8)) fun T1 X1 e1 => ?_
 refine Home.go (fun _ => XS.ifNo X1.here hx rfl (hb hby d27_11) rfl ((if0 _ _).trans (feq (by decide)).1)) ?_
 refine Home.run X1 hx hby sg27_14_1 (pc' := 15) (L' := #[sr o0, sr o1, .unset]) (S' := [(.ref o1)]) rfl ?_
 refine Home.st (castY X1 hx hZ hown (own_w12 hw) e1 (Ins.self E_o1) rfl rfl (hb hby d27_15)) fun T2 X2 e2 => ?_
 refine Home.run X2 hx hby sg27_18_1 (pc' := 19) (L' := #[sr o0, sr o1, sr o1]) (S' := []) rfl ?_
 refine Home.st (getS2 X2 hx hZ hown (host := "") (Or.inl (own_w7 hw)) Via.refl e2 (S_COMPACT_STRINGS.ext O0.2) rfl (hb hby d27_19)) fun T3 X3 e3 => ?_
 refine Home.go (fun _ => XS.ifNo X3.here hx rfl (hb hby d27_22) rfl ((if0 _ _).trans (feq hCS).1)) ?_
 refine Home.run X3 hx hby sg27_25_1 (pc' := 26) (L' := #[sr o0, sr o1, sr o1]) (S' := [(.ref o0)]) rfl ?_
 refine Home.st (getF X3 hx hZ hown (host := "") (Or.inl (own_w27 hw)) Via.refl e3 F_coder_o0 rfl rfl (hb hby d27_26)) fun T4 X4 e4 => ?_
 refine Home.run X4 hx hby sg27_29_1 (pc' := 30) (L' := #[sr o0, sr o1, sr o1]) (S' := [(.ref o1), (.int (0 : Int32))]) rfl ?_
 refine Home.st (getF X4 hx hZ hown (host := "") (Or.inl (own_w27 hw)) Via.refl e4 F_coder_o1 rfl rfl (hb hby d27_30)) fun T5 X5 e5 => ?_
 refine Home.go (fun _ => XS.icmpNo X5.here hx rfl (hb hby d27_33) rfl (teq (by decide)).2) ?_
 refine Home.run X5 hx hby sg27_36_1 (pc' := 37) (L' := #[sr o0, sr o1, sr o1]) (S' := [(.ref o0)]) rfl ?_
 refine Home.st (getF X5 hx hZ hown (host := "") (Or.inl (own_w25 hw)) Via.refl e5 F_value_o0 rfl rfl (hb hby d27_37)) fun T6 X6 e6 => ?_
 show Home T6 (mkF m 40 #[sr o0, sr o1, sr o1] [(.ref p3)])
 refine Home.run X6 hx hby sg27_40_1 (pc' := 41) (L' := #[sr o0, sr o1, sr o1]) (S' := [(.ref o1), (.ref p3)]) rfl ?_
 refine Home.st (getF X6 hx hZ hown (host := "") (Or.inl (own_w25 hw)) Via.refl e6 F_value_o1 rfl rfl (hb hby d27_41)) fun T7 X7 e7 => ?_
 refine Home.st (own_pure (own_static X7 hx hZ hown (own_w191 hw) (own_w192 hw) (own_w10 hw) (own_w193 hw) (by decide) (rm28_0 l Z a0 hw [] p3 p4 k_p3 u1 k_p4 u2 h0 n0 O0 V_p3 V_p4) e7 rfl (by rw [hml]; rfl) (argsL := [(.ref p3), (.ref p4)]) (rest := []) (lenOf own_pd20 rfl) rfl rfl (W := 0) (by exact hW0) (by decide) (by decide) (hb hby d27_44) (by decide) (by decide))) fun T8 X8 e8 => ?_
 show Home T8 (mkF m 47 #[sr o0, sr o1, sr o1] [(.int (f_rm28_0 u1 u2))])
 obtain ⟨r9, hr9⟩ : ∃ z, z = (f_rm28_0 u1 u2) := ⟨_, rfl⟩
 rw [← hr9]
 have br9 : ¬ r9 < (0 : Int32) ∧ ¬ (1 : Int32) < r9 := by rw [hr9]; exact f_rm28_0_bnd u1 u2
 suffices J13 : ∀ {T : State} (X : Stand p l e ({ frames := 1, cells := 0, slots := 0, locals := 14 } : Room) s m #[(.ref o0), (.ref o1)] below meth c T [] 0 0) (eT : T.heap = h0) (v14 : Int32) (hv14 : v14 = (if r9 = (0 : Int32) then (0 : Int32) else (1 : Int32))), @Home p e below _ T (mkF m 55 #[sr o0, sr o1, sr o1] [(.int v14)]) by
  by_cases c10 : r9 = (0 : Int32)
  ·
   refine Home.go (fun _ => XS.ifYes X8.here hx rfl (pc0 := 47) (pc' := 54) rfl (hb hby d27_47) rfl ((if0 _ _).trans (teq c10).1) (by decide) (by decide)) ?_
   have bd11 : ¬ r9 < (0 : Int32) ∧ ¬ (0 : Int32) < r9 := ⟨(bnd_eql c10), (bnd_eqr c10)⟩
   refine Home.run X8 hx hby sg27_54_1 (pc' := 55) (L' := #[sr o0, sr o1, sr o1]) (S' := [(.int (0 : Int32))]) rfl ?_
   exact J13 X8 e8 _ (by simp only [if_pos c10])
  ·
   refine Home.go (fun _ => XS.ifNo X8.here hx rfl (hb hby d27_47) rfl ((if0 _ _).trans (feq c10).1)) ?_
   have bd12 : ¬ r9 < (1 : Int32) ∧ ¬ (1 : Int32) < r9 := ⟨(bnd_nel br9.1 c10 (by decide +kernel)), br9.2⟩
   refine Home.run X8 hx hby sg27_50_2 (pc' := 55) (L' := #[sr o0, sr o1, sr o1]) (S' := [(.int (1 : Int32))]) rfl ?_
   exact J13 X8 e8 _ (by simp only [if_neg c10])
 intro TJ13 XJ13 eJ13 v14 hv14
 have bv14 : ¬ v14 < (0 : Int32) ∧ ¬ (1 : Int32) < v14 := by rw [hv14]; exact (bnd_ite (bnd_mono (bnd_lit (0 : Int32)) (by decide +kernel) (by decide +kernel)) (bnd_mono (bnd_lit (1 : Int32)) (by decide +kernel) (by decide +kernel)))
 show Home TJ13 (mkF m 55 #[sr o0, sr o1, sr o1] [(.int v14)])
 exact Home.retN XJ13 hx hlk (t := .boolean) hret (by simp) (hb hby d27_55) ⟨congrArg some (congrArg Value.int (by subst hv14; subst hr9; first | rfl | (simp only [f_rm27_0, nar_bool_id bv14 (by decide +kernel) (by decide +kernel), nar_i2c, nar_i2b] <;> rfl) | (simp [f_rm27_0, nar_bool_id bv14 (by decide +kernel) (by decide +kernel)]; done))), rfl, eJ13⟩ (by decide) (by decide)
theorem f_rm27_0_bnd (u1 : Int32) (u2 : Int32) : ¬ (f_rm27_0 u1 u2) < (0 : Int32) ∧ ¬ (1 : Int32) < (f_rm27_0 u1 u2) := by unfold f_rm27_0; (repeat' split) <;> first | exact bnd_mono (bnd_lit (0 : Int32)) (by decide +kernel) (by decide +kernel) | exact bnd_mono (bnd_lit (1 : Int32)) (by decide +kernel) (by decide +kernel)
theorem rm22_3 (l : Launch) (Z : State) (a0 : Array Value) (hw : HW a0 Z) (ws : List Jvm.Cond) (o0 p2 : Addr) (u1 : Int32) (h0 : Heap) (n0 : Nat) (O0 : Old Z n0 h0) (F_cursor_o0 : Fld Z h0 o0 "java/util/ArrayList$Itr" "cursor" "I" (.int (1 : Int32))) (F_this_0_o0 : Fld Z h0 o0 "java/util/ArrayList$Itr" "this$0" "Ljava/util/ArrayList;" (.ref p2)) (F_size_p2 : Fld Z h0 p2 "java/util/ArrayList" "size" "I" (.int u1)) (bnd_u1 : ¬ u1 < (1 : Int32) ∧ ¬ (1 : Int32) < u1) :
    Con l Z (⟨"java/util/ArrayList$Itr", "hasNext", "()Z"⟩ : MethodName) jdk_49_method_2_code 1 (some .boolean) ws ({ frames := 0, cells := 0, slots := 0, locals := 0 } : Room) #[(.ref o0)] h0 (Pur (some (.int (0 : Int32))) h0) := by
 refine own_body (plainFor_of_name own_pn8) (fun m => ef_rm22_3 m o0) ?_
 intro p e s m below meth c s₁ hx hby hlk hml hret hZ hown hnm X0 e0
 have N0 := Fr.nil n0
 refine Home.run X0 hx hby sg22_0_1 (pc' := 1) (L' := #[sr o0]) (S' := [(.ref o0)]) rfl ?_
 refine Home.st (getF X0 hx hZ hown (host := "") (Or.inl (own_w152 hw)) Via.refl e0 F_cursor_o0 rfl rfl (hb hby d22_1)) fun T1 X1 e1 => ?_
 refine Home.run X1 hx hby sg22_4_1 (pc' := 5) (L' := #[sr o0]) (S' := [(.ref o0), (.int (1 : Int32))]) rfl ?_
 refine Home.st (getF X1 hx hZ hown (host := "") (Or.inl (own_w135 hw)) Via.refl e1 F_this_0_o0 rfl rfl (hb hby d22_5)) fun T2 X2 e2 => ?_
 refine Home.st (getF X2 hx hZ hown (Or.inr (own_w154 hw)) Via.refl e2 F_size_p2 rfl rfl (hb hby d22_8)) fun T3 X3 e3 => ?_
 refine Home.go (fun _ => XS.icmpYes X3.here hx rfl (pc0 := 11) (pc' := 18) rfl (hb hby d22_11) rfl (teq (bnd_fix bnd_u1).symm).1 (by decide) (by decide)) ?_
 refine Home.run X3 hx hby sg22_18_1 (pc' := 19) (L' := #[sr o0]) (S' := [(.int (0 : Int32))]) rfl ?_
 exact Home.retN X3 hx hlk (t := .boolean) hret (by simp) (hb hby d22_19) ⟨congrArg some (congrArg Value.int (by first | rfl | exact nar_i2c _ | exact nar_i2b _)), rfl, e3⟩ (by decide) (by decide)
theorem rm22_4 (l : Launch) (Z : State) (a0 : Array Value) (hw : HW a0 Z) (ws : List Jvm.Cond) (o0 p2 : Addr) (u1 : Int32) (h0 : Heap) (n0 : Nat) (O0 : Old Z n0 h0) (F_cursor_o0 : Fld Z h0 o0 "java/util/ArrayList$Itr" "cursor" "I" (.int (1 : Int32))) (F_this_0_o0 : Fld Z h0 o0 "java/util/ArrayList$Itr" "this$0" "Ljava/util/ArrayList;" (.ref p2)) (F_size_p2 : Fld Z h0 p2 "java/util/ArrayList" "size" "I" (.int u1)) (bnd_u1 : ¬ u1 < (2 : Int32) ∧ ¬ (3 : Int32) < u1) :
    Con l Z (⟨"java/util/ArrayList$Itr", "hasNext", "()Z"⟩ : MethodName) jdk_49_method_2_code 1 (some .boolean) ws ({ frames := 0, cells := 0, slots := 0, locals := 0 } : Room) #[(.ref o0)] h0 (Pur (some (.int (1 : Int32))) h0) := by
 refine own_body (plainFor_of_name own_pn8) (fun m => ef_rm22_4 m o0) ?_
 intro p e s m below meth c s₁ hx hby hlk hml hret hZ hown hnm X0 e0
 have N0 := Fr.nil n0
 refine Home.run X0 hx hby sg22_0_1 (pc' := 1) (L' := #[sr o0]) (S' := [(.ref o0)]) rfl ?_
 refine Home.st (getF X0 hx hZ hown (host := "") (Or.inl (own_w152 hw)) Via.refl e0 F_cursor_o0 rfl rfl (hb hby d22_1)) fun T1 X1 e1 => ?_
 refine Home.run X1 hx hby sg22_4_1 (pc' := 5) (L' := #[sr o0]) (S' := [(.ref o0), (.int (1 : Int32))]) rfl ?_
 refine Home.st (getF X1 hx hZ hown (host := "") (Or.inl (own_w135 hw)) Via.refl e1 F_this_0_o0 rfl rfl (hb hby d22_5)) fun T2 X2 e2 => ?_
 refine Home.st (getF X2 hx hZ hown (Or.inr (own_w154 hw)) Via.refl e2 F_size_p2 rfl rfl (hb hby d22_8)) fun T3 X3 e3 => ?_
 refine Home.go (fun _ => XS.icmpNo X3.here hx rfl (hb hby d22_11) rfl (feq (bnd_ne (bnd_lit (1 : Int32)) bnd_u1 (by decide +kernel))).1) ?_
 refine Home.run X3 hx hby sg22_14_2 (pc' := 19) (L' := #[sr o0]) (S' := [(.int (1 : Int32))]) rfl ?_
 exact Home.retN X3 hx hlk (t := .boolean) hret (by simp) (hb hby d22_19) ⟨congrArg some (congrArg Value.int (by first | rfl | exact nar_i2c _ | exact nar_i2b _)), rfl, e3⟩ (by decide) (by decide)
theorem rm24_2 (l : Launch) (Z : State) (a0 : Array Value) (hw : HW a0 Z) (ws : List Jvm.Cond) (o0 p2 : Addr) (u1 : Int32) (p3 : Addr) (k_p3 : ClassId) (p4 p5 p6 : Addr) (h0 : Heap) (n0 : Nat) (O0 : Old Z n0 h0) (E_o0 : Exa Z h0 o0 "java/util/ArrayList$Itr") (F_this_0_o0 : Fld Z h0 o0 "java/util/ArrayList$Itr" "this$0" "Ljava/util/ArrayList;" (.ref p2)) (F_modCount_p2 : Fld Z h0 p2 "java/util/AbstractList" "modCount" "I" (.int u1)) (F_expectedModCount_o0 : Fld Z h0 o0 "java/util/ArrayList$Itr" "expectedModCount" "I" (.int u1)) (F_cursor_o0 : Fld Z h0 o0 "java/util/ArrayList$Itr" "cursor" "I" (.int (1 : Int32))) (F_size_p2 : Fld Z h0 p2 "java/util/ArrayList" "size" "I" (.int u1)) (bnd_u1 : ¬ u1 < (2 : Int32) ∧ ¬ (3 : Int32) < u1) (F_elementData_p2 : Fld Z h0 p2 "java/util/ArrayList" "elementData" "[Ljava/lang/Object;" (.ref p3)) (V_p3 : Arv Z h0 p3 k_p3 (.object "java/lang/Object") (10 : Int32) [(.ref p4), (.ref p5), (own_el2 u1 p6), .null, .null, .null, .null, .null, .null, .null] .null) (g_o0 : n0 ≤ o0) (F_lastRet_o0 : Fld Z h0 o0 "java/util/ArrayList$Itr" "lastRet" "I" (.int (0 : Int32))) :
    Con l Z (⟨"java/util/ArrayList$Itr", "next", "()Ljava/lang/Object;"⟩ : MethodName) jdk_49_method_3_code 3 (some (.object "java/lang/Object")) ws ({ frames := 1, cells := 0, slots := 0, locals := 12 } : Room) #[(.ref o0)] h0 (fun v h L => v = some (.ref p5) ∧ Fr n0 L ∧ Keep h0 h [o0] ∧ Exa Z h o0 "java/util/ArrayList$Itr" ∧ Fld Z h o0 "java/util/ArrayList$Itr" "this$0" "Ljava/util/ArrayList;" (.ref p2) ∧ Fld Z h o0 "java/util/ArrayList$Itr" "expectedModCount" "I" (.int u1) ∧ Fld Z h o0 "java/util/ArrayList$Itr" "cursor" "I" (.int (2 : Int32)) ∧ Fld Z h o0 "java/util/ArrayList$Itr" "lastRet" "I" (.int (1 : Int32))) := by
 refine own_body (plainFor_of_name own_pn8) (fun m => ef_rm24_2 m o0) ?_
 intro p e s m below meth c s₁ hx hby hlk hml hret hZ hown hnm X0 e0
 have N0 := Fr.nil n0
 refine Home.run X0 hx hby sg24_0_1 (pc' := 1) (L' := #[sr o0, .unset, .unset]) (S' := [(.ref o0)]) rfl ?_
 refine Home.st (own_pure (own_virtual X0 hx hZ hown (own_w172 hw) (own_w173 hw) (notFace_of_selects (args := #[]) (mvT hZ (own_w175 hw))) (own_w175 hw) (own_w174 hw) (own_w130 hw) (own_w176 hw) (by decide) (rm25_1 l Z a0 hw [] o0 p2 u1 h0 n0 O0 F_this_0_o0 F_modCount_p2 F_expectedModCount_o0) e0 E_o0 rfl (by rw [hml]; rfl) (argsL := []) (rest := []) (lenOf own_pd4 rfl) rfl rfl (W := 0) (by exact hW0) (by decide) (by decide) (hb hby d24_1) (by decide) (by decide))) fun T1 X1 e1 => ?_
 refine Home.run X1 hx hby sg24_4_1 (pc' := 5) (L' := #[sr o0, .unset, .unset]) (S' := [(.ref o0)]) rfl ?_
 refine Home.st (getF X1 hx hZ hown (host := "") (Or.inl (own_w152 hw)) Via.refl e1 F_cursor_o0 rfl rfl (hb hby d24_5)) fun T2 X2 e2 => ?_
 refine Home.run X2 hx hby sg24_8_3 (pc' := 11) (L' := #[sr o0, .val (.int (1 : Int32)), .unset]) (S' := [(.ref o0), (.int (1 : Int32))]) rfl ?_
 refine Home.st (getF X2 hx hZ hown (host := "") (Or.inl (own_w135 hw)) Via.refl e2 F_this_0_o0 rfl rfl (hb hby d24_11)) fun T3 X3 e3 => ?_
 refine Home.st (getF X3 hx hZ hown (Or.inr (own_w154 hw)) Via.refl e3 F_size_p2 rfl rfl (hb hby d24_14)) fun T4 X4 e4 => ?_
 refine Home.go (fun _ => XS.icmpYes X4.here hx rfl (pc0 := 17) (pc' := 28) rfl (hb hby d24_17) rfl (tlt (bnd_lt (bnd_lit (1 : Int32)) bnd_u1 (by decide +kernel))).1 (by decide) (by decide)) ?_
 refine Home.run X4 hx hby sg24_28_1 (pc' := 29) (L' := #[sr o0, .val (.int (1 : Int32)), .unset]) (S' := [(.ref o0)]) rfl ?_
 refine Home.st (getF X4 hx hZ hown (host := "") (Or.inl (own_w135 hw)) Via.refl e4 F_this_0_o0 rfl rfl (hb hby d24_29)) fun T5 X5 e5 => ?_
 refine Home.st (getF X5 hx hZ hown (host := "") (Or.inl (own_w177 hw)) Via.refl e5 F_elementData_p2 rfl rfl (hb hby d24_32)) fun T6 X6 e6 => ?_
 refine Home.run X6 hx hby sg24_35_3 (pc' := 38) (L' := #[sr o0, .val (.int (1 : Int32)), sr p3]) (S' := [(.ref p3), (.int (1 : Int32))]) rfl ?_
 obtain ⟨cl7, Ar7, q7, S7, M7, H7, G7⟩ := id V_p3
 refine Home.go (own_alen X6 hx hZ e6 Ar7 S7 M7 rfl rfl (hb hby d24_38)) ?_
 show Home T6 (mkF m 39 #[sr o0, .val (.int (1 : Int32)), sr p3] [(.int (10 : Int32)), (.int (1 : Int32))])
 refine Home.go (fun _ => XS.icmpYes X6.here hx rfl (pc0 := 39) (pc' := 50) rfl (hb hby d24_39) rfl (tlt (by decide)).1 (by decide) (by decide)) ?_
 refine Home.run X6 hx hby sg24_50_4 (pc' := 54) (L' := #[sr o0, .val (.int (1 : Int32)), sr p3]) (S' := [(.int (2 : Int32)), (.ref o0)]) rfl ?_
 refine Home.wr (putF X6 hx hZ hown (host := "") (Or.inl (own_w152 hw)) Via.refl e6 F_cursor_o0 E_o0 (Or.inl (own_w153 hw)) (own_w129 hw) (ty := .int) (by decide) rfl rfl rfl rfl (hb hby d24_54)) fun T8 h8 X8 e8 W8 => ?_
 have Fw8 := F_cursor_o0.same W8
 have O8 := O0.wr W8 g_o0
 have K8 : Keep h0 h8 ([o0] : List Addr) := Keep.wr (Keep.refl h0 ([o0] : List Addr)) W8 (Or.inl (List.mem_of_getElem? (i := 0) rfl))
 have N8 := Fr.snoc X8 N0 g_o0
 refine Home.run X8 hx hby sg24_57_4 (pc' := 61) (L' := #[sr o0, .val (.int (1 : Int32)), sr p3]) (S' := [(.int (1 : Int32)), (.ref o0), (.int (1 : Int32)), (.ref p3)]) rfl ?_
 have q9 := (F_lastRet_o0.other W8 (Or.inr (slot_ne (Or.inl (own_w139 hw)) (Or.inl (own_w153 hw)) (by decide) (t := .int) (t' := .int) (by decide) (by decide))))
 refine Home.wr (putF X8 hx hZ hown (host := "") (Or.inl (own_w138 hw)) Via.refl e8 q9 (E_o0.keep K8) (Or.inl (own_w139 hw)) (own_w129 hw) (ty := .int) (by decide) rfl rfl rfl rfl (hb hby d24_61)) fun T10 h10 X10 e10 W10 => ?_
 have Fw10 := q9.same W10
 have O10 := O8.wr W10 g_o0
 have K10 : Keep h0 h10 ([o0] : List Addr) := Keep.wr K8 W10 (Or.inl (List.mem_of_getElem? (i := 0) rfl))
 have N10 := Fr.snoc X10 N8 g_o0
 show Home T10 (mkF m 64 #[sr o0, .val (.int (1 : Int32)), sr p3] [(.int (1 : Int32)), (.ref p3)])
 have ne11 : p3 ≠ o0 := (Ne.symm (own_neAV E_o0 (own_w129 hw) V_p3))
 have q12 := (V_p3.keep K10 (ninS ne11 nin0))
 obtain ⟨cl13, Ar13, q13, S13, M13, H13, G13⟩ := id q12
 have ib13 : ¬ ((1 : Int32) < 0 ∨ cl13.slots.size ≤ ((1 : Int32)).toNatClampNeg) := inb_of S13 ⟨by decide, by decide⟩
 refine Home.go (X10.aaload hx (j := (1 : Int32)) (v := (.ref p5)) (by rw [e10]; exact Ar13.1) (State.isArrayOf_alike hZ.alike Ar13.2.1) rfl Ar13.2.2 ib13 (Has.at H13 ib13 rfl) rfl rfl (hb hby d24_64)) ?_
 have q14 := ((F_this_0_o0.other W8 (Or.inr (slot_ne (Or.inr (own_w136 hw)) (Or.inl (own_w153 hw)) (by decide) (t := (.object "java/util/ArrayList")) (t' := .int) (by decide) (by decide)))).other W10 (Or.inr (slot_ne (Or.inr (own_w136 hw)) (Or.inl (own_w139 hw)) (by decide) (t := (.object "java/util/ArrayList")) (t' := .int) (by decide) (by decide))))
 have q15 := ((F_expectedModCount_o0.other W8 (Or.inr (slot_ne (Or.inl (own_w142 hw)) (Or.inl (own_w153 hw)) (by decide) (t := .int) (t' := .int) (by decide) (by decide)))).other W10 (Or.inr (slot_ne (Or.inl (own_w142 hw)) (Or.inl (own_w139 hw)) (by decide) (t := .int) (t' := .int) (by decide) (by decide))))
 have q16 := (Fw8.other W10 (Or.inr (slot_ne (Or.inl (own_w153 hw)) (Or.inl (own_w139 hw)) (by decide) (t := .int) (t' := .int) (by decide) (by decide))))
 exact Home.retR X10 hx hlk hret rfl rfl (hb hby d24_65) (by rw [show T10.heap = h10 from e10]; exact ⟨rfl, N10, K10, (E_o0.keep K10), q14, q15, q16, Fw10⟩) (by decide) (by decide)
theorem rm22_5 (l : Launch) (Z : State) (a0 : Array Value) (hw : HW a0 Z) (ws : List Jvm.Cond) (o0 p2 : Addr) (u1 : Int32) (h0 : Heap) (n0 : Nat) (O0 : Old Z n0 h0) (F_cursor_o0 : Fld Z h0 o0 "java/util/ArrayList$Itr" "cursor" "I" (.int (2 : Int32))) (F_this_0_o0 : Fld Z h0 o0 "java/util/ArrayList$Itr" "this$0" "Ljava/util/ArrayList;" (.ref p2)) (F_size_p2 : Fld Z h0 p2 "java/util/ArrayList" "size" "I" (.int u1)) (bnd_u1 : ¬ u1 < (2 : Int32) ∧ ¬ (2 : Int32) < u1) :
    Con l Z (⟨"java/util/ArrayList$Itr", "hasNext", "()Z"⟩ : MethodName) jdk_49_method_2_code 1 (some .boolean) ws ({ frames := 0, cells := 0, slots := 0, locals := 0 } : Room) #[(.ref o0)] h0 (Pur (some (.int (0 : Int32))) h0) := by
 refine own_body (plainFor_of_name own_pn8) (fun m => ef_rm22_5 m o0) ?_
 intro p e s m below meth c s₁ hx hby hlk hml hret hZ hown hnm X0 e0
 have N0 := Fr.nil n0
 refine Home.run X0 hx hby sg22_0_1 (pc' := 1) (L' := #[sr o0]) (S' := [(.ref o0)]) rfl ?_
 refine Home.st (getF X0 hx hZ hown (host := "") (Or.inl (own_w152 hw)) Via.refl e0 F_cursor_o0 rfl rfl (hb hby d22_1)) fun T1 X1 e1 => ?_
 refine Home.run X1 hx hby sg22_4_1 (pc' := 5) (L' := #[sr o0]) (S' := [(.ref o0), (.int (2 : Int32))]) rfl ?_
 refine Home.st (getF X1 hx hZ hown (host := "") (Or.inl (own_w135 hw)) Via.refl e1 F_this_0_o0 rfl rfl (hb hby d22_5)) fun T2 X2 e2 => ?_
 refine Home.st (getF X2 hx hZ hown (Or.inr (own_w154 hw)) Via.refl e2 F_size_p2 rfl rfl (hb hby d22_8)) fun T3 X3 e3 => ?_
 refine Home.go (fun _ => XS.icmpYes X3.here hx rfl (pc0 := 11) (pc' := 18) rfl (hb hby d22_11) rfl (teq (bnd_fix bnd_u1).symm).1 (by decide) (by decide)) ?_
 refine Home.run X3 hx hby sg22_18_1 (pc' := 19) (L' := #[sr o0]) (S' := [(.int (0 : Int32))]) rfl ?_
 exact Home.retN X3 hx hlk (t := .boolean) hret (by simp) (hb hby d22_19) ⟨congrArg some (congrArg Value.int (by first | rfl | exact nar_i2c _ | exact nar_i2b _)), rfl, e3⟩ (by decide) (by decide)
theorem rm22_6 (l : Launch) (Z : State) (a0 : Array Value) (hw : HW a0 Z) (ws : List Jvm.Cond) (o0 p2 : Addr) (u1 : Int32) (h0 : Heap) (n0 : Nat) (O0 : Old Z n0 h0) (F_cursor_o0 : Fld Z h0 o0 "java/util/ArrayList$Itr" "cursor" "I" (.int (2 : Int32))) (F_this_0_o0 : Fld Z h0 o0 "java/util/ArrayList$Itr" "this$0" "Ljava/util/ArrayList;" (.ref p2)) (F_size_p2 : Fld Z h0 p2 "java/util/ArrayList" "size" "I" (.int u1)) (bnd_u1 : ¬ u1 < (3 : Int32) ∧ ¬ (3 : Int32) < u1) :
    Con l Z (⟨"java/util/ArrayList$Itr", "hasNext", "()Z"⟩ : MethodName) jdk_49_method_2_code 1 (some .boolean) ws ({ frames := 0, cells := 0, slots := 0, locals := 0 } : Room) #[(.ref o0)] h0 (Pur (some (.int (1 : Int32))) h0) := by
 refine own_body (plainFor_of_name own_pn8) (fun m => ef_rm22_6 m o0) ?_
 intro p e s m below meth c s₁ hx hby hlk hml hret hZ hown hnm X0 e0
 have N0 := Fr.nil n0
 refine Home.run X0 hx hby sg22_0_1 (pc' := 1) (L' := #[sr o0]) (S' := [(.ref o0)]) rfl ?_
 refine Home.st (getF X0 hx hZ hown (host := "") (Or.inl (own_w152 hw)) Via.refl e0 F_cursor_o0 rfl rfl (hb hby d22_1)) fun T1 X1 e1 => ?_
 refine Home.run X1 hx hby sg22_4_1 (pc' := 5) (L' := #[sr o0]) (S' := [(.ref o0), (.int (2 : Int32))]) rfl ?_
 refine Home.st (getF X1 hx hZ hown (host := "") (Or.inl (own_w135 hw)) Via.refl e1 F_this_0_o0 rfl rfl (hb hby d22_5)) fun T2 X2 e2 => ?_
 refine Home.st (getF X2 hx hZ hown (Or.inr (own_w154 hw)) Via.refl e2 F_size_p2 rfl rfl (hb hby d22_8)) fun T3 X3 e3 => ?_
 refine Home.go (fun _ => XS.icmpNo X3.here hx rfl (hb hby d22_11) rfl (feq (bnd_ne (bnd_lit (2 : Int32)) bnd_u1 (by decide +kernel))).1) ?_
 refine Home.run X3 hx hby sg22_14_2 (pc' := 19) (L' := #[sr o0]) (S' := [(.int (1 : Int32))]) rfl ?_
 exact Home.retN X3 hx hlk (t := .boolean) hret (by simp) (hb hby d22_19) ⟨congrArg some (congrArg Value.int (by first | rfl | exact nar_i2c _ | exact nar_i2b _)), rfl, e3⟩ (by decide) (by decide)
theorem rm24_3 (l : Launch) (Z : State) (a0 : Array Value) (hw : HW a0 Z) (ws : List Jvm.Cond) (o0 p2 : Addr) (u1 : Int32) (p3 : Addr) (k_p3 : ClassId) (p4 p5 p6 : Addr) (h0 : Heap) (n0 : Nat) (O0 : Old Z n0 h0) (E_o0 : Exa Z h0 o0 "java/util/ArrayList$Itr") (F_this_0_o0 : Fld Z h0 o0 "java/util/ArrayList$Itr" "this$0" "Ljava/util/ArrayList;" (.ref p2)) (F_modCount_p2 : Fld Z h0 p2 "java/util/AbstractList" "modCount" "I" (.int u1)) (F_expectedModCount_o0 : Fld Z h0 o0 "java/util/ArrayList$Itr" "expectedModCount" "I" (.int u1)) (F_cursor_o0 : Fld Z h0 o0 "java/util/ArrayList$Itr" "cursor" "I" (.int (2 : Int32))) (F_size_p2 : Fld Z h0 p2 "java/util/ArrayList" "size" "I" (.int u1)) (bnd_u1 : ¬ u1 < (3 : Int32) ∧ ¬ (3 : Int32) < u1) (F_elementData_p2 : Fld Z h0 p2 "java/util/ArrayList" "elementData" "[Ljava/lang/Object;" (.ref p3)) (V_p3 : Arv Z h0 p3 k_p3 (.object "java/lang/Object") (10 : Int32) [(.ref p4), (.ref p5), (.ref p6), .null, .null, .null, .null, .null, .null, .null] .null) (g_o0 : n0 ≤ o0) (F_lastRet_o0 : Fld Z h0 o0 "java/util/ArrayList$Itr" "lastRet" "I" (.int (1 : Int32))) :
    Con l Z (⟨"java/util/ArrayList$Itr", "next", "()Ljava/lang/Object;"⟩ : MethodName) jdk_49_method_3_code 3 (some (.object "java/lang/Object")) ws ({ frames := 1, cells := 0, slots := 0, locals := 12 } : Room) #[(.ref o0)] h0 (fun v h L => v = some (.ref p6) ∧ Fr n0 L ∧ Keep h0 h [o0] ∧ Exa Z h o0 "java/util/ArrayList$Itr" ∧ Fld Z h o0 "java/util/ArrayList$Itr" "this$0" "Ljava/util/ArrayList;" (.ref p2) ∧ Fld Z h o0 "java/util/ArrayList$Itr" "expectedModCount" "I" (.int u1) ∧ Fld Z h o0 "java/util/ArrayList$Itr" "cursor" "I" (.int (3 : Int32)) ∧ Fld Z h o0 "java/util/ArrayList$Itr" "lastRet" "I" (.int (2 : Int32))) := by
 refine own_body (plainFor_of_name own_pn8) (fun m => ef_rm24_3 m o0) ?_
 intro p e s m below meth c s₁ hx hby hlk hml hret hZ hown hnm X0 e0
 have N0 := Fr.nil n0
 refine Home.run X0 hx hby sg24_0_1 (pc' := 1) (L' := #[sr o0, .unset, .unset]) (S' := [(.ref o0)]) rfl ?_
 refine Home.st (own_pure (own_virtual X0 hx hZ hown (own_w172 hw) (own_w173 hw) (notFace_of_selects (args := #[]) (mvT hZ (own_w175 hw))) (own_w175 hw) (own_w174 hw) (own_w130 hw) (own_w176 hw) (by decide) (rm25_1 l Z a0 hw [] o0 p2 u1 h0 n0 O0 F_this_0_o0 F_modCount_p2 F_expectedModCount_o0) e0 E_o0 rfl (by rw [hml]; rfl) (argsL := []) (rest := []) (lenOf own_pd4 rfl) rfl rfl (W := 0) (by exact hW0) (by decide) (by decide) (hb hby d24_1) (by decide) (by decide))) fun T1 X1 e1 => ?_
 refine Home.run X1 hx hby sg24_4_1 (pc' := 5) (L' := #[sr o0, .unset, .unset]) (S' := [(.ref o0)]) rfl ?_
 refine Home.st (getF X1 hx hZ hown (host := "") (Or.inl (own_w152 hw)) Via.refl e1 F_cursor_o0 rfl rfl (hb hby d24_5)) fun T2 X2 e2 => ?_
 refine Home.run X2 hx hby sg24_8_3 (pc' := 11) (L' := #[sr o0, .val (.int (2 : Int32)), .unset]) (S' := [(.ref o0), (.int (2 : Int32))]) rfl ?_
 refine Home.st (getF X2 hx hZ hown (host := "") (Or.inl (own_w135 hw)) Via.refl e2 F_this_0_o0 rfl rfl (hb hby d24_11)) fun T3 X3 e3 => ?_
 refine Home.st (getF X3 hx hZ hown (Or.inr (own_w154 hw)) Via.refl e3 F_size_p2 rfl rfl (hb hby d24_14)) fun T4 X4 e4 => ?_
 refine Home.go (fun _ => XS.icmpYes X4.here hx rfl (pc0 := 17) (pc' := 28) rfl (hb hby d24_17) rfl (tlt (bnd_lt (bnd_lit (2 : Int32)) bnd_u1 (by decide +kernel))).1 (by decide) (by decide)) ?_
 refine Home.run X4 hx hby sg24_28_1 (pc' := 29) (L' := #[sr o0, .val (.int (2 : Int32)), .unset]) (S' := [(.ref o0)]) rfl ?_
 refine Home.st (getF X4 hx hZ hown (host := "") (Or.inl (own_w135 hw)) Via.refl e4 F_this_0_o0 rfl rfl (hb hby d24_29)) fun T5 X5 e5 => ?_
 refine Home.st (getF X5 hx hZ hown (host := "") (Or.inl (own_w177 hw)) Via.refl e5 F_elementData_p2 rfl rfl (hb hby d24_32)) fun T6 X6 e6 => ?_
 refine Home.run X6 hx hby sg24_35_3 (pc' := 38) (L' := #[sr o0, .val (.int (2 : Int32)), sr p3]) (S' := [(.ref p3), (.int (2 : Int32))]) rfl ?_
 obtain ⟨cl7, Ar7, q7, S7, M7, H7, G7⟩ := id V_p3
 refine Home.go (own_alen X6 hx hZ e6 Ar7 S7 M7 rfl rfl (hb hby d24_38)) ?_
 show Home T6 (mkF m 39 #[sr o0, .val (.int (2 : Int32)), sr p3] [(.int (10 : Int32)), (.int (2 : Int32))])
 refine Home.go (fun _ => XS.icmpYes X6.here hx rfl (pc0 := 39) (pc' := 50) rfl (hb hby d24_39) rfl (tlt (by decide)).1 (by decide) (by decide)) ?_
 refine Home.run X6 hx hby sg24_50_4 (pc' := 54) (L' := #[sr o0, .val (.int (2 : Int32)), sr p3]) (S' := [(.int (3 : Int32)), (.ref o0)]) rfl ?_
 refine Home.wr (putF X6 hx hZ hown (host := "") (Or.inl (own_w152 hw)) Via.refl e6 F_cursor_o0 E_o0 (Or.inl (own_w153 hw)) (own_w129 hw) (ty := .int) (by decide) rfl rfl rfl rfl (hb hby d24_54)) fun T8 h8 X8 e8 W8 => ?_
 have Fw8 := F_cursor_o0.same W8
 have O8 := O0.wr W8 g_o0
 have K8 : Keep h0 h8 ([o0] : List Addr) := Keep.wr (Keep.refl h0 ([o0] : List Addr)) W8 (Or.inl (List.mem_of_getElem? (i := 0) rfl))
 have N8 := Fr.snoc X8 N0 g_o0
 refine Home.run X8 hx hby sg24_57_4 (pc' := 61) (L' := #[sr o0, .val (.int (2 : Int32)), sr p3]) (S' := [(.int (2 : Int32)), (.ref o0), (.int (2 : Int32)), (.ref p3)]) rfl ?_
 have q9 := (F_lastRet_o0.other W8 (Or.inr (slot_ne (Or.inl (own_w139 hw)) (Or.inl (own_w153 hw)) (by decide) (t := .int) (t' := .int) (by decide) (by decide))))
 refine Home.wr (putF X8 hx hZ hown (host := "") (Or.inl (own_w138 hw)) Via.refl e8 q9 (E_o0.keep K8) (Or.inl (own_w139 hw)) (own_w129 hw) (ty := .int) (by decide) rfl rfl rfl rfl (hb hby d24_61)) fun T10 h10 X10 e10 W10 => ?_
 have Fw10 := q9.same W10
 have O10 := O8.wr W10 g_o0
 have K10 : Keep h0 h10 ([o0] : List Addr) := Keep.wr K8 W10 (Or.inl (List.mem_of_getElem? (i := 0) rfl))
 have N10 := Fr.snoc X10 N8 g_o0
 show Home T10 (mkF m 64 #[sr o0, .val (.int (2 : Int32)), sr p3] [(.int (2 : Int32)), (.ref p3)])
 have ne11 : p3 ≠ o0 := (Ne.symm (own_neAV E_o0 (own_w129 hw) V_p3))
 have q12 := (V_p3.keep K10 (ninS ne11 nin0))
 obtain ⟨cl13, Ar13, q13, S13, M13, H13, G13⟩ := id q12
 have ib13 : ¬ ((2 : Int32) < 0 ∨ cl13.slots.size ≤ ((2 : Int32)).toNatClampNeg) := inb_of S13 ⟨by decide, by decide⟩
 refine Home.go (X10.aaload hx (j := (2 : Int32)) (v := (.ref p6)) (by rw [e10]; exact Ar13.1) (State.isArrayOf_alike hZ.alike Ar13.2.1) rfl Ar13.2.2 ib13 (Has.at H13 ib13 rfl) rfl rfl (hb hby d24_64)) ?_
 have q14 := ((F_this_0_o0.other W8 (Or.inr (slot_ne (Or.inr (own_w136 hw)) (Or.inl (own_w153 hw)) (by decide) (t := (.object "java/util/ArrayList")) (t' := .int) (by decide) (by decide)))).other W10 (Or.inr (slot_ne (Or.inr (own_w136 hw)) (Or.inl (own_w139 hw)) (by decide) (t := (.object "java/util/ArrayList")) (t' := .int) (by decide) (by decide))))
 have q15 := ((F_expectedModCount_o0.other W8 (Or.inr (slot_ne (Or.inl (own_w142 hw)) (Or.inl (own_w153 hw)) (by decide) (t := .int) (t' := .int) (by decide) (by decide)))).other W10 (Or.inr (slot_ne (Or.inl (own_w142 hw)) (Or.inl (own_w139 hw)) (by decide) (t := .int) (t' := .int) (by decide) (by decide))))
 have q16 := (Fw8.other W10 (Or.inr (slot_ne (Or.inl (own_w153 hw)) (Or.inl (own_w139 hw)) (by decide) (t := .int) (t' := .int) (by decide) (by decide))))
 exact Home.retR X10 hx hlk hret rfl rfl (hb hby d24_65) (by rw [show T10.heap = h10 from e10]; exact ⟨rfl, N10, K10, (E_o0.keep K10), q14, q15, q16, Fw10⟩) (by decide) (by decide)
theorem rm22_7 (l : Launch) (Z : State) (a0 : Array Value) (hw : HW a0 Z) (ws : List Jvm.Cond) (o0 p2 : Addr) (u1 : Int32) (h0 : Heap) (n0 : Nat) (O0 : Old Z n0 h0) (F_cursor_o0 : Fld Z h0 o0 "java/util/ArrayList$Itr" "cursor" "I" (.int (3 : Int32))) (F_this_0_o0 : Fld Z h0 o0 "java/util/ArrayList$Itr" "this$0" "Ljava/util/ArrayList;" (.ref p2)) (F_size_p2 : Fld Z h0 p2 "java/util/ArrayList" "size" "I" (.int u1)) (bnd_u1 : ¬ u1 < (3 : Int32) ∧ ¬ (3 : Int32) < u1) :
    Con l Z (⟨"java/util/ArrayList$Itr", "hasNext", "()Z"⟩ : MethodName) jdk_49_method_2_code 1 (some .boolean) ws ({ frames := 0, cells := 0, slots := 0, locals := 0 } : Room) #[(.ref o0)] h0 (Pur (some (.int (0 : Int32))) h0) := by
 refine own_body (plainFor_of_name own_pn8) (fun m => ef_rm22_7 m o0) ?_
 intro p e s m below meth c s₁ hx hby hlk hml hret hZ hown hnm X0 e0
 have N0 := Fr.nil n0
 refine Home.run X0 hx hby sg22_0_1 (pc' := 1) (L' := #[sr o0]) (S' := [(.ref o0)]) rfl ?_
 refine Home.st (getF X0 hx hZ hown (host := "") (Or.inl (own_w152 hw)) Via.refl e0 F_cursor_o0 rfl rfl (hb hby d22_1)) fun T1 X1 e1 => ?_
 refine Home.run X1 hx hby sg22_4_1 (pc' := 5) (L' := #[sr o0]) (S' := [(.ref o0), (.int (3 : Int32))]) rfl ?_
 refine Home.st (getF X1 hx hZ hown (host := "") (Or.inl (own_w135 hw)) Via.refl e1 F_this_0_o0 rfl rfl (hb hby d22_5)) fun T2 X2 e2 => ?_
 refine Home.st (getF X2 hx hZ hown (Or.inr (own_w154 hw)) Via.refl e2 F_size_p2 rfl rfl (hb hby d22_8)) fun T3 X3 e3 => ?_
 refine Home.go (fun _ => XS.icmpYes X3.here hx rfl (pc0 := 11) (pc' := 18) rfl (hb hby d22_11) rfl (teq (bnd_fix bnd_u1).symm).1 (by decide) (by decide)) ?_
 refine Home.run X3 hx hby sg22_18_1 (pc' := 19) (L' := #[sr o0]) (S' := [(.int (0 : Int32))]) rfl ?_
 exact Home.retN X3 hx hlk (t := .boolean) hret (by simp) (hb hby d22_19) ⟨congrArg some (congrArg Value.int (by first | rfl | exact nar_i2c _ | exact nar_i2b _)), rfl, e3⟩ (by decide) (by decide)
theorem rm24_4 (l : Launch) (Z : State) (a0 : Array Value) (hw : HW a0 Z) (ws : List Jvm.Cond) (o0 p2 p3 : Addr) (k_p3 : ClassId) (p4 p5 p6 : Addr) (h0 : Heap) (n0 : Nat) (O0 : Old Z n0 h0) (E_o0 : Exa Z h0 o0 "java/util/ArrayList$Itr") (F_this_0_o0 : Fld Z h0 o0 "java/util/ArrayList$Itr" "this$0" "Ljava/util/ArrayList;" (.ref p2)) (F_modCount_p2 : Fld Z h0 p2 "java/util/AbstractList" "modCount" "I" (.int (3 : Int32))) (F_expectedModCount_o0 : Fld Z h0 o0 "java/util/ArrayList$Itr" "expectedModCount" "I" (.int (3 : Int32))) (F_cursor_o0 : Fld Z h0 o0 "java/util/ArrayList$Itr" "cursor" "I" (.int (1 : Int32))) (F_size_p2 : Fld Z h0 p2 "java/util/ArrayList" "size" "I" (.int (3 : Int32))) (F_elementData_p2 : Fld Z h0 p2 "java/util/ArrayList" "elementData" "[Ljava/lang/Object;" (.ref p3)) (V_p3 : Arv Z h0 p3 k_p3 (.object "java/lang/Object") (10 : Int32) [(.ref p4), (.ref p5), (.ref p6), .null, .null, .null, .null, .null, .null, .null] .null) (g_o0 : n0 ≤ o0) (F_lastRet_o0 : Fld Z h0 o0 "java/util/ArrayList$Itr" "lastRet" "I" (.int (0 : Int32))) :
    Con l Z (⟨"java/util/ArrayList$Itr", "next", "()Ljava/lang/Object;"⟩ : MethodName) jdk_49_method_3_code 3 (some (.object "java/lang/Object")) ws ({ frames := 1, cells := 0, slots := 0, locals := 12 } : Room) #[(.ref o0)] h0 (fun v h L => v = some (.ref p5) ∧ Fr n0 L ∧ Keep h0 h [o0] ∧ Exa Z h o0 "java/util/ArrayList$Itr" ∧ Fld Z h o0 "java/util/ArrayList$Itr" "this$0" "Ljava/util/ArrayList;" (.ref p2) ∧ Fld Z h o0 "java/util/ArrayList$Itr" "expectedModCount" "I" (.int (3 : Int32)) ∧ Fld Z h o0 "java/util/ArrayList$Itr" "cursor" "I" (.int (2 : Int32)) ∧ Fld Z h o0 "java/util/ArrayList$Itr" "lastRet" "I" (.int (1 : Int32))) := by
 refine own_body (plainFor_of_name own_pn8) (fun m => ef_rm24_4 m o0) ?_
 intro p e s m below meth c s₁ hx hby hlk hml hret hZ hown hnm X0 e0
 have N0 := Fr.nil n0
 refine Home.run X0 hx hby sg24_0_1 (pc' := 1) (L' := #[sr o0, .unset, .unset]) (S' := [(.ref o0)]) rfl ?_
 refine Home.st (own_pure (own_virtual X0 hx hZ hown (own_w172 hw) (own_w173 hw) (notFace_of_selects (args := #[]) (mvT hZ (own_w175 hw))) (own_w175 hw) (own_w174 hw) (own_w130 hw) (own_w176 hw) (by decide) (rm25_0 l Z a0 hw [] o0 p2 h0 n0 O0 F_this_0_o0 F_modCount_p2 F_expectedModCount_o0) e0 E_o0 rfl (by rw [hml]; rfl) (argsL := []) (rest := []) (lenOf own_pd4 rfl) rfl rfl (W := 0) (by exact hW0) (by decide) (by decide) (hb hby d24_1) (by decide) (by decide))) fun T1 X1 e1 => ?_
 refine Home.run X1 hx hby sg24_4_1 (pc' := 5) (L' := #[sr o0, .unset, .unset]) (S' := [(.ref o0)]) rfl ?_
 refine Home.st (getF X1 hx hZ hown (host := "") (Or.inl (own_w152 hw)) Via.refl e1 F_cursor_o0 rfl rfl (hb hby d24_5)) fun T2 X2 e2 => ?_
 refine Home.run X2 hx hby sg24_8_3 (pc' := 11) (L' := #[sr o0, .val (.int (1 : Int32)), .unset]) (S' := [(.ref o0), (.int (1 : Int32))]) rfl ?_
 refine Home.st (getF X2 hx hZ hown (host := "") (Or.inl (own_w135 hw)) Via.refl e2 F_this_0_o0 rfl rfl (hb hby d24_11)) fun T3 X3 e3 => ?_
 refine Home.st (getF X3 hx hZ hown (Or.inr (own_w154 hw)) Via.refl e3 F_size_p2 rfl rfl (hb hby d24_14)) fun T4 X4 e4 => ?_
 refine Home.go (fun _ => XS.icmpYes X4.here hx rfl (pc0 := 17) (pc' := 28) rfl (hb hby d24_17) rfl (tlt (by decide)).1 (by decide) (by decide)) ?_
 refine Home.run X4 hx hby sg24_28_1 (pc' := 29) (L' := #[sr o0, .val (.int (1 : Int32)), .unset]) (S' := [(.ref o0)]) rfl ?_
 refine Home.st (getF X4 hx hZ hown (host := "") (Or.inl (own_w135 hw)) Via.refl e4 F_this_0_o0 rfl rfl (hb hby d24_29)) fun T5 X5 e5 => ?_
 refine Home.st (getF X5 hx hZ hown (host := "") (Or.inl (own_w177 hw)) Via.refl e5 F_elementData_p2 rfl rfl (hb hby d24_32)) fun T6 X6 e6 => ?_
 refine Home.run X6 hx hby sg24_35_3 (pc' := 38) (L' := #[sr o0, .val (.int (1 : Int32)), sr p3]) (S' := [(.ref p3), (.int (1 : Int32))]) rfl ?_
 obtain ⟨cl7, Ar7, q7, S7, M7, H7, G7⟩ := id V_p3
 refine Home.go (own_alen X6 hx hZ e6 Ar7 S7 M7 rfl rfl (hb hby d24_38)) ?_
 show Home T6 (mkF m 39 #[sr o0, .val (.int (1 : Int32)), sr p3] [(.int (10 : Int32)), (.int (1 : Int32))])
 refine Home.go (fun _ => XS.icmpYes X6.here hx rfl (pc0 := 39) (pc' := 50) rfl (hb hby d24_39) rfl (tlt (by decide)).1 (by decide) (by decide)) ?_
 refine Home.run X6 hx hby sg24_50_4 (pc' := 54) (L' := #[sr o0, .val (.int (1 : Int32)), sr p3]) (S' := [(.int (2 : Int32)), (.ref o0)]) rfl ?_
 refine Home.wr (putF X6 hx hZ hown (host := "") (Or.inl (own_w152 hw)) Via.refl e6 F_cursor_o0 E_o0 (Or.inl (own_w153 hw)) (own_w129 hw) (ty := .int) (by decide) rfl rfl rfl rfl (hb hby d24_54)) fun T8 h8 X8 e8 W8 => ?_
 have Fw8 := F_cursor_o0.same W8
 have O8 := O0.wr W8 g_o0
 have K8 : Keep h0 h8 ([o0] : List Addr) := Keep.wr (Keep.refl h0 ([o0] : List Addr)) W8 (Or.inl (List.mem_of_getElem? (i := 0) rfl))
 have N8 := Fr.snoc X8 N0 g_o0
 refine Home.run X8 hx hby sg24_57_4 (pc' := 61) (L' := #[sr o0, .val (.int (1 : Int32)), sr p3]) (S' := [(.int (1 : Int32)), (.ref o0), (.int (1 : Int32)), (.ref p3)]) rfl ?_
 have q9 := (F_lastRet_o0.other W8 (Or.inr (slot_ne (Or.inl (own_w139 hw)) (Or.inl (own_w153 hw)) (by decide) (t := .int) (t' := .int) (by decide) (by decide))))
 refine Home.wr (putF X8 hx hZ hown (host := "") (Or.inl (own_w138 hw)) Via.refl e8 q9 (E_o0.keep K8) (Or.inl (own_w139 hw)) (own_w129 hw) (ty := .int) (by decide) rfl rfl rfl rfl (hb hby d24_61)) fun T10 h10 X10 e10 W10 => ?_
 have Fw10 := q9.same W10
 have O10 := O8.wr W10 g_o0
 have K10 : Keep h0 h10 ([o0] : List Addr) := Keep.wr K8 W10 (Or.inl (List.mem_of_getElem? (i := 0) rfl))
 have N10 := Fr.snoc X10 N8 g_o0
 show Home T10 (mkF m 64 #[sr o0, .val (.int (1 : Int32)), sr p3] [(.int (1 : Int32)), (.ref p3)])
 have ne11 : p3 ≠ o0 := (Ne.symm (own_neAV E_o0 (own_w129 hw) V_p3))
 have q12 := (V_p3.keep K10 (ninS ne11 nin0))
 obtain ⟨cl13, Ar13, q13, S13, M13, H13, G13⟩ := id q12
 have ib13 : ¬ ((1 : Int32) < 0 ∨ cl13.slots.size ≤ ((1 : Int32)).toNatClampNeg) := inb_of S13 ⟨by decide, by decide⟩
 refine Home.go (X10.aaload hx (j := (1 : Int32)) (v := (.ref p5)) (by rw [e10]; exact Ar13.1) (State.isArrayOf_alike hZ.alike Ar13.2.1) rfl Ar13.2.2 ib13 (Has.at H13 ib13 rfl) rfl rfl (hb hby d24_64)) ?_
 have q14 := ((F_this_0_o0.other W8 (Or.inr (slot_ne (Or.inr (own_w136 hw)) (Or.inl (own_w153 hw)) (by decide) (t := (.object "java/util/ArrayList")) (t' := .int) (by decide) (by decide)))).other W10 (Or.inr (slot_ne (Or.inr (own_w136 hw)) (Or.inl (own_w139 hw)) (by decide) (t := (.object "java/util/ArrayList")) (t' := .int) (by decide) (by decide))))
 have q15 := ((F_expectedModCount_o0.other W8 (Or.inr (slot_ne (Or.inl (own_w142 hw)) (Or.inl (own_w153 hw)) (by decide) (t := .int) (t' := .int) (by decide) (by decide)))).other W10 (Or.inr (slot_ne (Or.inl (own_w142 hw)) (Or.inl (own_w139 hw)) (by decide) (t := .int) (t' := .int) (by decide) (by decide))))
 have q16 := (Fw8.other W10 (Or.inr (slot_ne (Or.inl (own_w153 hw)) (Or.inl (own_w139 hw)) (by decide) (t := .int) (t' := .int) (by decide) (by decide))))
 exact Home.retR X10 hx hlk hret rfl rfl (hb hby d24_65) (by rw [show T10.heap = h10 from e10]; exact ⟨rfl, N10, K10, (E_o0.keep K10), q14, q15, q16, Fw10⟩) (by decide) (by decide)
theorem rm19_1 (l : Launch) (Z : State) (a0 : Array Value) (hw : HW a0 Z) (ws : List Jvm.Cond) (o0 o1 sv_DEFAULTCAPACITY_EMPTY_ELEMENTDATA p4 : Addr) (k_p4 : ClassId) (p8 p9 p10 : Addr) (u1 : Int32) (p3 : Addr) (k_p3 : ClassId) (p5 p6 p7 p11 : Addr) (sv_COMPACT_STRINGS : Int32) (p17 p14 : Addr) (k_p17 : ClassId) (u5 : Int32) (k_p14 : ClassId) (u2 : Int32) (p12 p18 : Addr) (k_p18 : ClassId) (u6 : Int32) (p13 p19 : Addr) (k_p19 : ClassId) (u7 : Int32) (kde : ClassId) (p15 : Addr) (k_p15 : ClassId) (u3 : Int32) (p16 : Addr) (k_p16 : ClassId) (u4 : Int32) (h0 : Heap) (n0 : Nat) (O0 : Old Z n0 h0) (S_DEFAULTCAPACITY_EMPTY_ELEMENTDATA : Sta Z Z.heap "java/util/ArrayList" "DEFAULTCAPACITY_EMPTY_ELEMENTDATA" "[Ljava/lang/Object;" (.ref sv_DEFAULTCAPACITY_EMPTY_ELEMENTDATA)) (E_o1 : Exa Z h0 o1 "java/util/ArrayList") (F_modCount_o1 : Fld Z h0 o1 "java/util/AbstractList" "modCount" "I" (.int (3 : Int32))) (F_size_o1 : Fld Z h0 o1 "java/util/ArrayList" "size" "I" (.int (3 : Int32))) (F_elementData_o1 : Fld Z h0 o1 "java/util/ArrayList" "elementData" "[Ljava/lang/Object;" (.ref p4)) (V_p4 : Arv Z h0 p4 k_p4 (.object "java/lang/Object") (10 : Int32) [(.ref p8), (.ref p9), (.ref p10), .null, .null, .null, .null, .null, .null, .null] .null) (E_p8 : Exa Z h0 p8 "java/lang/String") (E_o0 : Exa Z h0 o0 "java/util/ArrayList") (F_modCount_o0 : Fld Z h0 o0 "java/util/AbstractList" "modCount" "I" (.int u1)) (F_size_o0 : Fld Z h0 o0 "java/util/ArrayList" "size" "I" (.int u1)) (bnd_u1 : ¬ u1 < (1 : Int32) ∧ ¬ (3 : Int32) < u1) (F_elementData_o0 : Fld Z h0 o0 "java/util/ArrayList" "elementData" "[Ljava/lang/Object;" (.ref p3)) (V_p3 : Arv Z h0 p3 k_p3 (.object "java/lang/Object") (10 : Int32) [(.ref p5), (own_el1 u1 p6), (own_el2 u1 p7), .null, .null, .null, .null, .null, .null, .null] .null) (E_p5 : Exa Z h0 p5 "com/example/wary_meter/warymeter/Column") (F_name_p5 : Fld Z h0 p5 "com/example/wary_meter/warymeter/Column" "name" "Ljava/lang/String;" (.ref p11)) (E_p11 : Exa Z h0 p11 "java/lang/String") (S_COMPACT_STRINGS : Sta Z Z.heap "java/lang/String" "COMPACT_STRINGS" "Z" (.int sv_COMPACT_STRINGS)) (F_coder_p11 : Fld Z h0 p11 "java/lang/String" "coder" "B" (.int (0 : Int32))) (F_coder_p8 : Fld Z h0 p8 "java/lang/String" "coder" "B" (.int (0 : Int32))) (F_value_p11 : Fld Z h0 p11 "java/lang/String" "value" "[B" (.ref p17)) (F_value_p8 : Fld Z h0 p8 "java/lang/String" "value" "[B" (.ref p14)) (V_p17 : Arv Z h0 p17 k_p17 .byte (1 : Int32) [(.int u5)] (.int (0 : Int32))) (V_p14 : Arv Z h0 p14 k_p14 .byte (1 : Int32) [(.int u2)] (.int (0 : Int32))) (ne_p11_p8 : p11 ≠ p8) (hCS : ¬ (sv_COMPACT_STRINGS = (0 : Int32))) (E_p6 : Exa Z h0 p6 "com/example/wary_meter/warymeter/Column") (F_name_p6 : Fld Z h0 p6 "com/example/wary_meter/warymeter/Column" "name" "Ljava/lang/String;" (.ref p12)) (E_p12 : Exa Z h0 p12 "java/lang/String") (F_coder_p12 : Fld Z h0 p12 "java/lang/String" "coder" "B" (.int (0 : Int32))) (F_value_p12 : Fld Z h0 p12 "java/lang/String" "value" "[B" (.ref p18)) (V_p18 : Arv Z h0 p18 k_p18 .byte (1 : Int32) [(.int u6)] (.int (0 : Int32))) (ne_p12_p8 : p12 ≠ p8) (E_p7 : Exa Z h0 p7 "com/example/wary_meter/warymeter/Column") (F_name_p7 : Fld Z h0 p7 "com/example/wary_meter/warymeter/Column" "name" "Ljava/lang/String;" (.ref p13)) (E_p13 : Exa Z h0 p13 "java/lang/String") (F_coder_p13 : Fld Z h0 p13 "java/lang/String" "coder" "B" (.int (0 : Int32))) (F_value_p13 : Fld Z h0 p13 "java/lang/String" "value" "[B" (.ref p19)) (V_p19 : Arv Z h0 p19 k_p19 .byte (1 : Int32) [(.int u7)] (.int (0 : Int32))) (ne_p13_p8 : p13 ≠ p8) (nn68 : ¬ (((if (1 : Int32) = u1 then (if (f_rm27_0 u5 u2) = (0 : Int32) then .null else (.ref p5)) else (if (2 : Int32) = u1 then (if (f_rm27_0 u6 u2) = (0 : Int32) then (if (f_rm27_0 u5 u2) = (0 : Int32) then .null else (.ref p5)) else (.ref p6)) else (if (f_rm27_0 u7 u2) = (0 : Int32) then (if (f_rm27_0 u6 u2) = (0 : Int32) then (if (f_rm27_0 u5 u2) = (0 : Int32) then .null else (.ref p5)) else (.ref p6)) else (.ref p7)))) : Value) = .null)) (V_de : Arv Z Z.heap sv_DEFAULTCAPACITY_EMPTY_ELEMENTDATA kde (.object "java/lang/Object") (0 : Int32) [] .null) (E_p9 : Exa Z h0 p9 "java/lang/String") (F_coder_p9 : Fld Z h0 p9 "java/lang/String" "coder" "B" (.int (0 : Int32))) (F_value_p9 : Fld Z h0 p9 "java/lang/String" "value" "[B" (.ref p15)) (V_p15 : Arv Z h0 p15 k_p15 .byte (1 : Int32) [(.int u3)] (.int (0 : Int32))) (ne_p11_p9 : p11 ≠ p9) (ne_p12_p9 : p12 ≠ p9) (ne_p13_p9 : p13 ≠ p9) (nn156 : ¬ (((if (1 : Int32) = u1 then (if (f_rm27_0 u5 u3) = (0 : Int32) then .null else (.ref p5)) else (if (2 : Int32) = u1 then (if (f_rm27_0 u6 u3) = (0 : Int32) then (if (f_rm27_0 u5 u3) = (0 : Int32) then .null else (.ref p5)) else (.ref p6)) else (if (f_rm27_0 u7 u3) = (0 : Int32) then (if (f_rm27_0 u6 u3) = (0 : Int32) then (if (f_rm27_0 u5 u3) = (0 : Int32) then .null else (.ref p5)) else (.ref p6)) else (.ref p7)))) : Value) = .null)) (E_p10 : Exa Z h0 p10 "java/lang/String") (F_coder_p10 : Fld Z h0 p10 "java/lang/String" "coder" "B" (.int (0 : Int32))) (F_value_p10 : Fld Z h0 p10 "java/lang/String" "value" "[B" (.ref p16)) (V_p16 : Arv Z h0 p16 k_p16 .byte (1 : Int32) [(.int u4)] (.int (0 : Int32))) (ne_p11_p10 : p11 ≠ p10) (ne_p12_p10 : p12 ≠ p10) (ne_p13_p10 : p13 ≠ p10) (nn256 : ¬ (((if (1 : Int32) = u1 then (if (f_rm27_0 u5 u4) = (0 : Int32) then .null else (.ref p5)) else (if (2 : Int32) = u1 then (if (f_rm27_0 u6 u4) = (0 : Int32) then (if (f_rm27_0 u5 u4) = (0 : Int32) then .null else (.ref p5)) else (.ref p6)) else (if (f_rm27_0 u7 u4) = (0 : Int32) then (if (f_rm27_0 u6 u4) = (0 : Int32) then (if (f_rm27_0 u5 u4) = (0 : Int32) then .null else (.ref p5)) else (.ref p6)) else (.ref p7)))) : Value) = .null)) :
    Con l Z (⟨"com/example/wary_meter/warymeter/Column", "pick", "(Ljava/util/List;Ljava/util/List;)Ljava/util/List;"⟩ : MethodName) prog_3_method_5_code 8 (some (.object "java/util/List")) ws ({ frames := 5, cells := 6, slots := 29, locals := 69 } : Room) #[(.ref o0), (.ref o1)] h0 (fun v h L => ∃ (b1 : Addr), ∃ (b6_2_2_7_77 : Addr), ∃ (a68 : Jvm.Addr), ∃ (a156 : Jvm.Addr), ∃ (a256 : Jvm.Addr), ∃ (k6_2_2_7_77 : ClassId), v = some (.ref b1) ∧ Fr n0 L ∧ h0.size ≤ b1 ∧ h0.size ≤ b6_2_2_7_77 ∧ Keep h0 h [] ∧ Exa Z h b1 "java/util/ArrayList" ∧ Fld Z h b1 "java/util/AbstractList" "modCount" "I" (.int (3 : Int32)) ∧ Fld Z h b1 "java/util/ArrayList" "elementData" "[Ljava/lang/Object;" (.ref b6_2_2_7_77) ∧ Fld Z h b1 "java/util/ArrayList" "size" "I" (.int (3 : Int32)) ∧ Arv Z h b6_2_2_7_77 k6_2_2_7_77 (.object "java/lang/Object") (10 : Int32) [(.ref a68), (.ref a156), (.ref a256), .null, .null, .null, .null, .null, .null, .null] .null ∧ Ovr Z k6_2_2_7_77 "java/lang/Object" ∧ (((if (1 : Int32) = u1 then (if (f_rm27_0 u5 u2) = (0 : Int32) then .null else (.ref p5)) else (if (2 : Int32) = u1 then (if (f_rm27_0 u6 u2) = (0 : Int32) then (if (f_rm27_0 u5 u2) = (0 : Int32) then .null else (.ref p5)) else (.ref p6)) else (if (f_rm27_0 u7 u2) = (0 : Int32) then (if (f_rm27_0 u6 u2) = (0 : Int32) then (if (f_rm27_0 u5 u2) = (0 : Int32) then .null else (.ref p5)) else (.ref p6)) else (.ref p7)))) : Value) = .ref a68) ∧ (((if (1 : Int32) = u1 then (if (f_rm27_0 u5 u3) = (0 : Int32) then .null else (.ref p5)) else (if (2 : Int32) = u1 then (if (f_rm27_0 u6 u3) = (0 : Int32) then (if (f_rm27_0 u5 u3) = (0 : Int32) then .null else (.ref p5)) else (.ref p6)) else (if (f_rm27_0 u7 u3) = (0 : Int32) then (if (f_rm27_0 u6 u3) = (0 : Int32) then (if (f_rm27_0 u5 u3) = (0 : Int32) then .null else (.ref p5)) else (.ref p6)) else (.ref p7)))) : Value) = .ref a156) ∧ (((if (1 : Int32) = u1 then (if (f_rm27_0 u5 u4) = (0 : Int32) then .null else (.ref p5)) else (if (2 : Int32) = u1 then (if (f_rm27_0 u6 u4) = (0 : Int32) then (if (f_rm27_0 u5 u4) = (0 : Int32) then .null else (.ref p5)) else (.ref p6)) else (if (f_rm27_0 u7 u4) = (0 : Int32) then (if (f_rm27_0 u6 u4) = (0 : Int32) then (if (f_rm27_0 u5 u4) = (0 : Int32) then .null else (.ref p5)) else (.ref p6)) else (.ref p7)))) : Value) = .ref a256)) := by
 refine own_body (plainFor_of_name own_pn3) (fun m => ef_rm19_1 m o0 o1) ?_
 intro p e s m below meth c s₁ hx hby hlk hml hret hZ hown hnm X0 e0
 have N0 := Fr.nil n0
 refine Home.nw (own_newO X0 hx hZ hown (own_w118 hw) (own_w50 hw) (own_w51 hw) e0 rfl (hb hby d19_0) (by decide) (by decide)) fun T1 h1 b1 g1 X1 e1 E1 A1 D1 => ?_
 have g_b1 : n0 ≤ b1 := Nat.le_trans (Old.le O0) (Nat.le_of_eq g1.symm)
 have F_modCount_b1 : Fld Z h1 b1 "java/util/AbstractList" "modCount" "I" (.int (0 : Int32)) := D1 (Or.inl (own_w69 hw)) (ty := .int) (by decide)
 have F_elementData_b1 : Fld Z h1 b1 "java/util/ArrayList" "elementData" "[Ljava/lang/Object;" .null := D1 (Or.inl (own_w72 hw)) (ty := (.array (.object "java/lang/Object"))) (by decide)
 have F_size_b1 : Fld Z h1 b1 "java/util/ArrayList" "size" "I" (.int (0 : Int32)) := D1 (Or.inl (own_w85 hw)) (ty := .int) (by decide)
 have O1 := O0.ext E1
 have K1 : Keep h0 h1 ([] : List Addr) := Keep.ext (Keep.refl h0 ([] : List Addr)) E1
 refine Home.run X1 hx hby sg19_3_1 (pc' := 4) (L' := #[sr o0, sr o1, .unset, .unset, .unset, .unset, .unset, .unset]) (S' := [(.ref b1), (.ref b1)]) rfl ?_
 refine Home.call (own_special X1 hx hZ hown rfl (own_w119 hw) (own_w53 hw) (own_w51 hw) (own_w54 hw) (by decide) (rm9_0 l Z a0 hw [] b1 sv_DEFAULTCAPACITY_EMPTY_ELEMENTDATA h1 n0 O1 A1 F_modCount_b1 F_elementData_b1 F_size_b1 g_b1 S_DEFAULTCAPACITY_EMPTY_ELEMENTDATA) e1 rfl (by rw [hml]; rfl) (a := b1) (argsL := []) (rest := [(.ref b1)]) (lenOf own_pd4 rfl) rfl rfl (W := 1) (by exact hW0) (by decide) (by decide) (hb hby d19_4) (by decide) (by decide)) ?_
 rintro _ T2 L2 X2 ⟨rfl, N2q, K2q, P2_0, P2_1, P2_2, P2_3⟩
 have O2 := Old.keep O1 K2q (allS g_b1 all0)
 have K2 : Keep h0 T2.heap ([] : List Addr) := Keep.trans K1 K2q (allS (Or.inr (Nat.le_trans (Nat.le_refl _) (Nat.le_of_eq g1.symm))) all0)
 have N2 := Fr.app N0 N2q
 refine Home.run X2 hx hby sg19_7_2 (pc' := 9) (L' := #[sr o0, sr o1, sr b1, .unset, .unset, .unset, .unset, .unset]) (S' := [(.ref o1)]) rfl ?_
 refine Home.call (own_face X2 hx hZ hown (own_w120 hw) (own_w121 hw) (mvT hZ (own_w122 hw)) (own_w123 hw) (own_w124 hw) (own_w125 hw) (own_w126 hw) (own_w80 hw) (own_w51 hw) (own_w127 hw) (by decide) (rm20_1 l Z a0 hw [] o1 T2.heap n0 O2 (F_modCount_o1.keep K2 nin0) (E_o1.keep K2)) rfl (E_o1.keep K2) rfl (by rw [hml]; rfl) (argsL := []) (rest := []) (lenOf own_pd10 rfl) rfl rfl (W := 0) (by exact hW0) (by decide) (by decide) (hb hby d19_9) (by decide) (by decide)) ?_
 rintro _ T3 L3 X3 ⟨b1_3, rfl, N3q, sz_b1_3, K3q, P3_0, P3_1, P3_2, P3_3, P3_4⟩
 have g_b1_3 : n0 ≤ b1_3 := Nat.le_trans (Old.le O2) sz_b1_3
 have O3 := Old.keep O2 K3q all0
 have K3 : Keep h0 T3.heap ([] : List Addr) := Keep.trans K2 K3q all0
 have N3 := Fr.app N2 N3q
 show Home T3 (mkF m 14 #[sr o0, sr o1, sr b1, .unset, .unset, .unset, .unset, .unset] [(.ref b1_3)])
 refine Home.run X3 hx hby sg19_14_2 (pc' := 16) (L' := #[sr o0, sr o1, sr b1, sr b1_3, .unset, .unset, .unset, .unset]) (S' := [(.ref b1_3)]) rfl ?_
 refine Home.st (own_pure (own_face X3 hx hZ hown (own_w143 hw) (own_w144 hw) (mvT hZ (own_w145 hw)) (own_w146 hw) (own_w147 hw) (own_w148 hw) (own_w149 hw) (own_w150 hw) (own_w130 hw) (own_w151 hw) (by decide) (rm22_1 l Z a0 hw [] b1_3 o1 T3.heap n0 O3 P3_4 P3_1 (F_size_o1.keep K3 nin0)) rfl P3_0 rfl (by rw [hml]; rfl) (argsL := []) (rest := []) (lenOf own_pd11 rfl) rfl rfl (W := 0) (by exact hW0) (by decide) (by decide) (hb hby d19_16) (by decide) (by decide))) fun T4 X4 e4 => ?_
 refine Home.go (fun _ => XS.ifNo X4.here hx rfl (hb hby d19_21) rfl ((if0 _ _).trans (feq (by decide)).1)) ?_
 refine Home.run X4 hx hby sg19_24_1 (pc' := 25) (L' := #[sr o0, sr o1, sr b1, sr b1_3, .unset, .unset, .unset, .unset]) (S' := [(.ref b1_3)]) rfl ?_
 refine Home.call (own_face X4 hx hZ hown (own_w164 hw) (own_w165 hw) (mvT hZ (own_w166 hw)) (own_w167 hw) (own_w168 hw) (own_w169 hw) (own_w170 hw) (own_w150 hw) (own_w130 hw) (own_w171 hw) (by decide) (rm24_0 l Z a0 hw [] b1_3 o1 p4 k_p4 p8 p9 p10 T3.heap n0 O3 P3_0 P3_1 (F_modCount_o1.keep K3 nin0) P3_3 P3_4 (F_size_o1.keep K3 nin0) (F_elementData_o1.keep K3 nin0) (V_p4.keep K3 nin0) g_b1_3 P3_2) e4 P3_0 rfl (by rw [hml]; rfl) (argsL := []) (rest := []) (lenOf own_pd18 rfl) rfl rfl (W := 0) (by exact hW0) (by decide) (by decide) (hb hby d19_25) (by decide) (by decide)) ?_
 rintro _ T5 L5 X5 ⟨rfl, N5q, K5q, P5_0, P5_1, P5_2, P5_3, P5_4⟩
 have le6 : h0.size ≤ T2.heap.size := Nat.le_trans E1.1 K2q.1
 have O5 := Old.keep O3 K5q (allS g_b1_3 all0)
 have K5 : Keep h0 T5.heap ([] : List Addr) := Keep.trans K3 K5q (allS (Or.inr (Nat.le_trans le6 sz_b1_3)) all0)
 have N5 := Fr.app N3 N5q
 refine Home.st (castY X5 hx hZ hown (own_w178 hw) rfl (Ins.self (E_p8.keep K5)) rfl rfl (hb hby d19_30)) fun T7 X7 e7 => ?_
 refine Home.run X7 hx hby sg19_33_4 (pc' := 39) (L' := #[sr o0, sr o1, sr b1, sr b1_3, sr p8, .val .null, .unset, .unset]) (S' := [(.ref o0)]) rfl ?_
 refine Home.call (own_face X7 hx hZ hown (own_w120 hw) (own_w121 hw) (mvT hZ (own_w122 hw)) (own_w123 hw) (own_w124 hw) (own_w125 hw) (own_w126 hw) (own_w80 hw) (own_w51 hw) (own_w127 hw) (by decide) (rm20_2 l Z a0 hw [] o0 u1 T5.heap n0 O5 (F_modCount_o0.keep K5 nin0) (E_o0.keep K5)) e7 (E_o0.keep K5) rfl (by rw [hml]; rfl) (argsL := []) (rest := []) (lenOf own_pd10 rfl) rfl rfl (W := 0) (by exact hW0) (by decide) (by decide) (hb hby d19_39) (by decide) (by decide)) ?_
 rintro _ T8 L8 X8 ⟨b1_8, rfl, N8q, sz_b1_8, K8q, P8_0, P8_1, P8_2, P8_3, P8_4⟩
 have g_b1_8 : n0 ≤ b1_8 := Nat.le_trans (Old.le O5) sz_b1_8
 have O8 := Old.keep O5 K8q all0
 have K8 : Keep h0 T8.heap ([] : List Addr) := Keep.trans K5 K8q all0
 have N8 := Fr.app N5 N8q
 show Home T8 (mkF m 44 #[sr o0, sr o1, sr b1, sr b1_3, sr p8, .val .null, .unset, .unset] [(.ref b1_8)])
 refine Home.run X8 hx hby sg19_44_1 (pc' := 46) (L' := #[sr o0, sr o1, sr b1, sr b1_3, sr p8, .val .null, sr b1_8, .unset]) (S' := []) rfl ?_
 refine Home.cut (C := fun E => ∀ {T : State} {lc : List Loc} {hJ : Heap} (X : Stand p l e ({ frames := 5, cells := 6, slots := 29, locals := 69 } : Room) s m #[(.ref o0), (.ref o1)] below meth c T lc 3 11) (N : Fr n0 lc) (eT : T.heap = hJ) (Kq : Keep T8.heap hJ ([b1_8] : List Addr)) (v58 : Value) (hv58 : v58 = ((if (1 : Int32) = u1 then (if (f_rm27_0 u5 u2) = (0 : Int32) then .null else (.ref p5)) else (if (2 : Int32) = u1 then (if (f_rm27_0 u6 u2) = (0 : Int32) then (if (f_rm27_0 u5 u2) = (0 : Int32) then .null else (.ref p5)) else (.ref p6)) else (if (f_rm27_0 u7 u2) = (0 : Int32) then (if (f_rm27_0 u6 u2) = (0 : Int32) then (if (f_rm27_0 u5 u2) = (0 : Int32) then .null else (.ref p5)) else (.ref p6)) else (.ref p7)))) : Value)) (v59 : Slot) (hv59 : v59 = .unset ∨ ∃ w, v59 = .val w ∧ w.category = 1), @Home p e below E T (mkF m 88 #[sr o0, sr o1, sr b1, sr b1_3, sr p8, .val v58, sr b1_8, v59] [])) (fun _ J57 => ?_) ?_
 ·
  refine Home.run X8 hx hby sg19_46_1 (pc' := 48) (L' := #[sr o0, sr o1, sr b1, sr b1_3, sr p8, .val .null, sr b1_8, .unset]) (S' := [(.ref b1_8)]) rfl ?_
  refine Home.st (own_pure (own_face X8 hx hZ hown (own_w143 hw) (own_w144 hw) (mvT hZ (own_w145 hw)) (own_w146 hw) (own_w147 hw) (own_w148 hw) (own_w149 hw) (own_w150 hw) (own_w130 hw) (own_w151 hw) (by decide) (rm22_2 l Z a0 hw [] b1_8 o0 u1 T8.heap n0 O8 P8_4 P8_1 (F_size_o0.keep K8 nin0) bnd_u1) rfl P8_0 rfl (by rw [hml]; rfl) (argsL := []) (rest := []) (lenOf own_pd11 rfl) rfl rfl (W := 0) (by exact hW0) (by decide) (by decide) (hb hby d19_48) (by decide) (by decide))) fun T9 X9 e9 => ?_
  refine Home.go (fun _ => XS.ifNo X9.here hx rfl (hb hby d19_53) rfl ((if0 _ _).trans (feq (by decide)).1)) ?_
  refine Home.run X9 hx hby sg19_56_1 (pc' := 58) (L' := #[sr o0, sr o1, sr b1, sr b1_3, sr p8, .val .null, sr b1_8, .unset]) (S' := [(.ref b1_8)]) rfl ?_
  refine Home.call (own_face X9 hx hZ hown (own_w164 hw) (own_w165 hw) (mvT hZ (own_w166 hw)) (own_w167 hw) (own_w168 hw) (own_w169 hw) (own_w170 hw) (own_w150 hw) (own_w130 hw) (own_w171 hw) (by decide) (rm24_1 l Z a0 hw [] b1_8 o0 u1 p3 k_p3 p5 p6 p7 T8.heap n0 O8 P8_0 P8_1 (F_modCount_o0.keep K8 nin0) P8_3 P8_4 (F_size_o0.keep K8 nin0) bnd_u1 (F_elementData_o0.keep K8 nin0) (V_p3.keep K8 nin0) g_b1_8 P8_2) e9 P8_0 rfl (by rw [hml]; rfl) (argsL := []) (rest := []) (lenOf own_pd18 rfl) rfl rfl (W := 0) (by exact hW0) (by decide) (by decide) (hb hby d19_58) (by decide) (by decide)) ?_
  rintro _ T10 L10 X10 ⟨rfl, N10q, K10q, P10_0, P10_1, P10_2, P10_3, P10_4⟩
  have le11 : h0.size ≤ T3.heap.size := Nat.le_trans le6 K3q.1
  have le12 : h0.size ≤ T5.heap.size := Nat.le_trans le11 K5q.1
  have O10 := Old.keep O8 K10q (allS g_b1_8 all0)
  have K10 : Keep h0 T10.heap ([] : List Addr) := Keep.trans K8 K10q (allS (Or.inr (Nat.le_trans le12 sz_b1_8)) all0)
  have N10 := Fr.app N8 N10q
  refine Home.st (castY X10 hx hZ hown (own_w179 hw) rfl (Ins.self (E_p5.keep K10)) rfl rfl (hb hby d19_63)) fun T13 X13 e13 => ?_
  refine Home.run X13 hx hby sg19_66_2 (pc' := 70) (L' := #[sr o0, sr o1, sr b1, sr b1_3, sr p8, .val .null, sr b1_8, sr p5]) (S' := [(.ref p5)]) rfl ?_
  refine Home.st (own_pure (own_virtual X13 hx hZ hown (own_w181 hw) (own_w182 hw) (notFace_of_selects (args := #[]) (mvT hZ (own_w184 hw))) (own_w184 hw) (own_w183 hw) (own_w2 hw) (own_w185 hw) (by decide) (rm26_0 l Z a0 hw [] p5 p11 T10.heap n0 O10 (F_name_p5.keep K10 nin0)) e13 (E_p5.keep K10) rfl (by rw [hml]; rfl) (argsL := []) (rest := []) (lenOf own_pd19 rfl) rfl rfl (W := 0) (by exact hW0) (by decide) (by decide) (hb hby d19_70) (by decide) (by decide))) fun T14 X14 e14 => ?_
  show Home T14 (mkF m 73 #[sr o0, sr o1, sr b1, sr b1_3, sr p8, .val .null, sr b1_8, sr p5] [(.ref p11)])
  refine Home.run X14 hx hby sg19_73_1 (pc' := 75) (L' := #[sr o0, sr o1, sr b1, sr b1_3, sr p8, .val .null, sr b1_8, sr p5]) (S' := [(.ref p8), (.ref p11)]) rfl ?_
  refine Home.st (own_pure (own_virtual X14 hx hZ hown (own_w186 hw) (own_w187 hw) (notFace_of_selects (args := #[]) (mvT hZ (own_w189 hw))) (own_w189 hw) (own_w188 hw) (own_w5 hw) (own_w190 hw) (by decide) (rm27_0 l Z a0 hw [] p11 p8 sv_COMPACT_STRINGS p17 p14 k_p17 u5 k_p14 u2 T10.heap n0 O10 (E_p11.keep K10) (E_p8.keep K10) ne_p11_p8 S_COMPACT_STRINGS hCS (F_coder_p11.keep K10 nin0) (F_coder_p8.keep K10 nin0) (F_value_p11.keep K10 nin0) (F_value_p8.keep K10 nin0) (V_p17.keep K10 nin0) (V_p14.keep K10 nin0)) e14 (E_p11.keep K10) rfl (by rw [hml]; rfl) (argsL := [(.ref p8)]) (rest := []) (lenOf own_pd17 rfl) rfl rfl (W := 0) (by exact hW0) (by decide) (by decide) (hb hby d19_75) (by decide) (by decide))) fun T15 X15 e15 => ?_
  show Home T15 (mkF m 78 #[sr o0, sr o1, sr b1, sr b1_3, sr p8, .val .null, sr b1_8, sr p5] [(.int (f_rm27_0 u5 u2))])
  obtain ⟨r16, hr16⟩ : ∃ z, z = (f_rm27_0 u5 u2) := ⟨_, rfl⟩
  rw [← hr16]
  have br16 : ¬ r16 < (0 : Int32) ∧ ¬ (1 : Int32) < r16 := by rw [hr16]; exact f_rm27_0_bnd u5 u2
  suffices J20 : ∀ {T : State} {lc : List Loc} (X : Stand p l e ({ frames := 5, cells := 6, slots := 29, locals := 69 } : Room) s m #[(.ref o0), (.ref o1)] below meth c T lc 3 11) (N : Fr n0 lc) (eT : T.heap = T10.heap) (v21 : Value) (hv21 : v21 = (if r16 = (0 : Int32) then .null else (.ref p5))), @Home p e below _ T (mkF m 85 #[sr o0, sr o1, sr b1, sr b1_3, sr p8, .val v21, sr b1_8, sr p5] []) by
   by_cases c17 : r16 = (0 : Int32)
   ·
    refine Home.go (fun _ => XS.ifYes X15.here hx rfl (pc0 := 78) (pc' := 85) rfl (hb hby d19_78) rfl ((if0 _ _).trans (teq c17).1) (by decide) (by decide)) ?_
    have bd18 : ¬ r16 < (0 : Int32) ∧ ¬ (0 : Int32) < r16 := ⟨(bnd_eql c17), (bnd_eqr c17)⟩
    exact J20 X15 N10 e15 _ (by simp only [if_pos c17])
   ·
    refine Home.go (fun _ => XS.ifNo X15.here hx rfl (hb hby d19_78) rfl ((if0 _ _).trans (feq c17).1)) ?_
    have bd19 : ¬ r16 < (1 : Int32) ∧ ¬ (1 : Int32) < r16 := ⟨(bnd_nel br16.1 c17 (by decide +kernel)), br16.2⟩
    refine Home.run X15 hx hby sg19_81_2 (pc' := 85) (L' := #[sr o0, sr o1, sr b1, sr b1_3, sr p8, sr p5, sr b1_8, sr p5]) (S' := []) rfl ?_
    exact J20 X15 N10 e15 _ (by simp only [if_neg c17])
  intro TJ20 lcJ20 XJ20 NJ20 eJ20 v21 hv21
  have isr_v21 : v21.isRef = true := by rw [hv21]; exact (own_itR rfl rfl)
  show Home TJ20 (mkF m 85 #[sr o0, sr o1, sr b1, sr b1_3, sr p8, .val v21, sr b1_8, sr p5] [])
  refine Home.run XJ20 hx hby sg19_85_1 (pc' := 46) (L' := #[sr o0, sr o1, sr b1, sr b1_3, sr p8, .val v21, sr b1_8, sr p5]) (S' := []) rfl ?_
  refine Home.run XJ20 hx hby sg19_46_1 (pc' := 48) (L' := #[sr o0, sr o1, sr b1, sr b1_3, sr p8, .val v21, sr b1_8, sr p5]) (S' := [(.ref b1_8)]) rfl ?_
  by_cases c22 : (1 : Int32) = u1
  ·
   have bd23 : ¬ u1 < (1 : Int32) ∧ ¬ (1 : Int32) < u1 := ⟨(bnd_eql (c22.symm)), (bnd_eqr (c22.symm))⟩
   refine Home.st (own_pure (own_face XJ20 hx hZ hown (own_w143 hw) (own_w144 hw) (mvT hZ (own_w145 hw)) (own_w146 hw) (own_w147 hw) (own_w148 hw) (own_w149 hw) (own_w150 hw) (own_w130 hw) (own_w151 hw) (by decide) (rm22_3 l Z a0 hw [] b1_8 o0 u1 T10.heap n0 O10 P10_3 P10_1 (F_size_o0.keep K10 nin0) bd23) eJ20 P10_0 rfl (by rw [hml]; rfl) (argsL := []) (rest := []) (lenOf own_pd11 rfl) rfl rfl (W := 0) (by exact hW0) (by decide) (by decide) (hb hby d19_48) (by decide) (by decide))) fun T25 X25 e25 => ?_
   refine Home.go (fun _ => XS.ifYes X25.here hx rfl (pc0 := 53) (pc' := 88) rfl (hb hby d19_53) rfl ((if0 _ _).trans (teq (by decide)).1) (by decide) (by decide)) ?_
   exact J57 X25 NJ20 e25 K10q v21 (by subst hv21; subst hr16; simp only [if_pos c22]) (.val (.ref p5)) (Or.inr ⟨_, rfl, rfl⟩)
  ·
   have bd24 : ¬ u1 < (2 : Int32) ∧ ¬ (3 : Int32) < u1 := ⟨(bnd_nel bnd_u1.1 (Ne.symm c22) (by decide +kernel)), bnd_u1.2⟩
   refine Home.st (own_pure (own_face XJ20 hx hZ hown (own_w143 hw) (own_w144 hw) (mvT hZ (own_w145 hw)) (own_w146 hw) (own_w147 hw) (own_w148 hw) (own_w149 hw) (own_w150 hw) (own_w130 hw) (own_w151 hw) (by decide) (rm22_4 l Z a0 hw [] b1_8 o0 u1 T10.heap n0 O10 P10_3 P10_1 (F_size_o0.keep K10 nin0) bd24) eJ20 P10_0 rfl (by rw [hml]; rfl) (argsL := []) (rest := []) (lenOf own_pd11 rfl) rfl rfl (W := 0) (by exact hW0) (by decide) (by decide) (hb hby d19_48) (by decide) (by decide))) fun T26 X26 e26 => ?_
   refine Home.go (fun _ => XS.ifNo X26.here hx rfl (hb hby d19_53) rfl ((if0 _ _).trans (feq (by decide)).1)) ?_
   have V27 : Arv Z T10.heap p3 k_p3 (.object "java/lang/Object") (10 : Int32) [(.ref p5), (.ref p6), (own_el2 u1 p7), .null, .null, .null, .null, .null, .null, .null] .null := by have q := (V_p3.keep K10 nin0); rw [own_el1_is (k := p6) (Ne.symm c22)] at q; exact q
   refine Home.run X26 hx hby sg19_56_1 (pc' := 58) (L' := #[sr o0, sr o1, sr b1, sr b1_3, sr p8, .val v21, sr b1_8, sr p5]) (S' := [(.ref b1_8)]) rfl ?_
   refine Home.call (own_face X26 hx hZ hown (own_w164 hw) (own_w165 hw) (mvT hZ (own_w166 hw)) (own_w167 hw) (own_w168 hw) (own_w169 hw) (own_w170 hw) (own_w150 hw) (own_w130 hw) (own_w171 hw) (by decide) (rm24_2 l Z a0 hw [] b1_8 o0 u1 p3 k_p3 p5 p6 p7 T10.heap n0 O10 P10_0 P10_1 (F_modCount_o0.keep K10 nin0) P10_2 P10_3 (F_size_o0.keep K10 nin0) bd24 (F_elementData_o0.keep K10 nin0) V27 g_b1_8 P10_4) e26 P10_0 rfl (by rw [hml]; rfl) (argsL := []) (rest := []) (lenOf own_pd18 rfl) rfl rfl (W := 0) (by exact hW0) (by decide) (by decide) (hb hby d19_58) (by decide) (by decide)) ?_
   rintro _ T28 L28 X28 ⟨rfl, N28q, K28q, P28_0, P28_1, P28_2, P28_3, P28_4⟩
   have O28 := Old.keep O10 K28q (allS g_b1_8 all0)
   have K28 : Keep h0 T28.heap ([] : List Addr) := Keep.trans K10 K28q (allS (Or.inr (Nat.le_trans le12 sz_b1_8)) all0)
   have N28 := Fr.app NJ20 N28q
   refine Home.st (castY X28 hx hZ hown (own_w179 hw) rfl (Ins.self (E_p6.keep K28)) rfl rfl (hb hby d19_63)) fun T29 X29 e29 => ?_
   refine Home.run X29 hx hby sg19_66_2 (pc' := 70) (L' := #[sr o0, sr o1, sr b1, sr b1_3, sr p8, .val v21, sr b1_8, sr p6]) (S' := [(.ref p6)]) rfl ?_
   refine Home.st (own_pure (own_virtual X29 hx hZ hown (own_w181 hw) (own_w182 hw) (notFace_of_selects (args := #[]) (mvT hZ (own_w184 hw))) (own_w184 hw) (own_w183 hw) (own_w2 hw) (own_w185 hw) (by decide) (rm26_0 l Z a0 hw [] p6 p12 T28.heap n0 O28 (F_name_p6.keep K28 nin0)) e29 (E_p6.keep K28) rfl (by rw [hml]; rfl) (argsL := []) (rest := []) (lenOf own_pd19 rfl) rfl rfl (W := 0) (by exact hW0) (by decide) (by decide) (hb hby d19_70) (by decide) (by decide))) fun T30 X30 e30 => ?_
   refine Home.run X30 hx hby sg19_73_1 (pc' := 75) (L' := #[sr o0, sr o1, sr b1, sr b1_3, sr p8, .val v21, sr b1_8, sr p6]) (S' := [(.ref p8), (.ref p12)]) rfl ?_
   refine Home.st (own_pure (own_virtual X30 hx hZ hown (own_w186 hw) (own_w187 hw) (notFace_of_selects (args := #[]) (mvT hZ (own_w189 hw))) (own_w189 hw) (own_w188 hw) (own_w5 hw) (own_w190 hw) (by decide) (rm27_0 l Z a0 hw [] p12 p8 sv_COMPACT_STRINGS p18 p14 k_p18 u6 k_p14 u2 T28.heap n0 O28 (E_p12.keep K28) (E_p8.keep K28) ne_p12_p8 S_COMPACT_STRINGS hCS (F_coder_p12.keep K28 nin0) (F_coder_p8.keep K28 nin0) (F_value_p12.keep K28 nin0) (F_value_p8.keep K28 nin0) (V_p18.keep K28 nin0) (V_p14.keep K28 nin0)) e30 (E_p12.keep K28) rfl (by rw [hml]; rfl) (argsL := [(.ref p8)]) (rest := []) (lenOf own_pd17 rfl) rfl rfl (W := 0) (by exact hW0) (by decide) (by decide) (hb hby d19_75) (by decide) (by decide))) fun T31 X31 e31 => ?_
   show Home T31 (mkF m 78 #[sr o0, sr o1, sr b1, sr b1_3, sr p8, .val v21, sr b1_8, sr p6] [(.int (f_rm27_0 u6 u2))])
   obtain ⟨r32, hr32⟩ : ∃ z, z = (f_rm27_0 u6 u2) := ⟨_, rfl⟩
   rw [← hr32]
   have br32 : ¬ r32 < (0 : Int32) ∧ ¬ (1 : Int32) < r32 := by rw [hr32]; exact f_rm27_0_bnd u6 u2
   suffices J36 : ∀ {T : State} {lc : List Loc} (X : Stand p l e ({ frames := 5, cells := 6, slots := 29, locals := 69 } : Room) s m #[(.ref o0), (.ref o1)] below meth c T lc 3 11) (N : Fr n0 lc) (eT : T.heap = T28.heap) (v37 : Value) (hv37 : v37 = (if r32 = (0 : Int32) then v21 else (.ref p6))), @Home p e below _ T (mkF m 85 #[sr o0, sr o1, sr b1, sr b1_3, sr p8, .val v37, sr b1_8, sr p6] []) by
    by_cases c33 : r32 = (0 : Int32)
    ·
     refine Home.go (fun _ => XS.ifYes X31.here hx rfl (pc0 := 78) (pc' := 85) rfl (hb hby d19_78) rfl ((if0 _ _).trans (teq c33).1) (by decide) (by decide)) ?_
     have bd34 : ¬ r32 < (0 : Int32) ∧ ¬ (0 : Int32) < r32 := ⟨(bnd_eql c33), (bnd_eqr c33)⟩
     exact J36 X31 N28 e31 _ (by simp only [if_pos c33])
    ·
     refine Home.go (fun _ => XS.ifNo X31.here hx rfl (hb hby d19_78) rfl ((if0 _ _).trans (feq c33).1)) ?_
     have bd35 : ¬ r32 < (1 : Int32) ∧ ¬ (1 : Int32) < r32 := ⟨(bnd_nel br32.1 c33 (by decide +kernel)), br32.2⟩
     refine Home.run X31 hx hby sg19_81_1 (pc' := 83) (L' := #[sr o0, sr o1, sr b1, sr b1_3, sr p8, .val v21, sr b1_8, sr p6]) (S' := [(.ref p6)]) rfl ?_
     refine Home.go (fun _ => XS.astore X31.here hx rfl (hb hby d19_83) rfl rfl (l' := #[.val (.ref o0), .val (.ref o1), .val (.ref b1), .val (.ref b1_3), .val (.ref p8), .val (.ref p6), .val (.ref b1_8), .val (.ref p6)]) (XS.store1 rfl (Or.inr ⟨_, rfl, (cat1_of isr_v21)⟩) rfl)) ?_
     exact J36 X31 N28 e31 _ (by simp only [if_neg c33])
   intro TJ36 lcJ36 XJ36 NJ36 eJ36 v37 hv37
   have isr_v37 : v37.isRef = true := by rw [hv37]; exact (own_itR (by assumption) rfl)
   show Home TJ36 (mkF m 85 #[sr o0, sr o1, sr b1, sr b1_3, sr p8, .val v37, sr b1_8, sr p6] [])
   refine Home.run XJ36 hx hby sg19_85_1 (pc' := 46) (L' := #[sr o0, sr o1, sr b1, sr b1_3, sr p8, .val v37, sr b1_8, sr p6]) (S' := []) rfl ?_
   refine Home.run XJ36 hx hby sg19_46_1 (pc' := 48) (L' := #[sr o0, sr o1, sr b1, sr b1_3, sr p8, .val v37, sr b1_8, sr p6]) (S' := [(.ref b1_8)]) rfl ?_
   by_cases c38 : (2 : Int32) = u1
   ·
    have bd39 : ¬ u1 < (2 : Int32) ∧ ¬ (2 : Int32) < u1 := ⟨(bnd_eql (c38.symm)), (bnd_eqr (c38.symm))⟩
    refine Home.st (own_pure (own_face XJ36 hx hZ hown (own_w143 hw) (own_w144 hw) (mvT hZ (own_w145 hw)) (own_w146 hw) (own_w147 hw) (own_w148 hw) (own_w149 hw) (own_w150 hw) (own_w130 hw) (own_w151 hw) (by decide) (rm22_5 l Z a0 hw [] b1_8 o0 u1 T28.heap n0 O28 P28_3 P28_1 (F_size_o0.keep K28 nin0) bd39) eJ36 P28_0 rfl (by rw [hml]; rfl) (argsL := []) (rest := []) (lenOf own_pd11 rfl) rfl rfl (W := 0) (by exact hW0) (by decide) (by decide) (hb hby d19_48) (by decide) (by decide))) fun T41 X41 e41 => ?_
    refine Home.go (fun _ => XS.ifYes X41.here hx rfl (pc0 := 53) (pc' := 88) rfl (hb hby d19_53) rfl ((if0 _ _).trans (teq (by decide)).1) (by decide) (by decide)) ?_
    have k61 : Keep T8.heap T28.heap [b1_8] := K10q.trans K28q (allS (Or.inl (List.mem_of_getElem? (i := 0) rfl)) all0)
    exact J57 X41 NJ36 e41 k61 v37 (by subst hv37; subst hr32; subst hv21; subst hr16; simp only [if_neg c22, if_pos c38]) (.val (.ref p6)) (Or.inr ⟨_, rfl, rfl⟩)
   ·
    have bd40 : ¬ u1 < (3 : Int32) ∧ ¬ (3 : Int32) < u1 := ⟨(bnd_nel bd24.1 (Ne.symm c38) (by decide +kernel)), bd24.2⟩
    refine Home.st (own_pure (own_face XJ36 hx hZ hown (own_w143 hw) (own_w144 hw) (mvT hZ (own_w145 hw)) (own_w146 hw) (own_w147 hw) (own_w148 hw) (own_w149 hw) (own_w150 hw) (own_w130 hw) (own_w151 hw) (by decide) (rm22_6 l Z a0 hw [] b1_8 o0 u1 T28.heap n0 O28 P28_3 P28_1 (F_size_o0.keep K28 nin0) bd40) eJ36 P28_0 rfl (by rw [hml]; rfl) (argsL := []) (rest := []) (lenOf own_pd11 rfl) rfl rfl (W := 0) (by exact hW0) (by decide) (by decide) (hb hby d19_48) (by decide) (by decide))) fun T42 X42 e42 => ?_
    refine Home.go (fun _ => XS.ifNo X42.here hx rfl (hb hby d19_53) rfl ((if0 _ _).trans (feq (by decide)).1)) ?_
    have ne43 : p3 ≠ b1_8 := (Nat.ne_of_lt (Nat.lt_of_lt_of_le V_p3.lt (Nat.le_trans le12 sz_b1_8)))
    have q44 := (V27.keep K28q (ninS ne43 nin0))
    have V45 : Arv Z T28.heap p3 k_p3 (.object "java/lang/Object") (10 : Int32) [(.ref p5), (.ref p6), (.ref p7), .null, .null, .null, .null, .null, .null, .null] .null := by have q := q44; rw [own_el2_is (k := p7) (bnd_fix bd40)] at q; exact q
    refine Home.run X42 hx hby sg19_56_1 (pc' := 58) (L' := #[sr o0, sr o1, sr b1, sr b1_3, sr p8, .val v37, sr b1_8, sr p6]) (S' := [(.ref b1_8)]) rfl ?_
    refine Home.call (own_face X42 hx hZ hown (own_w164 hw) (own_w165 hw) (mvT hZ (own_w166 hw)) (own_w167 hw) (own_w168 hw) (own_w169 hw) (own_w170 hw) (own_w150 hw) (own_w130 hw) (own_w171 hw) (by decide) (rm24_3 l Z a0 hw [] b1_8 o0 u1 p3 k_p3 p5 p6 p7 T28.heap n0 O28 P28_0 P28_1 (F_modCount_o0.keep K28 nin0) P28_2 P28_3 (F_size_o0.keep K28 nin0) bd40 (F_elementData_o0.keep K28 nin0) V45 g_b1_8 P28_4) e42 P28_0 rfl (by rw [hml]; rfl) (argsL := []) (rest := []) (lenOf own_pd18 rfl) rfl rfl (W := 0) (by exact hW0) (by decide) (by decide) (hb hby d19_58) (by decide) (by decide)) ?_
    rintro _ T46 L46 X46 ⟨rfl, N46q, K46q, P46_0, P46_1, P46_2, P46_3, P46_4⟩
    have O46 := Old.keep O28 K46q (allS g_b1_8 all0)
    have K46 : Keep h0 T46.heap ([] : List Addr) := Keep.trans K28 K46q (allS (Or.inr (Nat.le_trans le12 sz_b1_8)) all0)
    have N46 := Fr.app NJ36 N46q
    refine Home.st (castY X46 hx hZ hown (own_w179 hw) rfl (Ins.self (E_p7.keep K46)) rfl rfl (hb hby d19_63)) fun T47 X47 e47 => ?_
    refine Home.run X47 hx hby sg19_66_2 (pc' := 70) (L' := #[sr o0, sr o1, sr b1, sr b1_3, sr p8, .val v37, sr b1_8, sr p7]) (S' := [(.ref p7)]) rfl ?_
    refine Home.st (own_pure (own_virtual X47 hx hZ hown (own_w181 hw) (own_w182 hw) (notFace_of_selects (args := #[]) (mvT hZ (own_w184 hw))) (own_w184 hw) (own_w183 hw) (own_w2 hw) (own_w185 hw) (by decide) (rm26_0 l Z a0 hw [] p7 p13 T46.heap n0 O46 (F_name_p7.keep K46 nin0)) e47 (E_p7.keep K46) rfl (by rw [hml]; rfl) (argsL := []) (rest := []) (lenOf own_pd19 rfl) rfl rfl (W := 0) (by exact hW0) (by decide) (by decide) (hb hby d19_70) (by decide) (by decide))) fun T48 X48 e48 => ?_
    show Home T48 (mkF m 73 #[sr o0, sr o1, sr b1, sr b1_3, sr p8, .val v37, sr b1_8, sr p7] [(.ref p13)])
    refine Home.run X48 hx hby sg19_73_1 (pc' := 75) (L' := #[sr o0, sr o1, sr b1, sr b1_3, sr p8, .val v37, sr b1_8, sr p7]) (S' := [(.ref p8), (.ref p13)]) rfl ?_
    refine Home.st (own_pure (own_virtual X48 hx hZ hown (own_w186 hw) (own_w187 hw) (notFace_of_selects (args := #[]) (mvT hZ (own_w189 hw))) (own_w189 hw) (own_w188 hw) (own_w5 hw) (own_w190 hw) (by decide) (rm27_0 l Z a0 hw [] p13 p8 sv_COMPACT_STRINGS p19 p14 k_p19 u7 k_p14 u2 T46.heap n0 O46 (E_p13.keep K46) (E_p8.keep K46) ne_p13_p8 S_COMPACT_STRINGS hCS (F_coder_p13.keep K46 nin0) (F_coder_p8.keep K46 nin0) (F_value_p13.keep K46 nin0) (F_value_p8.keep K46 nin0) (V_p19.keep K46 nin0) (V_p14.keep K46 nin0)) e48 (E_p13.keep K46) rfl (by rw [hml]; rfl) (argsL := [(.ref p8)]) (rest := []) (lenOf own_pd17 rfl) rfl rfl (W := 0) (by exact hW0) (by decide) (by decide) (hb hby d19_75) (by decide) (by decide))) fun T49 X49 e49 => ?_
    show Home T49 (mkF m 78 #[sr o0, sr o1, sr b1, sr b1_3, sr p8, .val v37, sr b1_8, sr p7] [(.int (f_rm27_0 u7 u2))])
    obtain ⟨r50, hr50⟩ : ∃ z, z = (f_rm27_0 u7 u2) := ⟨_, rfl⟩
    rw [← hr50]
    have br50 : ¬ r50 < (0 : Int32) ∧ ¬ (1 : Int32) < r50 := by rw [hr50]; exact f_rm27_0_bnd u7 u2
    suffices J54 : ∀ {T : State} {lc : List Loc} (X : Stand p l e ({ frames := 5, cells := 6, slots := 29, locals := 69 } : Room) s m #[(.ref o0), (.ref o1)] below meth c T lc 3 11) (N : Fr n0 lc) (eT : T.heap = T46.heap) (v55 : Value) (hv55 : v55 = (if r50 = (0 : Int32) then v37 else (.ref p7))), @Home p e below _ T (mkF m 85 #[sr o0, sr o1, sr b1, sr b1_3, sr p8, .val v55, sr b1_8, sr p7] []) by
     by_cases c51 : r50 = (0 : Int32)
     ·
      refine Home.go (fun _ => XS.ifYes X49.here hx rfl (pc0 := 78) (pc' := 85) rfl (hb hby d19_78) rfl ((if0 _ _).trans (teq c51).1) (by decide) (by decide)) ?_
      have bd52 : ¬ r50 < (0 : Int32) ∧ ¬ (0 : Int32) < r50 := ⟨(bnd_eql c51), (bnd_eqr c51)⟩
      exact J54 X49 N46 e49 _ (by simp only [if_pos c51])
     ·
      refine Home.go (fun _ => XS.ifNo X49.here hx rfl (hb hby d19_78) rfl ((if0 _ _).trans (feq c51).1)) ?_
      have bd53 : ¬ r50 < (1 : Int32) ∧ ¬ (1 : Int32) < r50 := ⟨(bnd_nel br50.1 c51 (by decide +kernel)), br50.2⟩
      refine Home.run X49 hx hby sg19_81_1 (pc' := 83) (L' := #[sr o0, sr o1, sr b1, sr b1_3, sr p8, .val v37, sr b1_8, sr p7]) (S' := [(.ref p7)]) rfl ?_
      refine Home.go (fun _ => XS.astore X49.here hx rfl (hb hby d19_83) rfl rfl (l' := #[.val (.ref o0), .val (.ref o1), .val (.ref b1), .val (.ref b1_3), .val (.ref p8), .val (.ref p7), .val (.ref b1_8), .val (.ref p7)]) (XS.store1 rfl (Or.inr ⟨_, rfl, (cat1_of isr_v37)⟩) rfl)) ?_
      exact J54 X49 N46 e49 _ (by simp only [if_neg c51])
    intro TJ54 lcJ54 XJ54 NJ54 eJ54 v55 hv55
    have isr_v55 : v55.isRef = true := by rw [hv55]; exact (own_itR (by assumption) rfl)
    show Home TJ54 (mkF m 85 #[sr o0, sr o1, sr b1, sr b1_3, sr p8, .val v55, sr b1_8, sr p7] [])
    refine Home.run XJ54 hx hby sg19_85_1 (pc' := 46) (L' := #[sr o0, sr o1, sr b1, sr b1_3, sr p8, .val v55, sr b1_8, sr p7]) (S' := []) rfl ?_
    refine Home.run XJ54 hx hby sg19_46_1 (pc' := 48) (L' := #[sr o0, sr o1, sr b1, sr b1_3, sr p8, .val v55, sr b1_8, sr p7]) (S' := [(.ref b1_8)]) rfl ?_
    refine Home.st (own_pure (own_face XJ54 hx hZ hown (own_w143 hw) (own_w144 hw) (mvT hZ (own_w145 hw)) (own_w146 hw) (own_w147 hw) (own_w148 hw) (own_w149 hw) (own_w150 hw) (own_w130 hw) (own_w151 hw) (by decide) (rm22_7 l Z a0 hw [] b1_8 o0 u1 T46.heap n0 O46 P46_3 P46_1 (F_size_o0.keep K46 nin0) bd40) eJ54 P46_0 rfl (by rw [hml]; rfl) (argsL := []) (rest := []) (lenOf own_pd11 rfl) rfl rfl (W := 0) (by exact hW0) (by decide) (by decide) (hb hby d19_48) (by decide) (by decide))) fun T56 X56 e56 => ?_
    refine Home.go (fun _ => XS.ifYes X56.here hx rfl (pc0 := 53) (pc' := 88) rfl (hb hby d19_53) rfl ((if0 _ _).trans (teq (by decide)).1) (by decide) (by decide)) ?_
    have k64 : Keep T8.heap T28.heap [b1_8] := K10q.trans K28q (allS (Or.inl (List.mem_of_getElem? (i := 0) rfl)) all0)
    have k63 : Keep T8.heap T46.heap [b1_8] := k64.trans K46q (allS (Or.inl (List.mem_of_getElem? (i := 0) rfl)) all0)
    exact J57 X56 NJ54 e56 k63 v55 (by subst hv55; subst hr50; subst hv37; subst hr32; subst hv21; subst hr16; simp only [if_neg c22, if_neg c38]) (.val (.ref p7)) (Or.inr ⟨_, rfl, rfl⟩)
 intro TJ57 lcJ57 hJ57 XJ57 NJ57 eJ57 KqJ57 v58 hv58 v59 hv59
 have le66 : h0.size ≤ T3.heap.size := Nat.le_trans le6 K3q.1
 have le67 : h0.size ≤ T5.heap.size := Nat.le_trans le66 K5q.1
 have OJ57 := Old.keep O8 KqJ57 (allS g_b1_8 all0)
 have KJ57 : Keep h0 hJ57 ([] : List Addr) := Keep.trans K8 KqJ57 (allS (Or.inr (Nat.le_trans le67 sz_b1_8)) all0)
 have isr_v58 : v58.isRef = true := by rw [hv58]; exact (own_itR (own_itR rfl rfl) (own_itR (own_itR (own_itR rfl rfl) rfl) (own_itR (own_itR (own_itR rfl rfl) rfl) rfl)))
 show Home TJ57 (mkF m 88 #[sr o0, sr o1, sr b1, sr b1_3, sr p8, .val v58, sr b1_8, v59] [])
 refine Home.go (fun _ => XS.aload XJ57.here hx rfl (hb hby d19_88) rfl (isr_v58)) ?_
 have e68_0 := (E_p5.keep KJ57)
 have e68_1 := (E_p6.keep KJ57)
 have e68_2 := (E_p7.keep KJ57)
 have hT68 : v58 = ((if (1 : Int32) = u1 then (if (f_rm27_0 u5 u2) = (0 : Int32) then .null else (.ref p5)) else (if (2 : Int32) = u1 then (if (f_rm27_0 u6 u2) = (0 : Int32) then (if (f_rm27_0 u5 u2) = (0 : Int32) then .null else (.ref p5)) else (.ref p6)) else (if (f_rm27_0 u7 u2) = (0 : Int32) then (if (f_rm27_0 u6 u2) = (0 : Int32) then (if (f_rm27_0 u5 u2) = (0 : Int32) then .null else (.ref p5)) else (.ref p6)) else (.ref p7)))) : Value) := by subst hv58; rfl
 obtain ⟨a68, ha68⟩ : ∃ a, v58 = .ref a := (ref_cases isr_v58).resolve_left (fun q => nn68 (hT68.symm.trans q))
 have nq68 : ((if (1 : Int32) = u1 then (if (f_rm27_0 u5 u2) = (0 : Int32) then .null else (.ref p5)) else (if (2 : Int32) = u1 then (if (f_rm27_0 u6 u2) = (0 : Int32) then (if (f_rm27_0 u5 u2) = (0 : Int32) then .null else (.ref p5)) else (.ref p6)) else (if (f_rm27_0 u7 u2) = (0 : Int32) then (if (f_rm27_0 u6 u2) = (0 : Int32) then (if (f_rm27_0 u5 u2) = (0 : Int32) then .null else (.ref p5)) else (.ref p6)) else (.ref p7)))) : Value) = .ref a68 := hT68.symm.trans ha68
 have E68a : Exa Z hJ57 a68 "com/example/wary_meter/warymeter/Column" := own_itE nq68 (fun q => own_itE q (fun q => nomatch q) (fun q => own_leE q e68_0)) (fun q => own_itE q (fun q => own_itE q (fun q => own_itE q (fun q => nomatch q) (fun q => own_leE q e68_0)) (fun q => own_leE q e68_1)) (fun q => own_itE q (fun q => own_itE q (fun q => own_itE q (fun q => nomatch q) (fun q => own_leE q e68_0)) (fun q => own_leE q e68_1)) (fun q => own_leE q e68_2)))
 subst ha68
 show Home TJ57 (mkF m 90 #[sr o0, sr o1, sr b1, sr b1_3, sr p8, sr a68, sr b1_8, v59] [(.ref a68)])
 refine Home.go (fun _ => XS.ifnonnullYes XJ57.here hx rfl (pc0 := 90) (pc' := 108) rfl (hb hby d19_90) rfl (by decide) (by decide)) ?_
 show Home TJ57 (mkF m 108 #[sr o0, sr o1, sr b1, sr b1_3, sr p8, sr a68, sr b1_8, v59] [])
 refine Home.run XJ57 hx hby sg19_108_2 (pc' := 111) (L' := #[sr o0, sr o1, sr b1, sr b1_3, sr p8, sr a68, sr b1_8, v59]) (S' := [(.ref a68), (.ref b1)]) rfl ?_
 have q69 := ((((P2_0.keep K3q).keep K5q).keep K8q).keep KqJ57)
 have ne70 : b1 ≠ b1_3 := (Nat.ne_of_lt (Nat.lt_of_lt_of_le A1.lt (Nat.le_trans K2q.1 sz_b1_3)))
 have le71 : h1.size ≤ T3.heap.size := Nat.le_trans K2q.1 K3q.1
 have le72 : h1.size ≤ T5.heap.size := Nat.le_trans le71 K5q.1
 have ne73 : b1 ≠ b1_8 := (Nat.ne_of_lt (Nat.lt_of_lt_of_le A1.lt (Nat.le_trans le72 sz_b1_8)))
 have q74 := ((((P2_1.keep K3q nin0).keep K5q (ninS ne70 nin0)).keep K8q nin0).keep KqJ57 (ninS ne73 nin0))
 have q75 := ((((P2_2.keep K3q nin0).keep K5q (ninS ne70 nin0)).keep K8q nin0).keep KqJ57 (ninS ne73 nin0))
 have q76 := ((((P2_3.keep K3q nin0).keep K5q (ninS ne70 nin0)).keep K8q nin0).keep KqJ57 (ninS ne73 nin0))
 refine Home.call (own_face XJ57 hx hZ hown (own_w194 hw) (own_w74 hw) (mvT hZ (own_w75 hw)) (own_w76 hw) (own_w77 hw) (own_w78 hw) (own_w79 hw) (own_w80 hw) (own_w51 hw) (own_w81 hw) (by decide) (rm12_0 l Z a0 hw [] b1 a68 sv_DEFAULTCAPACITY_EMPTY_ELEMENTDATA kde hJ57 n0 OJ57 q74 q69 g_b1 q75 q76 V_de S_DEFAULTCAPACITY_EMPTY_ELEMENTDATA E68a) eJ57 q69 rfl (by rw [hml]; rfl) (argsL := [(.ref a68)]) (rest := []) (lenOf own_pd17 rfl) rfl rfl (W := 0) (by exact hW0) (by decide) (by decide) (hb hby d19_111) (by decide) (by decide)) ?_
 rintro _ T77 L77 X77 ⟨b6_2_2_7_77, k6_2_2_7_77, rfl, N77q, sz_b6_2_2_7_77, K77q, P77_0, P77_1, P77_2, P77_3, P77_4, P77_5⟩
 have g_b6_2_2_7_77 : n0 ≤ b6_2_2_7_77 := Nat.le_trans (Old.le OJ57) sz_b6_2_2_7_77
 have O77 := Old.keep OJ57 K77q (allS g_b1 all0)
 have K77 : Keep h0 T77.heap ([] : List Addr) := Keep.trans KJ57 K77q (allS (Or.inr (Nat.le_trans (Nat.le_refl _) (Nat.le_of_eq g1.symm))) all0)
 have N77 := Fr.app NJ57 N77q
 show Home T77 (mkF m 116 #[sr o0, sr o1, sr b1, sr b1_3, sr p8, sr a68, sr b1_8, v59] [(.int (1 : Int32))])
 refine Home.run X77 hx hby sg19_116_3 (pc' := 16) (L' := #[sr o0, sr o1, sr b1, sr b1_3, sr p8, sr a68, sr b1_8, v59]) (S' := [(.ref b1_3)]) rfl ?_
 have q78 := (((P5_0.keep K8q).keep KqJ57).keep K77q)
 have ne79 : b1_3 ≠ b1_8 := (Nat.ne_of_lt (Nat.lt_of_lt_of_le P3_0.lt (Nat.le_trans K5q.1 sz_b1_8)))
 have ne80 : b1_3 ≠ b1 := (Ne.symm ne70)
 have q81 := (((P5_3.keep K8q nin0).keep KqJ57 (ninS ne79 nin0)).keep K77q (ninS ne80 nin0))
 have q82 := (((P5_1.keep K8q nin0).keep KqJ57 (ninS ne79 nin0)).keep K77q (ninS ne80 nin0))
 refine Home.st (own_pure (own_face X77 hx hZ hown (own_w143 hw) (own_w144 hw) (mvT hZ (own_w145 hw)) (own_w146 hw) (own_w147 hw) (own_w148 hw) (own_w149 hw) (own_w150 hw) (own_w130 hw) (own_w151 hw) (by decide) (rm22_4 l Z a0 hw [] b1_3 o1 (3 : Int32) T77.heap n0 O77 q81 q82 (F_size_o1.keep K77 nin0) (bnd_mono (bnd_lit (3 : Int32)) (by decide +kernel) (by decide +kernel))) rfl q78 rfl (by rw [hml]; rfl) (argsL := []) (rest := []) (lenOf own_pd11 rfl) rfl rfl (W := 0) (by exact hW0) (by decide) (by decide) (hb hby d19_16) (by decide) (by decide))) fun T83 X83 e83 => ?_
 refine Home.go (fun _ => XS.ifNo X83.here hx rfl (hb hby d19_21) rfl ((if0 _ _).trans (feq (by decide)).1)) ?_
 refine Home.run X83 hx hby sg19_24_1 (pc' := 25) (L' := #[sr o0, sr o1, sr b1, sr b1_3, sr p8, sr a68, sr b1_8, v59]) (S' := [(.ref b1_3)]) rfl ?_
 have q84 := (((P5_2.keep K8q nin0).keep KqJ57 (ninS ne79 nin0)).keep K77q (ninS ne80 nin0))
 have q85 := (((P5_4.keep K8q nin0).keep KqJ57 (ninS ne79 nin0)).keep K77q (ninS ne80 nin0))
 refine Home.call (own_face X83 hx hZ hown (own_w164 hw) (own_w165 hw) (mvT hZ (own_w166 hw)) (own_w167 hw) (own_w168 hw) (own_w169 hw) (own_w170 hw) (own_w150 hw) (own_w130 hw) (own_w171 hw) (by decide) (rm24_4 l Z a0 hw [] b1_3 o1 p4 k_p4 p8 p9 p10 T77.heap n0 O77 q78 q82 (F_modCount_o1.keep K77 nin0) q84 q81 (F_size_o1.keep K77 nin0) (F_elementData_o1.keep K77 nin0) (V_p4.keep K77 nin0) g_b1_3 q85) e83 q78 rfl (by rw [hml]; rfl) (argsL := []) (rest := []) (lenOf own_pd18 rfl) rfl rfl (W := 0) (by exact hW0) (by decide) (by decide) (hb hby d19_25) (by decide) (by decide)) ?_
 rintro _ T86 L86 X86 ⟨rfl, N86q, K86q, P86_0, P86_1, P86_2, P86_3, P86_4⟩
 have O86 := Old.keep O77 K86q (allS g_b1_3 all0)
 have K86 : Keep h0 T86.heap ([] : List Addr) := Keep.trans K77 K86q (allS (Or.inr (Nat.le_trans le6 sz_b1_3)) all0)
 have N86 := Fr.app N77 N86q
 show Home T86 (mkF m 30 #[sr o0, sr o1, sr b1, sr b1_3, sr p8, sr a68, sr b1_8, v59] [(.ref p9)])
 refine Home.st (castY X86 hx hZ hown (own_w178 hw) rfl (Ins.self (E_p9.keep K86)) rfl rfl (hb hby d19_30)) fun T87 X87 e87 => ?_
 refine Home.run X87 hx hby sg19_33_4 (pc' := 39) (L' := #[sr o0, sr o1, sr b1, sr b1_3, sr p9, .val .null, sr b1_8, v59]) (S' := [(.ref o0)]) rfl ?_
 refine Home.call (own_face X87 hx hZ hown (own_w120 hw) (own_w121 hw) (mvT hZ (own_w122 hw)) (own_w123 hw) (own_w124 hw) (own_w125 hw) (own_w126 hw) (own_w80 hw) (own_w51 hw) (own_w127 hw) (by decide) (rm20_2 l Z a0 hw [] o0 u1 T86.heap n0 O86 (F_modCount_o0.keep K86 nin0) (E_o0.keep K86)) e87 (E_o0.keep K86) rfl (by rw [hml]; rfl) (argsL := []) (rest := []) (lenOf own_pd10 rfl) rfl rfl (W := 0) (by exact hW0) (by decide) (by decide) (hb hby d19_39) (by decide) (by decide)) ?_
 rintro _ T88 L88 X88 ⟨b1_88, rfl, N88q, sz_b1_88, K88q, P88_0, P88_1, P88_2, P88_3, P88_4⟩
 have g_b1_88 : n0 ≤ b1_88 := Nat.le_trans (Old.le O86) sz_b1_88
 have O88 := Old.keep O86 K88q all0
 have K88 : Keep h0 T88.heap ([] : List Addr) := Keep.trans K86 K88q all0
 have N88 := Fr.app N86 N88q
 refine Home.run X88 hx hby sg19_44_1 (pc' := 46) (L' := #[sr o0, sr o1, sr b1, sr b1_3, sr p9, .val .null, sr b1_88, v59]) (S' := []) rfl ?_
 refine Home.cut (C := fun E => ∀ {T : State} {lc : List Loc} {hJ : Heap} (X : Stand p l e ({ frames := 5, cells := 6, slots := 29, locals := 69 } : Room) s m #[(.ref o0), (.ref o1)] below meth c T lc 5 25) (N : Fr n0 lc) (eT : T.heap = hJ) (Kq : Keep T88.heap hJ ([b1_88] : List Addr)) (v142 : Value) (hv142 : v142 = ((if (1 : Int32) = u1 then (if (f_rm27_0 u5 u3) = (0 : Int32) then .null else (.ref p5)) else (if (2 : Int32) = u1 then (if (f_rm27_0 u6 u3) = (0 : Int32) then (if (f_rm27_0 u5 u3) = (0 : Int32) then .null else (.ref p5)) else (.ref p6)) else (if (f_rm27_0 u7 u3) = (0 : Int32) then (if (f_rm27_0 u6 u3) = (0 : Int32) then (if (f_rm27_0 u5 u3) = (0 : Int32) then .null else (.ref p5)) else (.ref p6)) else (.ref p7)))) : Value)) (v143 : Slot) (hv143 : v143 = .unset ∨ ∃ w, v143 = .val w ∧ w.category = 1), @Home p e below E T (mkF m 88 #[sr o0, sr o1, sr b1, sr b1_3, sr p9, .val v142, sr b1_88, v143] [])) (fun _ J141 => ?_) ?_
 ·
  refine Home.run X88 hx hby sg19_46_1 (pc' := 48) (L' := #[sr o0, sr o1, sr b1, sr b1_3, sr p9, .val .null, sr b1_88, v59]) (S' := [(.ref b1_88)]) rfl ?_
  refine Home.st (own_pure (own_face X88 hx hZ hown (own_w143 hw) (own_w144 hw) (mvT hZ (own_w145 hw)) (own_w146 hw) (own_w147 hw) (own_w148 hw) (own_w149 hw) (own_w150 hw) (own_w130 hw) (own_w151 hw) (by decide) (rm22_2 l Z a0 hw [] b1_88 o0 u1 T88.heap n0 O88 P88_4 P88_1 (F_size_o0.keep K88 nin0) bnd_u1) rfl P88_0 rfl (by rw [hml]; rfl) (argsL := []) (rest := []) (lenOf own_pd11 rfl) rfl rfl (W := 0) (by exact hW0) (by decide) (by decide) (hb hby d19_48) (by decide) (by decide))) fun T89 X89 e89 => ?_
  refine Home.go (fun _ => XS.ifNo X89.here hx rfl (hb hby d19_53) rfl ((if0 _ _).trans (feq (by decide)).1)) ?_
  refine Home.run X89 hx hby sg19_56_1 (pc' := 58) (L' := #[sr o0, sr o1, sr b1, sr b1_3, sr p9, .val .null, sr b1_88, v59]) (S' := [(.ref b1_88)]) rfl ?_
  refine Home.call (own_face X89 hx hZ hown (own_w164 hw) (own_w165 hw) (mvT hZ (own_w166 hw)) (own_w167 hw) (own_w168 hw) (own_w169 hw) (own_w170 hw) (own_w150 hw) (own_w130 hw) (own_w171 hw) (by decide) (rm24_1 l Z a0 hw [] b1_88 o0 u1 p3 k_p3 p5 p6 p7 T88.heap n0 O88 P88_0 P88_1 (F_modCount_o0.keep K88 nin0) P88_3 P88_4 (F_size_o0.keep K88 nin0) bnd_u1 (F_elementData_o0.keep K88 nin0) (V_p3.keep K88 nin0) g_b1_88 P88_2) e89 P88_0 rfl (by rw [hml]; rfl) (argsL := []) (rest := []) (lenOf own_pd18 rfl) rfl rfl (W := 0) (by exact hW0) (by decide) (by decide) (hb hby d19_58) (by decide) (by decide)) ?_
  rintro _ T90 L90 X90 ⟨rfl, N90q, K90q, P90_0, P90_1, P90_2, P90_3, P90_4⟩
  have le91 : h0.size ≤ T3.heap.size := Nat.le_trans le6 K3q.1
  have le92 : h0.size ≤ T5.heap.size := Nat.le_trans le91 K5q.1
  have le93 : h0.size ≤ T8.heap.size := Nat.le_trans le92 K8q.1
  have le94 : h0.size ≤ hJ57.size := Nat.le_trans le93 KqJ57.1
  have le95 : h0.size ≤ T77.heap.size := Nat.le_trans le94 K77q.1
  have le96 : h0.size ≤ T86.heap.size := Nat.le_trans le95 K86q.1
  have O90 := Old.keep O88 K90q (allS g_b1_88 all0)
  have K90 : Keep h0 T90.heap ([] : List Addr) := Keep.trans K88 K90q (allS (Or.inr (Nat.le_trans le96 sz_b1_88)) all0)
  have N90 := Fr.app N88 N90q
  show Home T90 (mkF m 63 #[sr o0, sr o1, sr b1, sr b1_3, sr p9, .val .null, sr b1_88, v59] [(.ref p5)])
  refine Home.st (castY X90 hx hZ hown (own_w179 hw) rfl (Ins.self (E_p5.keep K90)) rfl rfl (hb hby d19_63)) fun T97 X97 e97 => ?_
  refine Home.go (fun _ => XS.astore X97.here hx rfl (hb hby d19_66) rfl rfl (l' := #[.val (.ref o0), .val (.ref o1), .val (.ref b1), .val (.ref b1_3), .val (.ref p9), .val .null, .val (.ref b1_88), .val (.ref p5)]) (XS.store1 rfl hv59 rfl)) ?_
  refine Home.run X97 hx hby sg19_68_1 (pc' := 70) (L' := #[sr o0, sr o1, sr b1, sr b1_3, sr p9, .val .null, sr b1_88, sr p5]) (S' := [(.ref p5)]) rfl ?_
  refine Home.st (own_pure (own_virtual X97 hx hZ hown (own_w181 hw) (own_w182 hw) (notFace_of_selects (args := #[]) (mvT hZ (own_w184 hw))) (own_w184 hw) (own_w183 hw) (own_w2 hw) (own_w185 hw) (by decide) (rm26_0 l Z a0 hw [] p5 p11 T90.heap n0 O90 (F_name_p5.keep K90 nin0)) e97 (E_p5.keep K90) rfl (by rw [hml]; rfl) (argsL := []) (rest := []) (lenOf own_pd19 rfl) rfl rfl (W := 0) (by exact hW0) (by decide) (by decide) (hb hby d19_70) (by decide) (by decide))) fun T98 X98 e98 => ?_
  refine Home.run X98 hx hby sg19_73_1 (pc' := 75) (L' := #[sr o0, sr o1, sr b1, sr b1_3, sr p9, .val .null, sr b1_88, sr p5]) (S' := [(.ref p9), (.ref p11)]) rfl ?_
  refine Home.st (own_pure (own_virtual X98 hx hZ hown (own_w186 hw) (own_w187 hw) (notFace_of_selects (args := #[]) (mvT hZ (own_w189 hw))) (own_w189 hw) (own_w188 hw) (own_w5 hw) (own_w190 hw) (by decide) (rm27_0 l Z a0 hw [] p11 p9 sv_COMPACT_STRINGS p17 p15 k_p17 u5 k_p15 u3 T90.heap n0 O90 (E_p11.keep K90) (E_p9.keep K90) ne_p11_p9 S_COMPACT_STRINGS hCS (F_coder_p11.keep K90 nin0) (F_coder_p9.keep K90 nin0) (F_value_p11.keep K90 nin0) (F_value_p9.keep K90 nin0) (V_p17.keep K90 nin0) (V_p15.keep K90 nin0)) e98 (E_p11.keep K90) rfl (by rw [hml]; rfl) (argsL := [(.ref p9)]) (rest := []) (lenOf own_pd17 rfl) rfl rfl (W := 0) (by exact hW0) (by decide) (by decide) (hb hby d19_75) (by decide) (by decide))) fun T99 X99 e99 => ?_
  show Home T99 (mkF m 78 #[sr o0, sr o1, sr b1, sr b1_3, sr p9, .val .null, sr b1_88, sr p5] [(.int (f_rm27_0 u5 u3))])
  obtain ⟨r100, hr100⟩ : ∃ z, z = (f_rm27_0 u5 u3) := ⟨_, rfl⟩
  rw [← hr100]
  have br100 : ¬ r100 < (0 : Int32) ∧ ¬ (1 : Int32) < r100 := by rw [hr100]; exact f_rm27_0_bnd u5 u3
  suffices J104 : ∀ {T : State} {lc : List Loc} (X : Stand p l e ({ frames := 5, cells := 6, slots := 29, locals := 69 } : Room) s m #[(.ref o0), (.ref o1)] below meth c T lc 5 25) (N : Fr n0 lc) (eT : T.heap = T90.heap) (v105 : Value) (hv105 : v105 = (if r100 = (0 : Int32) then .null else (.ref p5))), @Home p e below _ T (mkF m 85 #[sr o0, sr o1, sr b1, sr b1_3, sr p9, .val v105, sr b1_88, sr p5] []) by
   by_cases c101 : r100 = (0 : Int32)
   ·
    refine Home.go (fun _ => XS.ifYes X99.here hx rfl (pc0 := 78) (pc' := 85) rfl (hb hby d19_78) rfl ((if0 _ _).trans (teq c101).1) (by decide) (by decide)) ?_
    have bd102 : ¬ r100 < (0 : Int32) ∧ ¬ (0 : Int32) < r100 := ⟨(bnd_eql c101), (bnd_eqr c101)⟩
    exact J104 X99 N90 e99 _ (by simp only [if_pos c101])
   ·
    refine Home.go (fun _ => XS.ifNo X99.here hx rfl (hb hby d19_78) rfl ((if0 _ _).trans (feq c101).1)) ?_
    have bd103 : ¬ r100 < (1 : Int32) ∧ ¬ (1 : Int32) < r100 := ⟨(bnd_nel br100.1 c101 (by decide +kernel)), br100.2⟩
    refine Home.run X99 hx hby sg19_81_2 (pc' := 85) (L' := #[sr o0, sr o1, sr b1, sr b1_3, sr p9, sr p5, sr b1_88, sr p5]) (S' := []) rfl ?_
    exact J104 X99 N90 e99 _ (by simp only [if_neg c101])
  intro TJ104 lcJ104 XJ104 NJ104 eJ104 v105 hv105
  have isr_v105 : v105.isRef = true := by rw [hv105]; exact (own_itR rfl rfl)
  show Home TJ104 (mkF m 85 #[sr o0, sr o1, sr b1, sr b1_3, sr p9, .val v105, sr b1_88, sr p5] [])
  refine Home.run XJ104 hx hby sg19_85_1 (pc' := 46) (L' := #[sr o0, sr o1, sr b1, sr b1_3, sr p9, .val v105, sr b1_88, sr p5]) (S' := []) rfl ?_
  refine Home.run XJ104 hx hby sg19_46_1 (pc' := 48) (L' := #[sr o0, sr o1, sr b1, sr b1_3, sr p9, .val v105, sr b1_88, sr p5]) (S' := [(.ref b1_88)]) rfl ?_
  by_cases c106 : (1 : Int32) = u1
  ·
   have bd107 : ¬ u1 < (1 : Int32) ∧ ¬ (1 : Int32) < u1 := ⟨(bnd_eql (c106.symm)), (bnd_eqr (c106.symm))⟩
   refine Home.st (own_pure (own_face XJ104 hx hZ hown (own_w143 hw) (own_w144 hw) (mvT hZ (own_w145 hw)) (own_w146 hw) (own_w147 hw) (own_w148 hw) (own_w149 hw) (own_w150 hw) (own_w130 hw) (own_w151 hw) (by decide) (rm22_3 l Z a0 hw [] b1_88 o0 u1 T90.heap n0 O90 P90_3 P90_1 (F_size_o0.keep K90 nin0) bd107) eJ104 P90_0 rfl (by rw [hml]; rfl) (argsL := []) (rest := []) (lenOf own_pd11 rfl) rfl rfl (W := 0) (by exact hW0) (by decide) (by decide) (hb hby d19_48) (by decide) (by decide))) fun T109 X109 e109 => ?_
   refine Home.go (fun _ => XS.ifYes X109.here hx rfl (pc0 := 53) (pc' := 88) rfl (hb hby d19_53) rfl ((if0 _ _).trans (teq (by decide)).1) (by decide) (by decide)) ?_
   exact J141 X109 NJ104 e109 K90q v105 (by subst hv105; subst hr100; simp only [if_pos c106]) (.val (.ref p5)) (Or.inr ⟨_, rfl, rfl⟩)
  ·
   have bd108 : ¬ u1 < (2 : Int32) ∧ ¬ (3 : Int32) < u1 := ⟨(bnd_nel bnd_u1.1 (Ne.symm c106) (by decide +kernel)), bnd_u1.2⟩
   refine Home.st (own_pure (own_face XJ104 hx hZ hown (own_w143 hw) (own_w144 hw) (mvT hZ (own_w145 hw)) (own_w146 hw) (own_w147 hw) (own_w148 hw) (own_w149 hw) (own_w150 hw) (own_w130 hw) (own_w151 hw) (by decide) (rm22_4 l Z a0 hw [] b1_88 o0 u1 T90.heap n0 O90 P90_3 P90_1 (F_size_o0.keep K90 nin0) bd108) eJ104 P90_0 rfl (by rw [hml]; rfl) (argsL := []) (rest := []) (lenOf own_pd11 rfl) rfl rfl (W := 0) (by exact hW0) (by decide) (by decide) (hb hby d19_48) (by decide) (by decide))) fun T110 X110 e110 => ?_
   refine Home.go (fun _ => XS.ifNo X110.here hx rfl (hb hby d19_53) rfl ((if0 _ _).trans (feq (by decide)).1)) ?_
   have V111 : Arv Z T90.heap p3 k_p3 (.object "java/lang/Object") (10 : Int32) [(.ref p5), (.ref p6), (own_el2 u1 p7), .null, .null, .null, .null, .null, .null, .null] .null := by have q := (V_p3.keep K90 nin0); rw [own_el1_is (k := p6) (Ne.symm c106)] at q; exact q
   refine Home.run X110 hx hby sg19_56_1 (pc' := 58) (L' := #[sr o0, sr o1, sr b1, sr b1_3, sr p9, .val v105, sr b1_88, sr p5]) (S' := [(.ref b1_88)]) rfl ?_
   refine Home.call (own_face X110 hx hZ hown (own_w164 hw) (own_w165 hw) (mvT hZ (own_w166 hw)) (own_w167 hw) (own_w168 hw) (own_w169 hw) (own_w170 hw) (own_w150 hw) (own_w130 hw) (own_w171 hw) (by decide) (rm24_2 l Z a0 hw [] b1_88 o0 u1 p3 k_p3 p5 p6 p7 T90.heap n0 O90 P90_0 P90_1 (F_modCount_o0.keep K90 nin0) P90_2 P90_3 (F_size_o0.keep K90 nin0) bd108 (F_elementData_o0.keep K90 nin0) V111 g_b1_88 P90_4) e110 P90_0 rfl (by rw [hml]; rfl) (argsL := []) (rest := []) (lenOf own_pd18 rfl) rfl rfl (W := 0) (by exact hW0) (by decide) (by decide) (hb hby d19_58) (by decide) (by decide)) ?_
   rintro _ T112 L112 X112 ⟨rfl, N112q, K112q, P112_0, P112_1, P112_2, P112_3, P112_4⟩
   have O112 := Old.keep O90 K112q (allS g_b1_88 all0)
   have K112 : Keep h0 T112.heap ([] : List Addr) := Keep.trans K90 K112q (allS (Or.inr (Nat.le_trans le96 sz_b1_88)) all0)
   have N112 := Fr.app NJ104 N112q
   refine Home.st (castY X112 hx hZ hown (own_w179 hw) rfl (Ins.self (E_p6.keep K112)) rfl rfl (hb hby d19_63)) fun T113 X113 e113 => ?_
   refine Home.run X113 hx hby sg19_66_2 (pc' := 70) (L' := #[sr o0, sr o1, sr b1, sr b1_3, sr p9, .val v105, sr b1_88, sr p6]) (S' := [(.ref p6)]) rfl ?_
   refine Home.st (own_pure (own_virtual X113 hx hZ hown (own_w181 hw) (own_w182 hw) (notFace_of_selects (args := #[]) (mvT hZ (own_w184 hw))) (own_w184 hw) (own_w183 hw) (own_w2 hw) (own_w185 hw) (by decide) (rm26_0 l Z a0 hw [] p6 p12 T112.heap n0 O112 (F_name_p6.keep K112 nin0)) e113 (E_p6.keep K112) rfl (by rw [hml]; rfl) (argsL := []) (rest := []) (lenOf own_pd19 rfl) rfl rfl (W := 0) (by exact hW0) (by decide) (by decide) (hb hby d19_70) (by decide) (by decide))) fun T114 X114 e114 => ?_
   refine Home.run X114 hx hby sg19_73_1 (pc' := 75) (L' := #[sr o0, sr o1, sr b1, sr b1_3, sr p9, .val v105, sr b1_88, sr p6]) (S' := [(.ref p9), (.ref p12)]) rfl ?_
   refine Home.st (own_pure (own_virtual X114 hx hZ hown (own_w186 hw) (own_w187 hw) (notFace_of_selects (args := #[]) (mvT hZ (own_w189 hw))) (own_w189 hw) (own_w188 hw) (own_w5 hw) (own_w190 hw) (by decide) (rm27_0 l Z a0 hw [] p12 p9 sv_COMPACT_STRINGS p18 p15 k_p18 u6 k_p15 u3 T112.heap n0 O112 (E_p12.keep K112) (E_p9.keep K112) ne_p12_p9 S_COMPACT_STRINGS hCS (F_coder_p12.keep K112 nin0) (F_coder_p9.keep K112 nin0) (F_value_p12.keep K112 nin0) (F_value_p9.keep K112 nin0) (V_p18.keep K112 nin0) (V_p15.keep K112 nin0)) e114 (E_p12.keep K112) rfl (by rw [hml]; rfl) (argsL := [(.ref p9)]) (rest := []) (lenOf own_pd17 rfl) rfl rfl (W := 0) (by exact hW0) (by decide) (by decide) (hb hby d19_75) (by decide) (by decide))) fun T115 X115 e115 => ?_
   show Home T115 (mkF m 78 #[sr o0, sr o1, sr b1, sr b1_3, sr p9, .val v105, sr b1_88, sr p6] [(.int (f_rm27_0 u6 u3))])
   obtain ⟨r116, hr116⟩ : ∃ z, z = (f_rm27_0 u6 u3) := ⟨_, rfl⟩
   rw [← hr116]
   have br116 : ¬ r116 < (0 : Int32) ∧ ¬ (1 : Int32) < r116 := by rw [hr116]; exact f_rm27_0_bnd u6 u3
   suffices J120 : ∀ {T : State} {lc : List Loc} (X : Stand p l e ({ frames := 5, cells := 6, slots := 29, locals := 69 } : Room) s m #[(.ref o0), (.ref o1)] below meth c T lc 5 25) (N : Fr n0 lc) (eT : T.heap = T112.heap) (v121 : Value) (hv121 : v121 = (if r116 = (0 : Int32) then v105 else (.ref p6))), @Home p e below _ T (mkF m 85 #[sr o0, sr o1, sr b1, sr b1_3, sr p9, .val v121, sr b1_88, sr p6] []) by
    by_cases c117 : r116 = (0 : Int32)
    ·
     refine Home.go (fun _ => XS.ifYes X115.here hx rfl (pc0 := 78) (pc' := 85) rfl (hb hby d19_78) rfl ((if0 _ _).trans (teq c117).1) (by decide) (by decide)) ?_
     have bd118 : ¬ r116 < (0 : Int32) ∧ ¬ (0 : Int32) < r116 := ⟨(bnd_eql c117), (bnd_eqr c117)⟩
     exact J120 X115 N112 e115 _ (by simp only [if_pos c117])
    ·
     refine Home.go (fun _ => XS.ifNo X115.here hx rfl (hb hby d19_78) rfl ((if0 _ _).trans (feq c117).1)) ?_
     have bd119 : ¬ r116 < (1 : Int32) ∧ ¬ (1 : Int32) < r116 := ⟨(bnd_nel br116.1 c117 (by decide +kernel)), br116.2⟩
     refine Home.run X115 hx hby sg19_81_1 (pc' := 83) (L' := #[sr o0, sr o1, sr b1, sr b1_3, sr p9, .val v105, sr b1_88, sr p6]) (S' := [(.ref p6)]) rfl ?_
     refine Home.go (fun _ => XS.astore X115.here hx rfl (hb hby d19_83) rfl rfl (l' := #[.val (.ref o0), .val (.ref o1), .val (.ref b1), .val (.ref b1_3), .val (.ref p9), .val (.ref p6), .val (.ref b1_88), .val (.ref p6)]) (XS.store1 rfl (Or.inr ⟨_, rfl, (cat1_of isr_v105)⟩) rfl)) ?_
     exact J120 X115 N112 e115 _ (by simp only [if_neg c117])
   intro TJ120 lcJ120 XJ120 NJ120 eJ120 v121 hv121
   have isr_v121 : v121.isRef = true := by rw [hv121]; exact (own_itR (by assumption) rfl)
   show Home TJ120 (mkF m 85 #[sr o0, sr o1, sr b1, sr b1_3, sr p9, .val v121, sr b1_88, sr p6] [])
   refine Home.run XJ120 hx hby sg19_85_1 (pc' := 46) (L' := #[sr o0, sr o1, sr b1, sr b1_3, sr p9, .val v121, sr b1_88, sr p6]) (S' := []) rfl ?_
   refine Home.run XJ120 hx hby sg19_46_1 (pc' := 48) (L' := #[sr o0, sr o1, sr b1, sr b1_3, sr p9, .val v121, sr b1_88, sr p6]) (S' := [(.ref b1_88)]) rfl ?_
   by_cases c122 : (2 : Int32) = u1
   ·
    have bd123 : ¬ u1 < (2 : Int32) ∧ ¬ (2 : Int32) < u1 := ⟨(bnd_eql (c122.symm)), (bnd_eqr (c122.symm))⟩
    refine Home.st (own_pure (own_face XJ120 hx hZ hown (own_w143 hw) (own_w144 hw) (mvT hZ (own_w145 hw)) (own_w146 hw) (own_w147 hw) (own_w148 hw) (own_w149 hw) (own_w150 hw) (own_w130 hw) (own_w151 hw) (by decide) (rm22_5 l Z a0 hw [] b1_88 o0 u1 T112.heap n0 O112 P112_3 P112_1 (F_size_o0.keep K112 nin0) bd123) eJ120 P112_0 rfl (by rw [hml]; rfl) (argsL := []) (rest := []) (lenOf own_pd11 rfl) rfl rfl (W := 0) (by exact hW0) (by decide) (by decide) (hb hby d19_48) (by decide) (by decide))) fun T125 X125 e125 => ?_
    refine Home.go (fun _ => XS.ifYes X125.here hx rfl (pc0 := 53) (pc' := 88) rfl (hb hby d19_53) rfl ((if0 _ _).trans (teq (by decide)).1) (by decide) (by decide)) ?_
    have k145 : Keep T88.heap T112.heap [b1_88] := K90q.trans K112q (allS (Or.inl (List.mem_of_getElem? (i := 0) rfl)) all0)
    exact J141 X125 NJ120 e125 k145 v121 (by subst hv121; subst hr116; subst hv105; subst hr100; simp only [if_neg c106, if_pos c122]) (.val (.ref p6)) (Or.inr ⟨_, rfl, rfl⟩)
   ·
    have bd124 : ¬ u1 < (3 : Int32) ∧ ¬ (3 : Int32) < u1 := ⟨(bnd_nel bd108.1 (Ne.symm c122) (by decide +kernel)), bd108.2⟩
    refine Home.st (own_pure (own_face XJ120 hx hZ hown (own_w143 hw) (own_w144 hw) (mvT hZ (own_w145 hw)) (own_w146 hw) (own_w147 hw) (own_w148 hw) (own_w149 hw) (own_w150 hw) (own_w130 hw) (own_w151 hw) (by decide) (rm22_6 l Z a0 hw [] b1_88 o0 u1 T112.heap n0 O112 P112_3 P112_1 (F_size_o0.keep K112 nin0) bd124) eJ120 P112_0 rfl (by rw [hml]; rfl) (argsL := []) (rest := []) (lenOf own_pd11 rfl) rfl rfl (W := 0) (by exact hW0) (by decide) (by decide) (hb hby d19_48) (by decide) (by decide))) fun T126 X126 e126 => ?_
    refine Home.go (fun _ => XS.ifNo X126.here hx rfl (hb hby d19_53) rfl ((if0 _ _).trans (feq (by decide)).1)) ?_
    have ne127 : p3 ≠ b1_88 := (Nat.ne_of_lt (Nat.lt_of_lt_of_le V_p3.lt (Nat.le_trans le96 sz_b1_88)))
    have q128 := (V111.keep K112q (ninS ne127 nin0))
    have V129 : Arv Z T112.heap p3 k_p3 (.object "java/lang/Object") (10 : Int32) [(.ref p5), (.ref p6), (.ref p7), .null, .null, .null, .null, .null, .null, .null] .null := by have q := q128; rw [own_el2_is (k := p7) (bnd_fix bd124)] at q; exact q
    refine Home.run X126 hx hby sg19_56_1 (pc' := 58) (L' := #[sr o0, sr o1, sr b1, sr b1_3, sr p9, .val v121, sr b1_88, sr p6]) (S' := [(.ref b1_88)]) rfl ?_
    refine Home.call (own_face X126 hx hZ hown (own_w164 hw) (own_w165 hw) (mvT hZ (own_w166 hw)) (own_w167 hw) (own_w168 hw) (own_w169 hw) (own_w170 hw) (own_w150 hw) (own_w130 hw) (own_w171 hw) (by decide) (rm24_3 l Z a0 hw [] b1_88 o0 u1 p3 k_p3 p5 p6 p7 T112.heap n0 O112 P112_0 P112_1 (F_modCount_o0.keep K112 nin0) P112_2 P112_3 (F_size_o0.keep K112 nin0) bd124 (F_elementData_o0.keep K112 nin0) V129 g_b1_88 P112_4) e126 P112_0 rfl (by rw [hml]; rfl) (argsL := []) (rest := []) (lenOf own_pd18 rfl) rfl rfl (W := 0) (by exact hW0) (by decide) (by decide) (hb hby d19_58) (by decide) (by decide)) ?_
    rintro _ T130 L130 X130 ⟨rfl, N130q, K130q, P130_0, P130_1, P130_2, P130_3, P130_4⟩
    have O130 := Old.keep O112 K130q (allS g_b1_88 all0)
    have K130 : Keep h0 T130.heap ([] : List Addr) := Keep.trans K112 K130q (allS (Or.inr (Nat.le_trans le96 sz_b1_88)) all0)
    have N130 := Fr.app NJ120 N130q
    refine Home.st (castY X130 hx hZ hown (own_w179 hw) rfl (Ins.self (E_p7.keep K130)) rfl rfl (hb hby d19_63)) fun T131 X131 e131 => ?_
    refine Home.run X131 hx hby sg19_66_2 (pc' := 70) (L' := #[sr o0, sr o1, sr b1, sr b1_3, sr p9, .val v121, sr b1_88, sr p7]) (S' := [(.ref p7)]) rfl ?_
    refine Home.st (own_pure (own_virtual X131 hx hZ hown (own_w181 hw) (own_w182 hw) (notFace_of_selects (args := #[]) (mvT hZ (own_w184 hw))) (own_w184 hw) (own_w183 hw) (own_w2 hw) (own_w185 hw) (by decide) (rm26_0 l Z a0 hw [] p7 p13 T130.heap n0 O130 (F_name_p7.keep K130 nin0)) e131 (E_p7.keep K130) rfl (by rw [hml]; rfl) (argsL := []) (rest := []) (lenOf own_pd19 rfl) rfl rfl (W := 0) (by exact hW0) (by decide) (by decide) (hb hby d19_70) (by decide) (by decide))) fun T132 X132 e132 => ?_
    show Home T132 (mkF m 73 #[sr o0, sr o1, sr b1, sr b1_3, sr p9, .val v121, sr b1_88, sr p7] [(.ref p13)])
    refine Home.run X132 hx hby sg19_73_1 (pc' := 75) (L' := #[sr o0, sr o1, sr b1, sr b1_3, sr p9, .val v121, sr b1_88, sr p7]) (S' := [(.ref p9), (.ref p13)]) rfl ?_
    refine Home.st (own_pure (own_virtual X132 hx hZ hown (own_w186 hw) (own_w187 hw) (notFace_of_selects (args := #[]) (mvT hZ (own_w189 hw))) (own_w189 hw) (own_w188 hw) (own_w5 hw) (own_w190 hw) (by decide) (rm27_0 l Z a0 hw [] p13 p9 sv_COMPACT_STRINGS p19 p15 k_p19 u7 k_p15 u3 T130.heap n0 O130 (E_p13.keep K130) (E_p9.keep K130) ne_p13_p9 S_COMPACT_STRINGS hCS (F_coder_p13.keep K130 nin0) (F_coder_p9.keep K130 nin0) (F_value_p13.keep K130 nin0) (F_value_p9.keep K130 nin0) (V_p19.keep K130 nin0) (V_p15.keep K130 nin0)) e132 (E_p13.keep K130) rfl (by rw [hml]; rfl) (argsL := [(.ref p9)]) (rest := []) (lenOf own_pd17 rfl) rfl rfl (W := 0) (by exact hW0) (by decide) (by decide) (hb hby d19_75) (by decide) (by decide))) fun T133 X133 e133 => ?_
    show Home T133 (mkF m 78 #[sr o0, sr o1, sr b1, sr b1_3, sr p9, .val v121, sr b1_88, sr p7] [(.int (f_rm27_0 u7 u3))])
    obtain ⟨r134, hr134⟩ : ∃ z, z = (f_rm27_0 u7 u3) := ⟨_, rfl⟩
    rw [← hr134]
    have br134 : ¬ r134 < (0 : Int32) ∧ ¬ (1 : Int32) < r134 := by rw [hr134]; exact f_rm27_0_bnd u7 u3
    suffices J138 : ∀ {T : State} {lc : List Loc} (X : Stand p l e ({ frames := 5, cells := 6, slots := 29, locals := 69 } : Room) s m #[(.ref o0), (.ref o1)] below meth c T lc 5 25) (N : Fr n0 lc) (eT : T.heap = T130.heap) (v139 : Value) (hv139 : v139 = (if r134 = (0 : Int32) then v121 else (.ref p7))), @Home p e below _ T (mkF m 85 #[sr o0, sr o1, sr b1, sr b1_3, sr p9, .val v139, sr b1_88, sr p7] []) by
     by_cases c135 : r134 = (0 : Int32)
     ·
      refine Home.go (fun _ => XS.ifYes X133.here hx rfl (pc0 := 78) (pc' := 85) rfl (hb hby d19_78) rfl ((if0 _ _).trans (teq c135).1) (by decide) (by decide)) ?_
      have bd136 : ¬ r134 < (0 : Int32) ∧ ¬ (0 : Int32) < r134 := ⟨(bnd_eql c135), (bnd_eqr c135)⟩
      exact J138 X133 N130 e133 _ (by simp only [if_pos c135])
     ·
      refine Home.go (fun _ => XS.ifNo X133.here hx rfl (hb hby d19_78) rfl ((if0 _ _).trans (feq c135).1)) ?_
      have bd137 : ¬ r134 < (1 : Int32) ∧ ¬ (1 : Int32) < r134 := ⟨(bnd_nel br134.1 c135 (by decide +kernel)), br134.2⟩
      refine Home.run X133 hx hby sg19_81_1 (pc' := 83) (L' := #[sr o0, sr o1, sr b1, sr b1_3, sr p9, .val v121, sr b1_88, sr p7]) (S' := [(.ref p7)]) rfl ?_
      refine Home.go (fun _ => XS.astore X133.here hx rfl (hb hby d19_83) rfl rfl (l' := #[.val (.ref o0), .val (.ref o1), .val (.ref b1), .val (.ref b1_3), .val (.ref p9), .val (.ref p7), .val (.ref b1_88), .val (.ref p7)]) (XS.store1 rfl (Or.inr ⟨_, rfl, (cat1_of isr_v121)⟩) rfl)) ?_
      exact J138 X133 N130 e133 _ (by simp only [if_neg c135])
    intro TJ138 lcJ138 XJ138 NJ138 eJ138 v139 hv139
    have isr_v139 : v139.isRef = true := by rw [hv139]; exact (own_itR (by assumption) rfl)
    show Home TJ138 (mkF m 85 #[sr o0, sr o1, sr b1, sr b1_3, sr p9, .val v139, sr b1_88, sr p7] [])
    refine Home.run XJ138 hx hby sg19_85_1 (pc' := 46) (L' := #[sr o0, sr o1, sr b1, sr b1_3, sr p9, .val v139, sr b1_88, sr p7]) (S' := []) rfl ?_
    refine Home.run XJ138 hx hby sg19_46_1 (pc' := 48) (L' := #[sr o0, sr o1, sr b1, sr b1_3, sr p9, .val v139, sr b1_88, sr p7]) (S' := [(.ref b1_88)]) rfl ?_
    refine Home.st (own_pure (own_face XJ138 hx hZ hown (own_w143 hw) (own_w144 hw) (mvT hZ (own_w145 hw)) (own_w146 hw) (own_w147 hw) (own_w148 hw) (own_w149 hw) (own_w150 hw) (own_w130 hw) (own_w151 hw) (by decide) (rm22_7 l Z a0 hw [] b1_88 o0 u1 T130.heap n0 O130 P130_3 P130_1 (F_size_o0.keep K130 nin0) bd124) eJ138 P130_0 rfl (by rw [hml]; rfl) (argsL := []) (rest := []) (lenOf own_pd11 rfl) rfl rfl (W := 0) (by exact hW0) (by decide) (by decide) (hb hby d19_48) (by decide) (by decide))) fun T140 X140 e140 => ?_
    refine Home.go (fun _ => XS.ifYes X140.here hx rfl (pc0 := 53) (pc' := 88) rfl (hb hby d19_53) rfl ((if0 _ _).trans (teq (by decide)).1) (by decide) (by decide)) ?_
    have k148 : Keep T88.heap T112.heap [b1_88] := K90q.trans K112q (allS (Or.inl (List.mem_of_getElem? (i := 0) rfl)) all0)
    have k147 : Keep T88.heap T130.heap [b1_88] := k148.trans K130q (allS (Or.inl (List.mem_of_getElem? (i := 0) rfl)) all0)
    exact J141 X140 NJ138 e140 k147 v139 (by subst hv139; subst hr134; subst hv121; subst hr116; subst hv105; subst hr100; simp only [if_neg c106, if_neg c122]) (.val (.ref p7)) (Or.inr ⟨_, rfl, rfl⟩)
 intro TJ141 lcJ141 hJ141 XJ141 NJ141 eJ141 KqJ141 v142 hv142 v143 hv143
 have le150 : h0.size ≤ T3.heap.size := Nat.le_trans le6 K3q.1
 have le151 : h0.size ≤ T5.heap.size := Nat.le_trans le150 K5q.1
 have le152 : h0.size ≤ T8.heap.size := Nat.le_trans le151 K8q.1
 have le153 : h0.size ≤ hJ57.size := Nat.le_trans le152 KqJ57.1
 have le154 : h0.size ≤ T77.heap.size := Nat.le_trans le153 K77q.1
 have le155 : h0.size ≤ T86.heap.size := Nat.le_trans le154 K86q.1
 have OJ141 := Old.keep O88 KqJ141 (allS g_b1_88 all0)
 have KJ141 : Keep h0 hJ141 ([] : List Addr) := Keep.trans K88 KqJ141 (allS (Or.inr (Nat.le_trans le155 sz_b1_88)) all0)
 have isr_v142 : v142.isRef = true := by rw [hv142]; exact (own_itR (own_itR rfl rfl) (own_itR (own_itR (own_itR rfl rfl) rfl) (own_itR (own_itR (own_itR rfl rfl) rfl) rfl)))
 show Home TJ141 (mkF m 88 #[sr o0, sr o1, sr b1, sr b1_3, sr p9, .val v142, sr b1_88, v143] [])
 refine Home.go (fun _ => XS.aload XJ141.here hx rfl (hb hby d19_88) rfl (isr_v142)) ?_
 have e156_0 := (E_p5.keep KJ141)
 have e156_1 := (E_p6.keep KJ141)
 have e156_2 := (E_p7.keep KJ141)
 have hT156 : v142 = ((if (1 : Int32) = u1 then (if (f_rm27_0 u5 u3) = (0 : Int32) then .null else (.ref p5)) else (if (2 : Int32) = u1 then (if (f_rm27_0 u6 u3) = (0 : Int32) then (if (f_rm27_0 u5 u3) = (0 : Int32) then .null else (.ref p5)) else (.ref p6)) else (if (f_rm27_0 u7 u3) = (0 : Int32) then (if (f_rm27_0 u6 u3) = (0 : Int32) then (if (f_rm27_0 u5 u3) = (0 : Int32) then .null else (.ref p5)) else (.ref p6)) else (.ref p7)))) : Value) := by subst hv142; rfl
 obtain ⟨a156, ha156⟩ : ∃ a, v142 = .ref a := (ref_cases isr_v142).resolve_left (fun q => nn156 (hT156.symm.trans q))
 have nq156 : ((if (1 : Int32) = u1 then (if (f_rm27_0 u5 u3) = (0 : Int32) then .null else (.ref p5)) else (if (2 : Int32) = u1 then (if (f_rm27_0 u6 u3) = (0 : Int32) then (if (f_rm27_0 u5 u3) = (0 : Int32) then .null else (.ref p5)) else (.ref p6)) else (if (f_rm27_0 u7 u3) = (0 : Int32) then (if (f_rm27_0 u6 u3) = (0 : Int32) then (if (f_rm27_0 u5 u3) = (0 : Int32) then .null else (.ref p5)) else (.ref p6)) else (.ref p7)))) : Value) = .ref a156 := hT156.symm.trans ha156
 have E156a : Exa Z hJ141 a156 "com/example/wary_meter/warymeter/Column" := own_itE nq156 (fun q => own_itE q (fun q => nomatch q) (fun q => own_leE q e156_0)) (fun q => own_itE q (fun q => own_itE q (fun q => own_itE q (fun q => nomatch q) (fun q => own_leE q e156_0)) (fun q => own_leE q e156_1)) (fun q => own_itE q (fun q => own_itE q (fun q => own_itE q (fun q => nomatch q) (fun q => own_leE q e156_0)) (fun q => own_leE q e156_1)) (fun q => own_leE q e156_2)))
 subst ha156
 show Home TJ141 (mkF m 90 #[sr o0, sr o1, sr b1, sr b1_3, sr p9, sr a156, sr b1_88, v143] [(.ref a156)])
 refine Home.go (fun _ => XS.ifnonnullYes XJ141.here hx rfl (pc0 := 90) (pc' := 108) rfl (hb hby d19_90) rfl (by decide) (by decide)) ?_
 show Home TJ141 (mkF m 108 #[sr o0, sr o1, sr b1, sr b1_3, sr p9, sr a156, sr b1_88, v143] [])
 refine Home.run XJ141 hx hby sg19_108_2 (pc' := 111) (L' := #[sr o0, sr o1, sr b1, sr b1_3, sr p9, sr a156, sr b1_88, v143]) (S' := [(.ref a156), (.ref b1)]) rfl ?_
 have q157 := (((P77_1.keep K86q).keep K88q).keep KqJ141)
 have le158 : h1.size ≤ T8.heap.size := Nat.le_trans le72 K8q.1
 have le159 : h1.size ≤ hJ57.size := Nat.le_trans le158 KqJ57.1
 have le160 : h1.size ≤ T77.heap.size := Nat.le_trans le159 K77q.1
 have le161 : h1.size ≤ T86.heap.size := Nat.le_trans le160 K86q.1
 have ne162 : b1 ≠ b1_88 := (Nat.ne_of_lt (Nat.lt_of_lt_of_le A1.lt (Nat.le_trans le161 sz_b1_88)))
 have q163 := (((P77_0.keep K86q (ninS ne70 nin0)).keep K88q nin0).keep KqJ141 (ninS ne162 nin0))
 have q164 := (((P77_2.keep K86q (ninS ne70 nin0)).keep K88q nin0).keep KqJ141 (ninS ne162 nin0))
 have q165 := (((P77_3.keep K86q (ninS ne70 nin0)).keep K88q nin0).keep KqJ141 (ninS ne162 nin0))
 have le166 : T3.heap.size ≤ T8.heap.size := Nat.le_trans K5q.1 K8q.1
 have le167 : T3.heap.size ≤ hJ57.size := Nat.le_trans le166 KqJ57.1
 have ne168 : b6_2_2_7_77 ≠ b1_3 := (Ne.symm (Nat.ne_of_lt (Nat.lt_of_lt_of_le P3_0.lt (Nat.le_trans le167 sz_b6_2_2_7_77))))
 have ne169 : b6_2_2_7_77 ≠ b1_88 := (Nat.ne_of_lt (Nat.lt_of_lt_of_le P77_4.lt (Nat.le_trans K86q.1 sz_b1_88)))
 have q170 := (((P77_4.keep K86q (ninS ne168 nin0)).keep K88q nin0).keep KqJ141 (ninS ne169 nin0))
 refine Home.call (own_face XJ141 hx hZ hown (own_w194 hw) (own_w74 hw) (mvT hZ (own_w75 hw)) (own_w76 hw) (own_w77 hw) (own_w78 hw) (own_w79 hw) (own_w80 hw) (own_w51 hw) (own_w81 hw) (by decide) (rm12_1 l Z a0 hw [] b1 a156 b6_2_2_7_77 k6_2_2_7_77 a68 hJ141 n0 OJ141 q163 q157 g_b1 q164 q165 q170 P77_5 E156a g_b6_2_2_7_77) eJ141 q157 rfl (by rw [hml]; rfl) (argsL := [(.ref a156)]) (rest := []) (lenOf own_pd17 rfl) rfl rfl (W := 0) (by exact hW0) (by decide) (by decide) (hb hby d19_111) (by decide) (by decide)) ?_
 rintro _ T171 L171 X171 ⟨rfl, N171q, K171q, P171_0, P171_1, P171_2, P171_3, P171_4⟩
 have le172 : h0.size ≤ T3.heap.size := Nat.le_trans le6 K3q.1
 have le173 : h0.size ≤ T5.heap.size := Nat.le_trans le172 K5q.1
 have le174 : h0.size ≤ T8.heap.size := Nat.le_trans le173 K8q.1
 have le175 : h0.size ≤ hJ57.size := Nat.le_trans le174 KqJ57.1
 have O171 := Old.keep OJ141 K171q (allS g_b1 (allS g_b6_2_2_7_77 all0))
 have K171 : Keep h0 T171.heap ([] : List Addr) := Keep.trans KJ141 K171q (allS (Or.inr (Nat.le_trans (Nat.le_refl _) (Nat.le_of_eq g1.symm))) (allS (Or.inr (Nat.le_trans le175 sz_b6_2_2_7_77)) all0))
 have N171 := Fr.app NJ141 N171q
 show Home T171 (mkF m 116 #[sr o0, sr o1, sr b1, sr b1_3, sr p9, sr a156, sr b1_88, v143] [(.int (1 : Int32))])
 refine Home.run X171 hx hby sg19_116_3 (pc' := 16) (L' := #[sr o0, sr o1, sr b1, sr b1_3, sr p9, sr a156, sr b1_88, v143]) (S' := [(.ref b1_3)]) rfl ?_
 have q176 := (((P86_0.keep K88q).keep KqJ141).keep K171q)
 have le177 : T3.heap.size ≤ T77.heap.size := Nat.le_trans le167 K77q.1
 have le178 : T3.heap.size ≤ T86.heap.size := Nat.le_trans le177 K86q.1
 have ne179 : b1_3 ≠ b1_88 := (Nat.ne_of_lt (Nat.lt_of_lt_of_le P3_0.lt (Nat.le_trans le178 sz_b1_88)))
 have ne180 : b1_3 ≠ b6_2_2_7_77 := (Ne.symm ne168)
 have q181 := (((P86_3.keep K88q nin0).keep KqJ141 (ninS ne179 nin0)).keep K171q (ninS ne80 (ninS ne180 nin0)))
 have q182 := (((P86_1.keep K88q nin0).keep KqJ141 (ninS ne179 nin0)).keep K171q (ninS ne80 (ninS ne180 nin0)))
 refine Home.st (own_pure (own_face X171 hx hZ hown (own_w143 hw) (own_w144 hw) (mvT hZ (own_w145 hw)) (own_w146 hw) (own_w147 hw) (own_w148 hw) (own_w149 hw) (own_w150 hw) (own_w130 hw) (own_w151 hw) (by decide) (rm22_6 l Z a0 hw [] b1_3 o1 (3 : Int32) T171.heap n0 O171 q181 q182 (F_size_o1.keep K171 nin0) (bnd_lit (3 : Int32))) rfl q176 rfl (by rw [hml]; rfl) (argsL := []) (rest := []) (lenOf own_pd11 rfl) rfl rfl (W := 0) (by exact hW0) (by decide) (by decide) (hb hby d19_16) (by decide) (by decide))) fun T183 X183 e183 => ?_
 refine Home.go (fun _ => XS.ifNo X183.here hx rfl (hb hby d19_21) rfl ((if0 _ _).trans (feq (by decide)).1)) ?_
 refine Home.run X183 hx hby sg19_24_1 (pc' := 25) (L' := #[sr o0, sr o1, sr b1, sr b1_3, sr p9, sr a156, sr b1_88, v143]) (S' := [(.ref b1_3)]) rfl ?_
 have q184 := (((P86_2.keep K88q nin0).keep KqJ141 (ninS ne179 nin0)).keep K171q (ninS ne80 (ninS ne180 nin0)))
 have q185 := (((P86_4.keep K88q nin0).keep KqJ141 (ninS ne179 nin0)).keep K171q (ninS ne80 (ninS ne180 nin0)))
 refine Home.call (own_face X183 hx hZ hown (own_w164 hw) (own_w165 hw) (mvT hZ (own_w166 hw)) (own_w167 hw) (own_w168 hw) (own_w169 hw) (own_w170 hw) (own_w150 hw) (own_w130 hw) (own_w171 hw) (by decide) (rm24_3 l Z a0 hw [] b1_3 o1 (3 : Int32) p4 k_p4 p8 p9 p10 T171.heap n0 O171 q176 q182 (F_modCount_o1.keep K171 nin0) q184 q181 (F_size_o1.keep K171 nin0) (bnd_lit (3 : Int32)) (F_elementData_o1.keep K171 nin0) (V_p4.keep K171 nin0) g_b1_3 q185) e183 q176 rfl (by rw [hml]; rfl) (argsL := []) (rest := []) (lenOf own_pd18 rfl) rfl rfl (W := 0) (by exact hW0) (by decide) (by decide) (hb hby d19_25) (by decide) (by decide)) ?_
 rintro _ T186 L186 X186 ⟨rfl, N186q, K186q, P186_0, P186_1, P186_2, P186_3, P186_4⟩
 have O186 := Old.keep O171 K186q (allS g_b1_3 all0)
 have K186 : Keep h0 T186.heap ([] : List Addr) := Keep.trans K171 K186q (allS (Or.inr (Nat.le_trans le6 sz_b1_3)) all0)
 have N186 := Fr.app N171 N186q
 show Home T186 (mkF m 30 #[sr o0, sr o1, sr b1, sr b1_3, sr p9, sr a156, sr b1_88, v143] [(.ref p10)])
 refine Home.st (castY X186 hx hZ hown (own_w178 hw) rfl (Ins.self (E_p10.keep K186)) rfl rfl (hb hby d19_30)) fun T187 X187 e187 => ?_
 refine Home.run X187 hx hby sg19_33_4 (pc' := 39) (L' := #[sr o0, sr o1, sr b1, sr b1_3, sr p10, .val .null, sr b1_88, v143]) (S' := [(.ref o0)]) rfl ?_
 refine Home.call (own_face X187 hx hZ hown (own_w120 hw) (own_w121 hw) (mvT hZ (own_w122 hw)) (own_w123 hw) (own_w124 hw) (own_w125 hw) (own_w126 hw) (own_w80 hw) (own_w51 hw) (own_w127 hw) (by decide) (rm20_2 l Z a0 hw [] o0 u1 T186.heap n0 O186 (F_modCount_o0.keep K186 nin0) (E_o0.keep K186)) e187 (E_o0.keep K186) rfl (by rw [hml]; rfl) (argsL := []) (rest := []) (lenOf own_pd10 rfl) rfl rfl (W := 0) (by exact hW0) (by decide) (by decide) (hb hby d19_39) (by decide) (by decide)) ?_
 rintro _ T188 L188 X188 ⟨b1_188, rfl, N188q, sz_b1_188, K188q, P188_0, P188_1, P188_2, P188_3, P188_4⟩
 have g_b1_188 : n0 ≤ b1_188 := Nat.le_trans (Old.le O186) sz_b1_188
 have O188 := Old.keep O186 K188q all0
 have K188 : Keep h0 T188.heap ([] : List Addr) := Keep.trans K186 K188q all0
 have N188 := Fr.app N186 N188q
 refine Home.run X188 hx hby sg19_44_1 (pc' := 46) (L' := #[sr o0, sr o1, sr b1, sr b1_3, sr p10, .val .null, sr b1_188, v143]) (S' := []) rfl ?_
 refine Home.cut (C := fun E => ∀ {T : State} {lc : List Loc} {hJ : Heap} (X : Stand p l e ({ frames := 5, cells := 6, slots := 29, locals := 69 } : Room) s m #[(.ref o0), (.ref o1)] below meth c T lc 6 29) (N : Fr n0 lc) (eT : T.heap = hJ) (Kq : Keep T188.heap hJ ([b1_188] : List Addr)) (v242 : Value) (hv242 : v242 = ((if (1 : Int32) = u1 then (if (f_rm27_0 u5 u4) = (0 : Int32) then .null else (.ref p5)) else (if (2 : Int32) = u1 then (if (f_rm27_0 u6 u4) = (0 : Int32) then (if (f_rm27_0 u5 u4) = (0 : Int32) then .null else (.ref p5)) else (.ref p6)) else (if (f_rm27_0 u7 u4) = (0 : Int32) then (if (f_rm27_0 u6 u4) = (0 : Int32) then (if (f_rm27_0 u5 u4) = (0 : Int32) then .null else (.ref p5)) else (.ref p6)) else (.ref p7)))) : Value)) (v243 : Slot) (hv243 : v243 = .unset ∨ ∃ w, v243 = .val w ∧ w.category = 1), @Home p e below E T (mkF m 88 #[sr o0, sr o1, sr b1, sr b1_3, sr p10, .val v242, sr b1_188, v243] [])) (fun _ J241 => ?_) ?_
 ·
  refine Home.run X188 hx hby sg19_46_1 (pc' := 48) (L' := #[sr o0, sr o1, sr b1, sr b1_3, sr p10, .val .null, sr b1_188, v143]) (S' := [(.ref b1_188)]) rfl ?_
  refine Home.st (own_pure (own_face X188 hx hZ hown (own_w143 hw) (own_w144 hw) (mvT hZ (own_w145 hw)) (own_w146 hw) (own_w147 hw) (own_w148 hw) (own_w149 hw) (own_w150 hw) (own_w130 hw) (own_w151 hw) (by decide) (rm22_2 l Z a0 hw [] b1_188 o0 u1 T188.heap n0 O188 P188_4 P188_1 (F_size_o0.keep K188 nin0) bnd_u1) rfl P188_0 rfl (by rw [hml]; rfl) (argsL := []) (rest := []) (lenOf own_pd11 rfl) rfl rfl (W := 0) (by exact hW0) (by decide) (by decide) (hb hby d19_48) (by decide) (by decide))) fun T189 X189 e189 => ?_
  refine Home.go (fun _ => XS.ifNo X189.here hx rfl (hb hby d19_53) rfl ((if0 _ _).trans (feq (by decide)).1)) ?_
  refine Home.run X189 hx hby sg19_56_1 (pc' := 58) (L' := #[sr o0, sr o1, sr b1, sr b1_3, sr p10, .val .null, sr b1_188, v143]) (S' := [(.ref b1_188)]) rfl ?_
  refine Home.call (own_face X189 hx hZ hown (own_w164 hw) (own_w165 hw) (mvT hZ (own_w166 hw)) (own_w167 hw) (own_w168 hw) (own_w169 hw) (own_w170 hw) (own_w150 hw) (own_w130 hw) (own_w171 hw) (by decide) (rm24_1 l Z a0 hw [] b1_188 o0 u1 p3 k_p3 p5 p6 p7 T188.heap n0 O188 P188_0 P188_1 (F_modCount_o0.keep K188 nin0) P188_3 P188_4 (F_size_o0.keep K188 nin0) bnd_u1 (F_elementData_o0.keep K188 nin0) (V_p3.keep K188 nin0) g_b1_188 P188_2) e189 P188_0 rfl (by rw [hml]; rfl) (argsL := []) (rest := []) (lenOf own_pd18 rfl) rfl rfl (W := 0) (by exact hW0) (by decide) (by decide) (hb hby d19_58) (by decide) (by decide)) ?_
  rintro _ T190 L190 X190 ⟨rfl, N190q, K190q, P190_0, P190_1, P190_2, P190_3, P190_4⟩
  have le191 : h0.size ≤ T77.heap.size := Nat.le_trans le175 K77q.1
  have le192 : h0.size ≤ T86.heap.size := Nat.le_trans le191 K86q.1
  have le193 : h0.size ≤ T88.heap.size := Nat.le_trans le192 K88q.1
  have le194 : h0.size ≤ hJ141.size := Nat.le_trans le193 KqJ141.1
  have le195 : h0.size ≤ T171.heap.size := Nat.le_trans le194 K171q.1
  have le196 : h0.size ≤ T186.heap.size := Nat.le_trans le195 K186q.1
  have O190 := Old.keep O188 K190q (allS g_b1_188 all0)
  have K190 : Keep h0 T190.heap ([] : List Addr) := Keep.trans K188 K190q (allS (Or.inr (Nat.le_trans le196 sz_b1_188)) all0)
  have N190 := Fr.app N188 N190q
  show Home T190 (mkF m 63 #[sr o0, sr o1, sr b1, sr b1_3, sr p10, .val .null, sr b1_188, v143] [(.ref p5)])
  refine Home.st (castY X190 hx hZ hown (own_w179 hw) rfl (Ins.self (E_p5.keep K190)) rfl rfl (hb hby d19_63)) fun T197 X197 e197 => ?_
  refine Home.go (fun _ => XS.astore X197.here hx rfl (hb hby d19_66) rfl rfl (l' := #[.val (.ref o0), .val (.ref o1), .val (.ref b1), .val (.ref b1_3), .val (.ref p10), .val .null, .val (.ref b1_188), .val (.ref p5)]) (XS.store1 rfl hv143 rfl)) ?_
  refine Home.run X197 hx hby sg19_68_1 (pc' := 70) (L' := #[sr o0, sr o1, sr b1, sr b1_3, sr p10, .val .null, sr b1_188, sr p5]) (S' := [(.ref p5)]) rfl ?_
  refine Home.st (own_pure (own_virtual X197 hx hZ hown (own_w181 hw) (own_w182 hw) (notFace_of_selects (args := #[]) (mvT hZ (own_w184 hw))) (own_w184 hw) (own_w183 hw) (own_w2 hw) (own_w185 hw) (by decide) (rm26_0 l Z a0 hw [] p5 p11 T190.heap n0 O190 (F_name_p5.keep K190 nin0)) e197 (E_p5.keep K190) rfl (by rw [hml]; rfl) (argsL := []) (rest := []) (lenOf own_pd19 rfl) rfl rfl (W := 0) (by exact hW0) (by decide) (by decide) (hb hby d19_70) (by decide) (by decide))) fun T198 X198 e198 => ?_
  refine Home.run X198 hx hby sg19_73_1 (pc' := 75) (L' := #[sr o0, sr o1, sr b1, sr b1_3, sr p10, .val .null, sr b1_188, sr p5]) (S' := [(.ref p10), (.ref p11)]) rfl ?_
  refine Home.st (own_pure (own_virtual X198 hx hZ hown (own_w186 hw) (own_w187 hw) (notFace_of_selects (args := #[]) (mvT hZ (own_w189 hw))) (own_w189 hw) (own_w188 hw) (own_w5 hw) (own_w190 hw) (by decide) (rm27_0 l Z a0 hw [] p11 p10 sv_COMPACT_STRINGS p17 p16 k_p17 u5 k_p16 u4 T190.heap n0 O190 (E_p11.keep K190) (E_p10.keep K190) ne_p11_p10 S_COMPACT_STRINGS hCS (F_coder_p11.keep K190 nin0) (F_coder_p10.keep K190 nin0) (F_value_p11.keep K190 nin0) (F_value_p10.keep K190 nin0) (V_p17.keep K190 nin0) (V_p16.keep K190 nin0)) e198 (E_p11.keep K190) rfl (by rw [hml]; rfl) (argsL := [(.ref p10)]) (rest := []) (lenOf own_pd17 rfl) rfl rfl (W := 0) (by exact hW0) (by decide) (by decide) (hb hby d19_75) (by decide) (by decide))) fun T199 X199 e199 => ?_
  show Home T199 (mkF m 78 #[sr o0, sr o1, sr b1, sr b1_3, sr p10, .val .null, sr b1_188, sr p5] [(.int (f_rm27_0 u5 u4))])
  obtain ⟨r200, hr200⟩ : ∃ z, z = (f_rm27_0 u5 u4) := ⟨_, rfl⟩
  rw [← hr200]
  have br200 : ¬ r200 < (0 : Int32) ∧ ¬ (1 : Int32) < r200 := by rw [hr200]; exact f_rm27_0_bnd u5 u4
  suffices J204 : ∀ {T : State} {lc : List Loc} (X : Stand p l e ({ frames := 5, cells := 6, slots := 29, locals := 69 } : Room) s m #[(.ref o0), (.ref o1)] below meth c T lc 6 29) (N : Fr n0 lc) (eT : T.heap = T190.heap) (v205 : Value) (hv205 : v205 = (if r200 = (0 : Int32) then .null else (.ref p5))), @Home p e below _ T (mkF m 85 #[sr o0, sr o1, sr b1, sr b1_3, sr p10, .val v205, sr b1_188, sr p5] []) by
   by_cases c201 : r200 = (0 : Int32)
   ·
    refine Home.go (fun _ => XS.ifYes X199.here hx rfl (pc0 := 78) (pc' := 85) rfl (hb hby d19_78) rfl ((if0 _ _).trans (teq c201).1) (by decide) (by decide)) ?_
    have bd202 : ¬ r200 < (0 : Int32) ∧ ¬ (0 : Int32) < r200 := ⟨(bnd_eql c201), (bnd_eqr c201)⟩
    exact J204 X199 N190 e199 _ (by simp only [if_pos c201])
   ·
    refine Home.go (fun _ => XS.ifNo X199.here hx rfl (hb hby d19_78) rfl ((if0 _ _).trans (feq c201).1)) ?_
    have bd203 : ¬ r200 < (1 : Int32) ∧ ¬ (1 : Int32) < r200 := ⟨(bnd_nel br200.1 c201 (by decide +kernel)), br200.2⟩
    refine Home.run X199 hx hby sg19_81_2 (pc' := 85) (L' := #[sr o0, sr o1, sr b1, sr b1_3, sr p10, sr p5, sr b1_188, sr p5]) (S' := []) rfl ?_
    exact J204 X199 N190 e199 _ (by simp only [if_neg c201])
  intro TJ204 lcJ204 XJ204 NJ204 eJ204 v205 hv205
  have isr_v205 : v205.isRef = true := by rw [hv205]; exact (own_itR rfl rfl)
  show Home TJ204 (mkF m 85 #[sr o0, sr o1, sr b1, sr b1_3, sr p10, .val v205, sr b1_188, sr p5] [])
  refine Home.run XJ204 hx hby sg19_85_1 (pc' := 46) (L' := #[sr o0, sr o1, sr b1, sr b1_3, sr p10, .val v205, sr b1_188, sr p5]) (S' := []) rfl ?_
  refine Home.run XJ204 hx hby sg19_46_1 (pc' := 48) (L' := #[sr o0, sr o1, sr b1, sr b1_3, sr p10, .val v205, sr b1_188, sr p5]) (S' := [(.ref b1_188)]) rfl ?_
  by_cases c206 : (1 : Int32) = u1
  ·
   have bd207 : ¬ u1 < (1 : Int32) ∧ ¬ (1 : Int32) < u1 := ⟨(bnd_eql (c206.symm)), (bnd_eqr (c206.symm))⟩
   refine Home.st (own_pure (own_face XJ204 hx hZ hown (own_w143 hw) (own_w144 hw) (mvT hZ (own_w145 hw)) (own_w146 hw) (own_w147 hw) (own_w148 hw) (own_w149 hw) (own_w150 hw) (own_w130 hw) (own_w151 hw) (by decide) (rm22_3 l Z a0 hw [] b1_188 o0 u1 T190.heap n0 O190 P190_3 P190_1 (F_size_o0.keep K190 nin0) bd207) eJ204 P190_0 rfl (by rw [hml]; rfl) (argsL := []) (rest := []) (lenOf own_pd11 rfl) rfl rfl (W := 0) (by exact hW0) (by decide) (by decide) (hb hby d19_48) (by decide) (by decide))) fun T209 X209 e209 => ?_
   refine Home.go (fun _ => XS.ifYes X209.here hx rfl (pc0 := 53) (pc' := 88) rfl (hb hby d19_53) rfl ((if0 _ _).trans (teq (by decide)).1) (by decide) (by decide)) ?_
   exact J241 X209 NJ204 e209 K190q v205 (by subst hv205; subst hr200; simp only [if_pos c206]) (.val (.ref p5)) (Or.inr ⟨_, rfl, rfl⟩)
  ·
   have bd208 : ¬ u1 < (2 : Int32) ∧ ¬ (3 : Int32) < u1 := ⟨(bnd_nel bnd_u1.1 (Ne.symm c206) (by decide +kernel)), bnd_u1.2⟩
   refine Home.st (own_pure (own_face XJ204 hx hZ hown (own_w143 hw) (own_w144 hw) (mvT hZ (own_w145 hw)) (own_w146 hw) (own_w147 hw) (own_w148 hw) (own_w149 hw) (own_w150 hw) (own_w130 hw) (own_w151 hw) (by decide) (rm22_4 l Z a0 hw [] b1_188 o0 u1 T190.heap n0 O190 P190_3 P190_1 (F_size_o0.keep K190 nin0) bd208) eJ204 P190_0 rfl (by rw [hml]; rfl) (argsL := []) (rest := []) (lenOf own_pd11 rfl) rfl rfl (W := 0) (by exact hW0) (by decide) (by decide) (hb hby d19_48) (by decide) (by decide))) fun T210 X210 e210 => ?_
   refine Home.go (fun _ => XS.ifNo X210.here hx rfl (hb hby d19_53) rfl ((if0 _ _).trans (feq (by decide)).1)) ?_
   have V211 : Arv Z T190.heap p3 k_p3 (.object "java/lang/Object") (10 : Int32) [(.ref p5), (.ref p6), (own_el2 u1 p7), .null, .null, .null, .null, .null, .null, .null] .null := by have q := (V_p3.keep K190 nin0); rw [own_el1_is (k := p6) (Ne.symm c206)] at q; exact q
   refine Home.run X210 hx hby sg19_56_1 (pc' := 58) (L' := #[sr o0, sr o1, sr b1, sr b1_3, sr p10, .val v205, sr b1_188, sr p5]) (S' := [(.ref b1_188)]) rfl ?_
   refine Home.call (own_face X210 hx hZ hown (own_w164 hw) (own_w165 hw) (mvT hZ (own_w166 hw)) (own_w167 hw) (own_w168 hw) (own_w169 hw) (own_w170 hw) (own_w150 hw) (own_w130 hw) (own_w171 hw) (by decide) (rm24_2 l Z a0 hw [] b1_188 o0 u1 p3 k_p3 p5 p6 p7 T190.heap n0 O190 P190_0 P190_1 (F_modCount_o0.keep K190 nin0) P190_2 P190_3 (F_size_o0.keep K190 nin0) bd208 (F_elementData_o0.keep K190 nin0) V211 g_b1_188 P190_4) e210 P190_0 rfl (by rw [hml]; rfl) (argsL := []) (rest := []) (lenOf own_pd18 rfl) rfl rfl (W := 0) (by exact hW0) (by decide) (by decide) (hb hby d19_58) (by decide) (by decide)) ?_
   rintro _ T212 L212 X212 ⟨rfl, N212q, K212q, P212_0, P212_1, P212_2, P212_3, P212_4⟩
   have O212 := Old.keep O190 K212q (allS g_b1_188 all0)
   have K212 : Keep h0 T212.heap ([] : List Addr) := Keep.trans K190 K212q (allS (Or.inr (Nat.le_trans le196 sz_b1_188)) all0)
   have N212 := Fr.app NJ204 N212q
   refine Home.st (castY X212 hx hZ hown (own_w179 hw) rfl (Ins.self (E_p6.keep K212)) rfl rfl (hb hby d19_63)) fun T213 X213 e213 => ?_
   refine Home.run X213 hx hby sg19_66_2 (pc' := 70) (L' := #[sr o0, sr o1, sr b1, sr b1_3, sr p10, .val v205, sr b1_188, sr p6]) (S' := [(.ref p6)]) rfl ?_
   refine Home.st (own_pure (own_virtual X213 hx hZ hown (own_w181 hw) (own_w182 hw) (notFace_of_selects (args := #[]) (mvT hZ (own_w184 hw))) (own_w184 hw) (own_w183 hw) (own_w2 hw) (own_w185 hw) (by decide) (rm26_0 l Z a0 hw [] p6 p12 T212.heap n0 O212 (F_name_p6.keep K212 nin0)) e213 (E_p6.keep K212) rfl (by rw [hml]; rfl) (argsL := []) (rest := []) (lenOf own_pd19 rfl) rfl rfl (W := 0) (by exact hW0) (by decide) (by decide) (hb hby d19_70) (by decide) (by decide))) fun T214 X214 e214 => ?_
   refine Home.run X214 hx hby sg19_73_1 (pc' := 75) (L' := #[sr o0, sr o1, sr b1, sr b1_3, sr p10, .val v205, sr b1_188, sr p6]) (S' := [(.ref p10), (.ref p12)]) rfl ?_
   refine Home.st (own_pure (own_virtual X214 hx hZ hown (own_w186 hw) (own_w187 hw) (notFace_of_selects (args := #[]) (mvT hZ (own_w189 hw))) (own_w189 hw) (own_w188 hw) (own_w5 hw) (own_w190 hw) (by decide) (rm27_0 l Z a0 hw [] p12 p10 sv_COMPACT_STRINGS p18 p16 k_p18 u6 k_p16 u4 T212.heap n0 O212 (E_p12.keep K212) (E_p10.keep K212) ne_p12_p10 S_COMPACT_STRINGS hCS (F_coder_p12.keep K212 nin0) (F_coder_p10.keep K212 nin0) (F_value_p12.keep K212 nin0) (F_value_p10.keep K212 nin0) (V_p18.keep K212 nin0) (V_p16.keep K212 nin0)) e214 (E_p12.keep K212) rfl (by rw [hml]; rfl) (argsL := [(.ref p10)]) (rest := []) (lenOf own_pd17 rfl) rfl rfl (W := 0) (by exact hW0) (by decide) (by decide) (hb hby d19_75) (by decide) (by decide))) fun T215 X215 e215 => ?_
   show Home T215 (mkF m 78 #[sr o0, sr o1, sr b1, sr b1_3, sr p10, .val v205, sr b1_188, sr p6] [(.int (f_rm27_0 u6 u4))])
   obtain ⟨r216, hr216⟩ : ∃ z, z = (f_rm27_0 u6 u4) := ⟨_, rfl⟩
   rw [← hr216]
   have br216 : ¬ r216 < (0 : Int32) ∧ ¬ (1 : Int32) < r216 := by rw [hr216]; exact f_rm27_0_bnd u6 u4
   suffices J220 : ∀ {T : State} {lc : List Loc} (X : Stand p l e ({ frames := 5, cells := 6, slots := 29, locals := 69 } : Room) s m #[(.ref o0), (.ref o1)] below meth c T lc 6 29) (N : Fr n0 lc) (eT : T.heap = T212.heap) (v221 : Value) (hv221 : v221 = (if r216 = (0 : Int32) then v205 else (.ref p6))), @Home p e below _ T (mkF m 85 #[sr o0, sr o1, sr b1, sr b1_3, sr p10, .val v221, sr b1_188, sr p6] []) by
    by_cases c217 : r216 = (0 : Int32)
    ·
     refine Home.go (fun _ => XS.ifYes X215.here hx rfl (pc0 := 78) (pc' := 85) rfl (hb hby d19_78) rfl ((if0 _ _).trans (teq c217).1) (by decide) (by decide)) ?_
     have bd218 : ¬ r216 < (0 : Int32) ∧ ¬ (0 : Int32) < r216 := ⟨(bnd_eql c217), (bnd_eqr c217)⟩
     exact J220 X215 N212 e215 _ (by simp only [if_pos c217])
    ·
     refine Home.go (fun _ => XS.ifNo X215.here hx rfl (hb hby d19_78) rfl ((if0 _ _).trans (feq c217).1)) ?_
     have bd219 : ¬ r216 < (1 : Int32) ∧ ¬ (1 : Int32) < r216 := ⟨(bnd_nel br216.1 c217 (by decide +kernel)), br216.2⟩
     refine Home.run X215 hx hby sg19_81_1 (pc' := 83) (L' := #[sr o0, sr o1, sr b1, sr b1_3, sr p10, .val v205, sr b1_188, sr p6]) (S' := [(.ref p6)]) rfl ?_
     refine Home.go (fun _ => XS.astore X215.here hx rfl (hb hby d19_83) rfl rfl (l' := #[.val (.ref o0), .val (.ref o1), .val (.ref b1), .val (.ref b1_3), .val (.ref p10), .val (.ref p6), .val (.ref b1_188), .val (.ref p6)]) (XS.store1 rfl (Or.inr ⟨_, rfl, (cat1_of isr_v205)⟩) rfl)) ?_
     exact J220 X215 N212 e215 _ (by simp only [if_neg c217])
   intro TJ220 lcJ220 XJ220 NJ220 eJ220 v221 hv221
   have isr_v221 : v221.isRef = true := by rw [hv221]; exact (own_itR (by assumption) rfl)
   show Home TJ220 (mkF m 85 #[sr o0, sr o1, sr b1, sr b1_3, sr p10, .val v221, sr b1_188, sr p6] [])
   refine Home.run XJ220 hx hby sg19_85_1 (pc' := 46) (L' := #[sr o0, sr o1, sr b1, sr b1_3, sr p10, .val v221, sr b1_188, sr p6]) (S' := []) rfl ?_
   refine Home.run XJ220 hx hby sg19_46_1 (pc' := 48) (L' := #[sr o0, sr o1, sr b1, sr b1_3, sr p10, .val v221, sr b1_188, sr p6]) (S' := [(.ref b1_188)]) rfl ?_
   by_cases c222 : (2 : Int32) = u1
   ·
    have bd223 : ¬ u1 < (2 : Int32) ∧ ¬ (2 : Int32) < u1 := ⟨(bnd_eql (c222.symm)), (bnd_eqr (c222.symm))⟩
    refine Home.st (own_pure (own_face XJ220 hx hZ hown (own_w143 hw) (own_w144 hw) (mvT hZ (own_w145 hw)) (own_w146 hw) (own_w147 hw) (own_w148 hw) (own_w149 hw) (own_w150 hw) (own_w130 hw) (own_w151 hw) (by decide) (rm22_5 l Z a0 hw [] b1_188 o0 u1 T212.heap n0 O212 P212_3 P212_1 (F_size_o0.keep K212 nin0) bd223) eJ220 P212_0 rfl (by rw [hml]; rfl) (argsL := []) (rest := []) (lenOf own_pd11 rfl) rfl rfl (W := 0) (by exact hW0) (by decide) (by decide) (hb hby d19_48) (by decide) (by decide))) fun T225 X225 e225 => ?_
    refine Home.go (fun _ => XS.ifYes X225.here hx rfl (pc0 := 53) (pc' := 88) rfl (hb hby d19_53) rfl ((if0 _ _).trans (teq (by decide)).1) (by decide) (by decide)) ?_
    have k245 : Keep T188.heap T212.heap [b1_188] := K190q.trans K212q (allS (Or.inl (List.mem_of_getElem? (i := 0) rfl)) all0)
    exact J241 X225 NJ220 e225 k245 v221 (by subst hv221; subst hr216; subst hv205; subst hr200; simp only [if_neg c206, if_pos c222]) (.val (.ref p6)) (Or.inr ⟨_, rfl, rfl⟩)
   ·
    have bd224 : ¬ u1 < (3 : Int32) ∧ ¬ (3 : Int32) < u1 := ⟨(bnd_nel bd208.1 (Ne.symm c222) (by decide +kernel)), bd208.2⟩
    refine Home.st (own_pure (own_face XJ220 hx hZ hown (own_w143 hw) (own_w144 hw) (mvT hZ (own_w145 hw)) (own_w146 hw) (own_w147 hw) (own_w148 hw) (own_w149 hw) (own_w150 hw) (own_w130 hw) (own_w151 hw) (by decide) (rm22_6 l Z a0 hw [] b1_188 o0 u1 T212.heap n0 O212 P212_3 P212_1 (F_size_o0.keep K212 nin0) bd224) eJ220 P212_0 rfl (by rw [hml]; rfl) (argsL := []) (rest := []) (lenOf own_pd11 rfl) rfl rfl (W := 0) (by exact hW0) (by decide) (by decide) (hb hby d19_48) (by decide) (by decide))) fun T226 X226 e226 => ?_
    refine Home.go (fun _ => XS.ifNo X226.here hx rfl (hb hby d19_53) rfl ((if0 _ _).trans (feq (by decide)).1)) ?_
    have ne227 : p3 ≠ b1_188 := (Nat.ne_of_lt (Nat.lt_of_lt_of_le V_p3.lt (Nat.le_trans le196 sz_b1_188)))
    have q228 := (V211.keep K212q (ninS ne227 nin0))
    have V229 : Arv Z T212.heap p3 k_p3 (.object "java/lang/Object") (10 : Int32) [(.ref p5), (.ref p6), (.ref p7), .null, .null, .null, .null, .null, .null, .null] .null := by have q := q228; rw [own_el2_is (k := p7) (bnd_fix bd224)] at q; exact q
    refine Home.run X226 hx hby sg19_56_1 (pc' := 58) (L' := #[sr o0, sr o1, sr b1, sr b1_3, sr p10, .val v221, sr b1_188, sr p6]) (S' := [(.ref b1_188)]) rfl ?_
    refine Home.call (own_face X226 hx hZ hown (own_w164 hw) (own_w165 hw) (mvT hZ (own_w166 hw)) (own_w167 hw) (own_w168 hw) (own_w169 hw) (own_w170 hw) (own_w150 hw) (own_w130 hw) (own_w171 hw) (by decide) (rm24_3 l Z a0 hw [] b1_188 o0 u1 p3 k_p3 p5 p6 p7 T212.heap n0 O212 P212_0 P212_1 (F_modCount_o0.keep K212 nin0) P212_2 P212_3 (F_size_o0.keep K212 nin0) bd224 (F_elementData_o0.keep K212 nin0) V229 g_b1_188 P212_4) e226 P212_0 rfl (by rw [hml]; rfl) (argsL := []) (rest := []) (lenOf own_pd18 rfl) rfl rfl (W := 0) (by exact hW0) (by decide) (by decide) (hb hby d19_58) (by decide) (by decide)) ?_
    rintro _ T230 L230 X230 ⟨rfl, N230q, K230q, P230_0, P230_1, P230_2, P230_3, P230_4⟩
    have O230 := Old.keep O212 K230q (allS g_b1_188 all0)
    have K230 : Keep h0 T230.heap ([] : List Addr) := Keep.trans K212 K230q (allS (Or.inr (Nat.le_trans le196 sz_b1_188)) all0)
    have N230 := Fr.app NJ220 N230q
    refine Home.st (castY X230 hx hZ hown (own_w179 hw) rfl (Ins.self (E_p7.keep K230)) rfl rfl (hb hby d19_63)) fun T231 X231 e231 => ?_
    refine Home.run X231 hx hby sg19_66_2 (pc' := 70) (L' := #[sr o0, sr o1, sr b1, sr b1_3, sr p10, .val v221, sr b1_188, sr p7]) (S' := [(.ref p7)]) rfl ?_
    refine Home.st (own_pure (own_virtual X231 hx hZ hown (own_w181 hw) (own_w182 hw) (notFace_of_selects (args := #[]) (mvT hZ (own_w184 hw))) (own_w184 hw) (own_w183 hw) (own_w2 hw) (own_w185 hw) (by decide) (rm26_0 l Z a0 hw [] p7 p13 T230.heap n0 O230 (F_name_p7.keep K230 nin0)) e231 (E_p7.keep K230) rfl (by rw [hml]; rfl) (argsL := []) (rest := []) (lenOf own_pd19 rfl) rfl rfl (W := 0) (by exact hW0) (by decide) (by decide) (hb hby d19_70) (by decide) (by decide))) fun T232 X232 e232 => ?_
    show Home T232 (mkF m 73 #[sr o0, sr o1, sr b1, sr b1_3, sr p10, .val v221, sr b1_188, sr p7] [(.ref p13)])
    refine Home.run X232 hx hby sg19_73_1 (pc' := 75) (L' := #[sr o0, sr o1, sr b1, sr b1_3, sr p10, .val v221, sr b1_188, sr p7]) (S' := [(.ref p10), (.ref p13)]) rfl ?_
    refine Home.st (own_pure (own_virtual X232 hx hZ hown (own_w186 hw) (own_w187 hw) (notFace_of_selects (args := #[]) (mvT hZ (own_w189 hw))) (own_w189 hw) (own_w188 hw) (own_w5 hw) (own_w190 hw) (by decide) (rm27_0 l Z a0 hw [] p13 p10 sv_COMPACT_STRINGS p19 p16 k_p19 u7 k_p16 u4 T230.heap n0 O230 (E_p13.keep K230) (E_p10.keep K230) ne_p13_p10 S_COMPACT_STRINGS hCS (F_coder_p13.keep K230 nin0) (F_coder_p10.keep K230 nin0) (F_value_p13.keep K230 nin0) (F_value_p10.keep K230 nin0) (V_p19.keep K230 nin0) (V_p16.keep K230 nin0)) e232 (E_p13.keep K230) rfl (by rw [hml]; rfl) (argsL := [(.ref p10)]) (rest := []) (lenOf own_pd17 rfl) rfl rfl (W := 0) (by exact hW0) (by decide) (by decide) (hb hby d19_75) (by decide) (by decide))) fun T233 X233 e233 => ?_
    show Home T233 (mkF m 78 #[sr o0, sr o1, sr b1, sr b1_3, sr p10, .val v221, sr b1_188, sr p7] [(.int (f_rm27_0 u7 u4))])
    obtain ⟨r234, hr234⟩ : ∃ z, z = (f_rm27_0 u7 u4) := ⟨_, rfl⟩
    rw [← hr234]
    have br234 : ¬ r234 < (0 : Int32) ∧ ¬ (1 : Int32) < r234 := by rw [hr234]; exact f_rm27_0_bnd u7 u4
    suffices J238 : ∀ {T : State} {lc : List Loc} (X : Stand p l e ({ frames := 5, cells := 6, slots := 29, locals := 69 } : Room) s m #[(.ref o0), (.ref o1)] below meth c T lc 6 29) (N : Fr n0 lc) (eT : T.heap = T230.heap) (v239 : Value) (hv239 : v239 = (if r234 = (0 : Int32) then v221 else (.ref p7))), @Home p e below _ T (mkF m 85 #[sr o0, sr o1, sr b1, sr b1_3, sr p10, .val v239, sr b1_188, sr p7] []) by
     by_cases c235 : r234 = (0 : Int32)
     ·
      refine Home.go (fun _ => XS.ifYes X233.here hx rfl (pc0 := 78) (pc' := 85) rfl (hb hby d19_78) rfl ((if0 _ _).trans (teq c235).1) (by decide) (by decide)) ?_
      have bd236 : ¬ r234 < (0 : Int32) ∧ ¬ (0 : Int32) < r234 := ⟨(bnd_eql c235), (bnd_eqr c235)⟩
      exact J238 X233 N230 e233 _ (by simp only [if_pos c235])
     ·
      refine Home.go (fun _ => XS.ifNo X233.here hx rfl (hb hby d19_78) rfl ((if0 _ _).trans (feq c235).1)) ?_
      have bd237 : ¬ r234 < (1 : Int32) ∧ ¬ (1 : Int32) < r234 := ⟨(bnd_nel br234.1 c235 (by decide +kernel)), br234.2⟩
      refine Home.run X233 hx hby sg19_81_1 (pc' := 83) (L' := #[sr o0, sr o1, sr b1, sr b1_3, sr p10, .val v221, sr b1_188, sr p7]) (S' := [(.ref p7)]) rfl ?_
      refine Home.go (fun _ => XS.astore X233.here hx rfl (hb hby d19_83) rfl rfl (l' := #[.val (.ref o0), .val (.ref o1), .val (.ref b1), .val (.ref b1_3), .val (.ref p10), .val (.ref p7), .val (.ref b1_188), .val (.ref p7)]) (XS.store1 rfl (Or.inr ⟨_, rfl, (cat1_of isr_v221)⟩) rfl)) ?_
      exact J238 X233 N230 e233 _ (by simp only [if_neg c235])
    intro TJ238 lcJ238 XJ238 NJ238 eJ238 v239 hv239
    have isr_v239 : v239.isRef = true := by rw [hv239]; exact (own_itR (by assumption) rfl)
    show Home TJ238 (mkF m 85 #[sr o0, sr o1, sr b1, sr b1_3, sr p10, .val v239, sr b1_188, sr p7] [])
    refine Home.run XJ238 hx hby sg19_85_1 (pc' := 46) (L' := #[sr o0, sr o1, sr b1, sr b1_3, sr p10, .val v239, sr b1_188, sr p7]) (S' := []) rfl ?_
    refine Home.run XJ238 hx hby sg19_46_1 (pc' := 48) (L' := #[sr o0, sr o1, sr b1, sr b1_3, sr p10, .val v239, sr b1_188, sr p7]) (S' := [(.ref b1_188)]) rfl ?_
    refine Home.st (own_pure (own_face XJ238 hx hZ hown (own_w143 hw) (own_w144 hw) (mvT hZ (own_w145 hw)) (own_w146 hw) (own_w147 hw) (own_w148 hw) (own_w149 hw) (own_w150 hw) (own_w130 hw) (own_w151 hw) (by decide) (rm22_7 l Z a0 hw [] b1_188 o0 u1 T230.heap n0 O230 P230_3 P230_1 (F_size_o0.keep K230 nin0) bd224) eJ238 P230_0 rfl (by rw [hml]; rfl) (argsL := []) (rest := []) (lenOf own_pd11 rfl) rfl rfl (W := 0) (by exact hW0) (by decide) (by decide) (hb hby d19_48) (by decide) (by decide))) fun T240 X240 e240 => ?_
    refine Home.go (fun _ => XS.ifYes X240.here hx rfl (pc0 := 53) (pc' := 88) rfl (hb hby d19_53) rfl ((if0 _ _).trans (teq (by decide)).1) (by decide) (by decide)) ?_
    have k248 : Keep T188.heap T212.heap [b1_188] := K190q.trans K212q (allS (Or.inl (List.mem_of_getElem? (i := 0) rfl)) all0)
    have k247 : Keep T188.heap T230.heap [b1_188] := k248.trans K230q (allS (Or.inl (List.mem_of_getElem? (i := 0) rfl)) all0)
    exact J241 X240 NJ238 e240 k247 v239 (by subst hv239; subst hr234; subst hv221; subst hr216; subst hv205; subst hr200; simp only [if_neg c206, if_neg c222]) (.val (.ref p7)) (Or.inr ⟨_, rfl, rfl⟩)
 intro TJ241 lcJ241 hJ241 XJ241 NJ241 eJ241 KqJ241 v242 hv242 v243 hv243
 have le250 : h0.size ≤ T77.heap.size := Nat.le_trans le175 K77q.1
 have le251 : h0.size ≤ T86.heap.size := Nat.le_trans le250 K86q.1
 have le252 : h0.size ≤ T88.heap.size := Nat.le_trans le251 K88q.1
 have le253 : h0.size ≤ hJ141.size := Nat.le_trans le252 KqJ141.1
 have le254 : h0.size ≤ T171.heap.size := Nat.le_trans le253 K171q.1
 have le255 : h0.size ≤ T186.heap.size := Nat.le_trans le254 K186q.1
 have OJ241 := Old.keep O188 KqJ241 (allS g_b1_188 all0)
 have KJ241 : Keep h0 hJ241 ([] : List Addr) := Keep.trans K188 KqJ241 (allS (Or.inr (Nat.le_trans le255 sz_b1_188)) all0)
 have isr_v242 : v242.isRef = true := by rw [hv242]; exact (own_itR (own_itR rfl rfl) (own_itR (own_itR (own_itR rfl rfl) rfl) (own_itR (own_itR (own_itR rfl rfl) rfl) rfl)))
 show Home TJ241 (mkF m 88 #[sr o0, sr o1, sr b1, sr b1_3, sr p10, .val v242, sr b1_188, v243] [])
 refine Home.go (fun _ => XS.aload XJ241.here hx rfl (hb hby d19_88) rfl (isr_v242)) ?_
 have e256_0 := (E_p5.keep KJ241)
 have e256_1 := (E_p6.keep KJ241)
 have e256_2 := (E_p7.keep KJ241)
 have hT256 : v242 = ((if (1 : Int32) = u1 then (if (f_rm27_0 u5 u4) = (0 : Int32) then .null else (.ref p5)) else (if (2 : Int32) = u1 then (if (f_rm27_0 u6 u4) = (0 : Int32) then (if (f_rm27_0 u5 u4) = (0 : Int32) then .null else (.ref p5)) else (.ref p6)) else (if (f_rm27_0 u7 u4) = (0 : Int32) then (if (f_rm27_0 u6 u4) = (0 : Int32) then (if (f_rm27_0 u5 u4) = (0 : Int32) then .null else (.ref p5)) else (.ref p6)) else (.ref p7)))) : Value) := by subst hv242; rfl
 obtain ⟨a256, ha256⟩ : ∃ a, v242 = .ref a := (ref_cases isr_v242).resolve_left (fun q => nn256 (hT256.symm.trans q))
 have nq256 : ((if (1 : Int32) = u1 then (if (f_rm27_0 u5 u4) = (0 : Int32) then .null else (.ref p5)) else (if (2 : Int32) = u1 then (if (f_rm27_0 u6 u4) = (0 : Int32) then (if (f_rm27_0 u5 u4) = (0 : Int32) then .null else (.ref p5)) else (.ref p6)) else (if (f_rm27_0 u7 u4) = (0 : Int32) then (if (f_rm27_0 u6 u4) = (0 : Int32) then (if (f_rm27_0 u5 u4) = (0 : Int32) then .null else (.ref p5)) else (.ref p6)) else (.ref p7)))) : Value) = .ref a256 := hT256.symm.trans ha256
 have E256a : Exa Z hJ241 a256 "com/example/wary_meter/warymeter/Column" := own_itE nq256 (fun q => own_itE q (fun q => nomatch q) (fun q => own_leE q e256_0)) (fun q => own_itE q (fun q => own_itE q (fun q => own_itE q (fun q => nomatch q) (fun q => own_leE q e256_0)) (fun q => own_leE q e256_1)) (fun q => own_itE q (fun q => own_itE q (fun q => own_itE q (fun q => nomatch q) (fun q => own_leE q e256_0)) (fun q => own_leE q e256_1)) (fun q => own_leE q e256_2)))
 subst ha256
 show Home TJ241 (mkF m 90 #[sr o0, sr o1, sr b1, sr b1_3, sr p10, sr a256, sr b1_188, v243] [(.ref a256)])
 refine Home.go (fun _ => XS.ifnonnullYes XJ241.here hx rfl (pc0 := 90) (pc' := 108) rfl (hb hby d19_90) rfl (by decide) (by decide)) ?_
 show Home TJ241 (mkF m 108 #[sr o0, sr o1, sr b1, sr b1_3, sr p10, sr a256, sr b1_188, v243] [])
 refine Home.run XJ241 hx hby sg19_108_2 (pc' := 111) (L' := #[sr o0, sr o1, sr b1, sr b1_3, sr p10, sr a256, sr b1_188, v243]) (S' := [(.ref a256), (.ref b1)]) rfl ?_
 have q257 := (((P171_1.keep K186q).keep K188q).keep KqJ241)
 have le258 : h1.size ≤ T88.heap.size := Nat.le_trans le161 K88q.1
 have le259 : h1.size ≤ hJ141.size := Nat.le_trans le258 KqJ141.1
 have le260 : h1.size ≤ T171.heap.size := Nat.le_trans le259 K171q.1
 have le261 : h1.size ≤ T186.heap.size := Nat.le_trans le260 K186q.1
 have ne262 : b1 ≠ b1_188 := (Nat.ne_of_lt (Nat.lt_of_lt_of_le A1.lt (Nat.le_trans le261 sz_b1_188)))
 have q263 := (((P171_0.keep K186q (ninS ne70 nin0)).keep K188q nin0).keep KqJ241 (ninS ne262 nin0))
 have q264 := (((P171_2.keep K186q (ninS ne70 nin0)).keep K188q nin0).keep KqJ241 (ninS ne262 nin0))
 have q265 := (((P171_3.keep K186q (ninS ne70 nin0)).keep K188q nin0).keep KqJ241 (ninS ne262 nin0))
 have le266 : T77.heap.size ≤ T88.heap.size := Nat.le_trans K86q.1 K88q.1
 have le267 : T77.heap.size ≤ hJ141.size := Nat.le_trans le266 KqJ141.1
 have le268 : T77.heap.size ≤ T171.heap.size := Nat.le_trans le267 K171q.1
 have le269 : T77.heap.size ≤ T186.heap.size := Nat.le_trans le268 K186q.1
 have ne270 : b6_2_2_7_77 ≠ b1_188 := (Nat.ne_of_lt (Nat.lt_of_lt_of_le P77_4.lt (Nat.le_trans le269 sz_b1_188)))
 have q271 := (((P171_4.keep K186q (ninS ne168 nin0)).keep K188q nin0).keep KqJ241 (ninS ne270 nin0))
 refine Home.call (own_face XJ241 hx hZ hown (own_w194 hw) (own_w74 hw) (mvT hZ (own_w75 hw)) (own_w76 hw) (own_w77 hw) (own_w78 hw) (own_w79 hw) (own_w80 hw) (own_w51 hw) (own_w81 hw) (by decide) (rm12_2 l Z a0 hw [] b1 a256 b6_2_2_7_77 k6_2_2_7_77 a68 a156 hJ241 n0 OJ241 q263 q257 g_b1 q264 q265 q271 P77_5 E256a g_b6_2_2_7_77) eJ241 q257 rfl (by rw [hml]; rfl) (argsL := [(.ref a256)]) (rest := []) (lenOf own_pd17 rfl) rfl rfl (W := 0) (by exact hW0) (by decide) (by decide) (hb hby d19_111) (by decide) (by decide)) ?_
 rintro _ T272 L272 X272 ⟨rfl, N272q, K272q, P272_0, P272_1, P272_2, P272_3, P272_4⟩
 have O272 := Old.keep OJ241 K272q (allS g_b1 (allS g_b6_2_2_7_77 all0))
 have K272 : Keep h0 T272.heap ([] : List Addr) := Keep.trans KJ241 K272q (allS (Or.inr (Nat.le_trans (Nat.le_refl _) (Nat.le_of_eq g1.symm))) (allS (Or.inr (Nat.le_trans le175 sz_b6_2_2_7_77)) all0))
 have N272 := Fr.app NJ241 N272q
 show Home T272 (mkF m 116 #[sr o0, sr o1, sr b1, sr b1_3, sr p10, sr a256, sr b1_188, v243] [(.int (1 : Int32))])
 refine Home.run X272 hx hby sg19_116_3 (pc' := 16) (L' := #[sr o0, sr o1, sr b1, sr b1_3, sr p10, sr a256, sr b1_188, v243]) (S' := [(.ref b1_3)]) rfl ?_
 have q273 := (((P186_0.keep K188q).keep KqJ241).keep K272q)
 have le274 : T3.heap.size ≤ T88.heap.size := Nat.le_trans le178 K88q.1
 have le275 : T3.heap.size ≤ hJ141.size := Nat.le_trans le274 KqJ141.1
 have le276 : T3.heap.size ≤ T171.heap.size := Nat.le_trans le275 K171q.1
 have le277 : T3.heap.size ≤ T186.heap.size := Nat.le_trans le276 K186q.1
 have ne278 : b1_3 ≠ b1_188 := (Nat.ne_of_lt (Nat.lt_of_lt_of_le P3_0.lt (Nat.le_trans le277 sz_b1_188)))
 have q279 := (((P186_3.keep K188q nin0).keep KqJ241 (ninS ne278 nin0)).keep K272q (ninS ne80 (ninS ne180 nin0)))
 have q280 := (((P186_1.keep K188q nin0).keep KqJ241 (ninS ne278 nin0)).keep K272q (ninS ne80 (ninS ne180 nin0)))
 refine Home.st (own_pure (own_face X272 hx hZ hown (own_w143 hw) (own_w144 hw) (mvT hZ (own_w145 hw)) (own_w146 hw) (own_w147 hw) (own_w148 hw) (own_w149 hw) (own_w150 hw) (own_w130 hw) (own_w151 hw) (by decide) (rm22_7 l Z a0 hw [] b1_3 o1 (3 : Int32) T272.heap n0 O272 q279 q280 (F_size_o1.keep K272 nin0) (bnd_lit (3 : Int32))) rfl q273 rfl (by rw [hml]; rfl) (argsL := []) (rest := []) (lenOf own_pd11 rfl) rfl rfl (W := 0) (by exact hW0) (by decide) (by decide) (hb hby d19_16) (by decide) (by decide))) fun T281 X281 e281 => ?_
 refine Home.go (fun _ => XS.ifYes X281.here hx rfl (pc0 := 21) (pc' := 120) rfl (hb hby d19_21) rfl ((if0 _ _).trans (teq (by decide)).1) (by decide) (by decide)) ?_
 refine Home.run X281 hx hby sg19_120_1 (pc' := 121) (L' := #[sr o0, sr o1, sr b1, sr b1_3, sr p10, sr a256, sr b1_188, v243]) (S' := [(.ref b1)]) rfl ?_
 exact Home.retR X281 hx hlk hret rfl rfl (hb hby d19_121) (by rw [show T281.heap = T272.heap from e281]; exact ⟨b1, b6_2_2_7_77, a68, a156, a256, k6_2_2_7_77, rfl, N272, (Nat.le_trans (Nat.le_refl _) (Nat.le_of_eq g1.symm)), (Nat.le_trans le175 sz_b6_2_2_7_77), K272, P272_1, P272_0, P272_2, P272_3, P272_4, P77_5, nq68, nq156, nq256⟩) (by decide) (by decide)
theorem rm23_1 (l : Launch) (Z : State) (a0 : Array Value) (hw : HW a0 Z) (ws : List Jvm.Cond) (o0 : Addr) (h0 : Heap) (n0 : Nat) (O0 : Old Z n0 h0) (F_size_o0 : Fld Z h0 o0 "java/util/ArrayList" "size" "I" (.int (3 : Int32))) :
    Con l Z (⟨"java/util/ArrayList", "size", "()I"⟩ : MethodName) jdk_38_method_8_code 1 (some .int) ws ({ frames := 0, cells := 0, slots := 0, locals := 0 } : Room) #[(.ref o0)] h0 (Pur (some (.int (3 : Int32))) h0) := by
 refine own_body (plainFor_of_name own_pn6) (fun m => ef_rm23_1 m o0) ?_
 intro p e s m below meth c s₁ hx hby hlk hml hret hZ hown hnm X0 e0
 have N0 := Fr.nil n0
 refine Home.run X0 hx hby sg23_0_1 (pc' := 1) (L' := #[sr o0]) (S' := [(.ref o0)]) rfl ?_
 refine Home.st (getF X0 hx hZ hown (host := "") (Or.inl (own_w84 hw)) Via.refl e0 F_size_o0 rfl rfl (hb hby d23_1)) fun T1 X1 e1 => ?_
 exact Home.retI X1 hx hlk hret (hb hby d23_4) ⟨rfl, rfl, e1⟩ (by decide) (by decide)
theorem rm31_0 (l : Launch) (Z : State) (a0 : Array Value) (hw : HW a0 Z) (ws : List Jvm.Cond)  (h0 : Heap) (n0 : Nat) (O0 : Old Z n0 h0) :
    Con l Z (⟨"jdk/internal/util/Preconditions", "checkIndex", "(IILjava/util/function/BiFunction;)I"⟩ : MethodName) jdk_41_method_11_code 3 (some .int) ws ({ frames := 0, cells := 0, slots := 0, locals := 0 } : Room) #[(.int (0 : Int32)), (.int (3 : Int32)), .null] h0 (Pur (some (.int (0 : Int32))) h0) := by
 refine own_body (plainFor_of_name own_pn9) (fun m => ef_rm31_0 m (0 : Int32) (3 : Int32)) ?_
 intro p e s m below meth c s₁ hx hby hlk hml hret hZ hown hnm X0 e0
 have N0 := Fr.nil n0
 refine Home.run X0 hx hby sg31_0_1 (pc' := 1) (L' := #[.val (.int (0 : Int32)), .val (.int (3 : Int32)), .val .null]) (S' := [(.int (0 : Int32))]) rfl ?_
 refine Home.go (fun _ => XS.ifNo X0.here hx rfl (hb hby d31_1) rfl ((if0 _ _).trans (flt (by decide)).1)) ?_
 refine Home.run X0 hx hby sg31_4_2 (pc' := 6) (L' := #[.val (.int (0 : Int32)), .val (.int (3 : Int32)), .val .null]) (S' := [(.int (3 : Int32)), (.int (0 : Int32))]) rfl ?_
 refine Home.go (fun _ => XS.icmpYes X0.here hx rfl (pc0 := 6) (pc' := 16) rfl (hb hby d31_6) rfl (tlt (by decide)).1 (by decide) (by decide)) ?_
 refine Home.run X0 hx hby sg31_16_1 (pc' := 17) (L' := #[.val (.int (0 : Int32)), .val (.int (3 : Int32)), .val .null]) (S' := [(.int (0 : Int32))]) rfl ?_
 exact Home.retI X0 hx hlk hret (hb hby d31_17) ⟨rfl, rfl, e0⟩ (by decide) (by decide)
theorem rm30_0 (l : Launch) (Z : State) (a0 : Array Value) (hw : HW a0 Z) (ws : List Jvm.Cond)  (h0 : Heap) (n0 : Nat) (O0 : Old Z n0 h0) :
    Con l Z (⟨"java/util/Objects", "checkIndex", "(II)I"⟩ : MethodName) jdk_31_method_17_code 2 (some .int) ws ({ frames := 1, cells := 0, slots := 0, locals := 14 } : Room) #[(.int (0 : Int32)), (.int (3 : Int32))] h0 (Pur (some (.int (0 : Int32))) h0) := by
 refine own_body (plainFor_of_name own_pn10) (fun m => ef_rm30_0 m (0 : Int32) (3 : Int32)) ?_
 intro p e s m below meth c s₁ hx hby hlk hml hret hZ hown hnm X0 e0
 have N0 := Fr.nil n0
 refine Home.run X0 hx hby sg30_0_3 (pc' := 3) (L' := #[.val (.int (0 : Int32)), .val (.int (3 : Int32))]) (S' := [.null, (.int (3 : Int32)), (.int (0 : Int32))]) rfl ?_
 refine Home.st (own_pure (own_static X0 hx hZ hown (own_w207 hw) (own_w208 hw) (own_w209 hw) (own_w210 hw) (by decide) (rm31_0 l Z a0 hw []  h0 n0 O0) e0 rfl (by rw [hml]; rfl) (argsL := [(.int (0 : Int32)), (.int (3 : Int32)), .null]) (rest := []) (lenOf own_pd21 rfl) rfl rfl (W := 0) (by exact hW0) (by decide) (by decide) (hb hby d30_3) (by decide) (by decide))) fun T1 X1 e1 => ?_
 exact Home.retI X1 hx hlk hret (hb hby d30_6) ⟨rfl, rfl, e1⟩ (by decide) (by decide)
theorem rm32_0 (l : Launch) (Z : State) (a0 : Array Value) (hw : HW a0 Z) (ws : List Jvm.Cond) (o0 p2 : Addr) (k_p2 : ClassId) (p3 p4 p5 : Addr) (h0 : Heap) (n0 : Nat) (O0 : Old Z n0 h0) (F_elementData_o0 : Fld Z h0 o0 "java/util/ArrayList" "elementData" "[Ljava/lang/Object;" (.ref p2)) (V_p2 : Arv Z h0 p2 k_p2 (.object "java/lang/Object") (10 : Int32) [(.ref p3), (.ref p4), (.ref p5), .null, .null, .null, .null, .null, .null, .null] .null) :
    Con l Z (⟨"java/util/ArrayList", "elementData", "(I)Ljava/lang/Object;"⟩ : MethodName) jdk_38_method_18_code 2 (some (.object "java/lang/Object")) ws ({ frames := 0, cells := 0, slots := 0, locals := 0 } : Room) #[(.ref o0), (.int (0 : Int32))] h0 (Pur (some (.ref p3)) h0) := by
 refine own_body (plainFor_of_name own_pn6) (fun m => ef_rm32_0 m o0 (0 : Int32)) ?_
 intro p e s m below meth c s₁ hx hby hlk hml hret hZ hown hnm X0 e0
 have N0 := Fr.nil n0
 refine Home.run X0 hx hby sg32_0_1 (pc' := 1) (L' := #[sr o0, .val (.int (0 : Int32))]) (S' := [(.ref o0)]) rfl ?_
 refine Home.st (getF X0 hx hZ hown (host := "") (Or.inl (own_w71 hw)) Via.refl e0 F_elementData_o0 rfl rfl (hb hby d32_1)) fun T1 X1 e1 => ?_
 refine Home.run X1 hx hby sg32_4_1 (pc' := 5) (L' := #[sr o0, .val (.int (0 : Int32))]) (S' := [(.int (0 : Int32)), (.ref p2)]) rfl ?_
 obtain ⟨cl2, Ar2, q2, S2, M2, H2, G2⟩ := id V_p2
 have ib2 : ¬ ((0 : Int32) < 0 ∨ cl2.slots.size ≤ ((0 : Int32)).toNatClampNeg) := inb_of S2 ⟨by decide, by decide⟩
 refine Home.go (X1.aaload hx (j := (0 : Int32)) (v := (.ref p3)) (by rw [e1]; exact Ar2.1) (State.isArrayOf_alike hZ.alike Ar2.2.1) rfl Ar2.2.2 ib2 (Has.at H2 ib2 rfl) rfl rfl (hb hby d32_5)) ?_
 exact Home.retR X1 hx hlk hret rfl rfl (hb hby d32_6) ⟨rfl, rfl, e1⟩ (by decide) (by decide)
theorem rm29_0 (l : Launch) (Z : State) (a0 : Array Value) (hw : HW a0 Z) (ws : List Jvm.Cond) (o0 p2 : Addr) (k_p2 : ClassId) (p3 p4 p5 : Addr) (h0 : Heap) (n0 : Nat) (O0 : Old Z n0 h0) (F_size_o0 : Fld Z h0 o0 "java/util/ArrayList" "size" "I" (.int (3 : Int32))) (E_o0 : Exa Z h0 o0 "java/util/ArrayList") (F_elementData_o0 : Fld Z h0 o0 "java/util/ArrayList" "elementData" "[Ljava/lang/Object;" (.ref p2)) (V_p2 : Arv Z h0 p2 k_p2 (.object "java/lang/Object") (10 : Int32) [(.ref p3), (.ref p4), (.ref p5), .null, .null, .null, .null, .null, .null, .null] .null) :
    Con l Z (⟨"java/util/ArrayList", "get", "(I)Ljava/lang/Object;"⟩ : MethodName) jdk_38_method_20_code 2 (some (.object "java/lang/Object")) ws ({ frames := 2, cells := 0, slots := 0, locals := 27 } : Room) #[(.ref o0), (.int (0 : Int32))] h0 (Pur (some (.ref p3)) h0) := by
 refine own_body (plainFor_of_name own_pn6) (fun m => ef_rm29_0 m o0 (0 : Int32)) ?_
 intro p e s m below meth c s₁ hx hby hlk hml hret hZ hown hnm X0 e0
 have N0 := Fr.nil n0
 refine Home.run X0 hx hby sg29_0_2 (pc' := 2) (L' := #[sr o0, .val (.int (0 : Int32))]) (S' := [(.ref o0), (.int (0 : Int32))]) rfl ?_
 refine Home.st (getF X0 hx hZ hown (host := "") (Or.inl (own_w84 hw)) Via.refl e0 F_size_o0 rfl rfl (hb hby d29_2)) fun T1 X1 e1 => ?_
 refine Home.st (own_pure (own_static X1 hx hZ hown (own_w203 hw) (own_w204 hw) (own_w205 hw) (own_w206 hw) (by decide) (rm30_0 l Z a0 hw []  h0 n0 O0) e1 rfl (by rw [hml]; rfl) (argsL := [(.int (0 : Int32)), (.int (3 : Int32))]) (rest := []) (lenOf own_pd7 rfl) rfl rfl (W := 0) (by exact hW0) (by decide) (by decide) (hb hby d29_5) (by decide) (by decide))) fun T2 X2 e2 => ?_
 refine Home.run X2 hx hby sg29_8_3 (pc' := 11) (L' := #[sr o0, .val (.int (0 : Int32))]) (S' := [(.int (0 : Int32)), (.ref o0)]) rfl ?_
 refine Home.st (own_pure (own_virtual X2 hx hZ hown (own_w211 hw) (own_w212 hw) (notFace_of_selects (args := #[]) (mvT hZ (own_w214 hw))) (own_w214 hw) (own_w213 hw) (own_w51 hw) (own_w215 hw) (by decide) (rm32_0 l Z a0 hw [] o0 p2 k_p2 p3 p4 p5 h0 n0 O0 F_elementData_o0 V_p2) e2 E_o0 rfl (by rw [hml]; rfl) (argsL := [(.int (0 : Int32))]) (rest := []) (lenOf own_pd22 rfl) rfl rfl (W := 0) (by exact hW0) (by decide) (by decide) (hb hby d29_11) (by decide) (by decide))) fun T3 X3 e3 => ?_
 exact Home.retR X3 hx hlk hret rfl rfl (hb hby d29_14) ⟨rfl, rfl, e3⟩ (by decide) (by decide)
theorem rm33_0 (l : Launch) (Z : State) (a0 : Array Value) (hw : HW a0 Z) (ws : List Jvm.Cond) (i0 i1 i2 i3 i4 : Int32) (h0 : Heap) (n0 : Nat) (O0 : Old Z n0 h0) (bnd_i0 : ¬ i0 < (0 : Int32) ∧ ¬ (255 : Int32) < i0) (bnd_i1 : ¬ i1 < (0 : Int32) ∧ ¬ (255 : Int32) < i1) (bnd_i2 : ¬ i2 < (0 : Int32) ∧ ¬ (255 : Int32) < i2) (bnd_i3 : ¬ i3 < (1 : Int32) ∧ ¬ (3 : Int32) < i3) (bnd_i4 : ¬ i4 < (0 : Int32) ∧ ¬ (255 : Int32) < i4) :
    Con l Z (⟨"com/example/wary_meter/warymeter/ColumnPickPinLaw", "last", "(CCCIC)I"⟩ : MethodName) method_4_code 5 (some .int) ws ({ frames := 0, cells := 0, slots := 0, locals := 0 } : Room) #[(.int i0), (.int i1), (.int i2), (.int i3), (.int i4)] h0 (Pur (some (.int (f_rm33_0 i1 i2 i3 i4))) h0) := by
 refine own_body (plainFor_of_name own_pn7) (fun m => ef_rm33_0 m i0 i1 i2 i3 i4) ?_
 intro p e s m below meth c s₁ hx hby hlk hml hret hZ hown hnm X0 e0
 have N0 := Fr.nil n0
 refine Home.run X0 hx hby sg33_0_2 (pc' := 2) (L' := #[.val (.int i0), .val (.int i1), .val (.int i2), .val (.int i3), .val (.int i4)]) (S' := [(.int (2 : Int32)), (.int i3)]) rfl ?_
 by_cases c1 : (2 : Int32) < i3
 ·
  refine Home.go (fun _ => XS.icmpNo X0.here hx rfl (hb hby d33_2) rfl (tlt c1).2.2.2) ?_
  have bd2 : ¬ i3 < (3 : Int32) ∧ ¬ (3 : Int32) < i3 := ⟨(bnd_up c1 (by decide +kernel)), bnd_i3.2⟩
  refine Home.run X0 hx hby sg33_5_2 (pc' := 8) (L' := #[.val (.int i0), .val (.int i1), .val (.int i2), .val (.int i3), .val (.int i4)]) (S' := [(.int i4), (.int i2)]) rfl ?_
  by_cases c4 : i2 = i4
  ·
   refine Home.go (fun _ => XS.icmpNo X0.here hx rfl (hb hby d33_8) rfl (teq c4).2) ?_
   refine Home.run X0 hx hby sg33_11_1 (pc' := 12) (L' := #[.val (.int i0), .val (.int i1), .val (.int i2), .val (.int i3), .val (.int i4)]) (S' := [(.int (2 : Int32))]) rfl ?_
   exact Home.retI X0 hx hlk hret (hb hby d33_12) ⟨congrArg some (congrArg Value.int (by first | rfl | (simp only [f_rm33_0, if_pos c1, if_pos c4, nar_i2c, nar_i2b] <;> rfl) | (simp [f_rm33_0, if_pos c1, if_pos c4]; done))), rfl, e0⟩ (by decide) (by decide)
  ·
   refine Home.go (fun _ => XS.icmpYes X0.here hx rfl (pc0 := 8) (pc' := 13) rfl (hb hby d33_8) rfl (feq c4).2 (by decide) (by decide)) ?_
   refine Home.run X0 hx hby sg33_13_2 (pc' := 15) (L' := #[.val (.int i0), .val (.int i1), .val (.int i2), .val (.int i3), .val (.int i4)]) (S' := [(.int (1 : Int32)), (.int i3)]) rfl ?_
   refine Home.go (fun _ => XS.icmpNo X0.here hx rfl (hb hby d33_15) rfl (tlt (bnd_lt (bnd_lit (1 : Int32)) bd2 (by decide +kernel))).2.2.2) ?_
   refine Home.run X0 hx hby sg33_18_2 (pc' := 21) (L' := #[.val (.int i0), .val (.int i1), .val (.int i2), .val (.int i3), .val (.int i4)]) (S' := [(.int i4), (.int i1)]) rfl ?_
   by_cases c5 : i1 = i4
   ·
    refine Home.go (fun _ => XS.icmpNo X0.here hx rfl (hb hby d33_21) rfl (teq c5).2) ?_
    refine Home.run X0 hx hby sg33_24_1 (pc' := 25) (L' := #[.val (.int i0), .val (.int i1), .val (.int i2), .val (.int i3), .val (.int i4)]) (S' := [(.int (1 : Int32))]) rfl ?_
    exact Home.retI X0 hx hlk hret (hb hby d33_25) ⟨congrArg some (congrArg Value.int (by first | rfl | (simp only [f_rm33_0, if_pos c1, if_neg c4, if_pos c5, nar_i2c, nar_i2b] <;> rfl) | (simp [f_rm33_0, if_pos c1, if_neg c4, if_pos c5]; done))), rfl, e0⟩ (by decide) (by decide)
   ·
    refine Home.go (fun _ => XS.icmpYes X0.here hx rfl (pc0 := 21) (pc' := 26) rfl (hb hby d33_21) rfl (feq c5).2 (by decide) (by decide)) ?_
    refine Home.run X0 hx hby sg33_26_1 (pc' := 27) (L' := #[.val (.int i0), .val (.int i1), .val (.int i2), .val (.int i3), .val (.int i4)]) (S' := [(.int (0 : Int32))]) rfl ?_
    exact Home.retI X0 hx hlk hret (hb hby d33_27) ⟨congrArg some (congrArg Value.int (by first | rfl | (simp only [f_rm33_0, if_pos c1, if_neg c4, if_neg c5, nar_i2c, nar_i2b] <;> rfl) | (simp [f_rm33_0, if_pos c1, if_neg c4, if_neg c5]; done))), rfl, e0⟩ (by decide) (by decide)
 ·
  refine Home.go (fun _ => XS.icmpYes X0.here hx rfl (pc0 := 2) (pc' := 13) rfl (hb hby d33_2) rfl (flt c1).2.2.2 (by decide) (by decide)) ?_
  have bd3 : ¬ i3 < (1 : Int32) ∧ ¬ (2 : Int32) < i3 := ⟨bnd_i3.1, c1⟩
  refine Home.run X0 hx hby sg33_13_2 (pc' := 15) (L' := #[.val (.int i0), .val (.int i1), .val (.int i2), .val (.int i3), .val (.int i4)]) (S' := [(.int (1 : Int32)), (.int i3)]) rfl ?_
  by_cases c6 : (1 : Int32) < i3
  ·
   refine Home.go (fun _ => XS.icmpNo X0.here hx rfl (hb hby d33_15) rfl (tlt c6).2.2.2) ?_
   have bd7 : ¬ i3 < (2 : Int32) ∧ ¬ (2 : Int32) < i3 := ⟨(bnd_up c6 (by decide +kernel)), bd3.2⟩
   refine Home.run X0 hx hby sg33_18_2 (pc' := 21) (L' := #[.val (.int i0), .val (.int i1), .val (.int i2), .val (.int i3), .val (.int i4)]) (S' := [(.int i4), (.int i1)]) rfl ?_
   by_cases c9 : i1 = i4
   ·
    refine Home.go (fun _ => XS.icmpNo X0.here hx rfl (hb hby d33_21) rfl (teq c9).2) ?_
    refine Home.run X0 hx hby sg33_24_1 (pc' := 25) (L' := #[.val (.int i0), .val (.int i1), .val (.int i2), .val (.int i3), .val (.int i4)]) (S' := [(.int (1 : Int32))]) rfl ?_
    exact Home.retI X0 hx hlk hret (hb hby d33_25) ⟨congrArg some (congrArg Value.int (by first | rfl | (simp only [f_rm33_0, if_neg c1, if_pos c6, if_pos c9, nar_i2c, nar_i2b] <;> rfl) | (simp [f_rm33_0, if_neg c1, if_pos c6, if_pos c9]; done))), rfl, e0⟩ (by decide) (by decide)
   ·
    refine Home.go (fun _ => XS.icmpYes X0.here hx rfl (pc0 := 21) (pc' := 26) rfl (hb hby d33_21) rfl (feq c9).2 (by decide) (by decide)) ?_
    refine Home.run X0 hx hby sg33_26_1 (pc' := 27) (L' := #[.val (.int i0), .val (.int i1), .val (.int i2), .val (.int i3), .val (.int i4)]) (S' := [(.int (0 : Int32))]) rfl ?_
    exact Home.retI X0 hx hlk hret (hb hby d33_27) ⟨congrArg some (congrArg Value.int (by first | rfl | (simp only [f_rm33_0, if_neg c1, if_pos c6, if_neg c9, nar_i2c, nar_i2b] <;> rfl) | (simp [f_rm33_0, if_neg c1, if_pos c6, if_neg c9]; done))), rfl, e0⟩ (by decide) (by decide)
  ·
   refine Home.go (fun _ => XS.icmpYes X0.here hx rfl (pc0 := 15) (pc' := 26) rfl (hb hby d33_15) rfl (flt c6).2.2.2 (by decide) (by decide)) ?_
   have bd8 : ¬ i3 < (1 : Int32) ∧ ¬ (1 : Int32) < i3 := ⟨bd3.1, c6⟩
   refine Home.run X0 hx hby sg33_26_1 (pc' := 27) (L' := #[.val (.int i0), .val (.int i1), .val (.int i2), .val (.int i3), .val (.int i4)]) (S' := [(.int (0 : Int32))]) rfl ?_
   exact Home.retI X0 hx hlk hret (hb hby d33_27) ⟨congrArg some (congrArg Value.int (by first | rfl | (simp only [f_rm33_0, if_neg c1, if_neg c6, nar_i2c, nar_i2b] <;> rfl) | (simp [f_rm33_0, if_neg c1, if_neg c6]; done))), rfl, e0⟩ (by decide) (by decide)
theorem f_rm33_0_bnd (i1 : Int32) (i2 : Int32) (i3 : Int32) (i4 : Int32) (i0 : Int32) (bnd_i0 : ¬ i0 < (0 : Int32) ∧ ¬ (255 : Int32) < i0) (bnd_i1 : ¬ i1 < (0 : Int32) ∧ ¬ (255 : Int32) < i1) (bnd_i2 : ¬ i2 < (0 : Int32) ∧ ¬ (255 : Int32) < i2) (bnd_i3 : ¬ i3 < (1 : Int32) ∧ ¬ (3 : Int32) < i3) (bnd_i4 : ¬ i4 < (0 : Int32) ∧ ¬ (255 : Int32) < i4) : ¬ (f_rm33_0 i1 i2 i3 i4) < (0 : Int32) ∧ ¬ (2 : Int32) < (f_rm33_0 i1 i2 i3 i4) := by unfold f_rm33_0; (repeat' split) <;> first | exact bnd_mono (bnd_lit (2 : Int32)) (by decide +kernel) (by decide +kernel) | exact bnd_mono (bnd_lit (1 : Int32)) (by decide +kernel) (by decide +kernel) | exact bnd_mono (bnd_lit (0 : Int32)) (by decide +kernel) (by decide +kernel)
theorem rm34_0 (l : Launch) (Z : State) (a0 : Array Value) (hw : HW a0 Z) (ws : List Jvm.Cond) (o0 o1 o2 : Addr) (i3 : Int32) (h0 : Heap) (n0 : Nat) (O0 : Old Z n0 h0) (bnd_i3 : ¬ i3 < (0 : Int32) ∧ ¬ (2 : Int32) < i3) :
    Con l Z (⟨"com/example/wary_meter/warymeter/ColumnPickPinLaw", "colAt", "(Lcom/example/wary_meter/warymeter/Column;Lcom/example/wary_meter/warymeter/Column;Lcom/example/wary_meter/warymeter/Column;I)Lcom/example/wary_meter/warymeter/Column;"⟩ : MethodName) method_5_code 4 (some (.object "com/example/wary_meter/warymeter/Column")) ws ({ frames := 0, cells := 0, slots := 0, locals := 0 } : Room) #[(.ref o0), (.ref o1), (.ref o2), (.int i3)] h0 (Pur (some (f_rm34_0 o0 o1 o2 i3)) h0) := by
 refine own_body (plainFor_of_name own_pn7) (fun m => ef_rm34_0 m o0 o1 o2 i3) ?_
 intro p e s m below meth c s₁ hx hby hlk hml hret hZ hown hnm X0 e0
 have N0 := Fr.nil n0
 refine Home.run X0 hx hby sg34_0_2 (pc' := 2) (L' := #[sr o0, sr o1, sr o2, .val (.int i3)]) (S' := [(.int (2 : Int32)), (.int i3)]) rfl ?_
 by_cases c1 : i3 = (2 : Int32)
 ·
  refine Home.go (fun _ => XS.icmpNo X0.here hx rfl (hb hby d34_2) rfl (teq c1).2) ?_
  have bd2 : ¬ i3 < (2 : Int32) ∧ ¬ (2 : Int32) < i3 := ⟨(bnd_eql c1), (bnd_eqr c1)⟩
  refine Home.run X0 hx hby sg34_5_1 (pc' := 6) (L' := #[sr o0, sr o1, sr o2, .val (.int i3)]) (S' := [(.ref o2)]) rfl ?_
  exact Home.retR X0 hx hlk hret rfl rfl (hb hby d34_6) ⟨congrArg some (by first | rfl | (simp only [f_rm34_0, if_pos c1, nar_i2c, nar_i2b] <;> rfl) | (simp [f_rm34_0, if_pos c1]; done)), rfl, e0⟩ (by decide) (by decide)
 ·
  refine Home.go (fun _ => XS.icmpYes X0.here hx rfl (pc0 := 2) (pc' := 7) rfl (hb hby d34_2) rfl (feq c1).2 (by decide) (by decide)) ?_
  have bd3 : ¬ i3 < (0 : Int32) ∧ ¬ (1 : Int32) < i3 := ⟨bnd_i3.1, (bnd_ner bnd_i3.2 c1 (by decide +kernel))⟩
  refine Home.run X0 hx hby sg34_7_2 (pc' := 9) (L' := #[sr o0, sr o1, sr o2, .val (.int i3)]) (S' := [(.int (1 : Int32)), (.int i3)]) rfl ?_
  by_cases c4 : i3 = (1 : Int32)
  ·
   refine Home.go (fun _ => XS.icmpNo X0.here hx rfl (hb hby d34_9) rfl (teq c4).2) ?_
   have bd5 : ¬ i3 < (1 : Int32) ∧ ¬ (1 : Int32) < i3 := ⟨(bnd_eql c4), (bnd_eqr c4)⟩
   refine Home.run X0 hx hby sg34_12_1 (pc' := 13) (L' := #[sr o0, sr o1, sr o2, .val (.int i3)]) (S' := [(.ref o1)]) rfl ?_
   exact Home.retR X0 hx hlk hret rfl rfl (hb hby d34_13) ⟨congrArg some (by first | rfl | (simp only [f_rm34_0, if_neg c1, if_pos c4, nar_i2c, nar_i2b] <;> rfl) | (simp [f_rm34_0, if_neg c1, if_pos c4]; done)), rfl, e0⟩ (by decide) (by decide)
  ·
   refine Home.go (fun _ => XS.icmpYes X0.here hx rfl (pc0 := 9) (pc' := 14) rfl (hb hby d34_9) rfl (feq c4).2 (by decide) (by decide)) ?_
   have bd6 : ¬ i3 < (0 : Int32) ∧ ¬ (0 : Int32) < i3 := ⟨bd3.1, (bnd_ner bd3.2 c4 (by decide +kernel))⟩
   refine Home.run X0 hx hby sg34_14_1 (pc' := 15) (L' := #[sr o0, sr o1, sr o2, .val (.int i3)]) (S' := [(.ref o0)]) rfl ?_
   exact Home.retR X0 hx hlk hret rfl rfl (hb hby d34_15) ⟨congrArg some (by first | rfl | (simp only [f_rm34_0, if_neg c1, if_neg c4, nar_i2c, nar_i2b] <;> rfl) | (simp [f_rm34_0, if_neg c1, if_neg c4]; done)), rfl, e0⟩ (by decide) (by decide)
theorem f_rm34_0_isRef (o0 o1 o2 : Addr) (i3 : Int32) : (f_rm34_0 o0 o1 o2 i3).isRef = true := by unfold f_rm34_0; (repeat' split) <;> first | rfl | assumption
theorem rm31_1 (l : Launch) (Z : State) (a0 : Array Value) (hw : HW a0 Z) (ws : List Jvm.Cond)  (h0 : Heap) (n0 : Nat) (O0 : Old Z n0 h0) :
    Con l Z (⟨"jdk/internal/util/Preconditions", "checkIndex", "(IILjava/util/function/BiFunction;)I"⟩ : MethodName) jdk_41_method_11_code 3 (some .int) ws ({ frames := 0, cells := 0, slots := 0, locals := 0 } : Room) #[(.int (1 : Int32)), (.int (3 : Int32)), .null] h0 (Pur (some (.int (1 : Int32))) h0) := by
 refine own_body (plainFor_of_name own_pn9) (fun m => ef_rm31_1 m (1 : Int32) (3 : Int32)) ?_
 intro p e s m below meth c s₁ hx hby hlk hml hret hZ hown hnm X0 e0
 have N0 := Fr.nil n0
 refine Home.run X0 hx hby sg31_0_1 (pc' := 1) (L' := #[.val (.int (1 : Int32)), .val (.int (3 : Int32)), .val .null]) (S' := [(.int (1 : Int32))]) rfl ?_
 refine Home.go (fun _ => XS.ifNo X0.here hx rfl (hb hby d31_1) rfl ((if0 _ _).trans (flt (by decide)).1)) ?_
 refine Home.run X0 hx hby sg31_4_2 (pc' := 6) (L' := #[.val (.int (1 : Int32)), .val (.int (3 : Int32)), .val .null]) (S' := [(.int (3 : Int32)), (.int (1 : Int32))]) rfl ?_
 refine Home.go (fun _ => XS.icmpYes X0.here hx rfl (pc0 := 6) (pc' := 16) rfl (hb hby d31_6) rfl (tlt (by decide)).1 (by decide) (by decide)) ?_
 refine Home.run X0 hx hby sg31_16_1 (pc' := 17) (L' := #[.val (.int (1 : Int32)), .val (.int (3 : Int32)), .val .null]) (S' := [(.int (1 : Int32))]) rfl ?_
 exact Home.retI X0 hx hlk hret (hb hby d31_17) ⟨rfl, rfl, e0⟩ (by decide) (by decide)
theorem rm30_1 (l : Launch) (Z : State) (a0 : Array Value) (hw : HW a0 Z) (ws : List Jvm.Cond)  (h0 : Heap) (n0 : Nat) (O0 : Old Z n0 h0) :
    Con l Z (⟨"java/util/Objects", "checkIndex", "(II)I"⟩ : MethodName) jdk_31_method_17_code 2 (some .int) ws ({ frames := 1, cells := 0, slots := 0, locals := 14 } : Room) #[(.int (1 : Int32)), (.int (3 : Int32))] h0 (Pur (some (.int (1 : Int32))) h0) := by
 refine own_body (plainFor_of_name own_pn10) (fun m => ef_rm30_1 m (1 : Int32) (3 : Int32)) ?_
 intro p e s m below meth c s₁ hx hby hlk hml hret hZ hown hnm X0 e0
 have N0 := Fr.nil n0
 refine Home.run X0 hx hby sg30_0_3 (pc' := 3) (L' := #[.val (.int (1 : Int32)), .val (.int (3 : Int32))]) (S' := [.null, (.int (3 : Int32)), (.int (1 : Int32))]) rfl ?_
 refine Home.st (own_pure (own_static X0 hx hZ hown (own_w207 hw) (own_w208 hw) (own_w209 hw) (own_w210 hw) (by decide) (rm31_1 l Z a0 hw []  h0 n0 O0) e0 rfl (by rw [hml]; rfl) (argsL := [(.int (1 : Int32)), (.int (3 : Int32)), .null]) (rest := []) (lenOf own_pd21 rfl) rfl rfl (W := 0) (by exact hW0) (by decide) (by decide) (hb hby d30_3) (by decide) (by decide))) fun T1 X1 e1 => ?_
 exact Home.retI X1 hx hlk hret (hb hby d30_6) ⟨rfl, rfl, e1⟩ (by decide) (by decide)
theorem rm32_1 (l : Launch) (Z : State) (a0 : Array Value) (hw : HW a0 Z) (ws : List Jvm.Cond) (o0 p2 : Addr) (k_p2 : ClassId) (p3 p4 p5 : Addr) (h0 : Heap) (n0 : Nat) (O0 : Old Z n0 h0) (F_elementData_o0 : Fld Z h0 o0 "java/util/ArrayList" "elementData" "[Ljava/lang/Object;" (.ref p2)) (V_p2 : Arv Z h0 p2 k_p2 (.object "java/lang/Object") (10 : Int32) [(.ref p3), (.ref p4), (.ref p5), .null, .null, .null, .null, .null, .null, .null] .null) :
    Con l Z (⟨"java/util/ArrayList", "elementData", "(I)Ljava/lang/Object;"⟩ : MethodName) jdk_38_method_18_code 2 (some (.object "java/lang/Object")) ws ({ frames := 0, cells := 0, slots := 0, locals := 0 } : Room) #[(.ref o0), (.int (1 : Int32))] h0 (Pur (some (.ref p4)) h0) := by
 refine own_body (plainFor_of_name own_pn6) (fun m => ef_rm32_1 m o0 (1 : Int32)) ?_
 intro p e s m below meth c s₁ hx hby hlk hml hret hZ hown hnm X0 e0
 have N0 := Fr.nil n0
 refine Home.run X0 hx hby sg32_0_1 (pc' := 1) (L' := #[sr o0, .val (.int (1 : Int32))]) (S' := [(.ref o0)]) rfl ?_
 refine Home.st (getF X0 hx hZ hown (host := "") (Or.inl (own_w71 hw)) Via.refl e0 F_elementData_o0 rfl rfl (hb hby d32_1)) fun T1 X1 e1 => ?_
 refine Home.run X1 hx hby sg32_4_1 (pc' := 5) (L' := #[sr o0, .val (.int (1 : Int32))]) (S' := [(.int (1 : Int32)), (.ref p2)]) rfl ?_
 obtain ⟨cl2, Ar2, q2, S2, M2, H2, G2⟩ := id V_p2
 have ib2 : ¬ ((1 : Int32) < 0 ∨ cl2.slots.size ≤ ((1 : Int32)).toNatClampNeg) := inb_of S2 ⟨by decide, by decide⟩
 refine Home.go (X1.aaload hx (j := (1 : Int32)) (v := (.ref p4)) (by rw [e1]; exact Ar2.1) (State.isArrayOf_alike hZ.alike Ar2.2.1) rfl Ar2.2.2 ib2 (Has.at H2 ib2 rfl) rfl rfl (hb hby d32_5)) ?_
 exact Home.retR X1 hx hlk hret rfl rfl (hb hby d32_6) ⟨rfl, rfl, e1⟩ (by decide) (by decide)
theorem rm29_1 (l : Launch) (Z : State) (a0 : Array Value) (hw : HW a0 Z) (ws : List Jvm.Cond) (o0 p2 : Addr) (k_p2 : ClassId) (p3 p4 p5 : Addr) (h0 : Heap) (n0 : Nat) (O0 : Old Z n0 h0) (F_size_o0 : Fld Z h0 o0 "java/util/ArrayList" "size" "I" (.int (3 : Int32))) (E_o0 : Exa Z h0 o0 "java/util/ArrayList") (F_elementData_o0 : Fld Z h0 o0 "java/util/ArrayList" "elementData" "[Ljava/lang/Object;" (.ref p2)) (V_p2 : Arv Z h0 p2 k_p2 (.object "java/lang/Object") (10 : Int32) [(.ref p3), (.ref p4), (.ref p5), .null, .null, .null, .null, .null, .null, .null] .null) :
    Con l Z (⟨"java/util/ArrayList", "get", "(I)Ljava/lang/Object;"⟩ : MethodName) jdk_38_method_20_code 2 (some (.object "java/lang/Object")) ws ({ frames := 2, cells := 0, slots := 0, locals := 27 } : Room) #[(.ref o0), (.int (1 : Int32))] h0 (Pur (some (.ref p4)) h0) := by
 refine own_body (plainFor_of_name own_pn6) (fun m => ef_rm29_1 m o0 (1 : Int32)) ?_
 intro p e s m below meth c s₁ hx hby hlk hml hret hZ hown hnm X0 e0
 have N0 := Fr.nil n0
 refine Home.run X0 hx hby sg29_0_2 (pc' := 2) (L' := #[sr o0, .val (.int (1 : Int32))]) (S' := [(.ref o0), (.int (1 : Int32))]) rfl ?_
 refine Home.st (getF X0 hx hZ hown (host := "") (Or.inl (own_w84 hw)) Via.refl e0 F_size_o0 rfl rfl (hb hby d29_2)) fun T1 X1 e1 => ?_
 refine Home.st (own_pure (own_static X1 hx hZ hown (own_w203 hw) (own_w204 hw) (own_w205 hw) (own_w206 hw) (by decide) (rm30_1 l Z a0 hw []  h0 n0 O0) e1 rfl (by rw [hml]; rfl) (argsL := [(.int (1 : Int32)), (.int (3 : Int32))]) (rest := []) (lenOf own_pd7 rfl) rfl rfl (W := 0) (by exact hW0) (by decide) (by decide) (hb hby d29_5) (by decide) (by decide))) fun T2 X2 e2 => ?_
 refine Home.run X2 hx hby sg29_8_3 (pc' := 11) (L' := #[sr o0, .val (.int (1 : Int32))]) (S' := [(.int (1 : Int32)), (.ref o0)]) rfl ?_
 refine Home.st (own_pure (own_virtual X2 hx hZ hown (own_w211 hw) (own_w212 hw) (notFace_of_selects (args := #[]) (mvT hZ (own_w214 hw))) (own_w214 hw) (own_w213 hw) (own_w51 hw) (own_w215 hw) (by decide) (rm32_1 l Z a0 hw [] o0 p2 k_p2 p3 p4 p5 h0 n0 O0 F_elementData_o0 V_p2) e2 E_o0 rfl (by rw [hml]; rfl) (argsL := [(.int (1 : Int32))]) (rest := []) (lenOf own_pd22 rfl) rfl rfl (W := 0) (by exact hW0) (by decide) (by decide) (hb hby d29_11) (by decide) (by decide))) fun T3 X3 e3 => ?_
 exact Home.retR X3 hx hlk hret rfl rfl (hb hby d29_14) ⟨rfl, rfl, e3⟩ (by decide) (by decide)
theorem rm31_2 (l : Launch) (Z : State) (a0 : Array Value) (hw : HW a0 Z) (ws : List Jvm.Cond)  (h0 : Heap) (n0 : Nat) (O0 : Old Z n0 h0) :
    Con l Z (⟨"jdk/internal/util/Preconditions", "checkIndex", "(IILjava/util/function/BiFunction;)I"⟩ : MethodName) jdk_41_method_11_code 3 (some .int) ws ({ frames := 0, cells := 0, slots := 0, locals := 0 } : Room) #[(.int (2 : Int32)), (.int (3 : Int32)), .null] h0 (Pur (some (.int (2 : Int32))) h0) := by
 refine own_body (plainFor_of_name own_pn9) (fun m => ef_rm31_2 m (2 : Int32) (3 : Int32)) ?_
 intro p e s m below meth c s₁ hx hby hlk hml hret hZ hown hnm X0 e0
 have N0 := Fr.nil n0
 refine Home.run X0 hx hby sg31_0_1 (pc' := 1) (L' := #[.val (.int (2 : Int32)), .val (.int (3 : Int32)), .val .null]) (S' := [(.int (2 : Int32))]) rfl ?_
 refine Home.go (fun _ => XS.ifNo X0.here hx rfl (hb hby d31_1) rfl ((if0 _ _).trans (flt (by decide)).1)) ?_
 refine Home.run X0 hx hby sg31_4_2 (pc' := 6) (L' := #[.val (.int (2 : Int32)), .val (.int (3 : Int32)), .val .null]) (S' := [(.int (3 : Int32)), (.int (2 : Int32))]) rfl ?_
 refine Home.go (fun _ => XS.icmpYes X0.here hx rfl (pc0 := 6) (pc' := 16) rfl (hb hby d31_6) rfl (tlt (by decide)).1 (by decide) (by decide)) ?_
 refine Home.run X0 hx hby sg31_16_1 (pc' := 17) (L' := #[.val (.int (2 : Int32)), .val (.int (3 : Int32)), .val .null]) (S' := [(.int (2 : Int32))]) rfl ?_
 exact Home.retI X0 hx hlk hret (hb hby d31_17) ⟨rfl, rfl, e0⟩ (by decide) (by decide)
theorem rm30_2 (l : Launch) (Z : State) (a0 : Array Value) (hw : HW a0 Z) (ws : List Jvm.Cond)  (h0 : Heap) (n0 : Nat) (O0 : Old Z n0 h0) :
    Con l Z (⟨"java/util/Objects", "checkIndex", "(II)I"⟩ : MethodName) jdk_31_method_17_code 2 (some .int) ws ({ frames := 1, cells := 0, slots := 0, locals := 14 } : Room) #[(.int (2 : Int32)), (.int (3 : Int32))] h0 (Pur (some (.int (2 : Int32))) h0) := by
 refine own_body (plainFor_of_name own_pn10) (fun m => ef_rm30_2 m (2 : Int32) (3 : Int32)) ?_
 intro p e s m below meth c s₁ hx hby hlk hml hret hZ hown hnm X0 e0
 have N0 := Fr.nil n0
 refine Home.run X0 hx hby sg30_0_3 (pc' := 3) (L' := #[.val (.int (2 : Int32)), .val (.int (3 : Int32))]) (S' := [.null, (.int (3 : Int32)), (.int (2 : Int32))]) rfl ?_
 refine Home.st (own_pure (own_static X0 hx hZ hown (own_w207 hw) (own_w208 hw) (own_w209 hw) (own_w210 hw) (by decide) (rm31_2 l Z a0 hw []  h0 n0 O0) e0 rfl (by rw [hml]; rfl) (argsL := [(.int (2 : Int32)), (.int (3 : Int32)), .null]) (rest := []) (lenOf own_pd21 rfl) rfl rfl (W := 0) (by exact hW0) (by decide) (by decide) (hb hby d30_3) (by decide) (by decide))) fun T1 X1 e1 => ?_
 exact Home.retI X1 hx hlk hret (hb hby d30_6) ⟨rfl, rfl, e1⟩ (by decide) (by decide)
theorem rm32_2 (l : Launch) (Z : State) (a0 : Array Value) (hw : HW a0 Z) (ws : List Jvm.Cond) (o0 p2 : Addr) (k_p2 : ClassId) (p3 p4 p5 : Addr) (h0 : Heap) (n0 : Nat) (O0 : Old Z n0 h0) (F_elementData_o0 : Fld Z h0 o0 "java/util/ArrayList" "elementData" "[Ljava/lang/Object;" (.ref p2)) (V_p2 : Arv Z h0 p2 k_p2 (.object "java/lang/Object") (10 : Int32) [(.ref p3), (.ref p4), (.ref p5), .null, .null, .null, .null, .null, .null, .null] .null) :
    Con l Z (⟨"java/util/ArrayList", "elementData", "(I)Ljava/lang/Object;"⟩ : MethodName) jdk_38_method_18_code 2 (some (.object "java/lang/Object")) ws ({ frames := 0, cells := 0, slots := 0, locals := 0 } : Room) #[(.ref o0), (.int (2 : Int32))] h0 (Pur (some (.ref p5)) h0) := by
 refine own_body (plainFor_of_name own_pn6) (fun m => ef_rm32_2 m o0 (2 : Int32)) ?_
 intro p e s m below meth c s₁ hx hby hlk hml hret hZ hown hnm X0 e0
 have N0 := Fr.nil n0
 refine Home.run X0 hx hby sg32_0_1 (pc' := 1) (L' := #[sr o0, .val (.int (2 : Int32))]) (S' := [(.ref o0)]) rfl ?_
 refine Home.st (getF X0 hx hZ hown (host := "") (Or.inl (own_w71 hw)) Via.refl e0 F_elementData_o0 rfl rfl (hb hby d32_1)) fun T1 X1 e1 => ?_
 refine Home.run X1 hx hby sg32_4_1 (pc' := 5) (L' := #[sr o0, .val (.int (2 : Int32))]) (S' := [(.int (2 : Int32)), (.ref p2)]) rfl ?_
 obtain ⟨cl2, Ar2, q2, S2, M2, H2, G2⟩ := id V_p2
 have ib2 : ¬ ((2 : Int32) < 0 ∨ cl2.slots.size ≤ ((2 : Int32)).toNatClampNeg) := inb_of S2 ⟨by decide, by decide⟩
 refine Home.go (X1.aaload hx (j := (2 : Int32)) (v := (.ref p5)) (by rw [e1]; exact Ar2.1) (State.isArrayOf_alike hZ.alike Ar2.2.1) rfl Ar2.2.2 ib2 (Has.at H2 ib2 rfl) rfl rfl (hb hby d32_5)) ?_
 exact Home.retR X1 hx hlk hret rfl rfl (hb hby d32_6) ⟨rfl, rfl, e1⟩ (by decide) (by decide)
theorem rm29_2 (l : Launch) (Z : State) (a0 : Array Value) (hw : HW a0 Z) (ws : List Jvm.Cond) (o0 p2 : Addr) (k_p2 : ClassId) (p3 p4 p5 : Addr) (h0 : Heap) (n0 : Nat) (O0 : Old Z n0 h0) (F_size_o0 : Fld Z h0 o0 "java/util/ArrayList" "size" "I" (.int (3 : Int32))) (E_o0 : Exa Z h0 o0 "java/util/ArrayList") (F_elementData_o0 : Fld Z h0 o0 "java/util/ArrayList" "elementData" "[Ljava/lang/Object;" (.ref p2)) (V_p2 : Arv Z h0 p2 k_p2 (.object "java/lang/Object") (10 : Int32) [(.ref p3), (.ref p4), (.ref p5), .null, .null, .null, .null, .null, .null, .null] .null) :
    Con l Z (⟨"java/util/ArrayList", "get", "(I)Ljava/lang/Object;"⟩ : MethodName) jdk_38_method_20_code 2 (some (.object "java/lang/Object")) ws ({ frames := 2, cells := 0, slots := 0, locals := 27 } : Room) #[(.ref o0), (.int (2 : Int32))] h0 (Pur (some (.ref p5)) h0) := by
 refine own_body (plainFor_of_name own_pn6) (fun m => ef_rm29_2 m o0 (2 : Int32)) ?_
 intro p e s m below meth c s₁ hx hby hlk hml hret hZ hown hnm X0 e0
 have N0 := Fr.nil n0
 refine Home.run X0 hx hby sg29_0_2 (pc' := 2) (L' := #[sr o0, .val (.int (2 : Int32))]) (S' := [(.ref o0), (.int (2 : Int32))]) rfl ?_
 refine Home.st (getF X0 hx hZ hown (host := "") (Or.inl (own_w84 hw)) Via.refl e0 F_size_o0 rfl rfl (hb hby d29_2)) fun T1 X1 e1 => ?_
 refine Home.st (own_pure (own_static X1 hx hZ hown (own_w203 hw) (own_w204 hw) (own_w205 hw) (own_w206 hw) (by decide) (rm30_2 l Z a0 hw []  h0 n0 O0) e1 rfl (by rw [hml]; rfl) (argsL := [(.int (2 : Int32)), (.int (3 : Int32))]) (rest := []) (lenOf own_pd7 rfl) rfl rfl (W := 0) (by exact hW0) (by decide) (by decide) (hb hby d29_5) (by decide) (by decide))) fun T2 X2 e2 => ?_
 refine Home.run X2 hx hby sg29_8_3 (pc' := 11) (L' := #[sr o0, .val (.int (2 : Int32))]) (S' := [(.int (2 : Int32)), (.ref o0)]) rfl ?_
 refine Home.st (own_pure (own_virtual X2 hx hZ hown (own_w211 hw) (own_w212 hw) (notFace_of_selects (args := #[]) (mvT hZ (own_w214 hw))) (own_w214 hw) (own_w213 hw) (own_w51 hw) (own_w215 hw) (by decide) (rm32_2 l Z a0 hw [] o0 p2 k_p2 p3 p4 p5 h0 n0 O0 F_elementData_o0 V_p2) e2 E_o0 rfl (by rw [hml]; rfl) (argsL := [(.int (2 : Int32))]) (rest := []) (lenOf own_pd22 rfl) rfl rfl (W := 0) (by exact hW0) (by decide) (by decide) (hb hby d29_11) (by decide) (by decide))) fun T3 X3 e3 => ?_
 exact Home.retR X3 hx hlk hret rfl rfl (hb hby d29_14) ⟨rfl, rfl, e3⟩ (by decide) (by decide)
theorem rm24_5 (l : Launch) (Z : State) (a0 : Array Value) (hw : HW a0 Z) (ws : List Jvm.Cond) (o0 p2 p3 : Addr) (k_p3 : ClassId) (p4 p5 : Addr) (h0 : Heap) (n0 : Nat) (O0 : Old Z n0 h0) (E_o0 : Exa Z h0 o0 "java/util/ArrayList$Itr") (F_this_0_o0 : Fld Z h0 o0 "java/util/ArrayList$Itr" "this$0" "Ljava/util/ArrayList;" (.ref p2)) (F_modCount_p2 : Fld Z h0 p2 "java/util/AbstractList" "modCount" "I" (.int (2 : Int32))) (F_expectedModCount_o0 : Fld Z h0 o0 "java/util/ArrayList$Itr" "expectedModCount" "I" (.int (2 : Int32))) (F_cursor_o0 : Fld Z h0 o0 "java/util/ArrayList$Itr" "cursor" "I" (.int (0 : Int32))) (F_size_p2 : Fld Z h0 p2 "java/util/ArrayList" "size" "I" (.int (2 : Int32))) (F_elementData_p2 : Fld Z h0 p2 "java/util/ArrayList" "elementData" "[Ljava/lang/Object;" (.ref p3)) (V_p3 : Arv Z h0 p3 k_p3 (.object "java/lang/Object") (10 : Int32) [(.ref p4), (.ref p5), .null, .null, .null, .null, .null, .null, .null, .null] .null) (g_o0 : n0 ≤ o0) (F_lastRet_o0 : Fld Z h0 o0 "java/util/ArrayList$Itr" "lastRet" "I" (.int (-1 : Int32))) :
    Con l Z (⟨"java/util/ArrayList$Itr", "next", "()Ljava/lang/Object;"⟩ : MethodName) jdk_49_method_3_code 3 (some (.object "java/lang/Object")) ws ({ frames := 1, cells := 0, slots := 0, locals := 12 } : Room) #[(.ref o0)] h0 (fun v h L => v = some (.ref p4) ∧ Fr n0 L ∧ Keep h0 h [o0] ∧ Exa Z h o0 "java/util/ArrayList$Itr" ∧ Fld Z h o0 "java/util/ArrayList$Itr" "this$0" "Ljava/util/ArrayList;" (.ref p2) ∧ Fld Z h o0 "java/util/ArrayList$Itr" "expectedModCount" "I" (.int (2 : Int32)) ∧ Fld Z h o0 "java/util/ArrayList$Itr" "cursor" "I" (.int (1 : Int32)) ∧ Fld Z h o0 "java/util/ArrayList$Itr" "lastRet" "I" (.int (0 : Int32))) := by
 refine own_body (plainFor_of_name own_pn8) (fun m => ef_rm24_5 m o0) ?_
 intro p e s m below meth c s₁ hx hby hlk hml hret hZ hown hnm X0 e0
 have N0 := Fr.nil n0
 refine Home.run X0 hx hby sg24_0_1 (pc' := 1) (L' := #[sr o0, .unset, .unset]) (S' := [(.ref o0)]) rfl ?_
 refine Home.st (own_pure (own_virtual X0 hx hZ hown (own_w172 hw) (own_w173 hw) (notFace_of_selects (args := #[]) (mvT hZ (own_w175 hw))) (own_w175 hw) (own_w174 hw) (own_w130 hw) (own_w176 hw) (by decide) (rm25_1 l Z a0 hw [] o0 p2 (2 : Int32) h0 n0 O0 F_this_0_o0 F_modCount_p2 F_expectedModCount_o0) e0 E_o0 rfl (by rw [hml]; rfl) (argsL := []) (rest := []) (lenOf own_pd4 rfl) rfl rfl (W := 0) (by exact hW0) (by decide) (by decide) (hb hby d24_1) (by decide) (by decide))) fun T1 X1 e1 => ?_
 refine Home.run X1 hx hby sg24_4_1 (pc' := 5) (L' := #[sr o0, .unset, .unset]) (S' := [(.ref o0)]) rfl ?_
 refine Home.st (getF X1 hx hZ hown (host := "") (Or.inl (own_w152 hw)) Via.refl e1 F_cursor_o0 rfl rfl (hb hby d24_5)) fun T2 X2 e2 => ?_
 refine Home.run X2 hx hby sg24_8_3 (pc' := 11) (L' := #[sr o0, .val (.int (0 : Int32)), .unset]) (S' := [(.ref o0), (.int (0 : Int32))]) rfl ?_
 refine Home.st (getF X2 hx hZ hown (host := "") (Or.inl (own_w135 hw)) Via.refl e2 F_this_0_o0 rfl rfl (hb hby d24_11)) fun T3 X3 e3 => ?_
 refine Home.st (getF X3 hx hZ hown (Or.inr (own_w154 hw)) Via.refl e3 F_size_p2 rfl rfl (hb hby d24_14)) fun T4 X4 e4 => ?_
 refine Home.go (fun _ => XS.icmpYes X4.here hx rfl (pc0 := 17) (pc' := 28) rfl (hb hby d24_17) rfl (tlt (by decide)).1 (by decide) (by decide)) ?_
 refine Home.run X4 hx hby sg24_28_1 (pc' := 29) (L' := #[sr o0, .val (.int (0 : Int32)), .unset]) (S' := [(.ref o0)]) rfl ?_
 refine Home.st (getF X4 hx hZ hown (host := "") (Or.inl (own_w135 hw)) Via.refl e4 F_this_0_o0 rfl rfl (hb hby d24_29)) fun T5 X5 e5 => ?_
 refine Home.st (getF X5 hx hZ hown (host := "") (Or.inl (own_w177 hw)) Via.refl e5 F_elementData_p2 rfl rfl (hb hby d24_32)) fun T6 X6 e6 => ?_
 refine Home.run X6 hx hby sg24_35_3 (pc' := 38) (L' := #[sr o0, .val (.int (0 : Int32)), sr p3]) (S' := [(.ref p3), (.int (0 : Int32))]) rfl ?_
 obtain ⟨cl7, Ar7, q7, S7, M7, H7, G7⟩ := id V_p3
 refine Home.go (own_alen X6 hx hZ e6 Ar7 S7 M7 rfl rfl (hb hby d24_38)) ?_
 show Home T6 (mkF m 39 #[sr o0, .val (.int (0 : Int32)), sr p3] [(.int (10 : Int32)), (.int (0 : Int32))])
 refine Home.go (fun _ => XS.icmpYes X6.here hx rfl (pc0 := 39) (pc' := 50) rfl (hb hby d24_39) rfl (tlt (by decide)).1 (by decide) (by decide)) ?_
 refine Home.run X6 hx hby sg24_50_4 (pc' := 54) (L' := #[sr o0, .val (.int (0 : Int32)), sr p3]) (S' := [(.int (1 : Int32)), (.ref o0)]) rfl ?_
 refine Home.wr (putF X6 hx hZ hown (host := "") (Or.inl (own_w152 hw)) Via.refl e6 F_cursor_o0 E_o0 (Or.inl (own_w153 hw)) (own_w129 hw) (ty := .int) (by decide) rfl rfl rfl rfl (hb hby d24_54)) fun T8 h8 X8 e8 W8 => ?_
 have Fw8 := F_cursor_o0.same W8
 have O8 := O0.wr W8 g_o0
 have K8 : Keep h0 h8 ([o0] : List Addr) := Keep.wr (Keep.refl h0 ([o0] : List Addr)) W8 (Or.inl (List.mem_of_getElem? (i := 0) rfl))
 have N8 := Fr.snoc X8 N0 g_o0
 refine Home.run X8 hx hby sg24_57_4 (pc' := 61) (L' := #[sr o0, .val (.int (0 : Int32)), sr p3]) (S' := [(.int (0 : Int32)), (.ref o0), (.int (0 : Int32)), (.ref p3)]) rfl ?_
 have q9 := (F_lastRet_o0.other W8 (Or.inr (slot_ne (Or.inl (own_w139 hw)) (Or.inl (own_w153 hw)) (by decide) (t := .int) (t' := .int) (by decide) (by decide))))
 refine Home.wr (putF X8 hx hZ hown (host := "") (Or.inl (own_w138 hw)) Via.refl e8 q9 (E_o0.keep K8) (Or.inl (own_w139 hw)) (own_w129 hw) (ty := .int) (by decide) rfl rfl rfl rfl (hb hby d24_61)) fun T10 h10 X10 e10 W10 => ?_
 have Fw10 := q9.same W10
 have O10 := O8.wr W10 g_o0
 have K10 : Keep h0 h10 ([o0] : List Addr) := Keep.wr K8 W10 (Or.inl (List.mem_of_getElem? (i := 0) rfl))
 have N10 := Fr.snoc X10 N8 g_o0
 show Home T10 (mkF m 64 #[sr o0, .val (.int (0 : Int32)), sr p3] [(.int (0 : Int32)), (.ref p3)])
 have ne11 : p3 ≠ o0 := (Ne.symm (own_neAV E_o0 (own_w129 hw) V_p3))
 have q12 := (V_p3.keep K10 (ninS ne11 nin0))
 obtain ⟨cl13, Ar13, q13, S13, M13, H13, G13⟩ := id q12
 have ib13 : ¬ ((0 : Int32) < 0 ∨ cl13.slots.size ≤ ((0 : Int32)).toNatClampNeg) := inb_of S13 ⟨by decide, by decide⟩
 refine Home.go (X10.aaload hx (j := (0 : Int32)) (v := (.ref p4)) (by rw [e10]; exact Ar13.1) (State.isArrayOf_alike hZ.alike Ar13.2.1) rfl Ar13.2.2 ib13 (Has.at H13 ib13 rfl) rfl rfl (hb hby d24_64)) ?_
 have q14 := ((F_this_0_o0.other W8 (Or.inr (slot_ne (Or.inr (own_w136 hw)) (Or.inl (own_w153 hw)) (by decide) (t := (.object "java/util/ArrayList")) (t' := .int) (by decide) (by decide)))).other W10 (Or.inr (slot_ne (Or.inr (own_w136 hw)) (Or.inl (own_w139 hw)) (by decide) (t := (.object "java/util/ArrayList")) (t' := .int) (by decide) (by decide))))
 have q15 := ((F_expectedModCount_o0.other W8 (Or.inr (slot_ne (Or.inl (own_w142 hw)) (Or.inl (own_w153 hw)) (by decide) (t := .int) (t' := .int) (by decide) (by decide)))).other W10 (Or.inr (slot_ne (Or.inl (own_w142 hw)) (Or.inl (own_w139 hw)) (by decide) (t := .int) (t' := .int) (by decide) (by decide))))
 have q16 := (Fw8.other W10 (Or.inr (slot_ne (Or.inl (own_w153 hw)) (Or.inl (own_w139 hw)) (by decide) (t := .int) (t' := .int) (by decide) (by decide))))
 exact Home.retR X10 hx hlk hret rfl rfl (hb hby d24_65) (by rw [show T10.heap = h10 from e10]; exact ⟨rfl, N10, K10, (E_o0.keep K10), q14, q15, q16, Fw10⟩) (by decide) (by decide)
theorem rm24_6 (l : Launch) (Z : State) (a0 : Array Value) (hw : HW a0 Z) (ws : List Jvm.Cond) (o0 p2 p3 : Addr) (k_p3 : ClassId) (p4 p5 : Addr) (h0 : Heap) (n0 : Nat) (O0 : Old Z n0 h0) (E_o0 : Exa Z h0 o0 "java/util/ArrayList$Itr") (F_this_0_o0 : Fld Z h0 o0 "java/util/ArrayList$Itr" "this$0" "Ljava/util/ArrayList;" (.ref p2)) (F_modCount_p2 : Fld Z h0 p2 "java/util/AbstractList" "modCount" "I" (.int (2 : Int32))) (F_expectedModCount_o0 : Fld Z h0 o0 "java/util/ArrayList$Itr" "expectedModCount" "I" (.int (2 : Int32))) (F_cursor_o0 : Fld Z h0 o0 "java/util/ArrayList$Itr" "cursor" "I" (.int (1 : Int32))) (F_size_p2 : Fld Z h0 p2 "java/util/ArrayList" "size" "I" (.int (2 : Int32))) (F_elementData_p2 : Fld Z h0 p2 "java/util/ArrayList" "elementData" "[Ljava/lang/Object;" (.ref p3)) (V_p3 : Arv Z h0 p3 k_p3 (.object "java/lang/Object") (10 : Int32) [(.ref p4), (.ref p5), .null, .null, .null, .null, .null, .null, .null, .null] .null) (g_o0 : n0 ≤ o0) (F_lastRet_o0 : Fld Z h0 o0 "java/util/ArrayList$Itr" "lastRet" "I" (.int (0 : Int32))) :
    Con l Z (⟨"java/util/ArrayList$Itr", "next", "()Ljava/lang/Object;"⟩ : MethodName) jdk_49_method_3_code 3 (some (.object "java/lang/Object")) ws ({ frames := 1, cells := 0, slots := 0, locals := 12 } : Room) #[(.ref o0)] h0 (fun v h L => v = some (.ref p5) ∧ Fr n0 L ∧ Keep h0 h [o0] ∧ Exa Z h o0 "java/util/ArrayList$Itr" ∧ Fld Z h o0 "java/util/ArrayList$Itr" "this$0" "Ljava/util/ArrayList;" (.ref p2) ∧ Fld Z h o0 "java/util/ArrayList$Itr" "expectedModCount" "I" (.int (2 : Int32)) ∧ Fld Z h o0 "java/util/ArrayList$Itr" "cursor" "I" (.int (2 : Int32)) ∧ Fld Z h o0 "java/util/ArrayList$Itr" "lastRet" "I" (.int (1 : Int32))) := by
 refine own_body (plainFor_of_name own_pn8) (fun m => ef_rm24_6 m o0) ?_
 intro p e s m below meth c s₁ hx hby hlk hml hret hZ hown hnm X0 e0
 have N0 := Fr.nil n0
 refine Home.run X0 hx hby sg24_0_1 (pc' := 1) (L' := #[sr o0, .unset, .unset]) (S' := [(.ref o0)]) rfl ?_
 refine Home.st (own_pure (own_virtual X0 hx hZ hown (own_w172 hw) (own_w173 hw) (notFace_of_selects (args := #[]) (mvT hZ (own_w175 hw))) (own_w175 hw) (own_w174 hw) (own_w130 hw) (own_w176 hw) (by decide) (rm25_1 l Z a0 hw [] o0 p2 (2 : Int32) h0 n0 O0 F_this_0_o0 F_modCount_p2 F_expectedModCount_o0) e0 E_o0 rfl (by rw [hml]; rfl) (argsL := []) (rest := []) (lenOf own_pd4 rfl) rfl rfl (W := 0) (by exact hW0) (by decide) (by decide) (hb hby d24_1) (by decide) (by decide))) fun T1 X1 e1 => ?_
 refine Home.run X1 hx hby sg24_4_1 (pc' := 5) (L' := #[sr o0, .unset, .unset]) (S' := [(.ref o0)]) rfl ?_
 refine Home.st (getF X1 hx hZ hown (host := "") (Or.inl (own_w152 hw)) Via.refl e1 F_cursor_o0 rfl rfl (hb hby d24_5)) fun T2 X2 e2 => ?_
 refine Home.run X2 hx hby sg24_8_3 (pc' := 11) (L' := #[sr o0, .val (.int (1 : Int32)), .unset]) (S' := [(.ref o0), (.int (1 : Int32))]) rfl ?_
 refine Home.st (getF X2 hx hZ hown (host := "") (Or.inl (own_w135 hw)) Via.refl e2 F_this_0_o0 rfl rfl (hb hby d24_11)) fun T3 X3 e3 => ?_
 refine Home.st (getF X3 hx hZ hown (Or.inr (own_w154 hw)) Via.refl e3 F_size_p2 rfl rfl (hb hby d24_14)) fun T4 X4 e4 => ?_
 refine Home.go (fun _ => XS.icmpYes X4.here hx rfl (pc0 := 17) (pc' := 28) rfl (hb hby d24_17) rfl (tlt (by decide)).1 (by decide) (by decide)) ?_
 refine Home.run X4 hx hby sg24_28_1 (pc' := 29) (L' := #[sr o0, .val (.int (1 : Int32)), .unset]) (S' := [(.ref o0)]) rfl ?_
 refine Home.st (getF X4 hx hZ hown (host := "") (Or.inl (own_w135 hw)) Via.refl e4 F_this_0_o0 rfl rfl (hb hby d24_29)) fun T5 X5 e5 => ?_
 refine Home.st (getF X5 hx hZ hown (host := "") (Or.inl (own_w177 hw)) Via.refl e5 F_elementData_p2 rfl rfl (hb hby d24_32)) fun T6 X6 e6 => ?_
 refine Home.run X6 hx hby sg24_35_3 (pc' := 38) (L' := #[sr o0, .val (.int (1 : Int32)), sr p3]) (S' := [(.ref p3), (.int (1 : Int32))]) rfl ?_
 obtain ⟨cl7, Ar7, q7, S7, M7, H7, G7⟩ := id V_p3
 refine Home.go (own_alen X6 hx hZ e6 Ar7 S7 M7 rfl rfl (hb hby d24_38)) ?_
 show Home T6 (mkF m 39 #[sr o0, .val (.int (1 : Int32)), sr p3] [(.int (10 : Int32)), (.int (1 : Int32))])
 refine Home.go (fun _ => XS.icmpYes X6.here hx rfl (pc0 := 39) (pc' := 50) rfl (hb hby d24_39) rfl (tlt (by decide)).1 (by decide) (by decide)) ?_
 refine Home.run X6 hx hby sg24_50_4 (pc' := 54) (L' := #[sr o0, .val (.int (1 : Int32)), sr p3]) (S' := [(.int (2 : Int32)), (.ref o0)]) rfl ?_
 refine Home.wr (putF X6 hx hZ hown (host := "") (Or.inl (own_w152 hw)) Via.refl e6 F_cursor_o0 E_o0 (Or.inl (own_w153 hw)) (own_w129 hw) (ty := .int) (by decide) rfl rfl rfl rfl (hb hby d24_54)) fun T8 h8 X8 e8 W8 => ?_
 have Fw8 := F_cursor_o0.same W8
 have O8 := O0.wr W8 g_o0
 have K8 : Keep h0 h8 ([o0] : List Addr) := Keep.wr (Keep.refl h0 ([o0] : List Addr)) W8 (Or.inl (List.mem_of_getElem? (i := 0) rfl))
 have N8 := Fr.snoc X8 N0 g_o0
 refine Home.run X8 hx hby sg24_57_4 (pc' := 61) (L' := #[sr o0, .val (.int (1 : Int32)), sr p3]) (S' := [(.int (1 : Int32)), (.ref o0), (.int (1 : Int32)), (.ref p3)]) rfl ?_
 have q9 := (F_lastRet_o0.other W8 (Or.inr (slot_ne (Or.inl (own_w139 hw)) (Or.inl (own_w153 hw)) (by decide) (t := .int) (t' := .int) (by decide) (by decide))))
 refine Home.wr (putF X8 hx hZ hown (host := "") (Or.inl (own_w138 hw)) Via.refl e8 q9 (E_o0.keep K8) (Or.inl (own_w139 hw)) (own_w129 hw) (ty := .int) (by decide) rfl rfl rfl rfl (hb hby d24_61)) fun T10 h10 X10 e10 W10 => ?_
 have Fw10 := q9.same W10
 have O10 := O8.wr W10 g_o0
 have K10 : Keep h0 h10 ([o0] : List Addr) := Keep.wr K8 W10 (Or.inl (List.mem_of_getElem? (i := 0) rfl))
 have N10 := Fr.snoc X10 N8 g_o0
 show Home T10 (mkF m 64 #[sr o0, .val (.int (1 : Int32)), sr p3] [(.int (1 : Int32)), (.ref p3)])
 have ne11 : p3 ≠ o0 := (Ne.symm (own_neAV E_o0 (own_w129 hw) V_p3))
 have q12 := (V_p3.keep K10 (ninS ne11 nin0))
 obtain ⟨cl13, Ar13, q13, S13, M13, H13, G13⟩ := id q12
 have ib13 : ¬ ((1 : Int32) < 0 ∨ cl13.slots.size ≤ ((1 : Int32)).toNatClampNeg) := inb_of S13 ⟨by decide, by decide⟩
 refine Home.go (X10.aaload hx (j := (1 : Int32)) (v := (.ref p5)) (by rw [e10]; exact Ar13.1) (State.isArrayOf_alike hZ.alike Ar13.2.1) rfl Ar13.2.2 ib13 (Has.at H13 ib13 rfl) rfl rfl (hb hby d24_64)) ?_
 have q14 := ((F_this_0_o0.other W8 (Or.inr (slot_ne (Or.inr (own_w136 hw)) (Or.inl (own_w153 hw)) (by decide) (t := (.object "java/util/ArrayList")) (t' := .int) (by decide) (by decide)))).other W10 (Or.inr (slot_ne (Or.inr (own_w136 hw)) (Or.inl (own_w139 hw)) (by decide) (t := (.object "java/util/ArrayList")) (t' := .int) (by decide) (by decide))))
 have q15 := ((F_expectedModCount_o0.other W8 (Or.inr (slot_ne (Or.inl (own_w142 hw)) (Or.inl (own_w153 hw)) (by decide) (t := .int) (t' := .int) (by decide) (by decide)))).other W10 (Or.inr (slot_ne (Or.inl (own_w142 hw)) (Or.inl (own_w139 hw)) (by decide) (t := .int) (t' := .int) (by decide) (by decide))))
 have q16 := (Fw8.other W10 (Or.inr (slot_ne (Or.inl (own_w153 hw)) (Or.inl (own_w139 hw)) (by decide) (t := .int) (t' := .int) (by decide) (by decide))))
 exact Home.retR X10 hx hlk hret rfl rfl (hb hby d24_65) (by rw [show T10.heap = h10 from e10]; exact ⟨rfl, N10, K10, (E_o0.keep K10), q14, q15, q16, Fw10⟩) (by decide) (by decide)
theorem rm19_2 (l : Launch) (Z : State) (a0 : Array Value) (hw : HW a0 Z) (ws : List Jvm.Cond) (o0 o1 sv_DEFAULTCAPACITY_EMPTY_ELEMENTDATA p4 : Addr) (k_p4 : ClassId) (p8 p9 : Addr) (u1 : Int32) (p3 : Addr) (k_p3 : ClassId) (p5 p6 p7 p10 : Addr) (sv_COMPACT_STRINGS : Int32) (p15 p13 : Addr) (k_p15 : ClassId) (u4 : Int32) (k_p13 : ClassId) (u2 : Int32) (p11 p16 : Addr) (k_p16 : ClassId) (u5 : Int32) (p12 p17 : Addr) (k_p17 : ClassId) (u6 : Int32) (kde : ClassId) (p14 : Addr) (k_p14 : ClassId) (u3 : Int32) (h0 : Heap) (n0 : Nat) (O0 : Old Z n0 h0) (S_DEFAULTCAPACITY_EMPTY_ELEMENTDATA : Sta Z Z.heap "java/util/ArrayList" "DEFAULTCAPACITY_EMPTY_ELEMENTDATA" "[Ljava/lang/Object;" (.ref sv_DEFAULTCAPACITY_EMPTY_ELEMENTDATA)) (E_o1 : Exa Z h0 o1 "java/util/ArrayList") (F_modCount_o1 : Fld Z h0 o1 "java/util/AbstractList" "modCount" "I" (.int (2 : Int32))) (F_size_o1 : Fld Z h0 o1 "java/util/ArrayList" "size" "I" (.int (2 : Int32))) (F_elementData_o1 : Fld Z h0 o1 "java/util/ArrayList" "elementData" "[Ljava/lang/Object;" (.ref p4)) (V_p4 : Arv Z h0 p4 k_p4 (.object "java/lang/Object") (10 : Int32) [(.ref p8), (.ref p9), .null, .null, .null, .null, .null, .null, .null, .null] .null) (E_p8 : Exa Z h0 p8 "java/lang/String") (E_o0 : Exa Z h0 o0 "java/util/ArrayList") (F_modCount_o0 : Fld Z h0 o0 "java/util/AbstractList" "modCount" "I" (.int u1)) (F_size_o0 : Fld Z h0 o0 "java/util/ArrayList" "size" "I" (.int u1)) (bnd_u1 : ¬ u1 < (1 : Int32) ∧ ¬ (3 : Int32) < u1) (F_elementData_o0 : Fld Z h0 o0 "java/util/ArrayList" "elementData" "[Ljava/lang/Object;" (.ref p3)) (V_p3 : Arv Z h0 p3 k_p3 (.object "java/lang/Object") (10 : Int32) [(.ref p5), (own_el1 u1 p6), (own_el2 u1 p7), .null, .null, .null, .null, .null, .null, .null] .null) (E_p5 : Exa Z h0 p5 "com/example/wary_meter/warymeter/Column") (F_name_p5 : Fld Z h0 p5 "com/example/wary_meter/warymeter/Column" "name" "Ljava/lang/String;" (.ref p10)) (E_p10 : Exa Z h0 p10 "java/lang/String") (S_COMPACT_STRINGS : Sta Z Z.heap "java/lang/String" "COMPACT_STRINGS" "Z" (.int sv_COMPACT_STRINGS)) (F_coder_p10 : Fld Z h0 p10 "java/lang/String" "coder" "B" (.int (0 : Int32))) (F_coder_p8 : Fld Z h0 p8 "java/lang/String" "coder" "B" (.int (0 : Int32))) (F_value_p10 : Fld Z h0 p10 "java/lang/String" "value" "[B" (.ref p15)) (F_value_p8 : Fld Z h0 p8 "java/lang/String" "value" "[B" (.ref p13)) (V_p15 : Arv Z h0 p15 k_p15 .byte (1 : Int32) [(.int u4)] (.int (0 : Int32))) (V_p13 : Arv Z h0 p13 k_p13 .byte (1 : Int32) [(.int u2)] (.int (0 : Int32))) (ne_p10_p8 : p10 ≠ p8) (hCS : ¬ (sv_COMPACT_STRINGS = (0 : Int32))) (E_p6 : Exa Z h0 p6 "com/example/wary_meter/warymeter/Column") (F_name_p6 : Fld Z h0 p6 "com/example/wary_meter/warymeter/Column" "name" "Ljava/lang/String;" (.ref p11)) (E_p11 : Exa Z h0 p11 "java/lang/String") (F_coder_p11 : Fld Z h0 p11 "java/lang/String" "coder" "B" (.int (0 : Int32))) (F_value_p11 : Fld Z h0 p11 "java/lang/String" "value" "[B" (.ref p16)) (V_p16 : Arv Z h0 p16 k_p16 .byte (1 : Int32) [(.int u5)] (.int (0 : Int32))) (ne_p11_p8 : p11 ≠ p8) (E_p7 : Exa Z h0 p7 "com/example/wary_meter/warymeter/Column") (F_name_p7 : Fld Z h0 p7 "com/example/wary_meter/warymeter/Column" "name" "Ljava/lang/String;" (.ref p12)) (E_p12 : Exa Z h0 p12 "java/lang/String") (F_coder_p12 : Fld Z h0 p12 "java/lang/String" "coder" "B" (.int (0 : Int32))) (F_value_p12 : Fld Z h0 p12 "java/lang/String" "value" "[B" (.ref p17)) (V_p17 : Arv Z h0 p17 k_p17 .byte (1 : Int32) [(.int u6)] (.int (0 : Int32))) (ne_p12_p8 : p12 ≠ p8) (nn68 : ¬ (((if (1 : Int32) = u1 then (if (f_rm27_0 u4 u2) = (0 : Int32) then .null else (.ref p5)) else (if (2 : Int32) = u1 then (if (f_rm27_0 u5 u2) = (0 : Int32) then (if (f_rm27_0 u4 u2) = (0 : Int32) then .null else (.ref p5)) else (.ref p6)) else (if (f_rm27_0 u6 u2) = (0 : Int32) then (if (f_rm27_0 u5 u2) = (0 : Int32) then (if (f_rm27_0 u4 u2) = (0 : Int32) then .null else (.ref p5)) else (.ref p6)) else (.ref p7)))) : Value) = .null)) (V_de : Arv Z Z.heap sv_DEFAULTCAPACITY_EMPTY_ELEMENTDATA kde (.object "java/lang/Object") (0 : Int32) [] .null) (E_p9 : Exa Z h0 p9 "java/lang/String") (F_coder_p9 : Fld Z h0 p9 "java/lang/String" "coder" "B" (.int (0 : Int32))) (F_value_p9 : Fld Z h0 p9 "java/lang/String" "value" "[B" (.ref p14)) (V_p14 : Arv Z h0 p14 k_p14 .byte (1 : Int32) [(.int u3)] (.int (0 : Int32))) (ne_p10_p9 : p10 ≠ p9) (ne_p11_p9 : p11 ≠ p9) (ne_p12_p9 : p12 ≠ p9) (nn156 : ¬ (((if (1 : Int32) = u1 then (if (f_rm27_0 u4 u3) = (0 : Int32) then .null else (.ref p5)) else (if (2 : Int32) = u1 then (if (f_rm27_0 u5 u3) = (0 : Int32) then (if (f_rm27_0 u4 u3) = (0 : Int32) then .null else (.ref p5)) else (.ref p6)) else (if (f_rm27_0 u6 u3) = (0 : Int32) then (if (f_rm27_0 u5 u3) = (0 : Int32) then (if (f_rm27_0 u4 u3) = (0 : Int32) then .null else (.ref p5)) else (.ref p6)) else (.ref p7)))) : Value) = .null)) :
    Con l Z (⟨"com/example/wary_meter/warymeter/Column", "pick", "(Ljava/util/List;Ljava/util/List;)Ljava/util/List;"⟩ : MethodName) prog_3_method_5_code 8 (some (.object "java/util/List")) ws ({ frames := 5, cells := 5, slots := 25, locals := 69 } : Room) #[(.ref o0), (.ref o1)] h0 (fun v h L => ∃ (b1 : Addr), ∃ (b6_2_2_7_77 : Addr), ∃ (a68 : Jvm.Addr), ∃ (a156 : Jvm.Addr), ∃ (k6_2_2_7_77 : ClassId), v = some (.ref b1) ∧ Fr n0 L ∧ h0.size ≤ b1 ∧ h0.size ≤ b6_2_2_7_77 ∧ Keep h0 h [] ∧ Exa Z h b1 "java/util/ArrayList" ∧ Fld Z h b1 "java/util/AbstractList" "modCount" "I" (.int (2 : Int32)) ∧ Fld Z h b1 "java/util/ArrayList" "elementData" "[Ljava/lang/Object;" (.ref b6_2_2_7_77) ∧ Fld Z h b1 "java/util/ArrayList" "size" "I" (.int (2 : Int32)) ∧ Arv Z h b6_2_2_7_77 k6_2_2_7_77 (.object "java/lang/Object") (10 : Int32) [(.ref a68), (.ref a156), .null, .null, .null, .null, .null, .null, .null, .null] .null ∧ Ovr Z k6_2_2_7_77 "java/lang/Object" ∧ (((if (1 : Int32) = u1 then (if (f_rm27_0 u4 u2) = (0 : Int32) then .null else (.ref p5)) else (if (2 : Int32) = u1 then (if (f_rm27_0 u5 u2) = (0 : Int32) then (if (f_rm27_0 u4 u2) = (0 : Int32) then .null else (.ref p5)) else (.ref p6)) else (if (f_rm27_0 u6 u2) = (0 : Int32) then (if (f_rm27_0 u5 u2) = (0 : Int32) then (if (f_rm27_0 u4 u2) = (0 : Int32) then .null else (.ref p5)) else (.ref p6)) else (.ref p7)))) : Value) = .ref a68) ∧ (((if (1 : Int32) = u1 then (if (f_rm27_0 u4 u3) = (0 : Int32) then .null else (.ref p5)) else (if (2 : Int32) = u1 then (if (f_rm27_0 u5 u3) = (0 : Int32) then (if (f_rm27_0 u4 u3) = (0 : Int32) then .null else (.ref p5)) else (.ref p6)) else (if (f_rm27_0 u6 u3) = (0 : Int32) then (if (f_rm27_0 u5 u3) = (0 : Int32) then (if (f_rm27_0 u4 u3) = (0 : Int32) then .null else (.ref p5)) else (.ref p6)) else (.ref p7)))) : Value) = .ref a156)) := by
 refine own_body (plainFor_of_name own_pn3) (fun m => ef_rm19_2 m o0 o1) ?_
 intro p e s m below meth c s₁ hx hby hlk hml hret hZ hown hnm X0 e0
 have N0 := Fr.nil n0
 refine Home.nw (own_newO X0 hx hZ hown (own_w118 hw) (own_w50 hw) (own_w51 hw) e0 rfl (hb hby d19_0) (by decide) (by decide)) fun T1 h1 b1 g1 X1 e1 E1 A1 D1 => ?_
 have g_b1 : n0 ≤ b1 := Nat.le_trans (Old.le O0) (Nat.le_of_eq g1.symm)
 have F_modCount_b1 : Fld Z h1 b1 "java/util/AbstractList" "modCount" "I" (.int (0 : Int32)) := D1 (Or.inl (own_w69 hw)) (ty := .int) (by decide)
 have F_elementData_b1 : Fld Z h1 b1 "java/util/ArrayList" "elementData" "[Ljava/lang/Object;" .null := D1 (Or.inl (own_w72 hw)) (ty := (.array (.object "java/lang/Object"))) (by decide)
 have F_size_b1 : Fld Z h1 b1 "java/util/ArrayList" "size" "I" (.int (0 : Int32)) := D1 (Or.inl (own_w85 hw)) (ty := .int) (by decide)
 have O1 := O0.ext E1
 have K1 : Keep h0 h1 ([] : List Addr) := Keep.ext (Keep.refl h0 ([] : List Addr)) E1
 refine Home.run X1 hx hby sg19_3_1 (pc' := 4) (L' := #[sr o0, sr o1, .unset, .unset, .unset, .unset, .unset, .unset]) (S' := [(.ref b1), (.ref b1)]) rfl ?_
 refine Home.call (own_special X1 hx hZ hown rfl (own_w119 hw) (own_w53 hw) (own_w51 hw) (own_w54 hw) (by decide) (rm9_0 l Z a0 hw [] b1 sv_DEFAULTCAPACITY_EMPTY_ELEMENTDATA h1 n0 O1 A1 F_modCount_b1 F_elementData_b1 F_size_b1 g_b1 S_DEFAULTCAPACITY_EMPTY_ELEMENTDATA) e1 rfl (by rw [hml]; rfl) (a := b1) (argsL := []) (rest := [(.ref b1)]) (lenOf own_pd4 rfl) rfl rfl (W := 1) (by exact hW0) (by decide) (by decide) (hb hby d19_4) (by decide) (by decide)) ?_
 rintro _ T2 L2 X2 ⟨rfl, N2q, K2q, P2_0, P2_1, P2_2, P2_3⟩
 have O2 := Old.keep O1 K2q (allS g_b1 all0)
 have K2 : Keep h0 T2.heap ([] : List Addr) := Keep.trans K1 K2q (allS (Or.inr (Nat.le_trans (Nat.le_refl _) (Nat.le_of_eq g1.symm))) all0)
 have N2 := Fr.app N0 N2q
 refine Home.run X2 hx hby sg19_7_2 (pc' := 9) (L' := #[sr o0, sr o1, sr b1, .unset, .unset, .unset, .unset, .unset]) (S' := [(.ref o1)]) rfl ?_
 refine Home.call (own_face X2 hx hZ hown (own_w120 hw) (own_w121 hw) (mvT hZ (own_w122 hw)) (own_w123 hw) (own_w124 hw) (own_w125 hw) (own_w126 hw) (own_w80 hw) (own_w51 hw) (own_w127 hw) (by decide) (rm20_2 l Z a0 hw [] o1 (2 : Int32) T2.heap n0 O2 (F_modCount_o1.keep K2 nin0) (E_o1.keep K2)) rfl (E_o1.keep K2) rfl (by rw [hml]; rfl) (argsL := []) (rest := []) (lenOf own_pd10 rfl) rfl rfl (W := 0) (by exact hW0) (by decide) (by decide) (hb hby d19_9) (by decide) (by decide)) ?_
 rintro _ T3 L3 X3 ⟨b1_3, rfl, N3q, sz_b1_3, K3q, P3_0, P3_1, P3_2, P3_3, P3_4⟩
 have g_b1_3 : n0 ≤ b1_3 := Nat.le_trans (Old.le O2) sz_b1_3
 have O3 := Old.keep O2 K3q all0
 have K3 : Keep h0 T3.heap ([] : List Addr) := Keep.trans K2 K3q all0
 have N3 := Fr.app N2 N3q
 show Home T3 (mkF m 14 #[sr o0, sr o1, sr b1, .unset, .unset, .unset, .unset, .unset] [(.ref b1_3)])
 refine Home.run X3 hx hby sg19_14_2 (pc' := 16) (L' := #[sr o0, sr o1, sr b1, sr b1_3, .unset, .unset, .unset, .unset]) (S' := [(.ref b1_3)]) rfl ?_
 refine Home.st (own_pure (own_face X3 hx hZ hown (own_w143 hw) (own_w144 hw) (mvT hZ (own_w145 hw)) (own_w146 hw) (own_w147 hw) (own_w148 hw) (own_w149 hw) (own_w150 hw) (own_w130 hw) (own_w151 hw) (by decide) (rm22_2 l Z a0 hw [] b1_3 o1 (2 : Int32) T3.heap n0 O3 P3_4 P3_1 (F_size_o1.keep K3 nin0) (bnd_mono (bnd_lit (2 : Int32)) (by decide +kernel) (by decide +kernel))) rfl P3_0 rfl (by rw [hml]; rfl) (argsL := []) (rest := []) (lenOf own_pd11 rfl) rfl rfl (W := 0) (by exact hW0) (by decide) (by decide) (hb hby d19_16) (by decide) (by decide))) fun T4 X4 e4 => ?_
 refine Home.go (fun _ => XS.ifNo X4.here hx rfl (hb hby d19_21) rfl ((if0 _ _).trans (feq (by decide)).1)) ?_
 refine Home.run X4 hx hby sg19_24_1 (pc' := 25) (L' := #[sr o0, sr o1, sr b1, sr b1_3, .unset, .unset, .unset, .unset]) (S' := [(.ref b1_3)]) rfl ?_
 refine Home.call (own_face X4 hx hZ hown (own_w164 hw) (own_w165 hw) (mvT hZ (own_w166 hw)) (own_w167 hw) (own_w168 hw) (own_w169 hw) (own_w170 hw) (own_w150 hw) (own_w130 hw) (own_w171 hw) (by decide) (rm24_5 l Z a0 hw [] b1_3 o1 p4 k_p4 p8 p9 T3.heap n0 O3 P3_0 P3_1 (F_modCount_o1.keep K3 nin0) P3_3 P3_4 (F_size_o1.keep K3 nin0) (F_elementData_o1.keep K3 nin0) (V_p4.keep K3 nin0) g_b1_3 P3_2) e4 P3_0 rfl (by rw [hml]; rfl) (argsL := []) (rest := []) (lenOf own_pd18 rfl) rfl rfl (W := 0) (by exact hW0) (by decide) (by decide) (hb hby d19_25) (by decide) (by decide)) ?_
 rintro _ T5 L5 X5 ⟨rfl, N5q, K5q, P5_0, P5_1, P5_2, P5_3, P5_4⟩
 have le6 : h0.size ≤ T2.heap.size := Nat.le_trans E1.1 K2q.1
 have O5 := Old.keep O3 K5q (allS g_b1_3 all0)
 have K5 : Keep h0 T5.heap ([] : List Addr) := Keep.trans K3 K5q (allS (Or.inr (Nat.le_trans le6 sz_b1_3)) all0)
 have N5 := Fr.app N3 N5q
 refine Home.st (castY X5 hx hZ hown (own_w178 hw) rfl (Ins.self (E_p8.keep K5)) rfl rfl (hb hby d19_30)) fun T7 X7 e7 => ?_
 refine Home.run X7 hx hby sg19_33_4 (pc' := 39) (L' := #[sr o0, sr o1, sr b1, sr b1_3, sr p8, .val .null, .unset, .unset]) (S' := [(.ref o0)]) rfl ?_
 refine Home.call (own_face X7 hx hZ hown (own_w120 hw) (own_w121 hw) (mvT hZ (own_w122 hw)) (own_w123 hw) (own_w124 hw) (own_w125 hw) (own_w126 hw) (own_w80 hw) (own_w51 hw) (own_w127 hw) (by decide) (rm20_2 l Z a0 hw [] o0 u1 T5.heap n0 O5 (F_modCount_o0.keep K5 nin0) (E_o0.keep K5)) e7 (E_o0.keep K5) rfl (by rw [hml]; rfl) (argsL := []) (rest := []) (lenOf own_pd10 rfl) rfl rfl (W := 0) (by exact hW0) (by decide) (by decide) (hb hby d19_39) (by decide) (by decide)) ?_
 rintro _ T8 L8 X8 ⟨b1_8, rfl, N8q, sz_b1_8, K8q, P8_0, P8_1, P8_2, P8_3, P8_4⟩
 have g_b1_8 : n0 ≤ b1_8 := Nat.le_trans (Old.le O5) sz_b1_8
 have O8 := Old.keep O5 K8q all0
 have K8 : Keep h0 T8.heap ([] : List Addr) := Keep.trans K5 K8q all0
 have N8 := Fr.app N5 N8q
 show Home T8 (mkF m 44 #[sr o0, sr o1, sr b1, sr b1_3, sr p8, .val .null, .unset, .unset] [(.ref b1_8)])
 refine Home.run X8 hx hby sg19_44_1 (pc' := 46) (L' := #[sr o0, sr o1, sr b1, sr b1_3, sr p8, .val .null, sr b1_8, .unset]) (S' := []) rfl ?_
 refine Home.cut (C := fun E => ∀ {T : State} {lc : List Loc} {hJ : Heap} (X : Stand p l e ({ frames := 5, cells := 5, slots := 25, locals := 69 } : Room) s m #[(.ref o0), (.ref o1)] below meth c T lc 3 11) (N : Fr n0 lc) (eT : T.heap = hJ) (Kq : Keep T8.heap hJ ([b1_8] : List Addr)) (v58 : Value) (hv58 : v58 = ((if (1 : Int32) = u1 then (if (f_rm27_0 u4 u2) = (0 : Int32) then .null else (.ref p5)) else (if (2 : Int32) = u1 then (if (f_rm27_0 u5 u2) = (0 : Int32) then (if (f_rm27_0 u4 u2) = (0 : Int32) then .null else (.ref p5)) else (.ref p6)) else (if (f_rm27_0 u6 u2) = (0 : Int32) then (if (f_rm27_0 u5 u2) = (0 : Int32) then (if (f_rm27_0 u4 u2) = (0 : Int32) then .null else (.ref p5)) else (.ref p6)) else (.ref p7)))) : Value)) (v59 : Slot) (hv59 : v59 = .unset ∨ ∃ w, v59 = .val w ∧ w.category = 1), @Home p e below E T (mkF m 88 #[sr o0, sr o1, sr b1, sr b1_3, sr p8, .val v58, sr b1_8, v59] [])) (fun _ J57 => ?_) ?_
 ·
  refine Home.run X8 hx hby sg19_46_1 (pc' := 48) (L' := #[sr o0, sr o1, sr b1, sr b1_3, sr p8, .val .null, sr b1_8, .unset]) (S' := [(.ref b1_8)]) rfl ?_
  refine Home.st (own_pure (own_face X8 hx hZ hown (own_w143 hw) (own_w144 hw) (mvT hZ (own_w145 hw)) (own_w146 hw) (own_w147 hw) (own_w148 hw) (own_w149 hw) (own_w150 hw) (own_w130 hw) (own_w151 hw) (by decide) (rm22_2 l Z a0 hw [] b1_8 o0 u1 T8.heap n0 O8 P8_4 P8_1 (F_size_o0.keep K8 nin0) bnd_u1) rfl P8_0 rfl (by rw [hml]; rfl) (argsL := []) (rest := []) (lenOf own_pd11 rfl) rfl rfl (W := 0) (by exact hW0) (by decide) (by decide) (hb hby d19_48) (by decide) (by decide))) fun T9 X9 e9 => ?_
  refine Home.go (fun _ => XS.ifNo X9.here hx rfl (hb hby d19_53) rfl ((if0 _ _).trans (feq (by decide)).1)) ?_
  refine Home.run X9 hx hby sg19_56_1 (pc' := 58) (L' := #[sr o0, sr o1, sr b1, sr b1_3, sr p8, .val .null, sr b1_8, .unset]) (S' := [(.ref b1_8)]) rfl ?_
  refine Home.call (own_face X9 hx hZ hown (own_w164 hw) (own_w165 hw) (mvT hZ (own_w166 hw)) (own_w167 hw) (own_w168 hw) (own_w169 hw) (own_w170 hw) (own_w150 hw) (own_w130 hw) (own_w171 hw) (by decide) (rm24_1 l Z a0 hw [] b1_8 o0 u1 p3 k_p3 p5 p6 p7 T8.heap n0 O8 P8_0 P8_1 (F_modCount_o0.keep K8 nin0) P8_3 P8_4 (F_size_o0.keep K8 nin0) bnd_u1 (F_elementData_o0.keep K8 nin0) (V_p3.keep K8 nin0) g_b1_8 P8_2) e9 P8_0 rfl (by rw [hml]; rfl) (argsL := []) (rest := []) (lenOf own_pd18 rfl) rfl rfl (W := 0) (by exact hW0) (by decide) (by decide) (hb hby d19_58) (by decide) (by decide)) ?_
  rintro _ T10 L10 X10 ⟨rfl, N10q, K10q, P10_0, P10_1, P10_2, P10_3, P10_4⟩
  have le11 : h0.size ≤ T3.heap.size := Nat.le_trans le6 K3q.1
  have le12 : h0.size ≤ T5.heap.size := Nat.le_trans le11 K5q.1
  have O10 := Old.keep O8 K10q (allS g_b1_8 all0)
  have K10 : Keep h0 T10.heap ([] : List Addr) := Keep.trans K8 K10q (allS (Or.inr (Nat.le_trans le12 sz_b1_8)) all0)
  have N10 := Fr.app N8 N10q
  refine Home.st (castY X10 hx hZ hown (own_w179 hw) rfl (Ins.self (E_p5.keep K10)) rfl rfl (hb hby d19_63)) fun T13 X13 e13 => ?_
  refine Home.run X13 hx hby sg19_66_2 (pc' := 70) (L' := #[sr o0, sr o1, sr b1, sr b1_3, sr p8, .val .null, sr b1_8, sr p5]) (S' := [(.ref p5)]) rfl ?_
  refine Home.st (own_pure (own_virtual X13 hx hZ hown (own_w181 hw) (own_w182 hw) (notFace_of_selects (args := #[]) (mvT hZ (own_w184 hw))) (own_w184 hw) (own_w183 hw) (own_w2 hw) (own_w185 hw) (by decide) (rm26_0 l Z a0 hw [] p5 p10 T10.heap n0 O10 (F_name_p5.keep K10 nin0)) e13 (E_p5.keep K10) rfl (by rw [hml]; rfl) (argsL := []) (rest := []) (lenOf own_pd19 rfl) rfl rfl (W := 0) (by exact hW0) (by decide) (by decide) (hb hby d19_70) (by decide) (by decide))) fun T14 X14 e14 => ?_
  show Home T14 (mkF m 73 #[sr o0, sr o1, sr b1, sr b1_3, sr p8, .val .null, sr b1_8, sr p5] [(.ref p10)])
  refine Home.run X14 hx hby sg19_73_1 (pc' := 75) (L' := #[sr o0, sr o1, sr b1, sr b1_3, sr p8, .val .null, sr b1_8, sr p5]) (S' := [(.ref p8), (.ref p10)]) rfl ?_
  refine Home.st (own_pure (own_virtual X14 hx hZ hown (own_w186 hw) (own_w187 hw) (notFace_of_selects (args := #[]) (mvT hZ (own_w189 hw))) (own_w189 hw) (own_w188 hw) (own_w5 hw) (own_w190 hw) (by decide) (rm27_0 l Z a0 hw [] p10 p8 sv_COMPACT_STRINGS p15 p13 k_p15 u4 k_p13 u2 T10.heap n0 O10 (E_p10.keep K10) (E_p8.keep K10) ne_p10_p8 S_COMPACT_STRINGS hCS (F_coder_p10.keep K10 nin0) (F_coder_p8.keep K10 nin0) (F_value_p10.keep K10 nin0) (F_value_p8.keep K10 nin0) (V_p15.keep K10 nin0) (V_p13.keep K10 nin0)) e14 (E_p10.keep K10) rfl (by rw [hml]; rfl) (argsL := [(.ref p8)]) (rest := []) (lenOf own_pd17 rfl) rfl rfl (W := 0) (by exact hW0) (by decide) (by decide) (hb hby d19_75) (by decide) (by decide))) fun T15 X15 e15 => ?_
  show Home T15 (mkF m 78 #[sr o0, sr o1, sr b1, sr b1_3, sr p8, .val .null, sr b1_8, sr p5] [(.int (f_rm27_0 u4 u2))])
  obtain ⟨r16, hr16⟩ : ∃ z, z = (f_rm27_0 u4 u2) := ⟨_, rfl⟩
  rw [← hr16]
  have br16 : ¬ r16 < (0 : Int32) ∧ ¬ (1 : Int32) < r16 := by rw [hr16]; exact f_rm27_0_bnd u4 u2
  suffices J20 : ∀ {T : State} {lc : List Loc} (X : Stand p l e ({ frames := 5, cells := 5, slots := 25, locals := 69 } : Room) s m #[(.ref o0), (.ref o1)] below meth c T lc 3 11) (N : Fr n0 lc) (eT : T.heap = T10.heap) (v21 : Value) (hv21 : v21 = (if r16 = (0 : Int32) then .null else (.ref p5))), @Home p e below _ T (mkF m 85 #[sr o0, sr o1, sr b1, sr b1_3, sr p8, .val v21, sr b1_8, sr p5] []) by
   by_cases c17 : r16 = (0 : Int32)
   ·
    refine Home.go (fun _ => XS.ifYes X15.here hx rfl (pc0 := 78) (pc' := 85) rfl (hb hby d19_78) rfl ((if0 _ _).trans (teq c17).1) (by decide) (by decide)) ?_
    have bd18 : ¬ r16 < (0 : Int32) ∧ ¬ (0 : Int32) < r16 := ⟨(bnd_eql c17), (bnd_eqr c17)⟩
    exact J20 X15 N10 e15 _ (by simp only [if_pos c17])
   ·
    refine Home.go (fun _ => XS.ifNo X15.here hx rfl (hb hby d19_78) rfl ((if0 _ _).trans (feq c17).1)) ?_
    have bd19 : ¬ r16 < (1 : Int32) ∧ ¬ (1 : Int32) < r16 := ⟨(bnd_nel br16.1 c17 (by decide +kernel)), br16.2⟩
    refine Home.run X15 hx hby sg19_81_2 (pc' := 85) (L' := #[sr o0, sr o1, sr b1, sr b1_3, sr p8, sr p5, sr b1_8, sr p5]) (S' := []) rfl ?_
    exact J20 X15 N10 e15 _ (by simp only [if_neg c17])
  intro TJ20 lcJ20 XJ20 NJ20 eJ20 v21 hv21
  have isr_v21 : v21.isRef = true := by rw [hv21]; exact (own_itR rfl rfl)
  show Home TJ20 (mkF m 85 #[sr o0, sr o1, sr b1, sr b1_3, sr p8, .val v21, sr b1_8, sr p5] [])
  refine Home.run XJ20 hx hby sg19_85_1 (pc' := 46) (L' := #[sr o0, sr o1, sr b1, sr b1_3, sr p8, .val v21, sr b1_8, sr p5]) (S' := []) rfl ?_
  refine Home.run XJ20 hx hby sg19_46_1 (pc' := 48) (L' := #[sr o0, sr o1, sr b1, sr b1_3, sr p8, .val v21, sr b1_8, sr p5]) (S' := [(.ref b1_8)]) rfl ?_
  by_cases c22 : (1 : Int32) = u1
  ·
   have bd23 : ¬ u1 < (1 : Int32) ∧ ¬ (1 : Int32) < u1 := ⟨(bnd_eql (c22.symm)), (bnd_eqr (c22.symm))⟩
   refine Home.st (own_pure (own_face XJ20 hx hZ hown (own_w143 hw) (own_w144 hw) (mvT hZ (own_w145 hw)) (own_w146 hw) (own_w147 hw) (own_w148 hw) (own_w149 hw) (own_w150 hw) (own_w130 hw) (own_w151 hw) (by decide) (rm22_3 l Z a0 hw [] b1_8 o0 u1 T10.heap n0 O10 P10_3 P10_1 (F_size_o0.keep K10 nin0) bd23) eJ20 P10_0 rfl (by rw [hml]; rfl) (argsL := []) (rest := []) (lenOf own_pd11 rfl) rfl rfl (W := 0) (by exact hW0) (by decide) (by decide) (hb hby d19_48) (by decide) (by decide))) fun T25 X25 e25 => ?_
   refine Home.go (fun _ => XS.ifYes X25.here hx rfl (pc0 := 53) (pc' := 88) rfl (hb hby d19_53) rfl ((if0 _ _).trans (teq (by decide)).1) (by decide) (by decide)) ?_
   exact J57 X25 NJ20 e25 K10q v21 (by subst hv21; subst hr16; simp only [if_pos c22]) (.val (.ref p5)) (Or.inr ⟨_, rfl, rfl⟩)
  ·
   have bd24 : ¬ u1 < (2 : Int32) ∧ ¬ (3 : Int32) < u1 := ⟨(bnd_nel bnd_u1.1 (Ne.symm c22) (by decide +kernel)), bnd_u1.2⟩
   refine Home.st (own_pure (own_face XJ20 hx hZ hown (own_w143 hw) (own_w144 hw) (mvT hZ (own_w145 hw)) (own_w146 hw) (own_w147 hw) (own_w148 hw) (own_w149 hw) (own_w150 hw) (own_w130 hw) (own_w151 hw) (by decide) (rm22_4 l Z a0 hw [] b1_8 o0 u1 T10.heap n0 O10 P10_3 P10_1 (F_size_o0.keep K10 nin0) bd24) eJ20 P10_0 rfl (by rw [hml]; rfl) (argsL := []) (rest := []) (lenOf own_pd11 rfl) rfl rfl (W := 0) (by exact hW0) (by decide) (by decide) (hb hby d19_48) (by decide) (by decide))) fun T26 X26 e26 => ?_
   refine Home.go (fun _ => XS.ifNo X26.here hx rfl (hb hby d19_53) rfl ((if0 _ _).trans (feq (by decide)).1)) ?_
   have V27 : Arv Z T10.heap p3 k_p3 (.object "java/lang/Object") (10 : Int32) [(.ref p5), (.ref p6), (own_el2 u1 p7), .null, .null, .null, .null, .null, .null, .null] .null := by have q := (V_p3.keep K10 nin0); rw [own_el1_is (k := p6) (Ne.symm c22)] at q; exact q
   refine Home.run X26 hx hby sg19_56_1 (pc' := 58) (L' := #[sr o0, sr o1, sr b1, sr b1_3, sr p8, .val v21, sr b1_8, sr p5]) (S' := [(.ref b1_8)]) rfl ?_
   refine Home.call (own_face X26 hx hZ hown (own_w164 hw) (own_w165 hw) (mvT hZ (own_w166 hw)) (own_w167 hw) (own_w168 hw) (own_w169 hw) (own_w170 hw) (own_w150 hw) (own_w130 hw) (own_w171 hw) (by decide) (rm24_2 l Z a0 hw [] b1_8 o0 u1 p3 k_p3 p5 p6 p7 T10.heap n0 O10 P10_0 P10_1 (F_modCount_o0.keep K10 nin0) P10_2 P10_3 (F_size_o0.keep K10 nin0) bd24 (F_elementData_o0.keep K10 nin0) V27 g_b1_8 P10_4) e26 P10_0 rfl (by rw [hml]; rfl) (argsL := []) (rest := []) (lenOf own_pd18 rfl) rfl rfl (W := 0) (by exact hW0) (by decide) (by decide) (hb hby d19_58) (by decide) (by decide)) ?_
   rintro _ T28 L28 X28 ⟨rfl, N28q, K28q, P28_0, P28_1, P28_2, P28_3, P28_4⟩
   have O28 := Old.keep O10 K28q (allS g_b1_8 all0)
   have K28 : Keep h0 T28.heap ([] : List Addr) := Keep.trans K10 K28q (allS (Or.inr (Nat.le_trans le12 sz_b1_8)) all0)
   have N28 := Fr.app NJ20 N28q
   refine Home.st (castY X28 hx hZ hown (own_w179 hw) rfl (Ins.self (E_p6.keep K28)) rfl rfl (hb hby d19_63)) fun T29 X29 e29 => ?_
   refine Home.run X29 hx hby sg19_66_2 (pc' := 70) (L' := #[sr o0, sr o1, sr b1, sr b1_3, sr p8, .val v21, sr b1_8, sr p6]) (S' := [(.ref p6)]) rfl ?_
   refine Home.st (own_pure (own_virtual X29 hx hZ hown (own_w181 hw) (own_w182 hw) (notFace_of_selects (args := #[]) (mvT hZ (own_w184 hw))) (own_w184 hw) (own_w183 hw) (own_w2 hw) (own_w185 hw) (by decide) (rm26_0 l Z a0 hw [] p6 p11 T28.heap n0 O28 (F_name_p6.keep K28 nin0)) e29 (E_p6.keep K28) rfl (by rw [hml]; rfl) (argsL := []) (rest := []) (lenOf own_pd19 rfl) rfl rfl (W := 0) (by exact hW0) (by decide) (by decide) (hb hby d19_70) (by decide) (by decide))) fun T30 X30 e30 => ?_
   refine Home.run X30 hx hby sg19_73_1 (pc' := 75) (L' := #[sr o0, sr o1, sr b1, sr b1_3, sr p8, .val v21, sr b1_8, sr p6]) (S' := [(.ref p8), (.ref p11)]) rfl ?_
   refine Home.st (own_pure (own_virtual X30 hx hZ hown (own_w186 hw) (own_w187 hw) (notFace_of_selects (args := #[]) (mvT hZ (own_w189 hw))) (own_w189 hw) (own_w188 hw) (own_w5 hw) (own_w190 hw) (by decide) (rm27_0 l Z a0 hw [] p11 p8 sv_COMPACT_STRINGS p16 p13 k_p16 u5 k_p13 u2 T28.heap n0 O28 (E_p11.keep K28) (E_p8.keep K28) ne_p11_p8 S_COMPACT_STRINGS hCS (F_coder_p11.keep K28 nin0) (F_coder_p8.keep K28 nin0) (F_value_p11.keep K28 nin0) (F_value_p8.keep K28 nin0) (V_p16.keep K28 nin0) (V_p13.keep K28 nin0)) e30 (E_p11.keep K28) rfl (by rw [hml]; rfl) (argsL := [(.ref p8)]) (rest := []) (lenOf own_pd17 rfl) rfl rfl (W := 0) (by exact hW0) (by decide) (by decide) (hb hby d19_75) (by decide) (by decide))) fun T31 X31 e31 => ?_
   show Home T31 (mkF m 78 #[sr o0, sr o1, sr b1, sr b1_3, sr p8, .val v21, sr b1_8, sr p6] [(.int (f_rm27_0 u5 u2))])
   obtain ⟨r32, hr32⟩ : ∃ z, z = (f_rm27_0 u5 u2) := ⟨_, rfl⟩
   rw [← hr32]
   have br32 : ¬ r32 < (0 : Int32) ∧ ¬ (1 : Int32) < r32 := by rw [hr32]; exact f_rm27_0_bnd u5 u2
   suffices J36 : ∀ {T : State} {lc : List Loc} (X : Stand p l e ({ frames := 5, cells := 5, slots := 25, locals := 69 } : Room) s m #[(.ref o0), (.ref o1)] below meth c T lc 3 11) (N : Fr n0 lc) (eT : T.heap = T28.heap) (v37 : Value) (hv37 : v37 = (if r32 = (0 : Int32) then v21 else (.ref p6))), @Home p e below _ T (mkF m 85 #[sr o0, sr o1, sr b1, sr b1_3, sr p8, .val v37, sr b1_8, sr p6] []) by
    by_cases c33 : r32 = (0 : Int32)
    ·
     refine Home.go (fun _ => XS.ifYes X31.here hx rfl (pc0 := 78) (pc' := 85) rfl (hb hby d19_78) rfl ((if0 _ _).trans (teq c33).1) (by decide) (by decide)) ?_
     have bd34 : ¬ r32 < (0 : Int32) ∧ ¬ (0 : Int32) < r32 := ⟨(bnd_eql c33), (bnd_eqr c33)⟩
     exact J36 X31 N28 e31 _ (by simp only [if_pos c33])
    ·
     refine Home.go (fun _ => XS.ifNo X31.here hx rfl (hb hby d19_78) rfl ((if0 _ _).trans (feq c33).1)) ?_
     have bd35 : ¬ r32 < (1 : Int32) ∧ ¬ (1 : Int32) < r32 := ⟨(bnd_nel br32.1 c33 (by decide +kernel)), br32.2⟩
     refine Home.run X31 hx hby sg19_81_1 (pc' := 83) (L' := #[sr o0, sr o1, sr b1, sr b1_3, sr p8, .val v21, sr b1_8, sr p6]) (S' := [(.ref p6)]) rfl ?_
     refine Home.go (fun _ => XS.astore X31.here hx rfl (hb hby d19_83) rfl rfl (l' := #[.val (.ref o0), .val (.ref o1), .val (.ref b1), .val (.ref b1_3), .val (.ref p8), .val (.ref p6), .val (.ref b1_8), .val (.ref p6)]) (XS.store1 rfl (Or.inr ⟨_, rfl, (cat1_of isr_v21)⟩) rfl)) ?_
     exact J36 X31 N28 e31 _ (by simp only [if_neg c33])
   intro TJ36 lcJ36 XJ36 NJ36 eJ36 v37 hv37
   have isr_v37 : v37.isRef = true := by rw [hv37]; exact (own_itR (by assumption) rfl)
   show Home TJ36 (mkF m 85 #[sr o0, sr o1, sr b1, sr b1_3, sr p8, .val v37, sr b1_8, sr p6] [])
   refine Home.run XJ36 hx hby sg19_85_1 (pc' := 46) (L' := #[sr o0, sr o1, sr b1, sr b1_3, sr p8, .val v37, sr b1_8, sr p6]) (S' := []) rfl ?_
   refine Home.run XJ36 hx hby sg19_46_1 (pc' := 48) (L' := #[sr o0, sr o1, sr b1, sr b1_3, sr p8, .val v37, sr b1_8, sr p6]) (S' := [(.ref b1_8)]) rfl ?_
   by_cases c38 : (2 : Int32) = u1
   ·
    have bd39 : ¬ u1 < (2 : Int32) ∧ ¬ (2 : Int32) < u1 := ⟨(bnd_eql (c38.symm)), (bnd_eqr (c38.symm))⟩
    refine Home.st (own_pure (own_face XJ36 hx hZ hown (own_w143 hw) (own_w144 hw) (mvT hZ (own_w145 hw)) (own_w146 hw) (own_w147 hw) (own_w148 hw) (own_w149 hw) (own_w150 hw) (own_w130 hw) (own_w151 hw) (by decide) (rm22_5 l Z a0 hw [] b1_8 o0 u1 T28.heap n0 O28 P28_3 P28_1 (F_size_o0.keep K28 nin0) bd39) eJ36 P28_0 rfl (by rw [hml]; rfl) (argsL := []) (rest := []) (lenOf own_pd11 rfl) rfl rfl (W := 0) (by exact hW0) (by decide) (by decide) (hb hby d19_48) (by decide) (by decide))) fun T41 X41 e41 => ?_
    refine Home.go (fun _ => XS.ifYes X41.here hx rfl (pc0 := 53) (pc' := 88) rfl (hb hby d19_53) rfl ((if0 _ _).trans (teq (by decide)).1) (by decide) (by decide)) ?_
    have k61 : Keep T8.heap T28.heap [b1_8] := K10q.trans K28q (allS (Or.inl (List.mem_of_getElem? (i := 0) rfl)) all0)
    exact J57 X41 NJ36 e41 k61 v37 (by subst hv37; subst hr32; subst hv21; subst hr16; simp only [if_neg c22, if_pos c38]) (.val (.ref p6)) (Or.inr ⟨_, rfl, rfl⟩)
   ·
    have bd40 : ¬ u1 < (3 : Int32) ∧ ¬ (3 : Int32) < u1 := ⟨(bnd_nel bd24.1 (Ne.symm c38) (by decide +kernel)), bd24.2⟩
    refine Home.st (own_pure (own_face XJ36 hx hZ hown (own_w143 hw) (own_w144 hw) (mvT hZ (own_w145 hw)) (own_w146 hw) (own_w147 hw) (own_w148 hw) (own_w149 hw) (own_w150 hw) (own_w130 hw) (own_w151 hw) (by decide) (rm22_6 l Z a0 hw [] b1_8 o0 u1 T28.heap n0 O28 P28_3 P28_1 (F_size_o0.keep K28 nin0) bd40) eJ36 P28_0 rfl (by rw [hml]; rfl) (argsL := []) (rest := []) (lenOf own_pd11 rfl) rfl rfl (W := 0) (by exact hW0) (by decide) (by decide) (hb hby d19_48) (by decide) (by decide))) fun T42 X42 e42 => ?_
    refine Home.go (fun _ => XS.ifNo X42.here hx rfl (hb hby d19_53) rfl ((if0 _ _).trans (feq (by decide)).1)) ?_
    have ne43 : p3 ≠ b1_8 := (Nat.ne_of_lt (Nat.lt_of_lt_of_le V_p3.lt (Nat.le_trans le12 sz_b1_8)))
    have q44 := (V27.keep K28q (ninS ne43 nin0))
    have V45 : Arv Z T28.heap p3 k_p3 (.object "java/lang/Object") (10 : Int32) [(.ref p5), (.ref p6), (.ref p7), .null, .null, .null, .null, .null, .null, .null] .null := by have q := q44; rw [own_el2_is (k := p7) (bnd_fix bd40)] at q; exact q
    refine Home.run X42 hx hby sg19_56_1 (pc' := 58) (L' := #[sr o0, sr o1, sr b1, sr b1_3, sr p8, .val v37, sr b1_8, sr p6]) (S' := [(.ref b1_8)]) rfl ?_
    refine Home.call (own_face X42 hx hZ hown (own_w164 hw) (own_w165 hw) (mvT hZ (own_w166 hw)) (own_w167 hw) (own_w168 hw) (own_w169 hw) (own_w170 hw) (own_w150 hw) (own_w130 hw) (own_w171 hw) (by decide) (rm24_3 l Z a0 hw [] b1_8 o0 u1 p3 k_p3 p5 p6 p7 T28.heap n0 O28 P28_0 P28_1 (F_modCount_o0.keep K28 nin0) P28_2 P28_3 (F_size_o0.keep K28 nin0) bd40 (F_elementData_o0.keep K28 nin0) V45 g_b1_8 P28_4) e42 P28_0 rfl (by rw [hml]; rfl) (argsL := []) (rest := []) (lenOf own_pd18 rfl) rfl rfl (W := 0) (by exact hW0) (by decide) (by decide) (hb hby d19_58) (by decide) (by decide)) ?_
    rintro _ T46 L46 X46 ⟨rfl, N46q, K46q, P46_0, P46_1, P46_2, P46_3, P46_4⟩
    have O46 := Old.keep O28 K46q (allS g_b1_8 all0)
    have K46 : Keep h0 T46.heap ([] : List Addr) := Keep.trans K28 K46q (allS (Or.inr (Nat.le_trans le12 sz_b1_8)) all0)
    have N46 := Fr.app NJ36 N46q
    refine Home.st (castY X46 hx hZ hown (own_w179 hw) rfl (Ins.self (E_p7.keep K46)) rfl rfl (hb hby d19_63)) fun T47 X47 e47 => ?_
    refine Home.run X47 hx hby sg19_66_2 (pc' := 70) (L' := #[sr o0, sr o1, sr b1, sr b1_3, sr p8, .val v37, sr b1_8, sr p7]) (S' := [(.ref p7)]) rfl ?_
    refine Home.st (own_pure (own_virtual X47 hx hZ hown (own_w181 hw) (own_w182 hw) (notFace_of_selects (args := #[]) (mvT hZ (own_w184 hw))) (own_w184 hw) (own_w183 hw) (own_w2 hw) (own_w185 hw) (by decide) (rm26_0 l Z a0 hw [] p7 p12 T46.heap n0 O46 (F_name_p7.keep K46 nin0)) e47 (E_p7.keep K46) rfl (by rw [hml]; rfl) (argsL := []) (rest := []) (lenOf own_pd19 rfl) rfl rfl (W := 0) (by exact hW0) (by decide) (by decide) (hb hby d19_70) (by decide) (by decide))) fun T48 X48 e48 => ?_
    show Home T48 (mkF m 73 #[sr o0, sr o1, sr b1, sr b1_3, sr p8, .val v37, sr b1_8, sr p7] [(.ref p12)])
    refine Home.run X48 hx hby sg19_73_1 (pc' := 75) (L' := #[sr o0, sr o1, sr b1, sr b1_3, sr p8, .val v37, sr b1_8, sr p7]) (S' := [(.ref p8), (.ref p12)]) rfl ?_
    refine Home.st (own_pure (own_virtual X48 hx hZ hown (own_w186 hw) (own_w187 hw) (notFace_of_selects (args := #[]) (mvT hZ (own_w189 hw))) (own_w189 hw) (own_w188 hw) (own_w5 hw) (own_w190 hw) (by decide) (rm27_0 l Z a0 hw [] p12 p8 sv_COMPACT_STRINGS p17 p13 k_p17 u6 k_p13 u2 T46.heap n0 O46 (E_p12.keep K46) (E_p8.keep K46) ne_p12_p8 S_COMPACT_STRINGS hCS (F_coder_p12.keep K46 nin0) (F_coder_p8.keep K46 nin0) (F_value_p12.keep K46 nin0) (F_value_p8.keep K46 nin0) (V_p17.keep K46 nin0) (V_p13.keep K46 nin0)) e48 (E_p12.keep K46) rfl (by rw [hml]; rfl) (argsL := [(.ref p8)]) (rest := []) (lenOf own_pd17 rfl) rfl rfl (W := 0) (by exact hW0) (by decide) (by decide) (hb hby d19_75) (by decide) (by decide))) fun T49 X49 e49 => ?_
    show Home T49 (mkF m 78 #[sr o0, sr o1, sr b1, sr b1_3, sr p8, .val v37, sr b1_8, sr p7] [(.int (f_rm27_0 u6 u2))])
    obtain ⟨r50, hr50⟩ : ∃ z, z = (f_rm27_0 u6 u2) := ⟨_, rfl⟩
    rw [← hr50]
    have br50 : ¬ r50 < (0 : Int32) ∧ ¬ (1 : Int32) < r50 := by rw [hr50]; exact f_rm27_0_bnd u6 u2
    suffices J54 : ∀ {T : State} {lc : List Loc} (X : Stand p l e ({ frames := 5, cells := 5, slots := 25, locals := 69 } : Room) s m #[(.ref o0), (.ref o1)] below meth c T lc 3 11) (N : Fr n0 lc) (eT : T.heap = T46.heap) (v55 : Value) (hv55 : v55 = (if r50 = (0 : Int32) then v37 else (.ref p7))), @Home p e below _ T (mkF m 85 #[sr o0, sr o1, sr b1, sr b1_3, sr p8, .val v55, sr b1_8, sr p7] []) by
     by_cases c51 : r50 = (0 : Int32)
     ·
      refine Home.go (fun _ => XS.ifYes X49.here hx rfl (pc0 := 78) (pc' := 85) rfl (hb hby d19_78) rfl ((if0 _ _).trans (teq c51).1) (by decide) (by decide)) ?_
      have bd52 : ¬ r50 < (0 : Int32) ∧ ¬ (0 : Int32) < r50 := ⟨(bnd_eql c51), (bnd_eqr c51)⟩
      exact J54 X49 N46 e49 _ (by simp only [if_pos c51])
     ·
      refine Home.go (fun _ => XS.ifNo X49.here hx rfl (hb hby d19_78) rfl ((if0 _ _).trans (feq c51).1)) ?_
      have bd53 : ¬ r50 < (1 : Int32) ∧ ¬ (1 : Int32) < r50 := ⟨(bnd_nel br50.1 c51 (by decide +kernel)), br50.2⟩
      refine Home.run X49 hx hby sg19_81_1 (pc' := 83) (L' := #[sr o0, sr o1, sr b1, sr b1_3, sr p8, .val v37, sr b1_8, sr p7]) (S' := [(.ref p7)]) rfl ?_
      refine Home.go (fun _ => XS.astore X49.here hx rfl (hb hby d19_83) rfl rfl (l' := #[.val (.ref o0), .val (.ref o1), .val (.ref b1), .val (.ref b1_3), .val (.ref p8), .val (.ref p7), .val (.ref b1_8), .val (.ref p7)]) (XS.store1 rfl (Or.inr ⟨_, rfl, (cat1_of isr_v37)⟩) rfl)) ?_
      exact J54 X49 N46 e49 _ (by simp only [if_neg c51])
    intro TJ54 lcJ54 XJ54 NJ54 eJ54 v55 hv55
    have isr_v55 : v55.isRef = true := by rw [hv55]; exact (own_itR (by assumption) rfl)
    show Home TJ54 (mkF m 85 #[sr o0, sr o1, sr b1, sr b1_3, sr p8, .val v55, sr b1_8, sr p7] [])
    refine Home.run XJ54 hx hby sg19_85_1 (pc' := 46) (L' := #[sr o0, sr o1, sr b1, sr b1_3, sr p8, .val v55, sr b1_8, sr p7]) (S' := []) rfl ?_
    refine Home.run XJ54 hx hby sg19_46_1 (pc' := 48) (L' := #[sr o0, sr o1, sr b1, sr b1_3, sr p8, .val v55, sr b1_8, sr p7]) (S' := [(.ref b1_8)]) rfl ?_
    refine Home.st (own_pure (own_face XJ54 hx hZ hown (own_w143 hw) (own_w144 hw) (mvT hZ (own_w145 hw)) (own_w146 hw) (own_w147 hw) (own_w148 hw) (own_w149 hw) (own_w150 hw) (own_w130 hw) (own_w151 hw) (by decide) (rm22_7 l Z a0 hw [] b1_8 o0 u1 T46.heap n0 O46 P46_3 P46_1 (F_size_o0.keep K46 nin0) bd40) eJ54 P46_0 rfl (by rw [hml]; rfl) (argsL := []) (rest := []) (lenOf own_pd11 rfl) rfl rfl (W := 0) (by exact hW0) (by decide) (by decide) (hb hby d19_48) (by decide) (by decide))) fun T56 X56 e56 => ?_
    refine Home.go (fun _ => XS.ifYes X56.here hx rfl (pc0 := 53) (pc' := 88) rfl (hb hby d19_53) rfl ((if0 _ _).trans (teq (by decide)).1) (by decide) (by decide)) ?_
    have k64 : Keep T8.heap T28.heap [b1_8] := K10q.trans K28q (allS (Or.inl (List.mem_of_getElem? (i := 0) rfl)) all0)
    have k63 : Keep T8.heap T46.heap [b1_8] := k64.trans K46q (allS (Or.inl (List.mem_of_getElem? (i := 0) rfl)) all0)
    exact J57 X56 NJ54 e56 k63 v55 (by subst hv55; subst hr50; subst hv37; subst hr32; subst hv21; subst hr16; simp only [if_neg c22, if_neg c38]) (.val (.ref p7)) (Or.inr ⟨_, rfl, rfl⟩)
 intro TJ57 lcJ57 hJ57 XJ57 NJ57 eJ57 KqJ57 v58 hv58 v59 hv59
 have le66 : h0.size ≤ T3.heap.size := Nat.le_trans le6 K3q.1
 have le67 : h0.size ≤ T5.heap.size := Nat.le_trans le66 K5q.1
 have OJ57 := Old.keep O8 KqJ57 (allS g_b1_8 all0)
 have KJ57 : Keep h0 hJ57 ([] : List Addr) := Keep.trans K8 KqJ57 (allS (Or.inr (Nat.le_trans le67 sz_b1_8)) all0)
 have isr_v58 : v58.isRef = true := by rw [hv58]; exact (own_itR (own_itR rfl rfl) (own_itR (own_itR (own_itR rfl rfl) rfl) (own_itR (own_itR (own_itR rfl rfl) rfl) rfl)))
 show Home TJ57 (mkF m 88 #[sr o0, sr o1, sr b1, sr b1_3, sr p8, .val v58, sr b1_8, v59] [])
 refine Home.go (fun _ => XS.aload XJ57.here hx rfl (hb hby d19_88) rfl (isr_v58)) ?_
 have e68_0 := (E_p5.keep KJ57)
 have e68_1 := (E_p6.keep KJ57)
 have e68_2 := (E_p7.keep KJ57)
 have hT68 : v58 = ((if (1 : Int32) = u1 then (if (f_rm27_0 u4 u2) = (0 : Int32) then .null else (.ref p5)) else (if (2 : Int32) = u1 then (if (f_rm27_0 u5 u2) = (0 : Int32) then (if (f_rm27_0 u4 u2) = (0 : Int32) then .null else (.ref p5)) else (.ref p6)) else (if (f_rm27_0 u6 u2) = (0 : Int32) then (if (f_rm27_0 u5 u2) = (0 : Int32) then (if (f_rm27_0 u4 u2) = (0 : Int32) then .null else (.ref p5)) else (.ref p6)) else (.ref p7)))) : Value) := by subst hv58; rfl
 obtain ⟨a68, ha68⟩ : ∃ a, v58 = .ref a := (ref_cases isr_v58).resolve_left (fun q => nn68 (hT68.symm.trans q))
 have nq68 : ((if (1 : Int32) = u1 then (if (f_rm27_0 u4 u2) = (0 : Int32) then .null else (.ref p5)) else (if (2 : Int32) = u1 then (if (f_rm27_0 u5 u2) = (0 : Int32) then (if (f_rm27_0 u4 u2) = (0 : Int32) then .null else (.ref p5)) else (.ref p6)) else (if (f_rm27_0 u6 u2) = (0 : Int32) then (if (f_rm27_0 u5 u2) = (0 : Int32) then (if (f_rm27_0 u4 u2) = (0 : Int32) then .null else (.ref p5)) else (.ref p6)) else (.ref p7)))) : Value) = .ref a68 := hT68.symm.trans ha68
 have E68a : Exa Z hJ57 a68 "com/example/wary_meter/warymeter/Column" := own_itE nq68 (fun q => own_itE q (fun q => nomatch q) (fun q => own_leE q e68_0)) (fun q => own_itE q (fun q => own_itE q (fun q => own_itE q (fun q => nomatch q) (fun q => own_leE q e68_0)) (fun q => own_leE q e68_1)) (fun q => own_itE q (fun q => own_itE q (fun q => own_itE q (fun q => nomatch q) (fun q => own_leE q e68_0)) (fun q => own_leE q e68_1)) (fun q => own_leE q e68_2)))
 subst ha68
 show Home TJ57 (mkF m 90 #[sr o0, sr o1, sr b1, sr b1_3, sr p8, sr a68, sr b1_8, v59] [(.ref a68)])
 refine Home.go (fun _ => XS.ifnonnullYes XJ57.here hx rfl (pc0 := 90) (pc' := 108) rfl (hb hby d19_90) rfl (by decide) (by decide)) ?_
 show Home TJ57 (mkF m 108 #[sr o0, sr o1, sr b1, sr b1_3, sr p8, sr a68, sr b1_8, v59] [])
 refine Home.run XJ57 hx hby sg19_108_2 (pc' := 111) (L' := #[sr o0, sr o1, sr b1, sr b1_3, sr p8, sr a68, sr b1_8, v59]) (S' := [(.ref a68), (.ref b1)]) rfl ?_
 have q69 := ((((P2_0.keep K3q).keep K5q).keep K8q).keep KqJ57)
 have ne70 : b1 ≠ b1_3 := (Nat.ne_of_lt (Nat.lt_of_lt_of_le A1.lt (Nat.le_trans K2q.1 sz_b1_3)))
 have le71 : h1.size ≤ T3.heap.size := Nat.le_trans K2q.1 K3q.1
 have le72 : h1.size ≤ T5.heap.size := Nat.le_trans le71 K5q.1
 have ne73 : b1 ≠ b1_8 := (Nat.ne_of_lt (Nat.lt_of_lt_of_le A1.lt (Nat.le_trans le72 sz_b1_8)))
 have q74 := ((((P2_1.keep K3q nin0).keep K5q (ninS ne70 nin0)).keep K8q nin0).keep KqJ57 (ninS ne73 nin0))
 have q75 := ((((P2_2.keep K3q nin0).keep K5q (ninS ne70 nin0)).keep K8q nin0).keep KqJ57 (ninS ne73 nin0))
 have q76 := ((((P2_3.keep K3q nin0).keep K5q (ninS ne70 nin0)).keep K8q nin0).keep KqJ57 (ninS ne73 nin0))
 refine Home.call (own_face XJ57 hx hZ hown (own_w194 hw) (own_w74 hw) (mvT hZ (own_w75 hw)) (own_w76 hw) (own_w77 hw) (own_w78 hw) (own_w79 hw) (own_w80 hw) (own_w51 hw) (own_w81 hw) (by decide) (rm12_0 l Z a0 hw [] b1 a68 sv_DEFAULTCAPACITY_EMPTY_ELEMENTDATA kde hJ57 n0 OJ57 q74 q69 g_b1 q75 q76 V_de S_DEFAULTCAPACITY_EMPTY_ELEMENTDATA E68a) eJ57 q69 rfl (by rw [hml]; rfl) (argsL := [(.ref a68)]) (rest := []) (lenOf own_pd17 rfl) rfl rfl (W := 0) (by exact hW0) (by decide) (by decide) (hb hby d19_111) (by decide) (by decide)) ?_
 rintro _ T77 L77 X77 ⟨b6_2_2_7_77, k6_2_2_7_77, rfl, N77q, sz_b6_2_2_7_77, K77q, P77_0, P77_1, P77_2, P77_3, P77_4, P77_5⟩
 have g_b6_2_2_7_77 : n0 ≤ b6_2_2_7_77 := Nat.le_trans (Old.le OJ57) sz_b6_2_2_7_77
 have O77 := Old.keep OJ57 K77q (allS g_b1 all0)
 have K77 : Keep h0 T77.heap ([] : List Addr) := Keep.trans KJ57 K77q (allS (Or.inr (Nat.le_trans (Nat.le_refl _) (Nat.le_of_eq g1.symm))) all0)
 have N77 := Fr.app NJ57 N77q
 show Home T77 (mkF m 116 #[sr o0, sr o1, sr b1, sr b1_3, sr p8, sr a68, sr b1_8, v59] [(.int (1 : Int32))])
 refine Home.run X77 hx hby sg19_116_3 (pc' := 16) (L' := #[sr o0, sr o1, sr b1, sr b1_3, sr p8, sr a68, sr b1_8, v59]) (S' := [(.ref b1_3)]) rfl ?_
 have q78 := (((P5_0.keep K8q).keep KqJ57).keep K77q)
 have ne79 : b1_3 ≠ b1_8 := (Nat.ne_of_lt (Nat.lt_of_lt_of_le P3_0.lt (Nat.le_trans K5q.1 sz_b1_8)))
 have ne80 : b1_3 ≠ b1 := (Ne.symm ne70)
 have q81 := (((P5_3.keep K8q nin0).keep KqJ57 (ninS ne79 nin0)).keep K77q (ninS ne80 nin0))
 have q82 := (((P5_1.keep K8q nin0).keep KqJ57 (ninS ne79 nin0)).keep K77q (ninS ne80 nin0))
 refine Home.st (own_pure (own_face X77 hx hZ hown (own_w143 hw) (own_w144 hw) (mvT hZ (own_w145 hw)) (own_w146 hw) (own_w147 hw) (own_w148 hw) (own_w149 hw) (own_w150 hw) (own_w130 hw) (own_w151 hw) (by decide) (rm22_4 l Z a0 hw [] b1_3 o1 (2 : Int32) T77.heap n0 O77 q81 q82 (F_size_o1.keep K77 nin0) (bnd_mono (bnd_lit (2 : Int32)) (by decide +kernel) (by decide +kernel))) rfl q78 rfl (by rw [hml]; rfl) (argsL := []) (rest := []) (lenOf own_pd11 rfl) rfl rfl (W := 0) (by exact hW0) (by decide) (by decide) (hb hby d19_16) (by decide) (by decide))) fun T83 X83 e83 => ?_
 refine Home.go (fun _ => XS.ifNo X83.here hx rfl (hb hby d19_21) rfl ((if0 _ _).trans (feq (by decide)).1)) ?_
 refine Home.run X83 hx hby sg19_24_1 (pc' := 25) (L' := #[sr o0, sr o1, sr b1, sr b1_3, sr p8, sr a68, sr b1_8, v59]) (S' := [(.ref b1_3)]) rfl ?_
 have q84 := (((P5_2.keep K8q nin0).keep KqJ57 (ninS ne79 nin0)).keep K77q (ninS ne80 nin0))
 have q85 := (((P5_4.keep K8q nin0).keep KqJ57 (ninS ne79 nin0)).keep K77q (ninS ne80 nin0))
 refine Home.call (own_face X83 hx hZ hown (own_w164 hw) (own_w165 hw) (mvT hZ (own_w166 hw)) (own_w167 hw) (own_w168 hw) (own_w169 hw) (own_w170 hw) (own_w150 hw) (own_w130 hw) (own_w171 hw) (by decide) (rm24_6 l Z a0 hw [] b1_3 o1 p4 k_p4 p8 p9 T77.heap n0 O77 q78 q82 (F_modCount_o1.keep K77 nin0) q84 q81 (F_size_o1.keep K77 nin0) (F_elementData_o1.keep K77 nin0) (V_p4.keep K77 nin0) g_b1_3 q85) e83 q78 rfl (by rw [hml]; rfl) (argsL := []) (rest := []) (lenOf own_pd18 rfl) rfl rfl (W := 0) (by exact hW0) (by decide) (by decide) (hb hby d19_25) (by decide) (by decide)) ?_
 rintro _ T86 L86 X86 ⟨rfl, N86q, K86q, P86_0, P86_1, P86_2, P86_3, P86_4⟩
 have O86 := Old.keep O77 K86q (allS g_b1_3 all0)
 have K86 : Keep h0 T86.heap ([] : List Addr) := Keep.trans K77 K86q (allS (Or.inr (Nat.le_trans le6 sz_b1_3)) all0)
 have N86 := Fr.app N77 N86q
 show Home T86 (mkF m 30 #[sr o0, sr o1, sr b1, sr b1_3, sr p8, sr a68, sr b1_8, v59] [(.ref p9)])
 refine Home.st (castY X86 hx hZ hown (own_w178 hw) rfl (Ins.self (E_p9.keep K86)) rfl rfl (hb hby d19_30)) fun T87 X87 e87 => ?_
 refine Home.run X87 hx hby sg19_33_4 (pc' := 39) (L' := #[sr o0, sr o1, sr b1, sr b1_3, sr p9, .val .null, sr b1_8, v59]) (S' := [(.ref o0)]) rfl ?_
 refine Home.call (own_face X87 hx hZ hown (own_w120 hw) (own_w121 hw) (mvT hZ (own_w122 hw)) (own_w123 hw) (own_w124 hw) (own_w125 hw) (own_w126 hw) (own_w80 hw) (own_w51 hw) (own_w127 hw) (by decide) (rm20_2 l Z a0 hw [] o0 u1 T86.heap n0 O86 (F_modCount_o0.keep K86 nin0) (E_o0.keep K86)) e87 (E_o0.keep K86) rfl (by rw [hml]; rfl) (argsL := []) (rest := []) (lenOf own_pd10 rfl) rfl rfl (W := 0) (by exact hW0) (by decide) (by decide) (hb hby d19_39) (by decide) (by decide)) ?_
 rintro _ T88 L88 X88 ⟨b1_88, rfl, N88q, sz_b1_88, K88q, P88_0, P88_1, P88_2, P88_3, P88_4⟩
 have g_b1_88 : n0 ≤ b1_88 := Nat.le_trans (Old.le O86) sz_b1_88
 have O88 := Old.keep O86 K88q all0
 have K88 : Keep h0 T88.heap ([] : List Addr) := Keep.trans K86 K88q all0
 have N88 := Fr.app N86 N88q
 refine Home.run X88 hx hby sg19_44_1 (pc' := 46) (L' := #[sr o0, sr o1, sr b1, sr b1_3, sr p9, .val .null, sr b1_88, v59]) (S' := []) rfl ?_
 refine Home.cut (C := fun E => ∀ {T : State} {lc : List Loc} {hJ : Heap} (X : Stand p l e ({ frames := 5, cells := 5, slots := 25, locals := 69 } : Room) s m #[(.ref o0), (.ref o1)] below meth c T lc 5 25) (N : Fr n0 lc) (eT : T.heap = hJ) (Kq : Keep T88.heap hJ ([b1_88] : List Addr)) (v142 : Value) (hv142 : v142 = ((if (1 : Int32) = u1 then (if (f_rm27_0 u4 u3) = (0 : Int32) then .null else (.ref p5)) else (if (2 : Int32) = u1 then (if (f_rm27_0 u5 u3) = (0 : Int32) then (if (f_rm27_0 u4 u3) = (0 : Int32) then .null else (.ref p5)) else (.ref p6)) else (if (f_rm27_0 u6 u3) = (0 : Int32) then (if (f_rm27_0 u5 u3) = (0 : Int32) then (if (f_rm27_0 u4 u3) = (0 : Int32) then .null else (.ref p5)) else (.ref p6)) else (.ref p7)))) : Value)) (v143 : Slot) (hv143 : v143 = .unset ∨ ∃ w, v143 = .val w ∧ w.category = 1), @Home p e below E T (mkF m 88 #[sr o0, sr o1, sr b1, sr b1_3, sr p9, .val v142, sr b1_88, v143] [])) (fun _ J141 => ?_) ?_
 ·
  refine Home.run X88 hx hby sg19_46_1 (pc' := 48) (L' := #[sr o0, sr o1, sr b1, sr b1_3, sr p9, .val .null, sr b1_88, v59]) (S' := [(.ref b1_88)]) rfl ?_
  refine Home.st (own_pure (own_face X88 hx hZ hown (own_w143 hw) (own_w144 hw) (mvT hZ (own_w145 hw)) (own_w146 hw) (own_w147 hw) (own_w148 hw) (own_w149 hw) (own_w150 hw) (own_w130 hw) (own_w151 hw) (by decide) (rm22_2 l Z a0 hw [] b1_88 o0 u1 T88.heap n0 O88 P88_4 P88_1 (F_size_o0.keep K88 nin0) bnd_u1) rfl P88_0 rfl (by rw [hml]; rfl) (argsL := []) (rest := []) (lenOf own_pd11 rfl) rfl rfl (W := 0) (by exact hW0) (by decide) (by decide) (hb hby d19_48) (by decide) (by decide))) fun T89 X89 e89 => ?_
  refine Home.go (fun _ => XS.ifNo X89.here hx rfl (hb hby d19_53) rfl ((if0 _ _).trans (feq (by decide)).1)) ?_
  refine Home.run X89 hx hby sg19_56_1 (pc' := 58) (L' := #[sr o0, sr o1, sr b1, sr b1_3, sr p9, .val .null, sr b1_88, v59]) (S' := [(.ref b1_88)]) rfl ?_
  refine Home.call (own_face X89 hx hZ hown (own_w164 hw) (own_w165 hw) (mvT hZ (own_w166 hw)) (own_w167 hw) (own_w168 hw) (own_w169 hw) (own_w170 hw) (own_w150 hw) (own_w130 hw) (own_w171 hw) (by decide) (rm24_1 l Z a0 hw [] b1_88 o0 u1 p3 k_p3 p5 p6 p7 T88.heap n0 O88 P88_0 P88_1 (F_modCount_o0.keep K88 nin0) P88_3 P88_4 (F_size_o0.keep K88 nin0) bnd_u1 (F_elementData_o0.keep K88 nin0) (V_p3.keep K88 nin0) g_b1_88 P88_2) e89 P88_0 rfl (by rw [hml]; rfl) (argsL := []) (rest := []) (lenOf own_pd18 rfl) rfl rfl (W := 0) (by exact hW0) (by decide) (by decide) (hb hby d19_58) (by decide) (by decide)) ?_
  rintro _ T90 L90 X90 ⟨rfl, N90q, K90q, P90_0, P90_1, P90_2, P90_3, P90_4⟩
  have le91 : h0.size ≤ T3.heap.size := Nat.le_trans le6 K3q.1
  have le92 : h0.size ≤ T5.heap.size := Nat.le_trans le91 K5q.1
  have le93 : h0.size ≤ T8.heap.size := Nat.le_trans le92 K8q.1
  have le94 : h0.size ≤ hJ57.size := Nat.le_trans le93 KqJ57.1
  have le95 : h0.size ≤ T77.heap.size := Nat.le_trans le94 K77q.1
  have le96 : h0.size ≤ T86.heap.size := Nat.le_trans le95 K86q.1
  have O90 := Old.keep O88 K90q (allS g_b1_88 all0)
  have K90 : Keep h0 T90.heap ([] : List Addr) := Keep.trans K88 K90q (allS (Or.inr (Nat.le_trans le96 sz_b1_88)) all0)
  have N90 := Fr.app N88 N90q
  show Home T90 (mkF m 63 #[sr o0, sr o1, sr b1, sr b1_3, sr p9, .val .null, sr b1_88, v59] [(.ref p5)])
  refine Home.st (castY X90 hx hZ hown (own_w179 hw) rfl (Ins.self (E_p5.keep K90)) rfl rfl (hb hby d19_63)) fun T97 X97 e97 => ?_
  refine Home.go (fun _ => XS.astore X97.here hx rfl (hb hby d19_66) rfl rfl (l' := #[.val (.ref o0), .val (.ref o1), .val (.ref b1), .val (.ref b1_3), .val (.ref p9), .val .null, .val (.ref b1_88), .val (.ref p5)]) (XS.store1 rfl hv59 rfl)) ?_
  refine Home.run X97 hx hby sg19_68_1 (pc' := 70) (L' := #[sr o0, sr o1, sr b1, sr b1_3, sr p9, .val .null, sr b1_88, sr p5]) (S' := [(.ref p5)]) rfl ?_
  refine Home.st (own_pure (own_virtual X97 hx hZ hown (own_w181 hw) (own_w182 hw) (notFace_of_selects (args := #[]) (mvT hZ (own_w184 hw))) (own_w184 hw) (own_w183 hw) (own_w2 hw) (own_w185 hw) (by decide) (rm26_0 l Z a0 hw [] p5 p10 T90.heap n0 O90 (F_name_p5.keep K90 nin0)) e97 (E_p5.keep K90) rfl (by rw [hml]; rfl) (argsL := []) (rest := []) (lenOf own_pd19 rfl) rfl rfl (W := 0) (by exact hW0) (by decide) (by decide) (hb hby d19_70) (by decide) (by decide))) fun T98 X98 e98 => ?_
  refine Home.run X98 hx hby sg19_73_1 (pc' := 75) (L' := #[sr o0, sr o1, sr b1, sr b1_3, sr p9, .val .null, sr b1_88, sr p5]) (S' := [(.ref p9), (.ref p10)]) rfl ?_
  refine Home.st (own_pure (own_virtual X98 hx hZ hown (own_w186 hw) (own_w187 hw) (notFace_of_selects (args := #[]) (mvT hZ (own_w189 hw))) (own_w189 hw) (own_w188 hw) (own_w5 hw) (own_w190 hw) (by decide) (rm27_0 l Z a0 hw [] p10 p9 sv_COMPACT_STRINGS p15 p14 k_p15 u4 k_p14 u3 T90.heap n0 O90 (E_p10.keep K90) (E_p9.keep K90) ne_p10_p9 S_COMPACT_STRINGS hCS (F_coder_p10.keep K90 nin0) (F_coder_p9.keep K90 nin0) (F_value_p10.keep K90 nin0) (F_value_p9.keep K90 nin0) (V_p15.keep K90 nin0) (V_p14.keep K90 nin0)) e98 (E_p10.keep K90) rfl (by rw [hml]; rfl) (argsL := [(.ref p9)]) (rest := []) (lenOf own_pd17 rfl) rfl rfl (W := 0) (by exact hW0) (by decide) (by decide) (hb hby d19_75) (by decide) (by decide))) fun T99 X99 e99 => ?_
  show Home T99 (mkF m 78 #[sr o0, sr o1, sr b1, sr b1_3, sr p9, .val .null, sr b1_88, sr p5] [(.int (f_rm27_0 u4 u3))])
  obtain ⟨r100, hr100⟩ : ∃ z, z = (f_rm27_0 u4 u3) := ⟨_, rfl⟩
  rw [← hr100]
  have br100 : ¬ r100 < (0 : Int32) ∧ ¬ (1 : Int32) < r100 := by rw [hr100]; exact f_rm27_0_bnd u4 u3
  suffices J104 : ∀ {T : State} {lc : List Loc} (X : Stand p l e ({ frames := 5, cells := 5, slots := 25, locals := 69 } : Room) s m #[(.ref o0), (.ref o1)] below meth c T lc 5 25) (N : Fr n0 lc) (eT : T.heap = T90.heap) (v105 : Value) (hv105 : v105 = (if r100 = (0 : Int32) then .null else (.ref p5))), @Home p e below _ T (mkF m 85 #[sr o0, sr o1, sr b1, sr b1_3, sr p9, .val v105, sr b1_88, sr p5] []) by
   by_cases c101 : r100 = (0 : Int32)
   ·
    refine Home.go (fun _ => XS.ifYes X99.here hx rfl (pc0 := 78) (pc' := 85) rfl (hb hby d19_78) rfl ((if0 _ _).trans (teq c101).1) (by decide) (by decide)) ?_
    have bd102 : ¬ r100 < (0 : Int32) ∧ ¬ (0 : Int32) < r100 := ⟨(bnd_eql c101), (bnd_eqr c101)⟩
    exact J104 X99 N90 e99 _ (by simp only [if_pos c101])
   ·
    refine Home.go (fun _ => XS.ifNo X99.here hx rfl (hb hby d19_78) rfl ((if0 _ _).trans (feq c101).1)) ?_
    have bd103 : ¬ r100 < (1 : Int32) ∧ ¬ (1 : Int32) < r100 := ⟨(bnd_nel br100.1 c101 (by decide +kernel)), br100.2⟩
    refine Home.run X99 hx hby sg19_81_2 (pc' := 85) (L' := #[sr o0, sr o1, sr b1, sr b1_3, sr p9, sr p5, sr b1_88, sr p5]) (S' := []) rfl ?_
    exact J104 X99 N90 e99 _ (by simp only [if_neg c101])
  intro TJ104 lcJ104 XJ104 NJ104 eJ104 v105 hv105
  have isr_v105 : v105.isRef = true := by rw [hv105]; exact (own_itR rfl rfl)
  show Home TJ104 (mkF m 85 #[sr o0, sr o1, sr b1, sr b1_3, sr p9, .val v105, sr b1_88, sr p5] [])
  refine Home.run XJ104 hx hby sg19_85_1 (pc' := 46) (L' := #[sr o0, sr o1, sr b1, sr b1_3, sr p9, .val v105, sr b1_88, sr p5]) (S' := []) rfl ?_
  refine Home.run XJ104 hx hby sg19_46_1 (pc' := 48) (L' := #[sr o0, sr o1, sr b1, sr b1_3, sr p9, .val v105, sr b1_88, sr p5]) (S' := [(.ref b1_88)]) rfl ?_
  by_cases c106 : (1 : Int32) = u1
  ·
   have bd107 : ¬ u1 < (1 : Int32) ∧ ¬ (1 : Int32) < u1 := ⟨(bnd_eql (c106.symm)), (bnd_eqr (c106.symm))⟩
   refine Home.st (own_pure (own_face XJ104 hx hZ hown (own_w143 hw) (own_w144 hw) (mvT hZ (own_w145 hw)) (own_w146 hw) (own_w147 hw) (own_w148 hw) (own_w149 hw) (own_w150 hw) (own_w130 hw) (own_w151 hw) (by decide) (rm22_3 l Z a0 hw [] b1_88 o0 u1 T90.heap n0 O90 P90_3 P90_1 (F_size_o0.keep K90 nin0) bd107) eJ104 P90_0 rfl (by rw [hml]; rfl) (argsL := []) (rest := []) (lenOf own_pd11 rfl) rfl rfl (W := 0) (by exact hW0) (by decide) (by decide) (hb hby d19_48) (by decide) (by decide))) fun T109 X109 e109 => ?_
   refine Home.go (fun _ => XS.ifYes X109.here hx rfl (pc0 := 53) (pc' := 88) rfl (hb hby d19_53) rfl ((if0 _ _).trans (teq (by decide)).1) (by decide) (by decide)) ?_
   exact J141 X109 NJ104 e109 K90q v105 (by subst hv105; subst hr100; simp only [if_pos c106]) (.val (.ref p5)) (Or.inr ⟨_, rfl, rfl⟩)
  ·
   have bd108 : ¬ u1 < (2 : Int32) ∧ ¬ (3 : Int32) < u1 := ⟨(bnd_nel bnd_u1.1 (Ne.symm c106) (by decide +kernel)), bnd_u1.2⟩
   refine Home.st (own_pure (own_face XJ104 hx hZ hown (own_w143 hw) (own_w144 hw) (mvT hZ (own_w145 hw)) (own_w146 hw) (own_w147 hw) (own_w148 hw) (own_w149 hw) (own_w150 hw) (own_w130 hw) (own_w151 hw) (by decide) (rm22_4 l Z a0 hw [] b1_88 o0 u1 T90.heap n0 O90 P90_3 P90_1 (F_size_o0.keep K90 nin0) bd108) eJ104 P90_0 rfl (by rw [hml]; rfl) (argsL := []) (rest := []) (lenOf own_pd11 rfl) rfl rfl (W := 0) (by exact hW0) (by decide) (by decide) (hb hby d19_48) (by decide) (by decide))) fun T110 X110 e110 => ?_
   refine Home.go (fun _ => XS.ifNo X110.here hx rfl (hb hby d19_53) rfl ((if0 _ _).trans (feq (by decide)).1)) ?_
   have V111 : Arv Z T90.heap p3 k_p3 (.object "java/lang/Object") (10 : Int32) [(.ref p5), (.ref p6), (own_el2 u1 p7), .null, .null, .null, .null, .null, .null, .null] .null := by have q := (V_p3.keep K90 nin0); rw [own_el1_is (k := p6) (Ne.symm c106)] at q; exact q
   refine Home.run X110 hx hby sg19_56_1 (pc' := 58) (L' := #[sr o0, sr o1, sr b1, sr b1_3, sr p9, .val v105, sr b1_88, sr p5]) (S' := [(.ref b1_88)]) rfl ?_
   refine Home.call (own_face X110 hx hZ hown (own_w164 hw) (own_w165 hw) (mvT hZ (own_w166 hw)) (own_w167 hw) (own_w168 hw) (own_w169 hw) (own_w170 hw) (own_w150 hw) (own_w130 hw) (own_w171 hw) (by decide) (rm24_2 l Z a0 hw [] b1_88 o0 u1 p3 k_p3 p5 p6 p7 T90.heap n0 O90 P90_0 P90_1 (F_modCount_o0.keep K90 nin0) P90_2 P90_3 (F_size_o0.keep K90 nin0) bd108 (F_elementData_o0.keep K90 nin0) V111 g_b1_88 P90_4) e110 P90_0 rfl (by rw [hml]; rfl) (argsL := []) (rest := []) (lenOf own_pd18 rfl) rfl rfl (W := 0) (by exact hW0) (by decide) (by decide) (hb hby d19_58) (by decide) (by decide)) ?_
   rintro _ T112 L112 X112 ⟨rfl, N112q, K112q, P112_0, P112_1, P112_2, P112_3, P112_4⟩
   have O112 := Old.keep O90 K112q (allS g_b1_88 all0)
   have K112 : Keep h0 T112.heap ([] : List Addr) := Keep.trans K90 K112q (allS (Or.inr (Nat.le_trans le96 sz_b1_88)) all0)
   have N112 := Fr.app NJ104 N112q
   refine Home.st (castY X112 hx hZ hown (own_w179 hw) rfl (Ins.self (E_p6.keep K112)) rfl rfl (hb hby d19_63)) fun T113 X113 e113 => ?_
   refine Home.run X113 hx hby sg19_66_2 (pc' := 70) (L' := #[sr o0, sr o1, sr b1, sr b1_3, sr p9, .val v105, sr b1_88, sr p6]) (S' := [(.ref p6)]) rfl ?_
   refine Home.st (own_pure (own_virtual X113 hx hZ hown (own_w181 hw) (own_w182 hw) (notFace_of_selects (args := #[]) (mvT hZ (own_w184 hw))) (own_w184 hw) (own_w183 hw) (own_w2 hw) (own_w185 hw) (by decide) (rm26_0 l Z a0 hw [] p6 p11 T112.heap n0 O112 (F_name_p6.keep K112 nin0)) e113 (E_p6.keep K112) rfl (by rw [hml]; rfl) (argsL := []) (rest := []) (lenOf own_pd19 rfl) rfl rfl (W := 0) (by exact hW0) (by decide) (by decide) (hb hby d19_70) (by decide) (by decide))) fun T114 X114 e114 => ?_
   refine Home.run X114 hx hby sg19_73_1 (pc' := 75) (L' := #[sr o0, sr o1, sr b1, sr b1_3, sr p9, .val v105, sr b1_88, sr p6]) (S' := [(.ref p9), (.ref p11)]) rfl ?_
   refine Home.st (own_pure (own_virtual X114 hx hZ hown (own_w186 hw) (own_w187 hw) (notFace_of_selects (args := #[]) (mvT hZ (own_w189 hw))) (own_w189 hw) (own_w188 hw) (own_w5 hw) (own_w190 hw) (by decide) (rm27_0 l Z a0 hw [] p11 p9 sv_COMPACT_STRINGS p16 p14 k_p16 u5 k_p14 u3 T112.heap n0 O112 (E_p11.keep K112) (E_p9.keep K112) ne_p11_p9 S_COMPACT_STRINGS hCS (F_coder_p11.keep K112 nin0) (F_coder_p9.keep K112 nin0) (F_value_p11.keep K112 nin0) (F_value_p9.keep K112 nin0) (V_p16.keep K112 nin0) (V_p14.keep K112 nin0)) e114 (E_p11.keep K112) rfl (by rw [hml]; rfl) (argsL := [(.ref p9)]) (rest := []) (lenOf own_pd17 rfl) rfl rfl (W := 0) (by exact hW0) (by decide) (by decide) (hb hby d19_75) (by decide) (by decide))) fun T115 X115 e115 => ?_
   show Home T115 (mkF m 78 #[sr o0, sr o1, sr b1, sr b1_3, sr p9, .val v105, sr b1_88, sr p6] [(.int (f_rm27_0 u5 u3))])
   obtain ⟨r116, hr116⟩ : ∃ z, z = (f_rm27_0 u5 u3) := ⟨_, rfl⟩
   rw [← hr116]
   have br116 : ¬ r116 < (0 : Int32) ∧ ¬ (1 : Int32) < r116 := by rw [hr116]; exact f_rm27_0_bnd u5 u3
   suffices J120 : ∀ {T : State} {lc : List Loc} (X : Stand p l e ({ frames := 5, cells := 5, slots := 25, locals := 69 } : Room) s m #[(.ref o0), (.ref o1)] below meth c T lc 5 25) (N : Fr n0 lc) (eT : T.heap = T112.heap) (v121 : Value) (hv121 : v121 = (if r116 = (0 : Int32) then v105 else (.ref p6))), @Home p e below _ T (mkF m 85 #[sr o0, sr o1, sr b1, sr b1_3, sr p9, .val v121, sr b1_88, sr p6] []) by
    by_cases c117 : r116 = (0 : Int32)
    ·
     refine Home.go (fun _ => XS.ifYes X115.here hx rfl (pc0 := 78) (pc' := 85) rfl (hb hby d19_78) rfl ((if0 _ _).trans (teq c117).1) (by decide) (by decide)) ?_
     have bd118 : ¬ r116 < (0 : Int32) ∧ ¬ (0 : Int32) < r116 := ⟨(bnd_eql c117), (bnd_eqr c117)⟩
     exact J120 X115 N112 e115 _ (by simp only [if_pos c117])
    ·
     refine Home.go (fun _ => XS.ifNo X115.here hx rfl (hb hby d19_78) rfl ((if0 _ _).trans (feq c117).1)) ?_
     have bd119 : ¬ r116 < (1 : Int32) ∧ ¬ (1 : Int32) < r116 := ⟨(bnd_nel br116.1 c117 (by decide +kernel)), br116.2⟩
     refine Home.run X115 hx hby sg19_81_1 (pc' := 83) (L' := #[sr o0, sr o1, sr b1, sr b1_3, sr p9, .val v105, sr b1_88, sr p6]) (S' := [(.ref p6)]) rfl ?_
     refine Home.go (fun _ => XS.astore X115.here hx rfl (hb hby d19_83) rfl rfl (l' := #[.val (.ref o0), .val (.ref o1), .val (.ref b1), .val (.ref b1_3), .val (.ref p9), .val (.ref p6), .val (.ref b1_88), .val (.ref p6)]) (XS.store1 rfl (Or.inr ⟨_, rfl, (cat1_of isr_v105)⟩) rfl)) ?_
     exact J120 X115 N112 e115 _ (by simp only [if_neg c117])
   intro TJ120 lcJ120 XJ120 NJ120 eJ120 v121 hv121
   have isr_v121 : v121.isRef = true := by rw [hv121]; exact (own_itR (by assumption) rfl)
   show Home TJ120 (mkF m 85 #[sr o0, sr o1, sr b1, sr b1_3, sr p9, .val v121, sr b1_88, sr p6] [])
   refine Home.run XJ120 hx hby sg19_85_1 (pc' := 46) (L' := #[sr o0, sr o1, sr b1, sr b1_3, sr p9, .val v121, sr b1_88, sr p6]) (S' := []) rfl ?_
   refine Home.run XJ120 hx hby sg19_46_1 (pc' := 48) (L' := #[sr o0, sr o1, sr b1, sr b1_3, sr p9, .val v121, sr b1_88, sr p6]) (S' := [(.ref b1_88)]) rfl ?_
   by_cases c122 : (2 : Int32) = u1
   ·
    have bd123 : ¬ u1 < (2 : Int32) ∧ ¬ (2 : Int32) < u1 := ⟨(bnd_eql (c122.symm)), (bnd_eqr (c122.symm))⟩
    refine Home.st (own_pure (own_face XJ120 hx hZ hown (own_w143 hw) (own_w144 hw) (mvT hZ (own_w145 hw)) (own_w146 hw) (own_w147 hw) (own_w148 hw) (own_w149 hw) (own_w150 hw) (own_w130 hw) (own_w151 hw) (by decide) (rm22_5 l Z a0 hw [] b1_88 o0 u1 T112.heap n0 O112 P112_3 P112_1 (F_size_o0.keep K112 nin0) bd123) eJ120 P112_0 rfl (by rw [hml]; rfl) (argsL := []) (rest := []) (lenOf own_pd11 rfl) rfl rfl (W := 0) (by exact hW0) (by decide) (by decide) (hb hby d19_48) (by decide) (by decide))) fun T125 X125 e125 => ?_
    refine Home.go (fun _ => XS.ifYes X125.here hx rfl (pc0 := 53) (pc' := 88) rfl (hb hby d19_53) rfl ((if0 _ _).trans (teq (by decide)).1) (by decide) (by decide)) ?_
    have k145 : Keep T88.heap T112.heap [b1_88] := K90q.trans K112q (allS (Or.inl (List.mem_of_getElem? (i := 0) rfl)) all0)
    exact J141 X125 NJ120 e125 k145 v121 (by subst hv121; subst hr116; subst hv105; subst hr100; simp only [if_neg c106, if_pos c122]) (.val (.ref p6)) (Or.inr ⟨_, rfl, rfl⟩)
   ·
    have bd124 : ¬ u1 < (3 : Int32) ∧ ¬ (3 : Int32) < u1 := ⟨(bnd_nel bd108.1 (Ne.symm c122) (by decide +kernel)), bd108.2⟩
    refine Home.st (own_pure (own_face XJ120 hx hZ hown (own_w143 hw) (own_w144 hw) (mvT hZ (own_w145 hw)) (own_w146 hw) (own_w147 hw) (own_w148 hw) (own_w149 hw) (own_w150 hw) (own_w130 hw) (own_w151 hw) (by decide) (rm22_6 l Z a0 hw [] b1_88 o0 u1 T112.heap n0 O112 P112_3 P112_1 (F_size_o0.keep K112 nin0) bd124) eJ120 P112_0 rfl (by rw [hml]; rfl) (argsL := []) (rest := []) (lenOf own_pd11 rfl) rfl rfl (W := 0) (by exact hW0) (by decide) (by decide) (hb hby d19_48) (by decide) (by decide))) fun T126 X126 e126 => ?_
    refine Home.go (fun _ => XS.ifNo X126.here hx rfl (hb hby d19_53) rfl ((if0 _ _).trans (feq (by decide)).1)) ?_
    have ne127 : p3 ≠ b1_88 := (Nat.ne_of_lt (Nat.lt_of_lt_of_le V_p3.lt (Nat.le_trans le96 sz_b1_88)))
    have q128 := (V111.keep K112q (ninS ne127 nin0))
    have V129 : Arv Z T112.heap p3 k_p3 (.object "java/lang/Object") (10 : Int32) [(.ref p5), (.ref p6), (.ref p7), .null, .null, .null, .null, .null, .null, .null] .null := by have q := q128; rw [own_el2_is (k := p7) (bnd_fix bd124)] at q; exact q
    refine Home.run X126 hx hby sg19_56_1 (pc' := 58) (L' := #[sr o0, sr o1, sr b1, sr b1_3, sr p9, .val v121, sr b1_88, sr p6]) (S' := [(.ref b1_88)]) rfl ?_
    refine Home.call (own_face X126 hx hZ hown (own_w164 hw) (own_w165 hw) (mvT hZ (own_w166 hw)) (own_w167 hw) (own_w168 hw) (own_w169 hw) (own_w170 hw) (own_w150 hw) (own_w130 hw) (own_w171 hw) (by decide) (rm24_3 l Z a0 hw [] b1_88 o0 u1 p3 k_p3 p5 p6 p7 T112.heap n0 O112 P112_0 P112_1 (F_modCount_o0.keep K112 nin0) P112_2 P112_3 (F_size_o0.keep K112 nin0) bd124 (F_elementData_o0.keep K112 nin0) V129 g_b1_88 P112_4) e126 P112_0 rfl (by rw [hml]; rfl) (argsL := []) (rest := []) (lenOf own_pd18 rfl) rfl rfl (W := 0) (by exact hW0) (by decide) (by decide) (hb hby d19_58) (by decide) (by decide)) ?_
    rintro _ T130 L130 X130 ⟨rfl, N130q, K130q, P130_0, P130_1, P130_2, P130_3, P130_4⟩
    have O130 := Old.keep O112 K130q (allS g_b1_88 all0)
    have K130 : Keep h0 T130.heap ([] : List Addr) := Keep.trans K112 K130q (allS (Or.inr (Nat.le_trans le96 sz_b1_88)) all0)
    have N130 := Fr.app NJ120 N130q
    refine Home.st (castY X130 hx hZ hown (own_w179 hw) rfl (Ins.self (E_p7.keep K130)) rfl rfl (hb hby d19_63)) fun T131 X131 e131 => ?_
    refine Home.run X131 hx hby sg19_66_2 (pc' := 70) (L' := #[sr o0, sr o1, sr b1, sr b1_3, sr p9, .val v121, sr b1_88, sr p7]) (S' := [(.ref p7)]) rfl ?_
    refine Home.st (own_pure (own_virtual X131 hx hZ hown (own_w181 hw) (own_w182 hw) (notFace_of_selects (args := #[]) (mvT hZ (own_w184 hw))) (own_w184 hw) (own_w183 hw) (own_w2 hw) (own_w185 hw) (by decide) (rm26_0 l Z a0 hw [] p7 p12 T130.heap n0 O130 (F_name_p7.keep K130 nin0)) e131 (E_p7.keep K130) rfl (by rw [hml]; rfl) (argsL := []) (rest := []) (lenOf own_pd19 rfl) rfl rfl (W := 0) (by exact hW0) (by decide) (by decide) (hb hby d19_70) (by decide) (by decide))) fun T132 X132 e132 => ?_
    show Home T132 (mkF m 73 #[sr o0, sr o1, sr b1, sr b1_3, sr p9, .val v121, sr b1_88, sr p7] [(.ref p12)])
    refine Home.run X132 hx hby sg19_73_1 (pc' := 75) (L' := #[sr o0, sr o1, sr b1, sr b1_3, sr p9, .val v121, sr b1_88, sr p7]) (S' := [(.ref p9), (.ref p12)]) rfl ?_
    refine Home.st (own_pure (own_virtual X132 hx hZ hown (own_w186 hw) (own_w187 hw) (notFace_of_selects (args := #[]) (mvT hZ (own_w189 hw))) (own_w189 hw) (own_w188 hw) (own_w5 hw) (own_w190 hw) (by decide) (rm27_0 l Z a0 hw [] p12 p9 sv_COMPACT_STRINGS p17 p14 k_p17 u6 k_p14 u3 T130.heap n0 O130 (E_p12.keep K130) (E_p9.keep K130) ne_p12_p9 S_COMPACT_STRINGS hCS (F_coder_p12.keep K130 nin0) (F_coder_p9.keep K130 nin0) (F_value_p12.keep K130 nin0) (F_value_p9.keep K130 nin0) (V_p17.keep K130 nin0) (V_p14.keep K130 nin0)) e132 (E_p12.keep K130) rfl (by rw [hml]; rfl) (argsL := [(.ref p9)]) (rest := []) (lenOf own_pd17 rfl) rfl rfl (W := 0) (by exact hW0) (by decide) (by decide) (hb hby d19_75) (by decide) (by decide))) fun T133 X133 e133 => ?_
    show Home T133 (mkF m 78 #[sr o0, sr o1, sr b1, sr b1_3, sr p9, .val v121, sr b1_88, sr p7] [(.int (f_rm27_0 u6 u3))])
    obtain ⟨r134, hr134⟩ : ∃ z, z = (f_rm27_0 u6 u3) := ⟨_, rfl⟩
    rw [← hr134]
    have br134 : ¬ r134 < (0 : Int32) ∧ ¬ (1 : Int32) < r134 := by rw [hr134]; exact f_rm27_0_bnd u6 u3
    suffices J138 : ∀ {T : State} {lc : List Loc} (X : Stand p l e ({ frames := 5, cells := 5, slots := 25, locals := 69 } : Room) s m #[(.ref o0), (.ref o1)] below meth c T lc 5 25) (N : Fr n0 lc) (eT : T.heap = T130.heap) (v139 : Value) (hv139 : v139 = (if r134 = (0 : Int32) then v121 else (.ref p7))), @Home p e below _ T (mkF m 85 #[sr o0, sr o1, sr b1, sr b1_3, sr p9, .val v139, sr b1_88, sr p7] []) by
     by_cases c135 : r134 = (0 : Int32)
     ·
      refine Home.go (fun _ => XS.ifYes X133.here hx rfl (pc0 := 78) (pc' := 85) rfl (hb hby d19_78) rfl ((if0 _ _).trans (teq c135).1) (by decide) (by decide)) ?_
      have bd136 : ¬ r134 < (0 : Int32) ∧ ¬ (0 : Int32) < r134 := ⟨(bnd_eql c135), (bnd_eqr c135)⟩
      exact J138 X133 N130 e133 _ (by simp only [if_pos c135])
     ·
      refine Home.go (fun _ => XS.ifNo X133.here hx rfl (hb hby d19_78) rfl ((if0 _ _).trans (feq c135).1)) ?_
      have bd137 : ¬ r134 < (1 : Int32) ∧ ¬ (1 : Int32) < r134 := ⟨(bnd_nel br134.1 c135 (by decide +kernel)), br134.2⟩
      refine Home.run X133 hx hby sg19_81_1 (pc' := 83) (L' := #[sr o0, sr o1, sr b1, sr b1_3, sr p9, .val v121, sr b1_88, sr p7]) (S' := [(.ref p7)]) rfl ?_
      refine Home.go (fun _ => XS.astore X133.here hx rfl (hb hby d19_83) rfl rfl (l' := #[.val (.ref o0), .val (.ref o1), .val (.ref b1), .val (.ref b1_3), .val (.ref p9), .val (.ref p7), .val (.ref b1_88), .val (.ref p7)]) (XS.store1 rfl (Or.inr ⟨_, rfl, (cat1_of isr_v121)⟩) rfl)) ?_
      exact J138 X133 N130 e133 _ (by simp only [if_neg c135])
    intro TJ138 lcJ138 XJ138 NJ138 eJ138 v139 hv139
    have isr_v139 : v139.isRef = true := by rw [hv139]; exact (own_itR (by assumption) rfl)
    show Home TJ138 (mkF m 85 #[sr o0, sr o1, sr b1, sr b1_3, sr p9, .val v139, sr b1_88, sr p7] [])
    refine Home.run XJ138 hx hby sg19_85_1 (pc' := 46) (L' := #[sr o0, sr o1, sr b1, sr b1_3, sr p9, .val v139, sr b1_88, sr p7]) (S' := []) rfl ?_
    refine Home.run XJ138 hx hby sg19_46_1 (pc' := 48) (L' := #[sr o0, sr o1, sr b1, sr b1_3, sr p9, .val v139, sr b1_88, sr p7]) (S' := [(.ref b1_88)]) rfl ?_
    refine Home.st (own_pure (own_face XJ138 hx hZ hown (own_w143 hw) (own_w144 hw) (mvT hZ (own_w145 hw)) (own_w146 hw) (own_w147 hw) (own_w148 hw) (own_w149 hw) (own_w150 hw) (own_w130 hw) (own_w151 hw) (by decide) (rm22_7 l Z a0 hw [] b1_88 o0 u1 T130.heap n0 O130 P130_3 P130_1 (F_size_o0.keep K130 nin0) bd124) eJ138 P130_0 rfl (by rw [hml]; rfl) (argsL := []) (rest := []) (lenOf own_pd11 rfl) rfl rfl (W := 0) (by exact hW0) (by decide) (by decide) (hb hby d19_48) (by decide) (by decide))) fun T140 X140 e140 => ?_
    refine Home.go (fun _ => XS.ifYes X140.here hx rfl (pc0 := 53) (pc' := 88) rfl (hb hby d19_53) rfl ((if0 _ _).trans (teq (by decide)).1) (by decide) (by decide)) ?_
    have k148 : Keep T88.heap T112.heap [b1_88] := K90q.trans K112q (allS (Or.inl (List.mem_of_getElem? (i := 0) rfl)) all0)
    have k147 : Keep T88.heap T130.heap [b1_88] := k148.trans K130q (allS (Or.inl (List.mem_of_getElem? (i := 0) rfl)) all0)
    exact J141 X140 NJ138 e140 k147 v139 (by subst hv139; subst hr134; subst hv121; subst hr116; subst hv105; subst hr100; simp only [if_neg c106, if_neg c122]) (.val (.ref p7)) (Or.inr ⟨_, rfl, rfl⟩)
 intro TJ141 lcJ141 hJ141 XJ141 NJ141 eJ141 KqJ141 v142 hv142 v143 hv143
 have le150 : h0.size ≤ T3.heap.size := Nat.le_trans le6 K3q.1
 have le151 : h0.size ≤ T5.heap.size := Nat.le_trans le150 K5q.1
 have le152 : h0.size ≤ T8.heap.size := Nat.le_trans le151 K8q.1
 have le153 : h0.size ≤ hJ57.size := Nat.le_trans le152 KqJ57.1
 have le154 : h0.size ≤ T77.heap.size := Nat.le_trans le153 K77q.1
 have le155 : h0.size ≤ T86.heap.size := Nat.le_trans le154 K86q.1
 have OJ141 := Old.keep O88 KqJ141 (allS g_b1_88 all0)
 have KJ141 : Keep h0 hJ141 ([] : List Addr) := Keep.trans K88 KqJ141 (allS (Or.inr (Nat.le_trans le155 sz_b1_88)) all0)
 have isr_v142 : v142.isRef = true := by rw [hv142]; exact (own_itR (own_itR rfl rfl) (own_itR (own_itR (own_itR rfl rfl) rfl) (own_itR (own_itR (own_itR rfl rfl) rfl) rfl)))
 show Home TJ141 (mkF m 88 #[sr o0, sr o1, sr b1, sr b1_3, sr p9, .val v142, sr b1_88, v143] [])
 refine Home.go (fun _ => XS.aload XJ141.here hx rfl (hb hby d19_88) rfl (isr_v142)) ?_
 have e156_0 := (E_p5.keep KJ141)
 have e156_1 := (E_p6.keep KJ141)
 have e156_2 := (E_p7.keep KJ141)
 have hT156 : v142 = ((if (1 : Int32) = u1 then (if (f_rm27_0 u4 u3) = (0 : Int32) then .null else (.ref p5)) else (if (2 : Int32) = u1 then (if (f_rm27_0 u5 u3) = (0 : Int32) then (if (f_rm27_0 u4 u3) = (0 : Int32) then .null else (.ref p5)) else (.ref p6)) else (if (f_rm27_0 u6 u3) = (0 : Int32) then (if (f_rm27_0 u5 u3) = (0 : Int32) then (if (f_rm27_0 u4 u3) = (0 : Int32) then .null else (.ref p5)) else (.ref p6)) else (.ref p7)))) : Value) := by subst hv142; rfl
 obtain ⟨a156, ha156⟩ : ∃ a, v142 = .ref a := (ref_cases isr_v142).resolve_left (fun q => nn156 (hT156.symm.trans q))
 have nq156 : ((if (1 : Int32) = u1 then (if (f_rm27_0 u4 u3) = (0 : Int32) then .null else (.ref p5)) else (if (2 : Int32) = u1 then (if (f_rm27_0 u5 u3) = (0 : Int32) then (if (f_rm27_0 u4 u3) = (0 : Int32) then .null else (.ref p5)) else (.ref p6)) else (if (f_rm27_0 u6 u3) = (0 : Int32) then (if (f_rm27_0 u5 u3) = (0 : Int32) then (if (f_rm27_0 u4 u3) = (0 : Int32) then .null else (.ref p5)) else (.ref p6)) else (.ref p7)))) : Value) = .ref a156 := hT156.symm.trans ha156
 have E156a : Exa Z hJ141 a156 "com/example/wary_meter/warymeter/Column" := own_itE nq156 (fun q => own_itE q (fun q => nomatch q) (fun q => own_leE q e156_0)) (fun q => own_itE q (fun q => own_itE q (fun q => own_itE q (fun q => nomatch q) (fun q => own_leE q e156_0)) (fun q => own_leE q e156_1)) (fun q => own_itE q (fun q => own_itE q (fun q => own_itE q (fun q => nomatch q) (fun q => own_leE q e156_0)) (fun q => own_leE q e156_1)) (fun q => own_leE q e156_2)))
 subst ha156
 show Home TJ141 (mkF m 90 #[sr o0, sr o1, sr b1, sr b1_3, sr p9, sr a156, sr b1_88, v143] [(.ref a156)])
 refine Home.go (fun _ => XS.ifnonnullYes XJ141.here hx rfl (pc0 := 90) (pc' := 108) rfl (hb hby d19_90) rfl (by decide) (by decide)) ?_
 show Home TJ141 (mkF m 108 #[sr o0, sr o1, sr b1, sr b1_3, sr p9, sr a156, sr b1_88, v143] [])
 refine Home.run XJ141 hx hby sg19_108_2 (pc' := 111) (L' := #[sr o0, sr o1, sr b1, sr b1_3, sr p9, sr a156, sr b1_88, v143]) (S' := [(.ref a156), (.ref b1)]) rfl ?_
 have q157 := (((P77_1.keep K86q).keep K88q).keep KqJ141)
 have le158 : h1.size ≤ T8.heap.size := Nat.le_trans le72 K8q.1
 have le159 : h1.size ≤ hJ57.size := Nat.le_trans le158 KqJ57.1
 have le160 : h1.size ≤ T77.heap.size := Nat.le_trans le159 K77q.1
 have le161 : h1.size ≤ T86.heap.size := Nat.le_trans le160 K86q.1
 have ne162 : b1 ≠ b1_88 := (Nat.ne_of_lt (Nat.lt_of_lt_of_le A1.lt (Nat.le_trans le161 sz_b1_88)))
 have q163 := (((P77_0.keep K86q (ninS ne70 nin0)).keep K88q nin0).keep KqJ141 (ninS ne162 nin0))
 have q164 := (((P77_2.keep K86q (ninS ne70 nin0)).keep K88q nin0).keep KqJ141 (ninS ne162 nin0))
 have q165 := (((P77_3.keep K86q (ninS ne70 nin0)).keep K88q nin0).keep KqJ141 (ninS ne162 nin0))
 have le166 : T3.heap.size ≤ T8.heap.size := Nat.le_trans K5q.1 K8q.1
 have le167 : T3.heap.size ≤ hJ57.size := Nat.le_trans le166 KqJ57.1
 have ne168 : b6_2_2_7_77 ≠ b1_3 := (Ne.symm (Nat.ne_of_lt (Nat.lt_of_lt_of_le P3_0.lt (Nat.le_trans le167 sz_b6_2_2_7_77))))
 have ne169 : b6_2_2_7_77 ≠ b1_88 := (Nat.ne_of_lt (Nat.lt_of_lt_of_le P77_4.lt (Nat.le_trans K86q.1 sz_b1_88)))
 have q170 := (((P77_4.keep K86q (ninS ne168 nin0)).keep K88q nin0).keep KqJ141 (ninS ne169 nin0))
 refine Home.call (own_face XJ141 hx hZ hown (own_w194 hw) (own_w74 hw) (mvT hZ (own_w75 hw)) (own_w76 hw) (own_w77 hw) (own_w78 hw) (own_w79 hw) (own_w80 hw) (own_w51 hw) (own_w81 hw) (by decide) (rm12_1 l Z a0 hw [] b1 a156 b6_2_2_7_77 k6_2_2_7_77 a68 hJ141 n0 OJ141 q163 q157 g_b1 q164 q165 q170 P77_5 E156a g_b6_2_2_7_77) eJ141 q157 rfl (by rw [hml]; rfl) (argsL := [(.ref a156)]) (rest := []) (lenOf own_pd17 rfl) rfl rfl (W := 0) (by exact hW0) (by decide) (by decide) (hb hby d19_111) (by decide) (by decide)) ?_
 rintro _ T171 L171 X171 ⟨rfl, N171q, K171q, P171_0, P171_1, P171_2, P171_3, P171_4⟩
 have le172 : h0.size ≤ T3.heap.size := Nat.le_trans le6 K3q.1
 have le173 : h0.size ≤ T5.heap.size := Nat.le_trans le172 K5q.1
 have le174 : h0.size ≤ T8.heap.size := Nat.le_trans le173 K8q.1
 have le175 : h0.size ≤ hJ57.size := Nat.le_trans le174 KqJ57.1
 have O171 := Old.keep OJ141 K171q (allS g_b1 (allS g_b6_2_2_7_77 all0))
 have K171 : Keep h0 T171.heap ([] : List Addr) := Keep.trans KJ141 K171q (allS (Or.inr (Nat.le_trans (Nat.le_refl _) (Nat.le_of_eq g1.symm))) (allS (Or.inr (Nat.le_trans le175 sz_b6_2_2_7_77)) all0))
 have N171 := Fr.app NJ141 N171q
 show Home T171 (mkF m 116 #[sr o0, sr o1, sr b1, sr b1_3, sr p9, sr a156, sr b1_88, v143] [(.int (1 : Int32))])
 refine Home.run X171 hx hby sg19_116_3 (pc' := 16) (L' := #[sr o0, sr o1, sr b1, sr b1_3, sr p9, sr a156, sr b1_88, v143]) (S' := [(.ref b1_3)]) rfl ?_
 have q176 := (((P86_0.keep K88q).keep KqJ141).keep K171q)
 have le177 : T3.heap.size ≤ T77.heap.size := Nat.le_trans le167 K77q.1
 have le178 : T3.heap.size ≤ T86.heap.size := Nat.le_trans le177 K86q.1
 have ne179 : b1_3 ≠ b1_88 := (Nat.ne_of_lt (Nat.lt_of_lt_of_le P3_0.lt (Nat.le_trans le178 sz_b1_88)))
 have ne180 : b1_3 ≠ b6_2_2_7_77 := (Ne.symm ne168)
 have q181 := (((P86_3.keep K88q nin0).keep KqJ141 (ninS ne179 nin0)).keep K171q (ninS ne80 (ninS ne180 nin0)))
 have q182 := (((P86_1.keep K88q nin0).keep KqJ141 (ninS ne179 nin0)).keep K171q (ninS ne80 (ninS ne180 nin0)))
 refine Home.st (own_pure (own_face X171 hx hZ hown (own_w143 hw) (own_w144 hw) (mvT hZ (own_w145 hw)) (own_w146 hw) (own_w147 hw) (own_w148 hw) (own_w149 hw) (own_w150 hw) (own_w130 hw) (own_w151 hw) (by decide) (rm22_5 l Z a0 hw [] b1_3 o1 (2 : Int32) T171.heap n0 O171 q181 q182 (F_size_o1.keep K171 nin0) (bnd_lit (2 : Int32))) rfl q176 rfl (by rw [hml]; rfl) (argsL := []) (rest := []) (lenOf own_pd11 rfl) rfl rfl (W := 0) (by exact hW0) (by decide) (by decide) (hb hby d19_16) (by decide) (by decide))) fun T183 X183 e183 => ?_
 refine Home.go (fun _ => XS.ifYes X183.here hx rfl (pc0 := 21) (pc' := 120) rfl (hb hby d19_21) rfl ((if0 _ _).trans (teq (by decide)).1) (by decide) (by decide)) ?_
 refine Home.run X183 hx hby sg19_120_1 (pc' := 121) (L' := #[sr o0, sr o1, sr b1, sr b1_3, sr p9, sr a156, sr b1_88, v143]) (S' := [(.ref b1)]) rfl ?_
 exact Home.retR X183 hx hlk hret rfl rfl (hb hby d19_121) (by rw [show T183.heap = T171.heap from e183]; exact ⟨b1, b6_2_2_7_77, a68, a156, k6_2_2_7_77, rfl, N171, (Nat.le_trans (Nat.le_refl _) (Nat.le_of_eq g1.symm)), (Nat.le_trans le175 sz_b6_2_2_7_77), K171, P171_1, P171_0, P171_2, P171_3, P171_4, P77_5, nq68, nq156⟩) (by decide) (by decide)
theorem rm23_2 (l : Launch) (Z : State) (a0 : Array Value) (hw : HW a0 Z) (ws : List Jvm.Cond) (o0 : Addr) (h0 : Heap) (n0 : Nat) (O0 : Old Z n0 h0) (F_size_o0 : Fld Z h0 o0 "java/util/ArrayList" "size" "I" (.int (2 : Int32))) :
    Con l Z (⟨"java/util/ArrayList", "size", "()I"⟩ : MethodName) jdk_38_method_8_code 1 (some .int) ws ({ frames := 0, cells := 0, slots := 0, locals := 0 } : Room) #[(.ref o0)] h0 (Pur (some (.int (2 : Int32))) h0) := by
 refine own_body (plainFor_of_name own_pn6) (fun m => ef_rm23_2 m o0) ?_
 intro p e s m below meth c s₁ hx hby hlk hml hret hZ hown hnm X0 e0
 have N0 := Fr.nil n0
 refine Home.run X0 hx hby sg23_0_1 (pc' := 1) (L' := #[sr o0]) (S' := [(.ref o0)]) rfl ?_
 refine Home.st (getF X0 hx hZ hown (host := "") (Or.inl (own_w84 hw)) Via.refl e0 F_size_o0 rfl rfl (hb hby d23_1)) fun T1 X1 e1 => ?_
 exact Home.retI X1 hx hlk hret (hb hby d23_4) ⟨rfl, rfl, e1⟩ (by decide) (by decide)
theorem rm31_3 (l : Launch) (Z : State) (a0 : Array Value) (hw : HW a0 Z) (ws : List Jvm.Cond)  (h0 : Heap) (n0 : Nat) (O0 : Old Z n0 h0) :
    Con l Z (⟨"jdk/internal/util/Preconditions", "checkIndex", "(IILjava/util/function/BiFunction;)I"⟩ : MethodName) jdk_41_method_11_code 3 (some .int) ws ({ frames := 0, cells := 0, slots := 0, locals := 0 } : Room) #[(.int (0 : Int32)), (.int (2 : Int32)), .null] h0 (Pur (some (.int (0 : Int32))) h0) := by
 refine own_body (plainFor_of_name own_pn9) (fun m => ef_rm31_3 m (0 : Int32) (2 : Int32)) ?_
 intro p e s m below meth c s₁ hx hby hlk hml hret hZ hown hnm X0 e0
 have N0 := Fr.nil n0
 refine Home.run X0 hx hby sg31_0_1 (pc' := 1) (L' := #[.val (.int (0 : Int32)), .val (.int (2 : Int32)), .val .null]) (S' := [(.int (0 : Int32))]) rfl ?_
 refine Home.go (fun _ => XS.ifNo X0.here hx rfl (hb hby d31_1) rfl ((if0 _ _).trans (flt (by decide)).1)) ?_
 refine Home.run X0 hx hby sg31_4_2 (pc' := 6) (L' := #[.val (.int (0 : Int32)), .val (.int (2 : Int32)), .val .null]) (S' := [(.int (2 : Int32)), (.int (0 : Int32))]) rfl ?_
 refine Home.go (fun _ => XS.icmpYes X0.here hx rfl (pc0 := 6) (pc' := 16) rfl (hb hby d31_6) rfl (tlt (by decide)).1 (by decide) (by decide)) ?_
 refine Home.run X0 hx hby sg31_16_1 (pc' := 17) (L' := #[.val (.int (0 : Int32)), .val (.int (2 : Int32)), .val .null]) (S' := [(.int (0 : Int32))]) rfl ?_
 exact Home.retI X0 hx hlk hret (hb hby d31_17) ⟨rfl, rfl, e0⟩ (by decide) (by decide)
theorem rm30_3 (l : Launch) (Z : State) (a0 : Array Value) (hw : HW a0 Z) (ws : List Jvm.Cond)  (h0 : Heap) (n0 : Nat) (O0 : Old Z n0 h0) :
    Con l Z (⟨"java/util/Objects", "checkIndex", "(II)I"⟩ : MethodName) jdk_31_method_17_code 2 (some .int) ws ({ frames := 1, cells := 0, slots := 0, locals := 14 } : Room) #[(.int (0 : Int32)), (.int (2 : Int32))] h0 (Pur (some (.int (0 : Int32))) h0) := by
 refine own_body (plainFor_of_name own_pn10) (fun m => ef_rm30_3 m (0 : Int32) (2 : Int32)) ?_
 intro p e s m below meth c s₁ hx hby hlk hml hret hZ hown hnm X0 e0
 have N0 := Fr.nil n0
 refine Home.run X0 hx hby sg30_0_3 (pc' := 3) (L' := #[.val (.int (0 : Int32)), .val (.int (2 : Int32))]) (S' := [.null, (.int (2 : Int32)), (.int (0 : Int32))]) rfl ?_
 refine Home.st (own_pure (own_static X0 hx hZ hown (own_w207 hw) (own_w208 hw) (own_w209 hw) (own_w210 hw) (by decide) (rm31_3 l Z a0 hw []  h0 n0 O0) e0 rfl (by rw [hml]; rfl) (argsL := [(.int (0 : Int32)), (.int (2 : Int32)), .null]) (rest := []) (lenOf own_pd21 rfl) rfl rfl (W := 0) (by exact hW0) (by decide) (by decide) (hb hby d30_3) (by decide) (by decide))) fun T1 X1 e1 => ?_
 exact Home.retI X1 hx hlk hret (hb hby d30_6) ⟨rfl, rfl, e1⟩ (by decide) (by decide)
theorem rm32_3 (l : Launch) (Z : State) (a0 : Array Value) (hw : HW a0 Z) (ws : List Jvm.Cond) (o0 p2 : Addr) (k_p2 : ClassId) (p3 p4 : Addr) (h0 : Heap) (n0 : Nat) (O0 : Old Z n0 h0) (F_elementData_o0 : Fld Z h0 o0 "java/util/ArrayList" "elementData" "[Ljava/lang/Object;" (.ref p2)) (V_p2 : Arv Z h0 p2 k_p2 (.object "java/lang/Object") (10 : Int32) [(.ref p3), (.ref p4), .null, .null, .null, .null, .null, .null, .null, .null] .null) :
    Con l Z (⟨"java/util/ArrayList", "elementData", "(I)Ljava/lang/Object;"⟩ : MethodName) jdk_38_method_18_code 2 (some (.object "java/lang/Object")) ws ({ frames := 0, cells := 0, slots := 0, locals := 0 } : Room) #[(.ref o0), (.int (0 : Int32))] h0 (Pur (some (.ref p3)) h0) := by
 refine own_body (plainFor_of_name own_pn6) (fun m => ef_rm32_3 m o0 (0 : Int32)) ?_
 intro p e s m below meth c s₁ hx hby hlk hml hret hZ hown hnm X0 e0
 have N0 := Fr.nil n0
 refine Home.run X0 hx hby sg32_0_1 (pc' := 1) (L' := #[sr o0, .val (.int (0 : Int32))]) (S' := [(.ref o0)]) rfl ?_
 refine Home.st (getF X0 hx hZ hown (host := "") (Or.inl (own_w71 hw)) Via.refl e0 F_elementData_o0 rfl rfl (hb hby d32_1)) fun T1 X1 e1 => ?_
 refine Home.run X1 hx hby sg32_4_1 (pc' := 5) (L' := #[sr o0, .val (.int (0 : Int32))]) (S' := [(.int (0 : Int32)), (.ref p2)]) rfl ?_
 obtain ⟨cl2, Ar2, q2, S2, M2, H2, G2⟩ := id V_p2
 have ib2 : ¬ ((0 : Int32) < 0 ∨ cl2.slots.size ≤ ((0 : Int32)).toNatClampNeg) := inb_of S2 ⟨by decide, by decide⟩
 refine Home.go (X1.aaload hx (j := (0 : Int32)) (v := (.ref p3)) (by rw [e1]; exact Ar2.1) (State.isArrayOf_alike hZ.alike Ar2.2.1) rfl Ar2.2.2 ib2 (Has.at H2 ib2 rfl) rfl rfl (hb hby d32_5)) ?_
 exact Home.retR X1 hx hlk hret rfl rfl (hb hby d32_6) ⟨rfl, rfl, e1⟩ (by decide) (by decide)
theorem rm29_3 (l : Launch) (Z : State) (a0 : Array Value) (hw : HW a0 Z) (ws : List Jvm.Cond) (o0 p2 : Addr) (k_p2 : ClassId) (p3 p4 : Addr) (h0 : Heap) (n0 : Nat) (O0 : Old Z n0 h0) (F_size_o0 : Fld Z h0 o0 "java/util/ArrayList" "size" "I" (.int (2 : Int32))) (E_o0 : Exa Z h0 o0 "java/util/ArrayList") (F_elementData_o0 : Fld Z h0 o0 "java/util/ArrayList" "elementData" "[Ljava/lang/Object;" (.ref p2)) (V_p2 : Arv Z h0 p2 k_p2 (.object "java/lang/Object") (10 : Int32) [(.ref p3), (.ref p4), .null, .null, .null, .null, .null, .null, .null, .null] .null) :
    Con l Z (⟨"java/util/ArrayList", "get", "(I)Ljava/lang/Object;"⟩ : MethodName) jdk_38_method_20_code 2 (some (.object "java/lang/Object")) ws ({ frames := 2, cells := 0, slots := 0, locals := 27 } : Room) #[(.ref o0), (.int (0 : Int32))] h0 (Pur (some (.ref p3)) h0) := by
 refine own_body (plainFor_of_name own_pn6) (fun m => ef_rm29_3 m o0 (0 : Int32)) ?_
 intro p e s m below meth c s₁ hx hby hlk hml hret hZ hown hnm X0 e0
 have N0 := Fr.nil n0
 refine Home.run X0 hx hby sg29_0_2 (pc' := 2) (L' := #[sr o0, .val (.int (0 : Int32))]) (S' := [(.ref o0), (.int (0 : Int32))]) rfl ?_
 refine Home.st (getF X0 hx hZ hown (host := "") (Or.inl (own_w84 hw)) Via.refl e0 F_size_o0 rfl rfl (hb hby d29_2)) fun T1 X1 e1 => ?_
 refine Home.st (own_pure (own_static X1 hx hZ hown (own_w203 hw) (own_w204 hw) (own_w205 hw) (own_w206 hw) (by decide) (rm30_3 l Z a0 hw []  h0 n0 O0) e1 rfl (by rw [hml]; rfl) (argsL := [(.int (0 : Int32)), (.int (2 : Int32))]) (rest := []) (lenOf own_pd7 rfl) rfl rfl (W := 0) (by exact hW0) (by decide) (by decide) (hb hby d29_5) (by decide) (by decide))) fun T2 X2 e2 => ?_
 refine Home.run X2 hx hby sg29_8_3 (pc' := 11) (L' := #[sr o0, .val (.int (0 : Int32))]) (S' := [(.int (0 : Int32)), (.ref o0)]) rfl ?_
 refine Home.st (own_pure (own_virtual X2 hx hZ hown (own_w211 hw) (own_w212 hw) (notFace_of_selects (args := #[]) (mvT hZ (own_w214 hw))) (own_w214 hw) (own_w213 hw) (own_w51 hw) (own_w215 hw) (by decide) (rm32_3 l Z a0 hw [] o0 p2 k_p2 p3 p4 h0 n0 O0 F_elementData_o0 V_p2) e2 E_o0 rfl (by rw [hml]; rfl) (argsL := [(.int (0 : Int32))]) (rest := []) (lenOf own_pd22 rfl) rfl rfl (W := 0) (by exact hW0) (by decide) (by decide) (hb hby d29_11) (by decide) (by decide))) fun T3 X3 e3 => ?_
 exact Home.retR X3 hx hlk hret rfl rfl (hb hby d29_14) ⟨rfl, rfl, e3⟩ (by decide) (by decide)
theorem rm31_4 (l : Launch) (Z : State) (a0 : Array Value) (hw : HW a0 Z) (ws : List Jvm.Cond)  (h0 : Heap) (n0 : Nat) (O0 : Old Z n0 h0) :
    Con l Z (⟨"jdk/internal/util/Preconditions", "checkIndex", "(IILjava/util/function/BiFunction;)I"⟩ : MethodName) jdk_41_method_11_code 3 (some .int) ws ({ frames := 0, cells := 0, slots := 0, locals := 0 } : Room) #[(.int (1 : Int32)), (.int (2 : Int32)), .null] h0 (Pur (some (.int (1 : Int32))) h0) := by
 refine own_body (plainFor_of_name own_pn9) (fun m => ef_rm31_4 m (1 : Int32) (2 : Int32)) ?_
 intro p e s m below meth c s₁ hx hby hlk hml hret hZ hown hnm X0 e0
 have N0 := Fr.nil n0
 refine Home.run X0 hx hby sg31_0_1 (pc' := 1) (L' := #[.val (.int (1 : Int32)), .val (.int (2 : Int32)), .val .null]) (S' := [(.int (1 : Int32))]) rfl ?_
 refine Home.go (fun _ => XS.ifNo X0.here hx rfl (hb hby d31_1) rfl ((if0 _ _).trans (flt (by decide)).1)) ?_
 refine Home.run X0 hx hby sg31_4_2 (pc' := 6) (L' := #[.val (.int (1 : Int32)), .val (.int (2 : Int32)), .val .null]) (S' := [(.int (2 : Int32)), (.int (1 : Int32))]) rfl ?_
 refine Home.go (fun _ => XS.icmpYes X0.here hx rfl (pc0 := 6) (pc' := 16) rfl (hb hby d31_6) rfl (tlt (by decide)).1 (by decide) (by decide)) ?_
 refine Home.run X0 hx hby sg31_16_1 (pc' := 17) (L' := #[.val (.int (1 : Int32)), .val (.int (2 : Int32)), .val .null]) (S' := [(.int (1 : Int32))]) rfl ?_
 exact Home.retI X0 hx hlk hret (hb hby d31_17) ⟨rfl, rfl, e0⟩ (by decide) (by decide)
theorem rm30_4 (l : Launch) (Z : State) (a0 : Array Value) (hw : HW a0 Z) (ws : List Jvm.Cond)  (h0 : Heap) (n0 : Nat) (O0 : Old Z n0 h0) :
    Con l Z (⟨"java/util/Objects", "checkIndex", "(II)I"⟩ : MethodName) jdk_31_method_17_code 2 (some .int) ws ({ frames := 1, cells := 0, slots := 0, locals := 14 } : Room) #[(.int (1 : Int32)), (.int (2 : Int32))] h0 (Pur (some (.int (1 : Int32))) h0) := by
 refine own_body (plainFor_of_name own_pn10) (fun m => ef_rm30_4 m (1 : Int32) (2 : Int32)) ?_
 intro p e s m below meth c s₁ hx hby hlk hml hret hZ hown hnm X0 e0
 have N0 := Fr.nil n0
 refine Home.run X0 hx hby sg30_0_3 (pc' := 3) (L' := #[.val (.int (1 : Int32)), .val (.int (2 : Int32))]) (S' := [.null, (.int (2 : Int32)), (.int (1 : Int32))]) rfl ?_
 refine Home.st (own_pure (own_static X0 hx hZ hown (own_w207 hw) (own_w208 hw) (own_w209 hw) (own_w210 hw) (by decide) (rm31_4 l Z a0 hw []  h0 n0 O0) e0 rfl (by rw [hml]; rfl) (argsL := [(.int (1 : Int32)), (.int (2 : Int32)), .null]) (rest := []) (lenOf own_pd21 rfl) rfl rfl (W := 0) (by exact hW0) (by decide) (by decide) (hb hby d30_3) (by decide) (by decide))) fun T1 X1 e1 => ?_
 exact Home.retI X1 hx hlk hret (hb hby d30_6) ⟨rfl, rfl, e1⟩ (by decide) (by decide)
theorem rm32_4 (l : Launch) (Z : State) (a0 : Array Value) (hw : HW a0 Z) (ws : List Jvm.Cond) (o0 p2 : Addr) (k_p2 : ClassId) (p3 p4 : Addr) (h0 : Heap) (n0 : Nat) (O0 : Old Z n0 h0) (F_elementData_o0 : Fld Z h0 o0 "java/util/ArrayList" "elementData" "[Ljava/lang/Object;" (.ref p2)) (V_p2 : Arv Z h0 p2 k_p2 (.object "java/lang/Object") (10 : Int32) [(.ref p3), (.ref p4), .null, .null, .null, .null, .null, .null, .null, .null] .null) :
    Con l Z (⟨"java/util/ArrayList", "elementData", "(I)Ljava/lang/Object;"⟩ : MethodName) jdk_38_method_18_code 2 (some (.object "java/lang/Object")) ws ({ frames := 0, cells := 0, slots := 0, locals := 0 } : Room) #[(.ref o0), (.int (1 : Int32))] h0 (Pur (some (.ref p4)) h0) := by
 refine own_body (plainFor_of_name own_pn6) (fun m => ef_rm32_4 m o0 (1 : Int32)) ?_
 intro p e s m below meth c s₁ hx hby hlk hml hret hZ hown hnm X0 e0
 have N0 := Fr.nil n0
 refine Home.run X0 hx hby sg32_0_1 (pc' := 1) (L' := #[sr o0, .val (.int (1 : Int32))]) (S' := [(.ref o0)]) rfl ?_
 refine Home.st (getF X0 hx hZ hown (host := "") (Or.inl (own_w71 hw)) Via.refl e0 F_elementData_o0 rfl rfl (hb hby d32_1)) fun T1 X1 e1 => ?_
 refine Home.run X1 hx hby sg32_4_1 (pc' := 5) (L' := #[sr o0, .val (.int (1 : Int32))]) (S' := [(.int (1 : Int32)), (.ref p2)]) rfl ?_
 obtain ⟨cl2, Ar2, q2, S2, M2, H2, G2⟩ := id V_p2
 have ib2 : ¬ ((1 : Int32) < 0 ∨ cl2.slots.size ≤ ((1 : Int32)).toNatClampNeg) := inb_of S2 ⟨by decide, by decide⟩
 refine Home.go (X1.aaload hx (j := (1 : Int32)) (v := (.ref p4)) (by rw [e1]; exact Ar2.1) (State.isArrayOf_alike hZ.alike Ar2.2.1) rfl Ar2.2.2 ib2 (Has.at H2 ib2 rfl) rfl rfl (hb hby d32_5)) ?_
 exact Home.retR X1 hx hlk hret rfl rfl (hb hby d32_6) ⟨rfl, rfl, e1⟩ (by decide) (by decide)
theorem rm29_4 (l : Launch) (Z : State) (a0 : Array Value) (hw : HW a0 Z) (ws : List Jvm.Cond) (o0 p2 : Addr) (k_p2 : ClassId) (p3 p4 : Addr) (h0 : Heap) (n0 : Nat) (O0 : Old Z n0 h0) (F_size_o0 : Fld Z h0 o0 "java/util/ArrayList" "size" "I" (.int (2 : Int32))) (E_o0 : Exa Z h0 o0 "java/util/ArrayList") (F_elementData_o0 : Fld Z h0 o0 "java/util/ArrayList" "elementData" "[Ljava/lang/Object;" (.ref p2)) (V_p2 : Arv Z h0 p2 k_p2 (.object "java/lang/Object") (10 : Int32) [(.ref p3), (.ref p4), .null, .null, .null, .null, .null, .null, .null, .null] .null) :
    Con l Z (⟨"java/util/ArrayList", "get", "(I)Ljava/lang/Object;"⟩ : MethodName) jdk_38_method_20_code 2 (some (.object "java/lang/Object")) ws ({ frames := 2, cells := 0, slots := 0, locals := 27 } : Room) #[(.ref o0), (.int (1 : Int32))] h0 (Pur (some (.ref p4)) h0) := by
 refine own_body (plainFor_of_name own_pn6) (fun m => ef_rm29_4 m o0 (1 : Int32)) ?_
 intro p e s m below meth c s₁ hx hby hlk hml hret hZ hown hnm X0 e0
 have N0 := Fr.nil n0
 refine Home.run X0 hx hby sg29_0_2 (pc' := 2) (L' := #[sr o0, .val (.int (1 : Int32))]) (S' := [(.ref o0), (.int (1 : Int32))]) rfl ?_
 refine Home.st (getF X0 hx hZ hown (host := "") (Or.inl (own_w84 hw)) Via.refl e0 F_size_o0 rfl rfl (hb hby d29_2)) fun T1 X1 e1 => ?_
 refine Home.st (own_pure (own_static X1 hx hZ hown (own_w203 hw) (own_w204 hw) (own_w205 hw) (own_w206 hw) (by decide) (rm30_4 l Z a0 hw []  h0 n0 O0) e1 rfl (by rw [hml]; rfl) (argsL := [(.int (1 : Int32)), (.int (2 : Int32))]) (rest := []) (lenOf own_pd7 rfl) rfl rfl (W := 0) (by exact hW0) (by decide) (by decide) (hb hby d29_5) (by decide) (by decide))) fun T2 X2 e2 => ?_
 refine Home.run X2 hx hby sg29_8_3 (pc' := 11) (L' := #[sr o0, .val (.int (1 : Int32))]) (S' := [(.int (1 : Int32)), (.ref o0)]) rfl ?_
 refine Home.st (own_pure (own_virtual X2 hx hZ hown (own_w211 hw) (own_w212 hw) (notFace_of_selects (args := #[]) (mvT hZ (own_w214 hw))) (own_w214 hw) (own_w213 hw) (own_w51 hw) (own_w215 hw) (by decide) (rm32_4 l Z a0 hw [] o0 p2 k_p2 p3 p4 h0 n0 O0 F_elementData_o0 V_p2) e2 E_o0 rfl (by rw [hml]; rfl) (argsL := [(.int (1 : Int32))]) (rest := []) (lenOf own_pd22 rfl) rfl rfl (W := 0) (by exact hW0) (by decide) (by decide) (hb hby d29_11) (by decide) (by decide))) fun T3 X3 e3 => ?_
 exact Home.retR X3 hx hlk hret rfl rfl (hb hby d29_14) ⟨rfl, rfl, e3⟩ (by decide) (by decide)
theorem rm24_7 (l : Launch) (Z : State) (a0 : Array Value) (hw : HW a0 Z) (ws : List Jvm.Cond) (o0 p2 p3 : Addr) (k_p3 : ClassId) (p4 : Addr) (h0 : Heap) (n0 : Nat) (O0 : Old Z n0 h0) (E_o0 : Exa Z h0 o0 "java/util/ArrayList$Itr") (F_this_0_o0 : Fld Z h0 o0 "java/util/ArrayList$Itr" "this$0" "Ljava/util/ArrayList;" (.ref p2)) (F_modCount_p2 : Fld Z h0 p2 "java/util/AbstractList" "modCount" "I" (.int (1 : Int32))) (F_expectedModCount_o0 : Fld Z h0 o0 "java/util/ArrayList$Itr" "expectedModCount" "I" (.int (1 : Int32))) (F_cursor_o0 : Fld Z h0 o0 "java/util/ArrayList$Itr" "cursor" "I" (.int (0 : Int32))) (F_size_p2 : Fld Z h0 p2 "java/util/ArrayList" "size" "I" (.int (1 : Int32))) (F_elementData_p2 : Fld Z h0 p2 "java/util/ArrayList" "elementData" "[Ljava/lang/Object;" (.ref p3)) (V_p3 : Arv Z h0 p3 k_p3 (.object "java/lang/Object") (10 : Int32) [(.ref p4), .null, .null, .null, .null, .null, .null, .null, .null, .null] .null) (g_o0 : n0 ≤ o0) (F_lastRet_o0 : Fld Z h0 o0 "java/util/ArrayList$Itr" "lastRet" "I" (.int (-1 : Int32))) :
    Con l Z (⟨"java/util/ArrayList$Itr", "next", "()Ljava/lang/Object;"⟩ : MethodName) jdk_49_method_3_code 3 (some (.object "java/lang/Object")) ws ({ frames := 1, cells := 0, slots := 0, locals := 12 } : Room) #[(.ref o0)] h0 (fun v h L => v = some (.ref p4) ∧ Fr n0 L ∧ Keep h0 h [o0] ∧ Exa Z h o0 "java/util/ArrayList$Itr" ∧ Fld Z h o0 "java/util/ArrayList$Itr" "this$0" "Ljava/util/ArrayList;" (.ref p2) ∧ Fld Z h o0 "java/util/ArrayList$Itr" "expectedModCount" "I" (.int (1 : Int32)) ∧ Fld Z h o0 "java/util/ArrayList$Itr" "cursor" "I" (.int (1 : Int32)) ∧ Fld Z h o0 "java/util/ArrayList$Itr" "lastRet" "I" (.int (0 : Int32))) := by
 refine own_body (plainFor_of_name own_pn8) (fun m => ef_rm24_7 m o0) ?_
 intro p e s m below meth c s₁ hx hby hlk hml hret hZ hown hnm X0 e0
 have N0 := Fr.nil n0
 refine Home.run X0 hx hby sg24_0_1 (pc' := 1) (L' := #[sr o0, .unset, .unset]) (S' := [(.ref o0)]) rfl ?_
 refine Home.st (own_pure (own_virtual X0 hx hZ hown (own_w172 hw) (own_w173 hw) (notFace_of_selects (args := #[]) (mvT hZ (own_w175 hw))) (own_w175 hw) (own_w174 hw) (own_w130 hw) (own_w176 hw) (by decide) (rm25_1 l Z a0 hw [] o0 p2 (1 : Int32) h0 n0 O0 F_this_0_o0 F_modCount_p2 F_expectedModCount_o0) e0 E_o0 rfl (by rw [hml]; rfl) (argsL := []) (rest := []) (lenOf own_pd4 rfl) rfl rfl (W := 0) (by exact hW0) (by decide) (by decide) (hb hby d24_1) (by decide) (by decide))) fun T1 X1 e1 => ?_
 refine Home.run X1 hx hby sg24_4_1 (pc' := 5) (L' := #[sr o0, .unset, .unset]) (S' := [(.ref o0)]) rfl ?_
 refine Home.st (getF X1 hx hZ hown (host := "") (Or.inl (own_w152 hw)) Via.refl e1 F_cursor_o0 rfl rfl (hb hby d24_5)) fun T2 X2 e2 => ?_
 refine Home.run X2 hx hby sg24_8_3 (pc' := 11) (L' := #[sr o0, .val (.int (0 : Int32)), .unset]) (S' := [(.ref o0), (.int (0 : Int32))]) rfl ?_
 refine Home.st (getF X2 hx hZ hown (host := "") (Or.inl (own_w135 hw)) Via.refl e2 F_this_0_o0 rfl rfl (hb hby d24_11)) fun T3 X3 e3 => ?_
 refine Home.st (getF X3 hx hZ hown (Or.inr (own_w154 hw)) Via.refl e3 F_size_p2 rfl rfl (hb hby d24_14)) fun T4 X4 e4 => ?_
 refine Home.go (fun _ => XS.icmpYes X4.here hx rfl (pc0 := 17) (pc' := 28) rfl (hb hby d24_17) rfl (tlt (by decide)).1 (by decide) (by decide)) ?_
 refine Home.run X4 hx hby sg24_28_1 (pc' := 29) (L' := #[sr o0, .val (.int (0 : Int32)), .unset]) (S' := [(.ref o0)]) rfl ?_
 refine Home.st (getF X4 hx hZ hown (host := "") (Or.inl (own_w135 hw)) Via.refl e4 F_this_0_o0 rfl rfl (hb hby d24_29)) fun T5 X5 e5 => ?_
 refine Home.st (getF X5 hx hZ hown (host := "") (Or.inl (own_w177 hw)) Via.refl e5 F_elementData_p2 rfl rfl (hb hby d24_32)) fun T6 X6 e6 => ?_
 refine Home.run X6 hx hby sg24_35_3 (pc' := 38) (L' := #[sr o0, .val (.int (0 : Int32)), sr p3]) (S' := [(.ref p3), (.int (0 : Int32))]) rfl ?_
 obtain ⟨cl7, Ar7, q7, S7, M7, H7, G7⟩ := id V_p3
 refine Home.go (own_alen X6 hx hZ e6 Ar7 S7 M7 rfl rfl (hb hby d24_38)) ?_
 show Home T6 (mkF m 39 #[sr o0, .val (.int (0 : Int32)), sr p3] [(.int (10 : Int32)), (.int (0 : Int32))])
 refine Home.go (fun _ => XS.icmpYes X6.here hx rfl (pc0 := 39) (pc' := 50) rfl (hb hby d24_39) rfl (tlt (by decide)).1 (by decide) (by decide)) ?_
 refine Home.run X6 hx hby sg24_50_4 (pc' := 54) (L' := #[sr o0, .val (.int (0 : Int32)), sr p3]) (S' := [(.int (1 : Int32)), (.ref o0)]) rfl ?_
 refine Home.wr (putF X6 hx hZ hown (host := "") (Or.inl (own_w152 hw)) Via.refl e6 F_cursor_o0 E_o0 (Or.inl (own_w153 hw)) (own_w129 hw) (ty := .int) (by decide) rfl rfl rfl rfl (hb hby d24_54)) fun T8 h8 X8 e8 W8 => ?_
 have Fw8 := F_cursor_o0.same W8
 have O8 := O0.wr W8 g_o0
 have K8 : Keep h0 h8 ([o0] : List Addr) := Keep.wr (Keep.refl h0 ([o0] : List Addr)) W8 (Or.inl (List.mem_of_getElem? (i := 0) rfl))
 have N8 := Fr.snoc X8 N0 g_o0
 refine Home.run X8 hx hby sg24_57_4 (pc' := 61) (L' := #[sr o0, .val (.int (0 : Int32)), sr p3]) (S' := [(.int (0 : Int32)), (.ref o0), (.int (0 : Int32)), (.ref p3)]) rfl ?_
 have q9 := (F_lastRet_o0.other W8 (Or.inr (slot_ne (Or.inl (own_w139 hw)) (Or.inl (own_w153 hw)) (by decide) (t := .int) (t' := .int) (by decide) (by decide))))
 refine Home.wr (putF X8 hx hZ hown (host := "") (Or.inl (own_w138 hw)) Via.refl e8 q9 (E_o0.keep K8) (Or.inl (own_w139 hw)) (own_w129 hw) (ty := .int) (by decide) rfl rfl rfl rfl (hb hby d24_61)) fun T10 h10 X10 e10 W10 => ?_
 have Fw10 := q9.same W10
 have O10 := O8.wr W10 g_o0
 have K10 : Keep h0 h10 ([o0] : List Addr) := Keep.wr K8 W10 (Or.inl (List.mem_of_getElem? (i := 0) rfl))
 have N10 := Fr.snoc X10 N8 g_o0
 show Home T10 (mkF m 64 #[sr o0, .val (.int (0 : Int32)), sr p3] [(.int (0 : Int32)), (.ref p3)])
 have ne11 : p3 ≠ o0 := (Ne.symm (own_neAV E_o0 (own_w129 hw) V_p3))
 have q12 := (V_p3.keep K10 (ninS ne11 nin0))
 obtain ⟨cl13, Ar13, q13, S13, M13, H13, G13⟩ := id q12
 have ib13 : ¬ ((0 : Int32) < 0 ∨ cl13.slots.size ≤ ((0 : Int32)).toNatClampNeg) := inb_of S13 ⟨by decide, by decide⟩
 refine Home.go (X10.aaload hx (j := (0 : Int32)) (v := (.ref p4)) (by rw [e10]; exact Ar13.1) (State.isArrayOf_alike hZ.alike Ar13.2.1) rfl Ar13.2.2 ib13 (Has.at H13 ib13 rfl) rfl rfl (hb hby d24_64)) ?_
 have q14 := ((F_this_0_o0.other W8 (Or.inr (slot_ne (Or.inr (own_w136 hw)) (Or.inl (own_w153 hw)) (by decide) (t := (.object "java/util/ArrayList")) (t' := .int) (by decide) (by decide)))).other W10 (Or.inr (slot_ne (Or.inr (own_w136 hw)) (Or.inl (own_w139 hw)) (by decide) (t := (.object "java/util/ArrayList")) (t' := .int) (by decide) (by decide))))
 have q15 := ((F_expectedModCount_o0.other W8 (Or.inr (slot_ne (Or.inl (own_w142 hw)) (Or.inl (own_w153 hw)) (by decide) (t := .int) (t' := .int) (by decide) (by decide)))).other W10 (Or.inr (slot_ne (Or.inl (own_w142 hw)) (Or.inl (own_w139 hw)) (by decide) (t := .int) (t' := .int) (by decide) (by decide))))
 have q16 := (Fw8.other W10 (Or.inr (slot_ne (Or.inl (own_w153 hw)) (Or.inl (own_w139 hw)) (by decide) (t := .int) (t' := .int) (by decide) (by decide))))
 exact Home.retR X10 hx hlk hret rfl rfl (hb hby d24_65) (by rw [show T10.heap = h10 from e10]; exact ⟨rfl, N10, K10, (E_o0.keep K10), q14, q15, q16, Fw10⟩) (by decide) (by decide)
theorem rm19_3 (l : Launch) (Z : State) (a0 : Array Value) (hw : HW a0 Z) (ws : List Jvm.Cond) (o0 o1 sv_DEFAULTCAPACITY_EMPTY_ELEMENTDATA p4 : Addr) (k_p4 : ClassId) (p8 : Addr) (u1 : Int32) (p3 : Addr) (k_p3 : ClassId) (p5 p6 p7 p9 : Addr) (sv_COMPACT_STRINGS : Int32) (p13 p12 : Addr) (k_p13 : ClassId) (u3 : Int32) (k_p12 : ClassId) (u2 : Int32) (p10 p14 : Addr) (k_p14 : ClassId) (u4 : Int32) (p11 p15 : Addr) (k_p15 : ClassId) (u5 : Int32) (kde : ClassId) (h0 : Heap) (n0 : Nat) (O0 : Old Z n0 h0) (S_DEFAULTCAPACITY_EMPTY_ELEMENTDATA : Sta Z Z.heap "java/util/ArrayList" "DEFAULTCAPACITY_EMPTY_ELEMENTDATA" "[Ljava/lang/Object;" (.ref sv_DEFAULTCAPACITY_EMPTY_ELEMENTDATA)) (E_o1 : Exa Z h0 o1 "java/util/ArrayList") (F_modCount_o1 : Fld Z h0 o1 "java/util/AbstractList" "modCount" "I" (.int (1 : Int32))) (F_size_o1 : Fld Z h0 o1 "java/util/ArrayList" "size" "I" (.int (1 : Int32))) (F_elementData_o1 : Fld Z h0 o1 "java/util/ArrayList" "elementData" "[Ljava/lang/Object;" (.ref p4)) (V_p4 : Arv Z h0 p4 k_p4 (.object "java/lang/Object") (10 : Int32) [(.ref p8), .null, .null, .null, .null, .null, .null, .null, .null, .null] .null) (E_p8 : Exa Z h0 p8 "java/lang/String") (E_o0 : Exa Z h0 o0 "java/util/ArrayList") (F_modCount_o0 : Fld Z h0 o0 "java/util/AbstractList" "modCount" "I" (.int u1)) (F_size_o0 : Fld Z h0 o0 "java/util/ArrayList" "size" "I" (.int u1)) (bnd_u1 : ¬ u1 < (1 : Int32) ∧ ¬ (3 : Int32) < u1) (F_elementData_o0 : Fld Z h0 o0 "java/util/ArrayList" "elementData" "[Ljava/lang/Object;" (.ref p3)) (V_p3 : Arv Z h0 p3 k_p3 (.object "java/lang/Object") (10 : Int32) [(.ref p5), (own_el1 u1 p6), (own_el2 u1 p7), .null, .null, .null, .null, .null, .null, .null] .null) (E_p5 : Exa Z h0 p5 "com/example/wary_meter/warymeter/Column") (F_name_p5 : Fld Z h0 p5 "com/example/wary_meter/warymeter/Column" "name" "Ljava/lang/String;" (.ref p9)) (E_p9 : Exa Z h0 p9 "java/lang/String") (S_COMPACT_STRINGS : Sta Z Z.heap "java/lang/String" "COMPACT_STRINGS" "Z" (.int sv_COMPACT_STRINGS)) (F_coder_p9 : Fld Z h0 p9 "java/lang/String" "coder" "B" (.int (0 : Int32))) (F_coder_p8 : Fld Z h0 p8 "java/lang/String" "coder" "B" (.int (0 : Int32))) (F_value_p9 : Fld Z h0 p9 "java/lang/String" "value" "[B" (.ref p13)) (F_value_p8 : Fld Z h0 p8 "java/lang/String" "value" "[B" (.ref p12)) (V_p13 : Arv Z h0 p13 k_p13 .byte (1 : Int32) [(.int u3)] (.int (0 : Int32))) (V_p12 : Arv Z h0 p12 k_p12 .byte (1 : Int32) [(.int u2)] (.int (0 : Int32))) (ne_p9_p8 : p9 ≠ p8) (hCS : ¬ (sv_COMPACT_STRINGS = (0 : Int32))) (E_p6 : Exa Z h0 p6 "com/example/wary_meter/warymeter/Column") (F_name_p6 : Fld Z h0 p6 "com/example/wary_meter/warymeter/Column" "name" "Ljava/lang/String;" (.ref p10)) (E_p10 : Exa Z h0 p10 "java/lang/String") (F_coder_p10 : Fld Z h0 p10 "java/lang/String" "coder" "B" (.int (0 : Int32))) (F_value_p10 : Fld Z h0 p10 "java/lang/String" "value" "[B" (.ref p14)) (V_p14 : Arv Z h0 p14 k_p14 .byte (1 : Int32) [(.int u4)] (.int (0 : Int32))) (ne_p10_p8 : p10 ≠ p8) (E_p7 : Exa Z h0 p7 "com/example/wary_meter/warymeter/Column") (F_name_p7 : Fld Z h0 p7 "com/example/wary_meter/warymeter/Column" "name" "Ljava/lang/String;" (.ref p11)) (E_p11 : Exa Z h0 p11 "java/lang/String") (F_coder_p11 : Fld Z h0 p11 "java/lang/String" "coder" "B" (.int (0 : Int32))) (F_value_p11 : Fld Z h0 p11 "java/lang/String" "value" "[B" (.ref p15)) (V_p15 : Arv Z h0 p15 k_p15 .byte (1 : Int32) [(.int u5)] (.int (0 : Int32))) (ne_p11_p8 : p11 ≠ p8) (nn68 : ¬ (((if (1 : Int32) = u1 then (if (f_rm27_0 u3 u2) = (0 : Int32) then .null else (.ref p5)) else (if (2 : Int32) = u1 then (if (f_rm27_0 u4 u2) = (0 : Int32) then (if (f_rm27_0 u3 u2) = (0 : Int32) then .null else (.ref p5)) else (.ref p6)) else (if (f_rm27_0 u5 u2) = (0 : Int32) then (if (f_rm27_0 u4 u2) = (0 : Int32) then (if (f_rm27_0 u3 u2) = (0 : Int32) then .null else (.ref p5)) else (.ref p6)) else (.ref p7)))) : Value) = .null)) (V_de : Arv Z Z.heap sv_DEFAULTCAPACITY_EMPTY_ELEMENTDATA kde (.object "java/lang/Object") (0 : Int32) [] .null) :
    Con l Z (⟨"com/example/wary_meter/warymeter/Column", "pick", "(Ljava/util/List;Ljava/util/List;)Ljava/util/List;"⟩ : MethodName) prog_3_method_5_code 8 (some (.object "java/util/List")) ws ({ frames := 5, cells := 4, slots := 21, locals := 69 } : Room) #[(.ref o0), (.ref o1)] h0 (fun v h L => ∃ (b1 : Addr), ∃ (b6_2_2_7_77 : Addr), ∃ (a68 : Jvm.Addr), ∃ (k6_2_2_7_77 : ClassId), v = some (.ref b1) ∧ Fr n0 L ∧ h0.size ≤ b1 ∧ h0.size ≤ b6_2_2_7_77 ∧ Keep h0 h [] ∧ Exa Z h b1 "java/util/ArrayList" ∧ Fld Z h b1 "java/util/AbstractList" "modCount" "I" (.int (1 : Int32)) ∧ Fld Z h b1 "java/util/ArrayList" "elementData" "[Ljava/lang/Object;" (.ref b6_2_2_7_77) ∧ Fld Z h b1 "java/util/ArrayList" "size" "I" (.int (1 : Int32)) ∧ Arv Z h b6_2_2_7_77 k6_2_2_7_77 (.object "java/lang/Object") (10 : Int32) [(.ref a68), .null, .null, .null, .null, .null, .null, .null, .null, .null] .null ∧ Ovr Z k6_2_2_7_77 "java/lang/Object" ∧ (((if (1 : Int32) = u1 then (if (f_rm27_0 u3 u2) = (0 : Int32) then .null else (.ref p5)) else (if (2 : Int32) = u1 then (if (f_rm27_0 u4 u2) = (0 : Int32) then (if (f_rm27_0 u3 u2) = (0 : Int32) then .null else (.ref p5)) else (.ref p6)) else (if (f_rm27_0 u5 u2) = (0 : Int32) then (if (f_rm27_0 u4 u2) = (0 : Int32) then (if (f_rm27_0 u3 u2) = (0 : Int32) then .null else (.ref p5)) else (.ref p6)) else (.ref p7)))) : Value) = .ref a68)) := by
 refine own_body (plainFor_of_name own_pn3) (fun m => ef_rm19_3 m o0 o1) ?_
 intro p e s m below meth c s₁ hx hby hlk hml hret hZ hown hnm X0 e0
 have N0 := Fr.nil n0
 refine Home.nw (own_newO X0 hx hZ hown (own_w118 hw) (own_w50 hw) (own_w51 hw) e0 rfl (hb hby d19_0) (by decide) (by decide)) fun T1 h1 b1 g1 X1 e1 E1 A1 D1 => ?_
 have g_b1 : n0 ≤ b1 := Nat.le_trans (Old.le O0) (Nat.le_of_eq g1.symm)
 have F_modCount_b1 : Fld Z h1 b1 "java/util/AbstractList" "modCount" "I" (.int (0 : Int32)) := D1 (Or.inl (own_w69 hw)) (ty := .int) (by decide)
 have F_elementData_b1 : Fld Z h1 b1 "java/util/ArrayList" "elementData" "[Ljava/lang/Object;" .null := D1 (Or.inl (own_w72 hw)) (ty := (.array (.object "java/lang/Object"))) (by decide)
 have F_size_b1 : Fld Z h1 b1 "java/util/ArrayList" "size" "I" (.int (0 : Int32)) := D1 (Or.inl (own_w85 hw)) (ty := .int) (by decide)
 have O1 := O0.ext E1
 have K1 : Keep h0 h1 ([] : List Addr) := Keep.ext (Keep.refl h0 ([] : List Addr)) E1
 refine Home.run X1 hx hby sg19_3_1 (pc' := 4) (L' := #[sr o0, sr o1, .unset, .unset, .unset, .unset, .unset, .unset]) (S' := [(.ref b1), (.ref b1)]) rfl ?_
 refine Home.call (own_special X1 hx hZ hown rfl (own_w119 hw) (own_w53 hw) (own_w51 hw) (own_w54 hw) (by decide) (rm9_0 l Z a0 hw [] b1 sv_DEFAULTCAPACITY_EMPTY_ELEMENTDATA h1 n0 O1 A1 F_modCount_b1 F_elementData_b1 F_size_b1 g_b1 S_DEFAULTCAPACITY_EMPTY_ELEMENTDATA) e1 rfl (by rw [hml]; rfl) (a := b1) (argsL := []) (rest := [(.ref b1)]) (lenOf own_pd4 rfl) rfl rfl (W := 1) (by exact hW0) (by decide) (by decide) (hb hby d19_4) (by decide) (by decide)) ?_
 rintro _ T2 L2 X2 ⟨rfl, N2q, K2q, P2_0, P2_1, P2_2, P2_3⟩
 have O2 := Old.keep O1 K2q (allS g_b1 all0)
 have K2 : Keep h0 T2.heap ([] : List Addr) := Keep.trans K1 K2q (allS (Or.inr (Nat.le_trans (Nat.le_refl _) (Nat.le_of_eq g1.symm))) all0)
 have N2 := Fr.app N0 N2q
 refine Home.run X2 hx hby sg19_7_2 (pc' := 9) (L' := #[sr o0, sr o1, sr b1, .unset, .unset, .unset, .unset, .unset]) (S' := [(.ref o1)]) rfl ?_
 refine Home.call (own_face X2 hx hZ hown (own_w120 hw) (own_w121 hw) (mvT hZ (own_w122 hw)) (own_w123 hw) (own_w124 hw) (own_w125 hw) (own_w126 hw) (own_w80 hw) (own_w51 hw) (own_w127 hw) (by decide) (rm20_2 l Z a0 hw [] o1 (1 : Int32) T2.heap n0 O2 (F_modCount_o1.keep K2 nin0) (E_o1.keep K2)) rfl (E_o1.keep K2) rfl (by rw [hml]; rfl) (argsL := []) (rest := []) (lenOf own_pd10 rfl) rfl rfl (W := 0) (by exact hW0) (by decide) (by decide) (hb hby d19_9) (by decide) (by decide)) ?_
 rintro _ T3 L3 X3 ⟨b1_3, rfl, N3q, sz_b1_3, K3q, P3_0, P3_1, P3_2, P3_3, P3_4⟩
 have g_b1_3 : n0 ≤ b1_3 := Nat.le_trans (Old.le O2) sz_b1_3
 have O3 := Old.keep O2 K3q all0
 have K3 : Keep h0 T3.heap ([] : List Addr) := Keep.trans K2 K3q all0
 have N3 := Fr.app N2 N3q
 show Home T3 (mkF m 14 #[sr o0, sr o1, sr b1, .unset, .unset, .unset, .unset, .unset] [(.ref b1_3)])
 refine Home.run X3 hx hby sg19_14_2 (pc' := 16) (L' := #[sr o0, sr o1, sr b1, sr b1_3, .unset, .unset, .unset, .unset]) (S' := [(.ref b1_3)]) rfl ?_
 refine Home.st (own_pure (own_face X3 hx hZ hown (own_w143 hw) (own_w144 hw) (mvT hZ (own_w145 hw)) (own_w146 hw) (own_w147 hw) (own_w148 hw) (own_w149 hw) (own_w150 hw) (own_w130 hw) (own_w151 hw) (by decide) (rm22_2 l Z a0 hw [] b1_3 o1 (1 : Int32) T3.heap n0 O3 P3_4 P3_1 (F_size_o1.keep K3 nin0) (bnd_mono (bnd_lit (1 : Int32)) (by decide +kernel) (by decide +kernel))) rfl P3_0 rfl (by rw [hml]; rfl) (argsL := []) (rest := []) (lenOf own_pd11 rfl) rfl rfl (W := 0) (by exact hW0) (by decide) (by decide) (hb hby d19_16) (by decide) (by decide))) fun T4 X4 e4 => ?_
 refine Home.go (fun _ => XS.ifNo X4.here hx rfl (hb hby d19_21) rfl ((if0 _ _).trans (feq (by decide)).1)) ?_
 refine Home.run X4 hx hby sg19_24_1 (pc' := 25) (L' := #[sr o0, sr o1, sr b1, sr b1_3, .unset, .unset, .unset, .unset]) (S' := [(.ref b1_3)]) rfl ?_
 refine Home.call (own_face X4 hx hZ hown (own_w164 hw) (own_w165 hw) (mvT hZ (own_w166 hw)) (own_w167 hw) (own_w168 hw) (own_w169 hw) (own_w170 hw) (own_w150 hw) (own_w130 hw) (own_w171 hw) (by decide) (rm24_7 l Z a0 hw [] b1_3 o1 p4 k_p4 p8 T3.heap n0 O3 P3_0 P3_1 (F_modCount_o1.keep K3 nin0) P3_3 P3_4 (F_size_o1.keep K3 nin0) (F_elementData_o1.keep K3 nin0) (V_p4.keep K3 nin0) g_b1_3 P3_2) e4 P3_0 rfl (by rw [hml]; rfl) (argsL := []) (rest := []) (lenOf own_pd18 rfl) rfl rfl (W := 0) (by exact hW0) (by decide) (by decide) (hb hby d19_25) (by decide) (by decide)) ?_
 rintro _ T5 L5 X5 ⟨rfl, N5q, K5q, P5_0, P5_1, P5_2, P5_3, P5_4⟩
 have le6 : h0.size ≤ T2.heap.size := Nat.le_trans E1.1 K2q.1
 have O5 := Old.keep O3 K5q (allS g_b1_3 all0)
 have K5 : Keep h0 T5.heap ([] : List Addr) := Keep.trans K3 K5q (allS (Or.inr (Nat.le_trans le6 sz_b1_3)) all0)
 have N5 := Fr.app N3 N5q
 refine Home.st (castY X5 hx hZ hown (own_w178 hw) rfl (Ins.self (E_p8.keep K5)) rfl rfl (hb hby d19_30)) fun T7 X7 e7 => ?_
 refine Home.run X7 hx hby sg19_33_4 (pc' := 39) (L' := #[sr o0, sr o1, sr b1, sr b1_3, sr p8, .val .null, .unset, .unset]) (S' := [(.ref o0)]) rfl ?_
 refine Home.call (own_face X7 hx hZ hown (own_w120 hw) (own_w121 hw) (mvT hZ (own_w122 hw)) (own_w123 hw) (own_w124 hw) (own_w125 hw) (own_w126 hw) (own_w80 hw) (own_w51 hw) (own_w127 hw) (by decide) (rm20_2 l Z a0 hw [] o0 u1 T5.heap n0 O5 (F_modCount_o0.keep K5 nin0) (E_o0.keep K5)) e7 (E_o0.keep K5) rfl (by rw [hml]; rfl) (argsL := []) (rest := []) (lenOf own_pd10 rfl) rfl rfl (W := 0) (by exact hW0) (by decide) (by decide) (hb hby d19_39) (by decide) (by decide)) ?_
 rintro _ T8 L8 X8 ⟨b1_8, rfl, N8q, sz_b1_8, K8q, P8_0, P8_1, P8_2, P8_3, P8_4⟩
 have g_b1_8 : n0 ≤ b1_8 := Nat.le_trans (Old.le O5) sz_b1_8
 have O8 := Old.keep O5 K8q all0
 have K8 : Keep h0 T8.heap ([] : List Addr) := Keep.trans K5 K8q all0
 have N8 := Fr.app N5 N8q
 show Home T8 (mkF m 44 #[sr o0, sr o1, sr b1, sr b1_3, sr p8, .val .null, .unset, .unset] [(.ref b1_8)])
 refine Home.run X8 hx hby sg19_44_1 (pc' := 46) (L' := #[sr o0, sr o1, sr b1, sr b1_3, sr p8, .val .null, sr b1_8, .unset]) (S' := []) rfl ?_
 refine Home.cut (C := fun E => ∀ {T : State} {lc : List Loc} {hJ : Heap} (X : Stand p l e ({ frames := 5, cells := 4, slots := 21, locals := 69 } : Room) s m #[(.ref o0), (.ref o1)] below meth c T lc 3 11) (N : Fr n0 lc) (eT : T.heap = hJ) (Kq : Keep T8.heap hJ ([b1_8] : List Addr)) (v58 : Value) (hv58 : v58 = ((if (1 : Int32) = u1 then (if (f_rm27_0 u3 u2) = (0 : Int32) then .null else (.ref p5)) else (if (2 : Int32) = u1 then (if (f_rm27_0 u4 u2) = (0 : Int32) then (if (f_rm27_0 u3 u2) = (0 : Int32) then .null else (.ref p5)) else (.ref p6)) else (if (f_rm27_0 u5 u2) = (0 : Int32) then (if (f_rm27_0 u4 u2) = (0 : Int32) then (if (f_rm27_0 u3 u2) = (0 : Int32) then .null else (.ref p5)) else (.ref p6)) else (.ref p7)))) : Value)) (v59 : Slot) (hv59 : v59 = .unset ∨ ∃ w, v59 = .val w ∧ w.category = 1), @Home p e below E T (mkF m 88 #[sr o0, sr o1, sr b1, sr b1_3, sr p8, .val v58, sr b1_8, v59] [])) (fun _ J57 => ?_) ?_
 ·
  refine Home.run X8 hx hby sg19_46_1 (pc' := 48) (L' := #[sr o0, sr o1, sr b1, sr b1_3, sr p8, .val .null, sr b1_8, .unset]) (S' := [(.ref b1_8)]) rfl ?_
  refine Home.st (own_pure (own_face X8 hx hZ hown (own_w143 hw) (own_w144 hw) (mvT hZ (own_w145 hw)) (own_w146 hw) (own_w147 hw) (own_w148 hw) (own_w149 hw) (own_w150 hw) (own_w130 hw) (own_w151 hw) (by decide) (rm22_2 l Z a0 hw [] b1_8 o0 u1 T8.heap n0 O8 P8_4 P8_1 (F_size_o0.keep K8 nin0) bnd_u1) rfl P8_0 rfl (by rw [hml]; rfl) (argsL := []) (rest := []) (lenOf own_pd11 rfl) rfl rfl (W := 0) (by exact hW0) (by decide) (by decide) (hb hby d19_48) (by decide) (by decide))) fun T9 X9 e9 => ?_
  refine Home.go (fun _ => XS.ifNo X9.here hx rfl (hb hby d19_53) rfl ((if0 _ _).trans (feq (by decide)).1)) ?_
  refine Home.run X9 hx hby sg19_56_1 (pc' := 58) (L' := #[sr o0, sr o1, sr b1, sr b1_3, sr p8, .val .null, sr b1_8, .unset]) (S' := [(.ref b1_8)]) rfl ?_
  refine Home.call (own_face X9 hx hZ hown (own_w164 hw) (own_w165 hw) (mvT hZ (own_w166 hw)) (own_w167 hw) (own_w168 hw) (own_w169 hw) (own_w170 hw) (own_w150 hw) (own_w130 hw) (own_w171 hw) (by decide) (rm24_1 l Z a0 hw [] b1_8 o0 u1 p3 k_p3 p5 p6 p7 T8.heap n0 O8 P8_0 P8_1 (F_modCount_o0.keep K8 nin0) P8_3 P8_4 (F_size_o0.keep K8 nin0) bnd_u1 (F_elementData_o0.keep K8 nin0) (V_p3.keep K8 nin0) g_b1_8 P8_2) e9 P8_0 rfl (by rw [hml]; rfl) (argsL := []) (rest := []) (lenOf own_pd18 rfl) rfl rfl (W := 0) (by exact hW0) (by decide) (by decide) (hb hby d19_58) (by decide) (by decide)) ?_
  rintro _ T10 L10 X10 ⟨rfl, N10q, K10q, P10_0, P10_1, P10_2, P10_3, P10_4⟩
  have le11 : h0.size ≤ T3.heap.size := Nat.le_trans le6 K3q.1
  have le12 : h0.size ≤ T5.heap.size := Nat.le_trans le11 K5q.1
  have O10 := Old.keep O8 K10q (allS g_b1_8 all0)
  have K10 : Keep h0 T10.heap ([] : List Addr) := Keep.trans K8 K10q (allS (Or.inr (Nat.le_trans le12 sz_b1_8)) all0)
  have N10 := Fr.app N8 N10q
  refine Home.st (castY X10 hx hZ hown (own_w179 hw) rfl (Ins.self (E_p5.keep K10)) rfl rfl (hb hby d19_63)) fun T13 X13 e13 => ?_
  refine Home.run X13 hx hby sg19_66_2 (pc' := 70) (L' := #[sr o0, sr o1, sr b1, sr b1_3, sr p8, .val .null, sr b1_8, sr p5]) (S' := [(.ref p5)]) rfl ?_
  refine Home.st (own_pure (own_virtual X13 hx hZ hown (own_w181 hw) (own_w182 hw) (notFace_of_selects (args := #[]) (mvT hZ (own_w184 hw))) (own_w184 hw) (own_w183 hw) (own_w2 hw) (own_w185 hw) (by decide) (rm26_0 l Z a0 hw [] p5 p9 T10.heap n0 O10 (F_name_p5.keep K10 nin0)) e13 (E_p5.keep K10) rfl (by rw [hml]; rfl) (argsL := []) (rest := []) (lenOf own_pd19 rfl) rfl rfl (W := 0) (by exact hW0) (by decide) (by decide) (hb hby d19_70) (by decide) (by decide))) fun T14 X14 e14 => ?_
  show Home T14 (mkF m 73 #[sr o0, sr o1, sr b1, sr b1_3, sr p8, .val .null, sr b1_8, sr p5] [(.ref p9)])
  refine Home.run X14 hx hby sg19_73_1 (pc' := 75) (L' := #[sr o0, sr o1, sr b1, sr b1_3, sr p8, .val .null, sr b1_8, sr p5]) (S' := [(.ref p8), (.ref p9)]) rfl ?_
  refine Home.st (own_pure (own_virtual X14 hx hZ hown (own_w186 hw) (own_w187 hw) (notFace_of_selects (args := #[]) (mvT hZ (own_w189 hw))) (own_w189 hw) (own_w188 hw) (own_w5 hw) (own_w190 hw) (by decide) (rm27_0 l Z a0 hw [] p9 p8 sv_COMPACT_STRINGS p13 p12 k_p13 u3 k_p12 u2 T10.heap n0 O10 (E_p9.keep K10) (E_p8.keep K10) ne_p9_p8 S_COMPACT_STRINGS hCS (F_coder_p9.keep K10 nin0) (F_coder_p8.keep K10 nin0) (F_value_p9.keep K10 nin0) (F_value_p8.keep K10 nin0) (V_p13.keep K10 nin0) (V_p12.keep K10 nin0)) e14 (E_p9.keep K10) rfl (by rw [hml]; rfl) (argsL := [(.ref p8)]) (rest := []) (lenOf own_pd17 rfl) rfl rfl (W := 0) (by exact hW0) (by decide) (by decide) (hb hby d19_75) (by decide) (by decide))) fun T15 X15 e15 => ?_
  show Home T15 (mkF m 78 #[sr o0, sr o1, sr b1, sr b1_3, sr p8, .val .null, sr b1_8, sr p5] [(.int (f_rm27_0 u3 u2))])
  obtain ⟨r16, hr16⟩ : ∃ z, z = (f_rm27_0 u3 u2) := ⟨_, rfl⟩
  rw [← hr16]
  have br16 : ¬ r16 < (0 : Int32) ∧ ¬ (1 : Int32) < r16 := by rw [hr16]; exact f_rm27_0_bnd u3 u2
  suffices J20 : ∀ {T : State} {lc : List Loc} (X : Stand p l e ({ frames := 5, cells := 4, slots := 21, locals := 69 } : Room) s m #[(.ref o0), (.ref o1)] below meth c T lc 3 11) (N : Fr n0 lc) (eT : T.heap = T10.heap) (v21 : Value) (hv21 : v21 = (if r16 = (0 : Int32) then .null else (.ref p5))), @Home p e below _ T (mkF m 85 #[sr o0, sr o1, sr b1, sr b1_3, sr p8, .val v21, sr b1_8, sr p5] []) by
   by_cases c17 : r16 = (0 : Int32)
   ·
    refine Home.go (fun _ => XS.ifYes X15.here hx rfl (pc0 := 78) (pc' := 85) rfl (hb hby d19_78) rfl ((if0 _ _).trans (teq c17).1) (by decide) (by decide)) ?_
    have bd18 : ¬ r16 < (0 : Int32) ∧ ¬ (0 : Int32) < r16 := ⟨(bnd_eql c17), (bnd_eqr c17)⟩
    exact J20 X15 N10 e15 _ (by simp only [if_pos c17])
   ·
    refine Home.go (fun _ => XS.ifNo X15.here hx rfl (hb hby d19_78) rfl ((if0 _ _).trans (feq c17).1)) ?_
    have bd19 : ¬ r16 < (1 : Int32) ∧ ¬ (1 : Int32) < r16 := ⟨(bnd_nel br16.1 c17 (by decide +kernel)), br16.2⟩
    refine Home.run X15 hx hby sg19_81_2 (pc' := 85) (L' := #[sr o0, sr o1, sr b1, sr b1_3, sr p8, sr p5, sr b1_8, sr p5]) (S' := []) rfl ?_
    exact J20 X15 N10 e15 _ (by simp only [if_neg c17])
  intro TJ20 lcJ20 XJ20 NJ20 eJ20 v21 hv21
  have isr_v21 : v21.isRef = true := by rw [hv21]; exact (own_itR rfl rfl)
  show Home TJ20 (mkF m 85 #[sr o0, sr o1, sr b1, sr b1_3, sr p8, .val v21, sr b1_8, sr p5] [])
  refine Home.run XJ20 hx hby sg19_85_1 (pc' := 46) (L' := #[sr o0, sr o1, sr b1, sr b1_3, sr p8, .val v21, sr b1_8, sr p5]) (S' := []) rfl ?_
  refine Home.run XJ20 hx hby sg19_46_1 (pc' := 48) (L' := #[sr o0, sr o1, sr b1, sr b1_3, sr p8, .val v21, sr b1_8, sr p5]) (S' := [(.ref b1_8)]) rfl ?_
  by_cases c22 : (1 : Int32) = u1
  ·
   have bd23 : ¬ u1 < (1 : Int32) ∧ ¬ (1 : Int32) < u1 := ⟨(bnd_eql (c22.symm)), (bnd_eqr (c22.symm))⟩
   refine Home.st (own_pure (own_face XJ20 hx hZ hown (own_w143 hw) (own_w144 hw) (mvT hZ (own_w145 hw)) (own_w146 hw) (own_w147 hw) (own_w148 hw) (own_w149 hw) (own_w150 hw) (own_w130 hw) (own_w151 hw) (by decide) (rm22_3 l Z a0 hw [] b1_8 o0 u1 T10.heap n0 O10 P10_3 P10_1 (F_size_o0.keep K10 nin0) bd23) eJ20 P10_0 rfl (by rw [hml]; rfl) (argsL := []) (rest := []) (lenOf own_pd11 rfl) rfl rfl (W := 0) (by exact hW0) (by decide) (by decide) (hb hby d19_48) (by decide) (by decide))) fun T25 X25 e25 => ?_
   refine Home.go (fun _ => XS.ifYes X25.here hx rfl (pc0 := 53) (pc' := 88) rfl (hb hby d19_53) rfl ((if0 _ _).trans (teq (by decide)).1) (by decide) (by decide)) ?_
   exact J57 X25 NJ20 e25 K10q v21 (by subst hv21; subst hr16; simp only [if_pos c22]) (.val (.ref p5)) (Or.inr ⟨_, rfl, rfl⟩)
  ·
   have bd24 : ¬ u1 < (2 : Int32) ∧ ¬ (3 : Int32) < u1 := ⟨(bnd_nel bnd_u1.1 (Ne.symm c22) (by decide +kernel)), bnd_u1.2⟩
   refine Home.st (own_pure (own_face XJ20 hx hZ hown (own_w143 hw) (own_w144 hw) (mvT hZ (own_w145 hw)) (own_w146 hw) (own_w147 hw) (own_w148 hw) (own_w149 hw) (own_w150 hw) (own_w130 hw) (own_w151 hw) (by decide) (rm22_4 l Z a0 hw [] b1_8 o0 u1 T10.heap n0 O10 P10_3 P10_1 (F_size_o0.keep K10 nin0) bd24) eJ20 P10_0 rfl (by rw [hml]; rfl) (argsL := []) (rest := []) (lenOf own_pd11 rfl) rfl rfl (W := 0) (by exact hW0) (by decide) (by decide) (hb hby d19_48) (by decide) (by decide))) fun T26 X26 e26 => ?_
   refine Home.go (fun _ => XS.ifNo X26.here hx rfl (hb hby d19_53) rfl ((if0 _ _).trans (feq (by decide)).1)) ?_
   have V27 : Arv Z T10.heap p3 k_p3 (.object "java/lang/Object") (10 : Int32) [(.ref p5), (.ref p6), (own_el2 u1 p7), .null, .null, .null, .null, .null, .null, .null] .null := by have q := (V_p3.keep K10 nin0); rw [own_el1_is (k := p6) (Ne.symm c22)] at q; exact q
   refine Home.run X26 hx hby sg19_56_1 (pc' := 58) (L' := #[sr o0, sr o1, sr b1, sr b1_3, sr p8, .val v21, sr b1_8, sr p5]) (S' := [(.ref b1_8)]) rfl ?_
   refine Home.call (own_face X26 hx hZ hown (own_w164 hw) (own_w165 hw) (mvT hZ (own_w166 hw)) (own_w167 hw) (own_w168 hw) (own_w169 hw) (own_w170 hw) (own_w150 hw) (own_w130 hw) (own_w171 hw) (by decide) (rm24_2 l Z a0 hw [] b1_8 o0 u1 p3 k_p3 p5 p6 p7 T10.heap n0 O10 P10_0 P10_1 (F_modCount_o0.keep K10 nin0) P10_2 P10_3 (F_size_o0.keep K10 nin0) bd24 (F_elementData_o0.keep K10 nin0) V27 g_b1_8 P10_4) e26 P10_0 rfl (by rw [hml]; rfl) (argsL := []) (rest := []) (lenOf own_pd18 rfl) rfl rfl (W := 0) (by exact hW0) (by decide) (by decide) (hb hby d19_58) (by decide) (by decide)) ?_
   rintro _ T28 L28 X28 ⟨rfl, N28q, K28q, P28_0, P28_1, P28_2, P28_3, P28_4⟩
   have O28 := Old.keep O10 K28q (allS g_b1_8 all0)
   have K28 : Keep h0 T28.heap ([] : List Addr) := Keep.trans K10 K28q (allS (Or.inr (Nat.le_trans le12 sz_b1_8)) all0)
   have N28 := Fr.app NJ20 N28q
   refine Home.st (castY X28 hx hZ hown (own_w179 hw) rfl (Ins.self (E_p6.keep K28)) rfl rfl (hb hby d19_63)) fun T29 X29 e29 => ?_
   refine Home.run X29 hx hby sg19_66_2 (pc' := 70) (L' := #[sr o0, sr o1, sr b1, sr b1_3, sr p8, .val v21, sr b1_8, sr p6]) (S' := [(.ref p6)]) rfl ?_
   refine Home.st (own_pure (own_virtual X29 hx hZ hown (own_w181 hw) (own_w182 hw) (notFace_of_selects (args := #[]) (mvT hZ (own_w184 hw))) (own_w184 hw) (own_w183 hw) (own_w2 hw) (own_w185 hw) (by decide) (rm26_0 l Z a0 hw [] p6 p10 T28.heap n0 O28 (F_name_p6.keep K28 nin0)) e29 (E_p6.keep K28) rfl (by rw [hml]; rfl) (argsL := []) (rest := []) (lenOf own_pd19 rfl) rfl rfl (W := 0) (by exact hW0) (by decide) (by decide) (hb hby d19_70) (by decide) (by decide))) fun T30 X30 e30 => ?_
   refine Home.run X30 hx hby sg19_73_1 (pc' := 75) (L' := #[sr o0, sr o1, sr b1, sr b1_3, sr p8, .val v21, sr b1_8, sr p6]) (S' := [(.ref p8), (.ref p10)]) rfl ?_
   refine Home.st (own_pure (own_virtual X30 hx hZ hown (own_w186 hw) (own_w187 hw) (notFace_of_selects (args := #[]) (mvT hZ (own_w189 hw))) (own_w189 hw) (own_w188 hw) (own_w5 hw) (own_w190 hw) (by decide) (rm27_0 l Z a0 hw [] p10 p8 sv_COMPACT_STRINGS p14 p12 k_p14 u4 k_p12 u2 T28.heap n0 O28 (E_p10.keep K28) (E_p8.keep K28) ne_p10_p8 S_COMPACT_STRINGS hCS (F_coder_p10.keep K28 nin0) (F_coder_p8.keep K28 nin0) (F_value_p10.keep K28 nin0) (F_value_p8.keep K28 nin0) (V_p14.keep K28 nin0) (V_p12.keep K28 nin0)) e30 (E_p10.keep K28) rfl (by rw [hml]; rfl) (argsL := [(.ref p8)]) (rest := []) (lenOf own_pd17 rfl) rfl rfl (W := 0) (by exact hW0) (by decide) (by decide) (hb hby d19_75) (by decide) (by decide))) fun T31 X31 e31 => ?_
   show Home T31 (mkF m 78 #[sr o0, sr o1, sr b1, sr b1_3, sr p8, .val v21, sr b1_8, sr p6] [(.int (f_rm27_0 u4 u2))])
   obtain ⟨r32, hr32⟩ : ∃ z, z = (f_rm27_0 u4 u2) := ⟨_, rfl⟩
   rw [← hr32]
   have br32 : ¬ r32 < (0 : Int32) ∧ ¬ (1 : Int32) < r32 := by rw [hr32]; exact f_rm27_0_bnd u4 u2
   suffices J36 : ∀ {T : State} {lc : List Loc} (X : Stand p l e ({ frames := 5, cells := 4, slots := 21, locals := 69 } : Room) s m #[(.ref o0), (.ref o1)] below meth c T lc 3 11) (N : Fr n0 lc) (eT : T.heap = T28.heap) (v37 : Value) (hv37 : v37 = (if r32 = (0 : Int32) then v21 else (.ref p6))), @Home p e below _ T (mkF m 85 #[sr o0, sr o1, sr b1, sr b1_3, sr p8, .val v37, sr b1_8, sr p6] []) by
    by_cases c33 : r32 = (0 : Int32)
    ·
     refine Home.go (fun _ => XS.ifYes X31.here hx rfl (pc0 := 78) (pc' := 85) rfl (hb hby d19_78) rfl ((if0 _ _).trans (teq c33).1) (by decide) (by decide)) ?_
     have bd34 : ¬ r32 < (0 : Int32) ∧ ¬ (0 : Int32) < r32 := ⟨(bnd_eql c33), (bnd_eqr c33)⟩
     exact J36 X31 N28 e31 _ (by simp only [if_pos c33])
    ·
     refine Home.go (fun _ => XS.ifNo X31.here hx rfl (hb hby d19_78) rfl ((if0 _ _).trans (feq c33).1)) ?_
     have bd35 : ¬ r32 < (1 : Int32) ∧ ¬ (1 : Int32) < r32 := ⟨(bnd_nel br32.1 c33 (by decide +kernel)), br32.2⟩
     refine Home.run X31 hx hby sg19_81_1 (pc' := 83) (L' := #[sr o0, sr o1, sr b1, sr b1_3, sr p8, .val v21, sr b1_8, sr p6]) (S' := [(.ref p6)]) rfl ?_
     refine Home.go (fun _ => XS.astore X31.here hx rfl (hb hby d19_83) rfl rfl (l' := #[.val (.ref o0), .val (.ref o1), .val (.ref b1), .val (.ref b1_3), .val (.ref p8), .val (.ref p6), .val (.ref b1_8), .val (.ref p6)]) (XS.store1 rfl (Or.inr ⟨_, rfl, (cat1_of isr_v21)⟩) rfl)) ?_
     exact J36 X31 N28 e31 _ (by simp only [if_neg c33])
   intro TJ36 lcJ36 XJ36 NJ36 eJ36 v37 hv37
   have isr_v37 : v37.isRef = true := by rw [hv37]; exact (own_itR (by assumption) rfl)
   show Home TJ36 (mkF m 85 #[sr o0, sr o1, sr b1, sr b1_3, sr p8, .val v37, sr b1_8, sr p6] [])
   refine Home.run XJ36 hx hby sg19_85_1 (pc' := 46) (L' := #[sr o0, sr o1, sr b1, sr b1_3, sr p8, .val v37, sr b1_8, sr p6]) (S' := []) rfl ?_
   refine Home.run XJ36 hx hby sg19_46_1 (pc' := 48) (L' := #[sr o0, sr o1, sr b1, sr b1_3, sr p8, .val v37, sr b1_8, sr p6]) (S' := [(.ref b1_8)]) rfl ?_
   by_cases c38 : (2 : Int32) = u1
   ·
    have bd39 : ¬ u1 < (2 : Int32) ∧ ¬ (2 : Int32) < u1 := ⟨(bnd_eql (c38.symm)), (bnd_eqr (c38.symm))⟩
    refine Home.st (own_pure (own_face XJ36 hx hZ hown (own_w143 hw) (own_w144 hw) (mvT hZ (own_w145 hw)) (own_w146 hw) (own_w147 hw) (own_w148 hw) (own_w149 hw) (own_w150 hw) (own_w130 hw) (own_w151 hw) (by decide) (rm22_5 l Z a0 hw [] b1_8 o0 u1 T28.heap n0 O28 P28_3 P28_1 (F_size_o0.keep K28 nin0) bd39) eJ36 P28_0 rfl (by rw [hml]; rfl) (argsL := []) (rest := []) (lenOf own_pd11 rfl) rfl rfl (W := 0) (by exact hW0) (by decide) (by decide) (hb hby d19_48) (by decide) (by decide))) fun T41 X41 e41 => ?_
    refine Home.go (fun _ => XS.ifYes X41.here hx rfl (pc0 := 53) (pc' := 88) rfl (hb hby d19_53) rfl ((if0 _ _).trans (teq (by decide)).1) (by decide) (by decide)) ?_
    have k61 : Keep T8.heap T28.heap [b1_8] := K10q.trans K28q (allS (Or.inl (List.mem_of_getElem? (i := 0) rfl)) all0)
    exact J57 X41 NJ36 e41 k61 v37 (by subst hv37; subst hr32; subst hv21; subst hr16; simp only [if_neg c22, if_pos c38]) (.val (.ref p6)) (Or.inr ⟨_, rfl, rfl⟩)
   ·
    have bd40 : ¬ u1 < (3 : Int32) ∧ ¬ (3 : Int32) < u1 := ⟨(bnd_nel bd24.1 (Ne.symm c38) (by decide +kernel)), bd24.2⟩
    refine Home.st (own_pure (own_face XJ36 hx hZ hown (own_w143 hw) (own_w144 hw) (mvT hZ (own_w145 hw)) (own_w146 hw) (own_w147 hw) (own_w148 hw) (own_w149 hw) (own_w150 hw) (own_w130 hw) (own_w151 hw) (by decide) (rm22_6 l Z a0 hw [] b1_8 o0 u1 T28.heap n0 O28 P28_3 P28_1 (F_size_o0.keep K28 nin0) bd40) eJ36 P28_0 rfl (by rw [hml]; rfl) (argsL := []) (rest := []) (lenOf own_pd11 rfl) rfl rfl (W := 0) (by exact hW0) (by decide) (by decide) (hb hby d19_48) (by decide) (by decide))) fun T42 X42 e42 => ?_
    refine Home.go (fun _ => XS.ifNo X42.here hx rfl (hb hby d19_53) rfl ((if0 _ _).trans (feq (by decide)).1)) ?_
    have ne43 : p3 ≠ b1_8 := (Nat.ne_of_lt (Nat.lt_of_lt_of_le V_p3.lt (Nat.le_trans le12 sz_b1_8)))
    have q44 := (V27.keep K28q (ninS ne43 nin0))
    have V45 : Arv Z T28.heap p3 k_p3 (.object "java/lang/Object") (10 : Int32) [(.ref p5), (.ref p6), (.ref p7), .null, .null, .null, .null, .null, .null, .null] .null := by have q := q44; rw [own_el2_is (k := p7) (bnd_fix bd40)] at q; exact q
    refine Home.run X42 hx hby sg19_56_1 (pc' := 58) (L' := #[sr o0, sr o1, sr b1, sr b1_3, sr p8, .val v37, sr b1_8, sr p6]) (S' := [(.ref b1_8)]) rfl ?_
    refine Home.call (own_face X42 hx hZ hown (own_w164 hw) (own_w165 hw) (mvT hZ (own_w166 hw)) (own_w167 hw) (own_w168 hw) (own_w169 hw) (own_w170 hw) (own_w150 hw) (own_w130 hw) (own_w171 hw) (by decide) (rm24_3 l Z a0 hw [] b1_8 o0 u1 p3 k_p3 p5 p6 p7 T28.heap n0 O28 P28_0 P28_1 (F_modCount_o0.keep K28 nin0) P28_2 P28_3 (F_size_o0.keep K28 nin0) bd40 (F_elementData_o0.keep K28 nin0) V45 g_b1_8 P28_4) e42 P28_0 rfl (by rw [hml]; rfl) (argsL := []) (rest := []) (lenOf own_pd18 rfl) rfl rfl (W := 0) (by exact hW0) (by decide) (by decide) (hb hby d19_58) (by decide) (by decide)) ?_
    rintro _ T46 L46 X46 ⟨rfl, N46q, K46q, P46_0, P46_1, P46_2, P46_3, P46_4⟩
    have O46 := Old.keep O28 K46q (allS g_b1_8 all0)
    have K46 : Keep h0 T46.heap ([] : List Addr) := Keep.trans K28 K46q (allS (Or.inr (Nat.le_trans le12 sz_b1_8)) all0)
    have N46 := Fr.app NJ36 N46q
    refine Home.st (castY X46 hx hZ hown (own_w179 hw) rfl (Ins.self (E_p7.keep K46)) rfl rfl (hb hby d19_63)) fun T47 X47 e47 => ?_
    refine Home.run X47 hx hby sg19_66_2 (pc' := 70) (L' := #[sr o0, sr o1, sr b1, sr b1_3, sr p8, .val v37, sr b1_8, sr p7]) (S' := [(.ref p7)]) rfl ?_
    refine Home.st (own_pure (own_virtual X47 hx hZ hown (own_w181 hw) (own_w182 hw) (notFace_of_selects (args := #[]) (mvT hZ (own_w184 hw))) (own_w184 hw) (own_w183 hw) (own_w2 hw) (own_w185 hw) (by decide) (rm26_0 l Z a0 hw [] p7 p11 T46.heap n0 O46 (F_name_p7.keep K46 nin0)) e47 (E_p7.keep K46) rfl (by rw [hml]; rfl) (argsL := []) (rest := []) (lenOf own_pd19 rfl) rfl rfl (W := 0) (by exact hW0) (by decide) (by decide) (hb hby d19_70) (by decide) (by decide))) fun T48 X48 e48 => ?_
    show Home T48 (mkF m 73 #[sr o0, sr o1, sr b1, sr b1_3, sr p8, .val v37, sr b1_8, sr p7] [(.ref p11)])
    refine Home.run X48 hx hby sg19_73_1 (pc' := 75) (L' := #[sr o0, sr o1, sr b1, sr b1_3, sr p8, .val v37, sr b1_8, sr p7]) (S' := [(.ref p8), (.ref p11)]) rfl ?_
    refine Home.st (own_pure (own_virtual X48 hx hZ hown (own_w186 hw) (own_w187 hw) (notFace_of_selects (args := #[]) (mvT hZ (own_w189 hw))) (own_w189 hw) (own_w188 hw) (own_w5 hw) (own_w190 hw) (by decide) (rm27_0 l Z a0 hw [] p11 p8 sv_COMPACT_STRINGS p15 p12 k_p15 u5 k_p12 u2 T46.heap n0 O46 (E_p11.keep K46) (E_p8.keep K46) ne_p11_p8 S_COMPACT_STRINGS hCS (F_coder_p11.keep K46 nin0) (F_coder_p8.keep K46 nin0) (F_value_p11.keep K46 nin0) (F_value_p8.keep K46 nin0) (V_p15.keep K46 nin0) (V_p12.keep K46 nin0)) e48 (E_p11.keep K46) rfl (by rw [hml]; rfl) (argsL := [(.ref p8)]) (rest := []) (lenOf own_pd17 rfl) rfl rfl (W := 0) (by exact hW0) (by decide) (by decide) (hb hby d19_75) (by decide) (by decide))) fun T49 X49 e49 => ?_
    show Home T49 (mkF m 78 #[sr o0, sr o1, sr b1, sr b1_3, sr p8, .val v37, sr b1_8, sr p7] [(.int (f_rm27_0 u5 u2))])
    obtain ⟨r50, hr50⟩ : ∃ z, z = (f_rm27_0 u5 u2) := ⟨_, rfl⟩
    rw [← hr50]
    have br50 : ¬ r50 < (0 : Int32) ∧ ¬ (1 : Int32) < r50 := by rw [hr50]; exact f_rm27_0_bnd u5 u2
    suffices J54 : ∀ {T : State} {lc : List Loc} (X : Stand p l e ({ frames := 5, cells := 4, slots := 21, locals := 69 } : Room) s m #[(.ref o0), (.ref o1)] below meth c T lc 3 11) (N : Fr n0 lc) (eT : T.heap = T46.heap) (v55 : Value) (hv55 : v55 = (if r50 = (0 : Int32) then v37 else (.ref p7))), @Home p e below _ T (mkF m 85 #[sr o0, sr o1, sr b1, sr b1_3, sr p8, .val v55, sr b1_8, sr p7] []) by
     by_cases c51 : r50 = (0 : Int32)
     ·
      refine Home.go (fun _ => XS.ifYes X49.here hx rfl (pc0 := 78) (pc' := 85) rfl (hb hby d19_78) rfl ((if0 _ _).trans (teq c51).1) (by decide) (by decide)) ?_
      have bd52 : ¬ r50 < (0 : Int32) ∧ ¬ (0 : Int32) < r50 := ⟨(bnd_eql c51), (bnd_eqr c51)⟩
      exact J54 X49 N46 e49 _ (by simp only [if_pos c51])
     ·
      refine Home.go (fun _ => XS.ifNo X49.here hx rfl (hb hby d19_78) rfl ((if0 _ _).trans (feq c51).1)) ?_
      have bd53 : ¬ r50 < (1 : Int32) ∧ ¬ (1 : Int32) < r50 := ⟨(bnd_nel br50.1 c51 (by decide +kernel)), br50.2⟩
      refine Home.run X49 hx hby sg19_81_1 (pc' := 83) (L' := #[sr o0, sr o1, sr b1, sr b1_3, sr p8, .val v37, sr b1_8, sr p7]) (S' := [(.ref p7)]) rfl ?_
      refine Home.go (fun _ => XS.astore X49.here hx rfl (hb hby d19_83) rfl rfl (l' := #[.val (.ref o0), .val (.ref o1), .val (.ref b1), .val (.ref b1_3), .val (.ref p8), .val (.ref p7), .val (.ref b1_8), .val (.ref p7)]) (XS.store1 rfl (Or.inr ⟨_, rfl, (cat1_of isr_v37)⟩) rfl)) ?_
      exact J54 X49 N46 e49 _ (by simp only [if_neg c51])
    intro TJ54 lcJ54 XJ54 NJ54 eJ54 v55 hv55
    have isr_v55 : v55.isRef = true := by rw [hv55]; exact (own_itR (by assumption) rfl)
    show Home TJ54 (mkF m 85 #[sr o0, sr o1, sr b1, sr b1_3, sr p8, .val v55, sr b1_8, sr p7] [])
    refine Home.run XJ54 hx hby sg19_85_1 (pc' := 46) (L' := #[sr o0, sr o1, sr b1, sr b1_3, sr p8, .val v55, sr b1_8, sr p7]) (S' := []) rfl ?_
    refine Home.run XJ54 hx hby sg19_46_1 (pc' := 48) (L' := #[sr o0, sr o1, sr b1, sr b1_3, sr p8, .val v55, sr b1_8, sr p7]) (S' := [(.ref b1_8)]) rfl ?_
    refine Home.st (own_pure (own_face XJ54 hx hZ hown (own_w143 hw) (own_w144 hw) (mvT hZ (own_w145 hw)) (own_w146 hw) (own_w147 hw) (own_w148 hw) (own_w149 hw) (own_w150 hw) (own_w130 hw) (own_w151 hw) (by decide) (rm22_7 l Z a0 hw [] b1_8 o0 u1 T46.heap n0 O46 P46_3 P46_1 (F_size_o0.keep K46 nin0) bd40) eJ54 P46_0 rfl (by rw [hml]; rfl) (argsL := []) (rest := []) (lenOf own_pd11 rfl) rfl rfl (W := 0) (by exact hW0) (by decide) (by decide) (hb hby d19_48) (by decide) (by decide))) fun T56 X56 e56 => ?_
    refine Home.go (fun _ => XS.ifYes X56.here hx rfl (pc0 := 53) (pc' := 88) rfl (hb hby d19_53) rfl ((if0 _ _).trans (teq (by decide)).1) (by decide) (by decide)) ?_
    have k64 : Keep T8.heap T28.heap [b1_8] := K10q.trans K28q (allS (Or.inl (List.mem_of_getElem? (i := 0) rfl)) all0)
    have k63 : Keep T8.heap T46.heap [b1_8] := k64.trans K46q (allS (Or.inl (List.mem_of_getElem? (i := 0) rfl)) all0)
    exact J57 X56 NJ54 e56 k63 v55 (by subst hv55; subst hr50; subst hv37; subst hr32; subst hv21; subst hr16; simp only [if_neg c22, if_neg c38]) (.val (.ref p7)) (Or.inr ⟨_, rfl, rfl⟩)
 intro TJ57 lcJ57 hJ57 XJ57 NJ57 eJ57 KqJ57 v58 hv58 v59 hv59
 have le66 : h0.size ≤ T3.heap.size := Nat.le_trans le6 K3q.1
 have le67 : h0.size ≤ T5.heap.size := Nat.le_trans le66 K5q.1
 have OJ57 := Old.keep O8 KqJ57 (allS g_b1_8 all0)
 have KJ57 : Keep h0 hJ57 ([] : List Addr) := Keep.trans K8 KqJ57 (allS (Or.inr (Nat.le_trans le67 sz_b1_8)) all0)
 have isr_v58 : v58.isRef = true := by rw [hv58]; exact (own_itR (own_itR rfl rfl) (own_itR (own_itR (own_itR rfl rfl) rfl) (own_itR (own_itR (own_itR rfl rfl) rfl) rfl)))
 show Home TJ57 (mkF m 88 #[sr o0, sr o1, sr b1, sr b1_3, sr p8, .val v58, sr b1_8, v59] [])
 refine Home.go (fun _ => XS.aload XJ57.here hx rfl (hb hby d19_88) rfl (isr_v58)) ?_
 have e68_0 := (E_p5.keep KJ57)
 have e68_1 := (E_p6.keep KJ57)
 have e68_2 := (E_p7.keep KJ57)
 have hT68 : v58 = ((if (1 : Int32) = u1 then (if (f_rm27_0 u3 u2) = (0 : Int32) then .null else (.ref p5)) else (if (2 : Int32) = u1 then (if (f_rm27_0 u4 u2) = (0 : Int32) then (if (f_rm27_0 u3 u2) = (0 : Int32) then .null else (.ref p5)) else (.ref p6)) else (if (f_rm27_0 u5 u2) = (0 : Int32) then (if (f_rm27_0 u4 u2) = (0 : Int32) then (if (f_rm27_0 u3 u2) = (0 : Int32) then .null else (.ref p5)) else (.ref p6)) else (.ref p7)))) : Value) := by subst hv58; rfl
 obtain ⟨a68, ha68⟩ : ∃ a, v58 = .ref a := (ref_cases isr_v58).resolve_left (fun q => nn68 (hT68.symm.trans q))
 have nq68 : ((if (1 : Int32) = u1 then (if (f_rm27_0 u3 u2) = (0 : Int32) then .null else (.ref p5)) else (if (2 : Int32) = u1 then (if (f_rm27_0 u4 u2) = (0 : Int32) then (if (f_rm27_0 u3 u2) = (0 : Int32) then .null else (.ref p5)) else (.ref p6)) else (if (f_rm27_0 u5 u2) = (0 : Int32) then (if (f_rm27_0 u4 u2) = (0 : Int32) then (if (f_rm27_0 u3 u2) = (0 : Int32) then .null else (.ref p5)) else (.ref p6)) else (.ref p7)))) : Value) = .ref a68 := hT68.symm.trans ha68
 have E68a : Exa Z hJ57 a68 "com/example/wary_meter/warymeter/Column" := own_itE nq68 (fun q => own_itE q (fun q => nomatch q) (fun q => own_leE q e68_0)) (fun q => own_itE q (fun q => own_itE q (fun q => own_itE q (fun q => nomatch q) (fun q => own_leE q e68_0)) (fun q => own_leE q e68_1)) (fun q => own_itE q (fun q => own_itE q (fun q => own_itE q (fun q => nomatch q) (fun q => own_leE q e68_0)) (fun q => own_leE q e68_1)) (fun q => own_leE q e68_2)))
 subst ha68
 show Home TJ57 (mkF m 90 #[sr o0, sr o1, sr b1, sr b1_3, sr p8, sr a68, sr b1_8, v59] [(.ref a68)])
 refine Home.go (fun _ => XS.ifnonnullYes XJ57.here hx rfl (pc0 := 90) (pc' := 108) rfl (hb hby d19_90) rfl (by decide) (by decide)) ?_
 show Home TJ57 (mkF m 108 #[sr o0, sr o1, sr b1, sr b1_3, sr p8, sr a68, sr b1_8, v59] [])
 refine Home.run XJ57 hx hby sg19_108_2 (pc' := 111) (L' := #[sr o0, sr o1, sr b1, sr b1_3, sr p8, sr a68, sr b1_8, v59]) (S' := [(.ref a68), (.ref b1)]) rfl ?_
 have q69 := ((((P2_0.keep K3q).keep K5q).keep K8q).keep KqJ57)
 have ne70 : b1 ≠ b1_3 := (Nat.ne_of_lt (Nat.lt_of_lt_of_le A1.lt (Nat.le_trans K2q.1 sz_b1_3)))
 have le71 : h1.size ≤ T3.heap.size := Nat.le_trans K2q.1 K3q.1
 have le72 : h1.size ≤ T5.heap.size := Nat.le_trans le71 K5q.1
 have ne73 : b1 ≠ b1_8 := (Nat.ne_of_lt (Nat.lt_of_lt_of_le A1.lt (Nat.le_trans le72 sz_b1_8)))
 have q74 := ((((P2_1.keep K3q nin0).keep K5q (ninS ne70 nin0)).keep K8q nin0).keep KqJ57 (ninS ne73 nin0))
 have q75 := ((((P2_2.keep K3q nin0).keep K5q (ninS ne70 nin0)).keep K8q nin0).keep KqJ57 (ninS ne73 nin0))
 have q76 := ((((P2_3.keep K3q nin0).keep K5q (ninS ne70 nin0)).keep K8q nin0).keep KqJ57 (ninS ne73 nin0))
 refine Home.call (own_face XJ57 hx hZ hown (own_w194 hw) (own_w74 hw) (mvT hZ (own_w75 hw)) (own_w76 hw) (own_w77 hw) (own_w78 hw) (own_w79 hw) (own_w80 hw) (own_w51 hw) (own_w81 hw) (by decide) (rm12_0 l Z a0 hw [] b1 a68 sv_DEFAULTCAPACITY_EMPTY_ELEMENTDATA kde hJ57 n0 OJ57 q74 q69 g_b1 q75 q76 V_de S_DEFAULTCAPACITY_EMPTY_ELEMENTDATA E68a) eJ57 q69 rfl (by rw [hml]; rfl) (argsL := [(.ref a68)]) (rest := []) (lenOf own_pd17 rfl) rfl rfl (W := 0) (by exact hW0) (by decide) (by decide) (hb hby d19_111) (by decide) (by decide)) ?_
 rintro _ T77 L77 X77 ⟨b6_2_2_7_77, k6_2_2_7_77, rfl, N77q, sz_b6_2_2_7_77, K77q, P77_0, P77_1, P77_2, P77_3, P77_4, P77_5⟩
 have g_b6_2_2_7_77 : n0 ≤ b6_2_2_7_77 := Nat.le_trans (Old.le OJ57) sz_b6_2_2_7_77
 have O77 := Old.keep OJ57 K77q (allS g_b1 all0)
 have K77 : Keep h0 T77.heap ([] : List Addr) := Keep.trans KJ57 K77q (allS (Or.inr (Nat.le_trans (Nat.le_refl _) (Nat.le_of_eq g1.symm))) all0)
 have N77 := Fr.app NJ57 N77q
 show Home T77 (mkF m 116 #[sr o0, sr o1, sr b1, sr b1_3, sr p8, sr a68, sr b1_8, v59] [(.int (1 : Int32))])
 refine Home.run X77 hx hby sg19_116_3 (pc' := 16) (L' := #[sr o0, sr o1, sr b1, sr b1_3, sr p8, sr a68, sr b1_8, v59]) (S' := [(.ref b1_3)]) rfl ?_
 have q78 := (((P5_0.keep K8q).keep KqJ57).keep K77q)
 have ne79 : b1_3 ≠ b1_8 := (Nat.ne_of_lt (Nat.lt_of_lt_of_le P3_0.lt (Nat.le_trans K5q.1 sz_b1_8)))
 have ne80 : b1_3 ≠ b1 := (Ne.symm ne70)
 have q81 := (((P5_3.keep K8q nin0).keep KqJ57 (ninS ne79 nin0)).keep K77q (ninS ne80 nin0))
 have q82 := (((P5_1.keep K8q nin0).keep KqJ57 (ninS ne79 nin0)).keep K77q (ninS ne80 nin0))
 refine Home.st (own_pure (own_face X77 hx hZ hown (own_w143 hw) (own_w144 hw) (mvT hZ (own_w145 hw)) (own_w146 hw) (own_w147 hw) (own_w148 hw) (own_w149 hw) (own_w150 hw) (own_w130 hw) (own_w151 hw) (by decide) (rm22_3 l Z a0 hw [] b1_3 o1 (1 : Int32) T77.heap n0 O77 q81 q82 (F_size_o1.keep K77 nin0) (bnd_lit (1 : Int32))) rfl q78 rfl (by rw [hml]; rfl) (argsL := []) (rest := []) (lenOf own_pd11 rfl) rfl rfl (W := 0) (by exact hW0) (by decide) (by decide) (hb hby d19_16) (by decide) (by decide))) fun T83 X83 e83 => ?_
 refine Home.go (fun _ => XS.ifYes X83.here hx rfl (pc0 := 21) (pc' := 120) rfl (hb hby d19_21) rfl ((if0 _ _).trans (teq (by decide)).1) (by decide) (by decide)) ?_
 refine Home.run X83 hx hby sg19_120_1 (pc' := 121) (L' := #[sr o0, sr o1, sr b1, sr b1_3, sr p8, sr a68, sr b1_8, v59]) (S' := [(.ref b1)]) rfl ?_
 have le84 : h0.size ≤ T3.heap.size := Nat.le_trans le6 K3q.1
 have le85 : h0.size ≤ T5.heap.size := Nat.le_trans le84 K5q.1
 have le86 : h0.size ≤ T8.heap.size := Nat.le_trans le85 K8q.1
 have le87 : h0.size ≤ hJ57.size := Nat.le_trans le86 KqJ57.1
 exact Home.retR X83 hx hlk hret rfl rfl (hb hby d19_121) (by rw [show T83.heap = T77.heap from e83]; exact ⟨b1, b6_2_2_7_77, a68, k6_2_2_7_77, rfl, N77, (Nat.le_trans (Nat.le_refl _) (Nat.le_of_eq g1.symm)), (Nat.le_trans le87 sz_b6_2_2_7_77), K77, P77_1, P77_0, P77_2, P77_3, P77_4, P77_5, nq68⟩) (by decide) (by decide)
theorem rm23_3 (l : Launch) (Z : State) (a0 : Array Value) (hw : HW a0 Z) (ws : List Jvm.Cond) (o0 : Addr) (h0 : Heap) (n0 : Nat) (O0 : Old Z n0 h0) (F_size_o0 : Fld Z h0 o0 "java/util/ArrayList" "size" "I" (.int (1 : Int32))) :
    Con l Z (⟨"java/util/ArrayList", "size", "()I"⟩ : MethodName) jdk_38_method_8_code 1 (some .int) ws ({ frames := 0, cells := 0, slots := 0, locals := 0 } : Room) #[(.ref o0)] h0 (Pur (some (.int (1 : Int32))) h0) := by
 refine own_body (plainFor_of_name own_pn6) (fun m => ef_rm23_3 m o0) ?_
 intro p e s m below meth c s₁ hx hby hlk hml hret hZ hown hnm X0 e0
 have N0 := Fr.nil n0
 refine Home.run X0 hx hby sg23_0_1 (pc' := 1) (L' := #[sr o0]) (S' := [(.ref o0)]) rfl ?_
 refine Home.st (getF X0 hx hZ hown (host := "") (Or.inl (own_w84 hw)) Via.refl e0 F_size_o0 rfl rfl (hb hby d23_1)) fun T1 X1 e1 => ?_
 exact Home.retI X1 hx hlk hret (hb hby d23_4) ⟨rfl, rfl, e1⟩ (by decide) (by decide)
theorem rm31_5 (l : Launch) (Z : State) (a0 : Array Value) (hw : HW a0 Z) (ws : List Jvm.Cond)  (h0 : Heap) (n0 : Nat) (O0 : Old Z n0 h0) :
    Con l Z (⟨"jdk/internal/util/Preconditions", "checkIndex", "(IILjava/util/function/BiFunction;)I"⟩ : MethodName) jdk_41_method_11_code 3 (some .int) ws ({ frames := 0, cells := 0, slots := 0, locals := 0 } : Room) #[(.int (0 : Int32)), (.int (1 : Int32)), .null] h0 (Pur (some (.int (0 : Int32))) h0) := by
 refine own_body (plainFor_of_name own_pn9) (fun m => ef_rm31_5 m (0 : Int32) (1 : Int32)) ?_
 intro p e s m below meth c s₁ hx hby hlk hml hret hZ hown hnm X0 e0
 have N0 := Fr.nil n0
 refine Home.run X0 hx hby sg31_0_1 (pc' := 1) (L' := #[.val (.int (0 : Int32)), .val (.int (1 : Int32)), .val .null]) (S' := [(.int (0 : Int32))]) rfl ?_
 refine Home.go (fun _ => XS.ifNo X0.here hx rfl (hb hby d31_1) rfl ((if0 _ _).trans (flt (by decide)).1)) ?_
 refine Home.run X0 hx hby sg31_4_2 (pc' := 6) (L' := #[.val (.int (0 : Int32)), .val (.int (1 : Int32)), .val .null]) (S' := [(.int (1 : Int32)), (.int (0 : Int32))]) rfl ?_
 refine Home.go (fun _ => XS.icmpYes X0.here hx rfl (pc0 := 6) (pc' := 16) rfl (hb hby d31_6) rfl (tlt (by decide)).1 (by decide) (by decide)) ?_
 refine Home.run X0 hx hby sg31_16_1 (pc' := 17) (L' := #[.val (.int (0 : Int32)), .val (.int (1 : Int32)), .val .null]) (S' := [(.int (0 : Int32))]) rfl ?_
 exact Home.retI X0 hx hlk hret (hb hby d31_17) ⟨rfl, rfl, e0⟩ (by decide) (by decide)
theorem rm30_5 (l : Launch) (Z : State) (a0 : Array Value) (hw : HW a0 Z) (ws : List Jvm.Cond)  (h0 : Heap) (n0 : Nat) (O0 : Old Z n0 h0) :
    Con l Z (⟨"java/util/Objects", "checkIndex", "(II)I"⟩ : MethodName) jdk_31_method_17_code 2 (some .int) ws ({ frames := 1, cells := 0, slots := 0, locals := 14 } : Room) #[(.int (0 : Int32)), (.int (1 : Int32))] h0 (Pur (some (.int (0 : Int32))) h0) := by
 refine own_body (plainFor_of_name own_pn10) (fun m => ef_rm30_5 m (0 : Int32) (1 : Int32)) ?_
 intro p e s m below meth c s₁ hx hby hlk hml hret hZ hown hnm X0 e0
 have N0 := Fr.nil n0
 refine Home.run X0 hx hby sg30_0_3 (pc' := 3) (L' := #[.val (.int (0 : Int32)), .val (.int (1 : Int32))]) (S' := [.null, (.int (1 : Int32)), (.int (0 : Int32))]) rfl ?_
 refine Home.st (own_pure (own_static X0 hx hZ hown (own_w207 hw) (own_w208 hw) (own_w209 hw) (own_w210 hw) (by decide) (rm31_5 l Z a0 hw []  h0 n0 O0) e0 rfl (by rw [hml]; rfl) (argsL := [(.int (0 : Int32)), (.int (1 : Int32)), .null]) (rest := []) (lenOf own_pd21 rfl) rfl rfl (W := 0) (by exact hW0) (by decide) (by decide) (hb hby d30_3) (by decide) (by decide))) fun T1 X1 e1 => ?_
 exact Home.retI X1 hx hlk hret (hb hby d30_6) ⟨rfl, rfl, e1⟩ (by decide) (by decide)
theorem rm32_5 (l : Launch) (Z : State) (a0 : Array Value) (hw : HW a0 Z) (ws : List Jvm.Cond) (o0 p2 : Addr) (k_p2 : ClassId) (p3 : Addr) (h0 : Heap) (n0 : Nat) (O0 : Old Z n0 h0) (F_elementData_o0 : Fld Z h0 o0 "java/util/ArrayList" "elementData" "[Ljava/lang/Object;" (.ref p2)) (V_p2 : Arv Z h0 p2 k_p2 (.object "java/lang/Object") (10 : Int32) [(.ref p3), .null, .null, .null, .null, .null, .null, .null, .null, .null] .null) :
    Con l Z (⟨"java/util/ArrayList", "elementData", "(I)Ljava/lang/Object;"⟩ : MethodName) jdk_38_method_18_code 2 (some (.object "java/lang/Object")) ws ({ frames := 0, cells := 0, slots := 0, locals := 0 } : Room) #[(.ref o0), (.int (0 : Int32))] h0 (Pur (some (.ref p3)) h0) := by
 refine own_body (plainFor_of_name own_pn6) (fun m => ef_rm32_5 m o0 (0 : Int32)) ?_
 intro p e s m below meth c s₁ hx hby hlk hml hret hZ hown hnm X0 e0
 have N0 := Fr.nil n0
 refine Home.run X0 hx hby sg32_0_1 (pc' := 1) (L' := #[sr o0, .val (.int (0 : Int32))]) (S' := [(.ref o0)]) rfl ?_
 refine Home.st (getF X0 hx hZ hown (host := "") (Or.inl (own_w71 hw)) Via.refl e0 F_elementData_o0 rfl rfl (hb hby d32_1)) fun T1 X1 e1 => ?_
 refine Home.run X1 hx hby sg32_4_1 (pc' := 5) (L' := #[sr o0, .val (.int (0 : Int32))]) (S' := [(.int (0 : Int32)), (.ref p2)]) rfl ?_
 obtain ⟨cl2, Ar2, q2, S2, M2, H2, G2⟩ := id V_p2
 have ib2 : ¬ ((0 : Int32) < 0 ∨ cl2.slots.size ≤ ((0 : Int32)).toNatClampNeg) := inb_of S2 ⟨by decide, by decide⟩
 refine Home.go (X1.aaload hx (j := (0 : Int32)) (v := (.ref p3)) (by rw [e1]; exact Ar2.1) (State.isArrayOf_alike hZ.alike Ar2.2.1) rfl Ar2.2.2 ib2 (Has.at H2 ib2 rfl) rfl rfl (hb hby d32_5)) ?_
 exact Home.retR X1 hx hlk hret rfl rfl (hb hby d32_6) ⟨rfl, rfl, e1⟩ (by decide) (by decide)
theorem rm29_5 (l : Launch) (Z : State) (a0 : Array Value) (hw : HW a0 Z) (ws : List Jvm.Cond) (o0 p2 : Addr) (k_p2 : ClassId) (p3 : Addr) (h0 : Heap) (n0 : Nat) (O0 : Old Z n0 h0) (F_size_o0 : Fld Z h0 o0 "java/util/ArrayList" "size" "I" (.int (1 : Int32))) (E_o0 : Exa Z h0 o0 "java/util/ArrayList") (F_elementData_o0 : Fld Z h0 o0 "java/util/ArrayList" "elementData" "[Ljava/lang/Object;" (.ref p2)) (V_p2 : Arv Z h0 p2 k_p2 (.object "java/lang/Object") (10 : Int32) [(.ref p3), .null, .null, .null, .null, .null, .null, .null, .null, .null] .null) :
    Con l Z (⟨"java/util/ArrayList", "get", "(I)Ljava/lang/Object;"⟩ : MethodName) jdk_38_method_20_code 2 (some (.object "java/lang/Object")) ws ({ frames := 2, cells := 0, slots := 0, locals := 27 } : Room) #[(.ref o0), (.int (0 : Int32))] h0 (Pur (some (.ref p3)) h0) := by
 refine own_body (plainFor_of_name own_pn6) (fun m => ef_rm29_5 m o0 (0 : Int32)) ?_
 intro p e s m below meth c s₁ hx hby hlk hml hret hZ hown hnm X0 e0
 have N0 := Fr.nil n0
 refine Home.run X0 hx hby sg29_0_2 (pc' := 2) (L' := #[sr o0, .val (.int (0 : Int32))]) (S' := [(.ref o0), (.int (0 : Int32))]) rfl ?_
 refine Home.st (getF X0 hx hZ hown (host := "") (Or.inl (own_w84 hw)) Via.refl e0 F_size_o0 rfl rfl (hb hby d29_2)) fun T1 X1 e1 => ?_
 refine Home.st (own_pure (own_static X1 hx hZ hown (own_w203 hw) (own_w204 hw) (own_w205 hw) (own_w206 hw) (by decide) (rm30_5 l Z a0 hw []  h0 n0 O0) e1 rfl (by rw [hml]; rfl) (argsL := [(.int (0 : Int32)), (.int (1 : Int32))]) (rest := []) (lenOf own_pd7 rfl) rfl rfl (W := 0) (by exact hW0) (by decide) (by decide) (hb hby d29_5) (by decide) (by decide))) fun T2 X2 e2 => ?_
 refine Home.run X2 hx hby sg29_8_3 (pc' := 11) (L' := #[sr o0, .val (.int (0 : Int32))]) (S' := [(.int (0 : Int32)), (.ref o0)]) rfl ?_
 refine Home.st (own_pure (own_virtual X2 hx hZ hown (own_w211 hw) (own_w212 hw) (notFace_of_selects (args := #[]) (mvT hZ (own_w214 hw))) (own_w214 hw) (own_w213 hw) (own_w51 hw) (own_w215 hw) (by decide) (rm32_5 l Z a0 hw [] o0 p2 k_p2 p3 h0 n0 O0 F_elementData_o0 V_p2) e2 E_o0 rfl (by rw [hml]; rfl) (argsL := [(.int (0 : Int32))]) (rest := []) (lenOf own_pd22 rfl) rfl rfl (W := 0) (by exact hW0) (by decide) (by decide) (hb hby d29_11) (by decide) (by decide))) fun T3 X3 e3 => ?_
 exact Home.retR X3 hx hlk hret rfl rfl (hb hby d29_14) ⟨rfl, rfl, e3⟩ (by decide) (by decide)
theorem own_four {a : Int32} (h : ¬ a < (0 : Int32) ∧ ¬ (3 : Int32) < a) : a = 0 ∨ a = 1 ∨ a = 2 ∨ a = 3 := by
  simp only [Int32.lt_iff_toInt_lt] at h
  have e0 : (0 : Int32).toInt = 0 := rfl
  have e1 : (1 : Int32).toInt = 1 := rfl
  have e2 : (2 : Int32).toInt = 2 := rfl
  have e3 : (3 : Int32).toInt = 3 := rfl
  rw [e0, e3] at h
  simp only [← Int32.toInt_inj, e0, e1, e2, e3]
  omega
theorem own_by {x : Int32} (h : ¬ x < (0 : Int32) ∧ ¬ (255 : Int32) < x) : ∃ n, n < 256 ∧ x = Int32.ofNat n := by
  simp only [Int32.lt_iff_toInt_lt] at h
  have e0 : (0 : Int32).toInt = 0 := rfl
  have e1 : (255 : Int32).toInt = 255 := rfl
  rw [e0, e1] at h
  refine ⟨x.toInt.toNat, by omega, ?_⟩
  rw [← Int32.toInt_inj, Int32.toInt_ofNat_small (by omega)]
  omega
theorem own_bN : ∀ n < 256, (Int32.ofNat n).toInt8.toInt32 &&& (255 : Int32) = Int32.ofNat n := by decide +kernel
theorem own_b255 {x : Int32} (h : ¬ x < (0 : Int32) ∧ ¬ (255 : Int32) < x) : x.toInt8.toInt32 &&& (255 : Int32) = x := by
  obtain ⟨n, hn, rfl⟩ := own_by h
  exact own_bN n hn
theorem own_r1 : ∀ k < 256, Int32.ofNat k % (1 : Int32) = 0 := by decide +kernel
theorem own_r2 : ∀ k < 256, Int32.ofNat k % (2 : Int32) = 0 ∨ Int32.ofNat k % (2 : Int32) = 1 := by decide +kernel
theorem own_r3 : ∀ k < 256, Int32.ofNat k % (3 : Int32) = 0 ∨ Int32.ofNat k % (3 : Int32) = 1 ∨ Int32.ofNat k % (3 : Int32) = 2 := by decide +kernel
theorem own_c0 (a b c : Int32) : f_rm18_1 a b c 0 = a := by unfold f_rm18_1; rw [if_neg (by decide), if_neg (by decide)]
theorem own_c1 (a b c : Int32) : f_rm18_1 a b c 1 = b := by unfold f_rm18_1; rw [if_neg (by decide), if_pos rfl]
theorem own_c2 (a b c : Int32) : f_rm18_1 a b c 2 = c := by unfold f_rm18_1; rw [if_pos rfl]
theorem own_eq {a b : Int32} (ha : ¬ a < (0 : Int32) ∧ ¬ (255 : Int32) < a) (hb : ¬ b < (0 : Int32) ∧ ¬ (255 : Int32) < b) : (f_rm27_0 (a.toInt8.toInt32) (b.toInt8.toInt32) = (0 : Int32)) = ¬ (a = b) := by
  apply propext
  by_cases e : a = b
  · subst e
    simp +decide [f_rm27_0, f_rm28_0]
  · have q : ¬ (a.toInt8.toInt32 = b.toInt8.toInt32) := fun q => e (by rw [← own_b255 ha, q, own_b255 hb])
    simp +decide [f_rm27_0, f_rm28_0, q, e]
theorem own_fnd (k0 k1 k2 : Addr) (c1 c2 c3 n x r : Int32) (hc1 : ¬ c1 < (0 : Int32) ∧ ¬ (255 : Int32) < c1) (hc2 : ¬ c2 < (0 : Int32) ∧ ¬ (255 : Int32) < c2) (hc3 : ¬ c3 < (0 : Int32) ∧ ¬ (255 : Int32) < c3) (hx : ¬ x < (0 : Int32) ∧ ¬ (255 : Int32) < x) (hn : ¬ n < (0 : Int32) ∧ ¬ (3 : Int32) < n) (n0 : ¬ (n = (0 : Int32))) (hr : r = f_rm18_1 c1 c2 c3 (x % n)) :
    ((if (1 : Int32) = n then (if (f_rm27_0 (c1.toInt8.toInt32) (r.toInt8.toInt32)) = (0 : Int32) then .null else (.ref k0)) else (if (2 : Int32) = n then (if (f_rm27_0 (c2.toInt8.toInt32) (r.toInt8.toInt32)) = (0 : Int32) then (if (f_rm27_0 (c1.toInt8.toInt32) (r.toInt8.toInt32)) = (0 : Int32) then .null else (.ref k0)) else (.ref k1)) else (if (f_rm27_0 (c3.toInt8.toInt32) (r.toInt8.toInt32)) = (0 : Int32) then (if (f_rm27_0 (c2.toInt8.toInt32) (r.toInt8.toInt32)) = (0 : Int32) then (if (f_rm27_0 (c1.toInt8.toInt32) (r.toInt8.toInt32)) = (0 : Int32) then .null else (.ref k0)) else (.ref k1)) else (.ref k2)))) : Value) = f_rm34_0 k0 k1 k2 (f_rm33_0 c2 c3 n r) := by
  have br : ¬ r < (0 : Int32) ∧ ¬ (255 : Int32) < r := by
    rw [hr]; unfold f_rm18_1; (repeat' split) <;> assumption
  simp only [own_eq hc1 br, own_eq hc2 br, own_eq hc3 br]
  obtain ⟨k, hk, rfl⟩ := own_by hx
  rcases own_four hn with rfl | rfl | rfl | rfl
  · exact absurd rfl n0
  · rw [own_r1 k hk, own_c0] at hr
    rw [hr]
    simp +decide [f_rm33_0, f_rm34_0]
  · rcases own_r2 k hk with e | e
    · rw [e, own_c0] at hr
      rw [hr]
      by_cases q : c2 = c1 <;> simp +decide [f_rm33_0, f_rm34_0, q]
    · rw [e, own_c1] at hr
      rw [hr]
      simp +decide [f_rm33_0, f_rm34_0]
  · rcases own_r3 k hk with e | e | e
    · rw [e, own_c0] at hr
      rw [hr]
      by_cases q : c3 = c1 <;> by_cases q' : c2 = c1 <;> simp +decide [f_rm33_0, f_rm34_0, q, q']
    · rw [e, own_c1] at hr
      rw [hr]
      by_cases q : c3 = c2 <;> simp +decide [f_rm33_0, f_rm34_0, q]
    · rw [e, own_c2] at hr
      rw [hr]
      simp +decide [f_rm33_0, f_rm34_0]
theorem own_fnn (k0 k1 k2 : Addr) (c1 c2 c3 n x r : Int32) (hc1 : ¬ c1 < (0 : Int32) ∧ ¬ (255 : Int32) < c1) (hc2 : ¬ c2 < (0 : Int32) ∧ ¬ (255 : Int32) < c2) (hc3 : ¬ c3 < (0 : Int32) ∧ ¬ (255 : Int32) < c3) (hx : ¬ x < (0 : Int32) ∧ ¬ (255 : Int32) < x) (hn : ¬ n < (0 : Int32) ∧ ¬ (3 : Int32) < n) (n0 : ¬ (n = (0 : Int32))) (hr : r = f_rm18_1 c1 c2 c3 (x % n)) :
    ¬ (((if (1 : Int32) = n then (if (f_rm27_0 (c1.toInt8.toInt32) (r.toInt8.toInt32)) = (0 : Int32) then .null else (.ref k0)) else (if (2 : Int32) = n then (if (f_rm27_0 (c2.toInt8.toInt32) (r.toInt8.toInt32)) = (0 : Int32) then (if (f_rm27_0 (c1.toInt8.toInt32) (r.toInt8.toInt32)) = (0 : Int32) then .null else (.ref k0)) else (.ref k1)) else (if (f_rm27_0 (c3.toInt8.toInt32) (r.toInt8.toInt32)) = (0 : Int32) then (if (f_rm27_0 (c2.toInt8.toInt32) (r.toInt8.toInt32)) = (0 : Int32) then (if (f_rm27_0 (c1.toInt8.toInt32) (r.toInt8.toInt32)) = (0 : Int32) then .null else (.ref k0)) else (.ref k1)) else (.ref k2)))) : Value) = .null) := by
  rw [own_fnd k0 k1 k2 c1 c2 c3 n x r hc1 hc2 hc3 hx hn n0 hr]
  unfold f_rm34_0
  (repeat' split) <;> exact fun q => nomatch q
theorem own_nn351 (b56 : Addr) (b64 : Addr) (b74 : Addr) (i0 : Int32) (i1 : Int32) (i2 : Int32) (v1 : Int32) (hv1 : v1 = (i0 &&& (255 : Int32))) (v2 : Int32) (hv2 : v2 = (((i0.toUInt32 >>> ((8 : Int32) &&& 31).toUInt32).toInt32) &&& (255 : Int32))) (v3 : Int32) (hv3 : v3 = (((i0.toUInt32 >>> ((16 : Int32) &&& 31).toUInt32).toInt32) &&& (255 : Int32))) (v4 : Int32) (hv4 : v4 = (i2 &&& (3 : Int32))) (v120 : Int32) (hv120 : v120 = ((i1 &&& (255 : Int32)) % v4)) (r1 : Int32) (hr1 : r1 = (f_rm18_1 v1 v2 v3 v120)) (c6 : ¬ (v4 = (0 : Int32))) : ¬ (((if (1 : Int32) = v4 then (if (f_rm27_0 (v1.toInt8.toInt32) (r1.toInt8.toInt32)) = (0 : Int32) then .null else (.ref b56)) else (if (2 : Int32) = v4 then (if (f_rm27_0 (v2.toInt8.toInt32) (r1.toInt8.toInt32)) = (0 : Int32) then (if (f_rm27_0 (v1.toInt8.toInt32) (r1.toInt8.toInt32)) = (0 : Int32) then .null else (.ref b56)) else (.ref b64)) else (if (f_rm27_0 (v3.toInt8.toInt32) (r1.toInt8.toInt32)) = (0 : Int32) then (if (f_rm27_0 (v2.toInt8.toInt32) (r1.toInt8.toInt32)) = (0 : Int32) then (if (f_rm27_0 (v1.toInt8.toInt32) (r1.toInt8.toInt32)) = (0 : Int32) then .null else (.ref b56)) else (.ref b64)) else (.ref b74)))) : Value) = .null) := by
  exact own_fnn b56 b64 b74 v1 v2 v3 v4 (i1 &&& (255 : Int32)) r1 (by rw [hv1]; exact bnd_and _ _ (by decide)) (by rw [hv2]; exact bnd_and _ _ (by decide)) (by rw [hv3]; exact bnd_and _ _ (by decide)) (bnd_and _ _ (by decide)) (by rw [hv4]; exact bnd_and _ _ (by decide)) c6 (by rw [hr1, hv120])
theorem own_nn352 (b56 : Addr) (b64 : Addr) (b74 : Addr) (i0 : Int32) (i1 : Int32) (i2 : Int32) (v1 : Int32) (hv1 : v1 = (i0 &&& (255 : Int32))) (v2 : Int32) (hv2 : v2 = (((i0.toUInt32 >>> ((8 : Int32) &&& 31).toUInt32).toInt32) &&& (255 : Int32))) (v3 : Int32) (hv3 : v3 = (((i0.toUInt32 >>> ((16 : Int32) &&& 31).toUInt32).toInt32) &&& (255 : Int32))) (v4 : Int32) (hv4 : v4 = (i2 &&& (3 : Int32))) (v122 : Int32) (hv122 : v122 = ((((i1.toUInt32 >>> ((8 : Int32) &&& 31).toUInt32).toInt32) &&& (255 : Int32)) % v4)) (r1 : Int32) (hr1 : r1 = (f_rm18_1 v1 v2 v3 v122)) (c6 : ¬ (v4 = (0 : Int32))) : ¬ (((if (1 : Int32) = v4 then (if (f_rm27_0 (v1.toInt8.toInt32) (r1.toInt8.toInt32)) = (0 : Int32) then .null else (.ref b56)) else (if (2 : Int32) = v4 then (if (f_rm27_0 (v2.toInt8.toInt32) (r1.toInt8.toInt32)) = (0 : Int32) then (if (f_rm27_0 (v1.toInt8.toInt32) (r1.toInt8.toInt32)) = (0 : Int32) then .null else (.ref b56)) else (.ref b64)) else (if (f_rm27_0 (v3.toInt8.toInt32) (r1.toInt8.toInt32)) = (0 : Int32) then (if (f_rm27_0 (v2.toInt8.toInt32) (r1.toInt8.toInt32)) = (0 : Int32) then (if (f_rm27_0 (v1.toInt8.toInt32) (r1.toInt8.toInt32)) = (0 : Int32) then .null else (.ref b56)) else (.ref b64)) else (.ref b74)))) : Value) = .null) := by
  exact own_fnn b56 b64 b74 v1 v2 v3 v4 (((i1.toUInt32 >>> ((8 : Int32) &&& 31).toUInt32).toInt32) &&& (255 : Int32)) r1 (by rw [hv1]; exact bnd_and _ _ (by decide)) (by rw [hv2]; exact bnd_and _ _ (by decide)) (by rw [hv3]; exact bnd_and _ _ (by decide)) (bnd_and _ _ (by decide)) (by rw [hv4]; exact bnd_and _ _ (by decide)) c6 (by rw [hr1, hv122])
theorem own_nn353 (b56 : Addr) (b64 : Addr) (b74 : Addr) (i0 : Int32) (i1 : Int32) (i2 : Int32) (v1 : Int32) (hv1 : v1 = (i0 &&& (255 : Int32))) (v2 : Int32) (hv2 : v2 = (((i0.toUInt32 >>> ((8 : Int32) &&& 31).toUInt32).toInt32) &&& (255 : Int32))) (v3 : Int32) (hv3 : v3 = (((i0.toUInt32 >>> ((16 : Int32) &&& 31).toUInt32).toInt32) &&& (255 : Int32))) (v4 : Int32) (hv4 : v4 = (i2 &&& (3 : Int32))) (v124 : Int32) (hv124 : v124 = ((((i1.toUInt32 >>> ((16 : Int32) &&& 31).toUInt32).toInt32) &&& (255 : Int32)) % v4)) (r1 : Int32) (hr1 : r1 = (f_rm18_1 v1 v2 v3 v124)) (c6 : ¬ (v4 = (0 : Int32))) : ¬ (((if (1 : Int32) = v4 then (if (f_rm27_0 (v1.toInt8.toInt32) (r1.toInt8.toInt32)) = (0 : Int32) then .null else (.ref b56)) else (if (2 : Int32) = v4 then (if (f_rm27_0 (v2.toInt8.toInt32) (r1.toInt8.toInt32)) = (0 : Int32) then (if (f_rm27_0 (v1.toInt8.toInt32) (r1.toInt8.toInt32)) = (0 : Int32) then .null else (.ref b56)) else (.ref b64)) else (if (f_rm27_0 (v3.toInt8.toInt32) (r1.toInt8.toInt32)) = (0 : Int32) then (if (f_rm27_0 (v2.toInt8.toInt32) (r1.toInt8.toInt32)) = (0 : Int32) then (if (f_rm27_0 (v1.toInt8.toInt32) (r1.toInt8.toInt32)) = (0 : Int32) then .null else (.ref b56)) else (.ref b64)) else (.ref b74)))) : Value) = .null) := by
  exact own_fnn b56 b64 b74 v1 v2 v3 v4 (((i1.toUInt32 >>> ((16 : Int32) &&& 31).toUInt32).toInt32) &&& (255 : Int32)) r1 (by rw [hv1]; exact bnd_and _ _ (by decide)) (by rw [hv2]; exact bnd_and _ _ (by decide)) (by rw [hv3]; exact bnd_and _ _ (by decide)) (bnd_and _ _ (by decide)) (by rw [hv4]; exact bnd_and _ _ (by decide)) c6 (by rw [hr1, hv124])
theorem own_sel361 (b56 : Addr) (b64 : Addr) (b74 : Addr) (i0 : Int32) (i1 : Int32) (i2 : Int32) (v1 : Int32) (hv1 : v1 = (i0 &&& (255 : Int32))) (v2 : Int32) (hv2 : v2 = (((i0.toUInt32 >>> ((8 : Int32) &&& 31).toUInt32).toInt32) &&& (255 : Int32))) (v3 : Int32) (hv3 : v3 = (((i0.toUInt32 >>> ((16 : Int32) &&& 31).toUInt32).toInt32) &&& (255 : Int32))) (v4 : Int32) (hv4 : v4 = (i2 &&& (3 : Int32))) (v120 : Int32) (hv120 : v120 = ((i1 &&& (255 : Int32)) % v4)) (r1 : Int32) (hr1 : r1 = (f_rm18_1 v1 v2 v3 v120)) (r2 : Int32) (hr2 : r2 = (f_rm33_0 v2 v3 v4 r1)) (r3 : Value) (hr3 : r3 = (f_rm34_0 b56 b64 b74 r2)) (c6 : ¬ (v4 = (0 : Int32))) : ((if (1 : Int32) = v4 then (if (f_rm27_0 (v1.toInt8.toInt32) (r1.toInt8.toInt32)) = (0 : Int32) then .null else (.ref b56)) else (if (2 : Int32) = v4 then (if (f_rm27_0 (v2.toInt8.toInt32) (r1.toInt8.toInt32)) = (0 : Int32) then (if (f_rm27_0 (v1.toInt8.toInt32) (r1.toInt8.toInt32)) = (0 : Int32) then .null else (.ref b56)) else (.ref b64)) else (if (f_rm27_0 (v3.toInt8.toInt32) (r1.toInt8.toInt32)) = (0 : Int32) then (if (f_rm27_0 (v2.toInt8.toInt32) (r1.toInt8.toInt32)) = (0 : Int32) then (if (f_rm27_0 (v1.toInt8.toInt32) (r1.toInt8.toInt32)) = (0 : Int32) then .null else (.ref b56)) else (.ref b64)) else (.ref b74)))) : Value) = r3 := by
  rw [hr3, hr2]
  exact own_fnd b56 b64 b74 v1 v2 v3 v4 (i1 &&& (255 : Int32)) r1 (by rw [hv1]; exact bnd_and _ _ (by decide)) (by rw [hv2]; exact bnd_and _ _ (by decide)) (by rw [hv3]; exact bnd_and _ _ (by decide)) (bnd_and _ _ (by decide)) (by rw [hv4]; exact bnd_and _ _ (by decide)) c6 (by rw [hr1, hv120])
theorem own_sel367 (b56 : Addr) (b64 : Addr) (b74 : Addr) (i0 : Int32) (i1 : Int32) (i2 : Int32) (v1 : Int32) (hv1 : v1 = (i0 &&& (255 : Int32))) (v2 : Int32) (hv2 : v2 = (((i0.toUInt32 >>> ((8 : Int32) &&& 31).toUInt32).toInt32) &&& (255 : Int32))) (v3 : Int32) (hv3 : v3 = (((i0.toUInt32 >>> ((16 : Int32) &&& 31).toUInt32).toInt32) &&& (255 : Int32))) (v4 : Int32) (hv4 : v4 = (i2 &&& (3 : Int32))) (v122 : Int32) (hv122 : v122 = ((((i1.toUInt32 >>> ((8 : Int32) &&& 31).toUInt32).toInt32) &&& (255 : Int32)) % v4)) (r1 : Int32) (hr1 : r1 = (f_rm18_1 v1 v2 v3 v122)) (r2 : Int32) (hr2 : r2 = (f_rm33_0 v2 v3 v4 r1)) (r3 : Value) (hr3 : r3 = (f_rm34_0 b56 b64 b74 r2)) (c6 : ¬ (v4 = (0 : Int32))) : ((if (1 : Int32) = v4 then (if (f_rm27_0 (v1.toInt8.toInt32) (r1.toInt8.toInt32)) = (0 : Int32) then .null else (.ref b56)) else (if (2 : Int32) = v4 then (if (f_rm27_0 (v2.toInt8.toInt32) (r1.toInt8.toInt32)) = (0 : Int32) then (if (f_rm27_0 (v1.toInt8.toInt32) (r1.toInt8.toInt32)) = (0 : Int32) then .null else (.ref b56)) else (.ref b64)) else (if (f_rm27_0 (v3.toInt8.toInt32) (r1.toInt8.toInt32)) = (0 : Int32) then (if (f_rm27_0 (v2.toInt8.toInt32) (r1.toInt8.toInt32)) = (0 : Int32) then (if (f_rm27_0 (v1.toInt8.toInt32) (r1.toInt8.toInt32)) = (0 : Int32) then .null else (.ref b56)) else (.ref b64)) else (.ref b74)))) : Value) = r3 := by
  rw [hr3, hr2]
  exact own_fnd b56 b64 b74 v1 v2 v3 v4 (((i1.toUInt32 >>> ((8 : Int32) &&& 31).toUInt32).toInt32) &&& (255 : Int32)) r1 (by rw [hv1]; exact bnd_and _ _ (by decide)) (by rw [hv2]; exact bnd_and _ _ (by decide)) (by rw [hv3]; exact bnd_and _ _ (by decide)) (bnd_and _ _ (by decide)) (by rw [hv4]; exact bnd_and _ _ (by decide)) c6 (by rw [hr1, hv122])
theorem own_sel373 (b56 : Addr) (b64 : Addr) (b74 : Addr) (i0 : Int32) (i1 : Int32) (i2 : Int32) (v1 : Int32) (hv1 : v1 = (i0 &&& (255 : Int32))) (v2 : Int32) (hv2 : v2 = (((i0.toUInt32 >>> ((8 : Int32) &&& 31).toUInt32).toInt32) &&& (255 : Int32))) (v3 : Int32) (hv3 : v3 = (((i0.toUInt32 >>> ((16 : Int32) &&& 31).toUInt32).toInt32) &&& (255 : Int32))) (v4 : Int32) (hv4 : v4 = (i2 &&& (3 : Int32))) (v124 : Int32) (hv124 : v124 = ((((i1.toUInt32 >>> ((16 : Int32) &&& 31).toUInt32).toInt32) &&& (255 : Int32)) % v4)) (r1 : Int32) (hr1 : r1 = (f_rm18_1 v1 v2 v3 v124)) (r2 : Int32) (hr2 : r2 = (f_rm33_0 v2 v3 v4 r1)) (r3 : Value) (hr3 : r3 = (f_rm34_0 b56 b64 b74 r2)) (c6 : ¬ (v4 = (0 : Int32))) : ((if (1 : Int32) = v4 then (if (f_rm27_0 (v1.toInt8.toInt32) (r1.toInt8.toInt32)) = (0 : Int32) then .null else (.ref b56)) else (if (2 : Int32) = v4 then (if (f_rm27_0 (v2.toInt8.toInt32) (r1.toInt8.toInt32)) = (0 : Int32) then (if (f_rm27_0 (v1.toInt8.toInt32) (r1.toInt8.toInt32)) = (0 : Int32) then .null else (.ref b56)) else (.ref b64)) else (if (f_rm27_0 (v3.toInt8.toInt32) (r1.toInt8.toInt32)) = (0 : Int32) then (if (f_rm27_0 (v2.toInt8.toInt32) (r1.toInt8.toInt32)) = (0 : Int32) then (if (f_rm27_0 (v1.toInt8.toInt32) (r1.toInt8.toInt32)) = (0 : Int32) then .null else (.ref b56)) else (.ref b64)) else (.ref b74)))) : Value) = r3 := by
  rw [hr3, hr2]
  exact own_fnd b56 b64 b74 v1 v2 v3 v4 (((i1.toUInt32 >>> ((16 : Int32) &&& 31).toUInt32).toInt32) &&& (255 : Int32)) r1 (by rw [hv1]; exact bnd_and _ _ (by decide)) (by rw [hv2]; exact bnd_and _ _ (by decide)) (by rw [hv3]; exact bnd_and _ _ (by decide)) (bnd_and _ _ (by decide)) (by rw [hv4]; exact bnd_and _ _ (by decide)) c6 (by rw [hr1, hv124])
theorem rm0 (l : Launch) (Z : State) (a0 : Array Value) (hw : HW a0 Z) (ws : List Jvm.Cond) (i0 i1 i2 sv_COMPACT_STRINGS : Int32) (sv_DEFAULTCAPACITY_EMPTY_ELEMENTDATA : Addr) (kde : ClassId) (h0 : Heap) (n0 : Nat) (O0 : Old Z n0 h0) (S_COMPACT_STRINGS : Sta Z Z.heap "java/lang/String" "COMPACT_STRINGS" "Z" (.int sv_COMPACT_STRINGS)) (hCS : ¬ (sv_COMPACT_STRINGS = (0 : Int32))) (S_DEFAULTCAPACITY_EMPTY_ELEMENTDATA : Sta Z Z.heap "java/util/ArrayList" "DEFAULTCAPACITY_EMPTY_ELEMENTDATA" "[Ljava/lang/Object;" (.ref sv_DEFAULTCAPACITY_EMPTY_ELEMENTDATA)) (V_de : Arv Z Z.heap sv_DEFAULTCAPACITY_EMPTY_ELEMENTDATA kde (.object "java/lang/Object") (0 : Int32) [] .null) :
    Con l Z x code maxLocals ret ws room_1 #[(.int i0), (.int i1), (.int i2)] h0 (fun v h L => v = some (.int (1 : Int32)) ∧ Fr n0 L) := by
 refine own_body (plainFor_of_name own_pn7) (fun m => ef_rm0 m i0 i1 i2) ?_
 intro p e s m below meth c s₁ hx hby hlk hml hret hZ hown hnm X0 e0
 have N0 := Fr.nil n0
 refine Home.run X0 hx hby sg0_0_4 (pc' := 6) (L' := #[.val (.int i0), .val (.int i1), .val (.int i2), .unset, .unset, .unset, .unset, .unset, .unset, .unset, .unset, .unset, .unset, .unset, .unset, .unset, .unset, .unset, .unset, .unset]) (S' := [(.int ((i0 &&& (255 : Int32)).toUInt32.toUInt16.toUInt32.toInt32))]) rfl ?_
 rw [i2c_id (bnd_and i0 (255 : Int32) (by decide)) (by decide +kernel) (by decide +kernel)]
 refine Home.run X0 hx hby sg0_6_1 (pc' := 7) (L' := #[.val (.int i0), .val (.int i1), .val (.int i2), .val (.int (i0 &&& (255 : Int32))), .unset, .unset, .unset, .unset, .unset, .unset, .unset, .unset, .unset, .unset, .unset, .unset, .unset, .unset, .unset, .unset]) (S' := []) rfl ?_
 obtain ⟨v1, hv1⟩ : ∃ z, z = (i0 &&& (255 : Int32)) := ⟨_, rfl⟩
 rw [← hv1]
 have bv1 : ¬ v1 < (0 : Int32) ∧ ¬ (255 : Int32) < v1 := by rw [hv1]; exact (bnd_and i0 (255 : Int32) (by decide))
 refine Home.run X0 hx hby sg0_7_6 (pc' := 16) (L' := #[.val (.int i0), .val (.int i1), .val (.int i2), .val (.int v1), .unset, .unset, .unset, .unset, .unset, .unset, .unset, .unset, .unset, .unset, .unset, .unset, .unset, .unset, .unset, .unset]) (S' := [(.int ((((i0.toUInt32 >>> ((8 : Int32) &&& 31).toUInt32).toInt32) &&& (255 : Int32)).toUInt32.toUInt16.toUInt32.toInt32))]) rfl ?_
 rw [i2c_id (bnd_and ((i0.toUInt32 >>> ((8 : Int32) &&& 31).toUInt32).toInt32) (255 : Int32) (by decide)) (by decide +kernel) (by decide +kernel)]
 refine Home.run X0 hx hby sg0_16_1 (pc' := 18) (L' := #[.val (.int i0), .val (.int i1), .val (.int i2), .val (.int v1), .val (.int (((i0.toUInt32 >>> ((8 : Int32) &&& 31).toUInt32).toInt32) &&& (255 : Int32))), .unset, .unset, .unset, .unset, .unset, .unset, .unset, .unset, .unset, .unset, .unset, .unset, .unset, .unset, .unset]) (S' := []) rfl ?_
 obtain ⟨v2, hv2⟩ : ∃ z, z = (((i0.toUInt32 >>> ((8 : Int32) &&& 31).toUInt32).toInt32) &&& (255 : Int32)) := ⟨_, rfl⟩
 rw [← hv2]
 have bv2 : ¬ v2 < (0 : Int32) ∧ ¬ (255 : Int32) < v2 := by rw [hv2]; exact (bnd_and ((i0.toUInt32 >>> ((8 : Int32) &&& 31).toUInt32).toInt32) (255 : Int32) (by decide))
 refine Home.run X0 hx hby sg0_18_6 (pc' := 27) (L' := #[.val (.int i0), .val (.int i1), .val (.int i2), .val (.int v1), .val (.int v2), .unset, .unset, .unset, .unset, .unset, .unset, .unset, .unset, .unset, .unset, .unset, .unset, .unset, .unset, .unset]) (S' := [(.int ((((i0.toUInt32 >>> ((16 : Int32) &&& 31).toUInt32).toInt32) &&& (255 : Int32)).toUInt32.toUInt16.toUInt32.toInt32))]) rfl ?_
 rw [i2c_id (bnd_and ((i0.toUInt32 >>> ((16 : Int32) &&& 31).toUInt32).toInt32) (255 : Int32) (by decide)) (by decide +kernel) (by decide +kernel)]
 refine Home.run X0 hx hby sg0_27_1 (pc' := 29) (L' := #[.val (.int i0), .val (.int i1), .val (.int i2), .val (.int v1), .val (.int v2), .val (.int (((i0.toUInt32 >>> ((16 : Int32) &&& 31).toUInt32).toInt32) &&& (255 : Int32))), .unset, .unset, .unset, .unset, .unset, .unset, .unset, .unset, .unset, .unset, .unset, .unset, .unset, .unset]) (S' := []) rfl ?_
 obtain ⟨v3, hv3⟩ : ∃ z, z = (((i0.toUInt32 >>> ((16 : Int32) &&& 31).toUInt32).toInt32) &&& (255 : Int32)) := ⟨_, rfl⟩
 rw [← hv3]
 have bv3 : ¬ v3 < (0 : Int32) ∧ ¬ (255 : Int32) < v3 := by rw [hv3]; exact (bnd_and ((i0.toUInt32 >>> ((16 : Int32) &&& 31).toUInt32).toInt32) (255 : Int32) (by decide))
 refine Home.run X0 hx hby sg0_29_4 (pc' := 34) (L' := #[.val (.int i0), .val (.int i1), .val (.int i2), .val (.int v1), .val (.int v2), .val (.int v3), .val (.int (i2 &&& (3 : Int32))), .unset, .unset, .unset, .unset, .unset, .unset, .unset, .unset, .unset, .unset, .unset, .unset, .unset]) (S' := []) rfl ?_
 obtain ⟨v4, hv4⟩ : ∃ z, z = (i2 &&& (3 : Int32)) := ⟨_, rfl⟩
 rw [← hv4]
 have bv4 : ¬ v4 < (0 : Int32) ∧ ¬ (3 : Int32) < v4 := by rw [hv4]; exact (bnd_and i2 (3 : Int32) (by decide))
 refine Home.run X0 hx hby sg0_34_6 (pc' := 41) (L' := #[.val (.int i0), .val (.int i1), .val (.int i2), .val (.int v1), .val (.int v2), .val (.int v3), .val (.int v4), .val (.int (((i2.toUInt32 >>> ((2 : Int32) &&& 31).toUInt32).toInt32) &&& (3 : Int32))), .unset, .unset, .unset, .unset, .unset, .unset, .unset, .unset, .unset, .unset, .unset, .unset]) (S' := []) rfl ?_
 obtain ⟨v5, hv5⟩ : ∃ z, z = (((i2.toUInt32 >>> ((2 : Int32) &&& 31).toUInt32).toInt32) &&& (3 : Int32)) := ⟨_, rfl⟩
 rw [← hv5]
 have bv5 : ¬ v5 < (0 : Int32) ∧ ¬ (3 : Int32) < v5 := by rw [hv5]; exact (bnd_and ((i2.toUInt32 >>> ((2 : Int32) &&& 31).toUInt32).toInt32) (3 : Int32) (by decide))
 refine Home.run X0 hx hby sg0_41_1 (pc' := 43) (L' := #[.val (.int i0), .val (.int i1), .val (.int i2), .val (.int v1), .val (.int v2), .val (.int v3), .val (.int v4), .val (.int v5), .unset, .unset, .unset, .unset, .unset, .unset, .unset, .unset, .unset, .unset, .unset, .unset]) (S' := [(.int v4)]) rfl ?_
 by_cases c6 : v4 = (0 : Int32)
 ·
  refine Home.go (fun _ => XS.ifNo X0.here hx rfl (hb hby at_43) rfl ((if0 _ _).trans (teq c6).2)) ?_
  have bd7 : ¬ v4 < (0 : Int32) ∧ ¬ (0 : Int32) < v4 := ⟨(bnd_eql c6), (bnd_eqr c6)⟩
  have fx8 : v4 = (0 : Int32) := bnd_fix bd7
  try rw [fx8]
  show Home s₁ (mkF m 46 #[.val (.int i0), .val (.int i1), .val (.int i2), .val (.int v1), .val (.int v2), .val (.int v3), .val (.int (0 : Int32)), .val (.int v5), .unset, .unset, .unset, .unset, .unset, .unset, .unset, .unset, .unset, .unset, .unset, .unset] [])
  refine Home.run X0 hx hby sg0_46_2 (pc' := 49) (L' := #[.val (.int i0), .val (.int i1), .val (.int i2), .val (.int v1), .val (.int v2), .val (.int v3), .val (.int (0 : Int32)), .val (.int (0 : Int32)), .unset, .unset, .unset, .unset, .unset, .unset, .unset, .unset, .unset, .unset, .unset, .unset]) (S' := []) rfl ?_
  refine Home.nw (own_newO X0 hx hZ hown (own_w0 hw) (own_w1 hw) (own_w2 hw) e0 rfl (hb hby at_49) (by decide) (by decide)) fun T10 h10 b10 g10 X10 e10 E10 A10 D10 => ?_
  have g_b10 : n0 ≤ b10 := Nat.le_trans (Old.le O0) (Nat.le_of_eq g10.symm)
  have F_name_b10 : Fld Z h10 b10 "com/example/wary_meter/warymeter/Column" "name" "Ljava/lang/String;" .null := D10 (Or.inr (own_w42 hw)) (ty := (.object "java/lang/String")) (by decide)
  have F_value_b10 : Fld Z h10 b10 "com/example/wary_meter/warymeter/Column" "value" "Ljava/util/function/Function;" .null := D10 (Or.inr (own_w44 hw)) (ty := (.object "java/util/function/Function")) (by decide)
  have F_key_b10 : Fld Z h10 b10 "com/example/wary_meter/warymeter/Column" "key" "Ljava/util/function/Function;" .null := D10 (Or.inr (own_w46 hw)) (ty := (.object "java/util/function/Function")) (by decide)
  have F_text_b10 : Fld Z h10 b10 "com/example/wary_meter/warymeter/Column" "text" "Ljava/util/function/Function;" .null := D10 (Or.inr (own_w48 hw)) (ty := (.object "java/util/function/Function")) (by decide)
  have O10 := O0.ext E10
  have K10 : Keep h0 h10 ([] : List Addr) := Keep.ext (Keep.refl h0 ([] : List Addr)) E10
  refine Home.run X10 hx hby sg0_52_2 (pc' := 54) (L' := #[.val (.int i0), .val (.int i1), .val (.int i2), .val (.int v1), .val (.int v2), .val (.int v3), .val (.int (0 : Int32)), .val (.int (0 : Int32)), .unset, .unset, .unset, .unset, .unset, .unset, .unset, .unset, .unset, .unset, .unset, .unset]) (S' := [(.int v1), (.ref b10), (.ref b10)]) rfl ?_
  refine Home.call (own_static X10 hx hZ hown (own_w3 hw) (own_w4 hw) (own_w5 hw) (own_w6 hw) (by decide) (rm1_0 l Z a0 hw [] v1 sv_COMPACT_STRINGS h10 n0 O10 bv1 S_COMPACT_STRINGS hCS) e10 rfl (by rw [hml]; rfl) (argsL := [(.int v1)]) (rest := [(.ref b10), (.ref b10)]) (lenOf own_pd3 rfl) rfl rfl (W := 2) (by exact hW0) (by decide) (by decide) (hb hby at_54) (by decide) (by decide)) ?_
  rintro _ T11 L11 X11 ⟨b3_11, b1_4_11, k1_4_11, rfl, N11q, sz_b3_11, sz_b1_4_11, K11q, P11_0, P11_1, P11_2, P11_3⟩
  have g_b3_11 : n0 ≤ b3_11 := Nat.le_trans (Old.le O10) sz_b3_11
  have g_b1_4_11 : n0 ≤ b1_4_11 := Nat.le_trans (Old.le O10) sz_b1_4_11
  have O11 := Old.keep O10 K11q all0
  have K11 : Keep h0 T11.heap ([] : List Addr) := Keep.trans K10 K11q all0
  have N11 := Fr.app N0 N11q
  show Home T11 (mkF m 57 #[.val (.int i0), .val (.int i1), .val (.int i2), .val (.int v1), .val (.int v2), .val (.int v3), .val (.int (0 : Int32)), .val (.int (0 : Int32)), .unset, .unset, .unset, .unset, .unset, .unset, .unset, .unset, .unset, .unset, .unset, .unset] [(.ref b3_11), (.ref b10), (.ref b10)])
  refine Home.run X11 hx hby sg0_57_1 (pc' := 58) (L' := #[.val (.int i0), .val (.int i1), .val (.int i2), .val (.int v1), .val (.int v2), .val (.int v3), .val (.int (0 : Int32)), .val (.int (0 : Int32)), .unset, .unset, .unset, .unset, .unset, .unset, .unset, .unset, .unset, .unset, .unset, .unset]) (S' := [.null, (.ref b3_11), (.ref b10), (.ref b10)]) rfl ?_
  have q12 := (A10.keep K11q)
  have q13 := (F_name_b10.keep K11q nin0)
  have q14 := (F_value_b10.keep K11q nin0)
  have q15 := (F_key_b10.keep K11q nin0)
  have q16 := (F_text_b10.keep K11q nin0)
  refine Home.call (own_special X11 hx hZ hown rfl (own_w29 hw) (own_w30 hw) (own_w2 hw) (own_w31 hw) (by decide) (rm6_0 l Z a0 hw [] b10 b3_11 T11.heap n0 O11 q12 q13 q14 q15 q16 g_b10) rfl rfl (by rw [hml]; rfl) (a := b10) (argsL := [(.ref b3_11), .null]) (rest := [(.ref b10)]) (lenOf own_pd6 rfl) rfl rfl (W := 1) (by exact hW0) (by decide) (by decide) (hb hby at_58) (by decide) (by decide)) ?_
  rintro _ T17 L17 X17 ⟨rfl, N17q, K17q, P17_0, P17_1, P17_2, P17_3, P17_4⟩
  have O17 := Old.keep O11 K17q (allS g_b10 all0)
  have K17 : Keep h0 T17.heap ([] : List Addr) := Keep.trans K11 K17q (allS (Or.inr (Nat.le_trans (Nat.le_refl _) (Nat.le_of_eq g10.symm))) all0)
  have N17 := Fr.app N11 N17q
  refine Home.run X17 hx hby sg0_61_1 (pc' := 63) (L' := #[.val (.int i0), .val (.int i1), .val (.int i2), .val (.int v1), .val (.int v2), .val (.int v3), .val (.int (0 : Int32)), .val (.int (0 : Int32)), sr b10, .unset, .unset, .unset, .unset, .unset, .unset, .unset, .unset, .unset, .unset, .unset]) (S' := []) rfl ?_
  refine Home.nw (own_newO X17 hx hZ hown (own_w0 hw) (own_w1 hw) (own_w2 hw) rfl rfl (hb hby at_63) (by decide) (by decide)) fun T18 h18 b18 g18 X18 e18 E18 A18 D18 => ?_
  have g_b18 : n0 ≤ b18 := Nat.le_trans (Old.le O17) (Nat.le_of_eq g18.symm)
  have F_name_b18 : Fld Z h18 b18 "com/example/wary_meter/warymeter/Column" "name" "Ljava/lang/String;" .null := D18 (Or.inr (own_w42 hw)) (ty := (.object "java/lang/String")) (by decide)
  have F_value_b18 : Fld Z h18 b18 "com/example/wary_meter/warymeter/Column" "value" "Ljava/util/function/Function;" .null := D18 (Or.inr (own_w44 hw)) (ty := (.object "java/util/function/Function")) (by decide)
  have F_key_b18 : Fld Z h18 b18 "com/example/wary_meter/warymeter/Column" "key" "Ljava/util/function/Function;" .null := D18 (Or.inr (own_w46 hw)) (ty := (.object "java/util/function/Function")) (by decide)
  have F_text_b18 : Fld Z h18 b18 "com/example/wary_meter/warymeter/Column" "text" "Ljava/util/function/Function;" .null := D18 (Or.inr (own_w48 hw)) (ty := (.object "java/util/function/Function")) (by decide)
  have O18 := O17.ext E18
  have K18 : Keep h0 h18 ([] : List Addr) := Keep.ext K17 E18
  show Home T18 (mkF m 66 #[.val (.int i0), .val (.int i1), .val (.int i2), .val (.int v1), .val (.int v2), .val (.int v3), .val (.int (0 : Int32)), .val (.int (0 : Int32)), sr b10, .unset, .unset, .unset, .unset, .unset, .unset, .unset, .unset, .unset, .unset, .unset] [(.ref b18)])
  refine Home.run X18 hx hby sg0_66_2 (pc' := 69) (L' := #[.val (.int i0), .val (.int i1), .val (.int i2), .val (.int v1), .val (.int v2), .val (.int v3), .val (.int (0 : Int32)), .val (.int (0 : Int32)), sr b10, .unset, .unset, .unset, .unset, .unset, .unset, .unset, .unset, .unset, .unset, .unset]) (S' := [(.int v2), (.ref b18), (.ref b18)]) rfl ?_
  refine Home.call (own_static X18 hx hZ hown (own_w3 hw) (own_w4 hw) (own_w5 hw) (own_w6 hw) (by decide) (rm1_0 l Z a0 hw [] v2 sv_COMPACT_STRINGS h18 n0 O18 bv2 S_COMPACT_STRINGS hCS) e18 rfl (by rw [hml]; rfl) (argsL := [(.int v2)]) (rest := [(.ref b18), (.ref b18)]) (lenOf own_pd3 rfl) rfl rfl (W := 2) (by exact hW0) (by decide) (by decide) (hb hby at_69) (by decide) (by decide)) ?_
  rintro _ T19 L19 X19 ⟨b3_19, b1_4_19, k1_4_19, rfl, N19q, sz_b3_19, sz_b1_4_19, K19q, P19_0, P19_1, P19_2, P19_3⟩
  have g_b3_19 : n0 ≤ b3_19 := Nat.le_trans (Old.le O18) sz_b3_19
  have g_b1_4_19 : n0 ≤ b1_4_19 := Nat.le_trans (Old.le O18) sz_b1_4_19
  have O19 := Old.keep O18 K19q all0
  have K19 : Keep h0 T19.heap ([] : List Addr) := Keep.trans K18 K19q all0
  have N19 := Fr.app N17 N19q
  refine Home.run X19 hx hby sg0_72_1 (pc' := 73) (L' := #[.val (.int i0), .val (.int i1), .val (.int i2), .val (.int v1), .val (.int v2), .val (.int v3), .val (.int (0 : Int32)), .val (.int (0 : Int32)), sr b10, .unset, .unset, .unset, .unset, .unset, .unset, .unset, .unset, .unset, .unset, .unset]) (S' := [.null, (.ref b3_19), (.ref b18), (.ref b18)]) rfl ?_
  have q20 := (A18.keep K19q)
  have q21 := (F_name_b18.keep K19q nin0)
  have q22 := (F_value_b18.keep K19q nin0)
  have q23 := (F_key_b18.keep K19q nin0)
  have q24 := (F_text_b18.keep K19q nin0)
  refine Home.call (own_special X19 hx hZ hown rfl (own_w29 hw) (own_w30 hw) (own_w2 hw) (own_w31 hw) (by decide) (rm6_0 l Z a0 hw [] b18 b3_19 T19.heap n0 O19 q20 q21 q22 q23 q24 g_b18) rfl rfl (by rw [hml]; rfl) (a := b18) (argsL := [(.ref b3_19), .null]) (rest := [(.ref b18)]) (lenOf own_pd6 rfl) rfl rfl (W := 1) (by exact hW0) (by decide) (by decide) (hb hby at_73) (by decide) (by decide)) ?_
  rintro _ T25 L25 X25 ⟨rfl, N25q, K25q, P25_0, P25_1, P25_2, P25_3, P25_4⟩
  have le26 : h0.size ≤ T11.heap.size := Nat.le_trans E10.1 K11q.1
  have le27 : h0.size ≤ T17.heap.size := Nat.le_trans le26 K17q.1
  have O25 := Old.keep O19 K25q (allS g_b18 all0)
  have K25 : Keep h0 T25.heap ([] : List Addr) := Keep.trans K19 K25q (allS (Or.inr (Nat.le_trans le27 (Nat.le_of_eq g18.symm))) all0)
  have N25 := Fr.app N19 N25q
  show Home T25 (mkF m 76 #[.val (.int i0), .val (.int i1), .val (.int i2), .val (.int v1), .val (.int v2), .val (.int v3), .val (.int (0 : Int32)), .val (.int (0 : Int32)), sr b10, .unset, .unset, .unset, .unset, .unset, .unset, .unset, .unset, .unset, .unset, .unset] [(.ref b18)])
  refine Home.run X25 hx hby sg0_76_1 (pc' := 78) (L' := #[.val (.int i0), .val (.int i1), .val (.int i2), .val (.int v1), .val (.int v2), .val (.int v3), .val (.int (0 : Int32)), .val (.int (0 : Int32)), sr b10, sr b18, .unset, .unset, .unset, .unset, .unset, .unset, .unset, .unset, .unset, .unset]) (S' := []) rfl ?_
  refine Home.nw (own_newO X25 hx hZ hown (own_w0 hw) (own_w1 hw) (own_w2 hw) rfl rfl (hb hby at_78) (by decide) (by decide)) fun T28 h28 b28 g28 X28 e28 E28 A28 D28 => ?_
  have g_b28 : n0 ≤ b28 := Nat.le_trans (Old.le O25) (Nat.le_of_eq g28.symm)
  have F_name_b28 : Fld Z h28 b28 "com/example/wary_meter/warymeter/Column" "name" "Ljava/lang/String;" .null := D28 (Or.inr (own_w42 hw)) (ty := (.object "java/lang/String")) (by decide)
  have F_value_b28 : Fld Z h28 b28 "com/example/wary_meter/warymeter/Column" "value" "Ljava/util/function/Function;" .null := D28 (Or.inr (own_w44 hw)) (ty := (.object "java/util/function/Function")) (by decide)
  have F_key_b28 : Fld Z h28 b28 "com/example/wary_meter/warymeter/Column" "key" "Ljava/util/function/Function;" .null := D28 (Or.inr (own_w46 hw)) (ty := (.object "java/util/function/Function")) (by decide)
  have F_text_b28 : Fld Z h28 b28 "com/example/wary_meter/warymeter/Column" "text" "Ljava/util/function/Function;" .null := D28 (Or.inr (own_w48 hw)) (ty := (.object "java/util/function/Function")) (by decide)
  have O28 := O25.ext E28
  have K28 : Keep h0 h28 ([] : List Addr) := Keep.ext K25 E28
  refine Home.run X28 hx hby sg0_81_2 (pc' := 84) (L' := #[.val (.int i0), .val (.int i1), .val (.int i2), .val (.int v1), .val (.int v2), .val (.int v3), .val (.int (0 : Int32)), .val (.int (0 : Int32)), sr b10, sr b18, .unset, .unset, .unset, .unset, .unset, .unset, .unset, .unset, .unset, .unset]) (S' := [(.int v3), (.ref b28), (.ref b28)]) rfl ?_
  refine Home.call (own_static X28 hx hZ hown (own_w3 hw) (own_w4 hw) (own_w5 hw) (own_w6 hw) (by decide) (rm1_0 l Z a0 hw [] v3 sv_COMPACT_STRINGS h28 n0 O28 bv3 S_COMPACT_STRINGS hCS) e28 rfl (by rw [hml]; rfl) (argsL := [(.int v3)]) (rest := [(.ref b28), (.ref b28)]) (lenOf own_pd3 rfl) rfl rfl (W := 2) (by exact hW0) (by decide) (by decide) (hb hby at_84) (by decide) (by decide)) ?_
  rintro _ T29 L29 X29 ⟨b3_29, b1_4_29, k1_4_29, rfl, N29q, sz_b3_29, sz_b1_4_29, K29q, P29_0, P29_1, P29_2, P29_3⟩
  have g_b3_29 : n0 ≤ b3_29 := Nat.le_trans (Old.le O28) sz_b3_29
  have g_b1_4_29 : n0 ≤ b1_4_29 := Nat.le_trans (Old.le O28) sz_b1_4_29
  have O29 := Old.keep O28 K29q all0
  have K29 : Keep h0 T29.heap ([] : List Addr) := Keep.trans K28 K29q all0
  have N29 := Fr.app N25 N29q
  show Home T29 (mkF m 87 #[.val (.int i0), .val (.int i1), .val (.int i2), .val (.int v1), .val (.int v2), .val (.int v3), .val (.int (0 : Int32)), .val (.int (0 : Int32)), sr b10, sr b18, .unset, .unset, .unset, .unset, .unset, .unset, .unset, .unset, .unset, .unset] [(.ref b3_29), (.ref b28), (.ref b28)])
  refine Home.run X29 hx hby sg0_87_1 (pc' := 88) (L' := #[.val (.int i0), .val (.int i1), .val (.int i2), .val (.int v1), .val (.int v2), .val (.int v3), .val (.int (0 : Int32)), .val (.int (0 : Int32)), sr b10, sr b18, .unset, .unset, .unset, .unset, .unset, .unset, .unset, .unset, .unset, .unset]) (S' := [.null, (.ref b3_29), (.ref b28), (.ref b28)]) rfl ?_
  have q30 := (A28.keep K29q)
  have q31 := (F_name_b28.keep K29q nin0)
  have q32 := (F_value_b28.keep K29q nin0)
  have q33 := (F_key_b28.keep K29q nin0)
  have q34 := (F_text_b28.keep K29q nin0)
  refine Home.call (own_special X29 hx hZ hown rfl (own_w29 hw) (own_w30 hw) (own_w2 hw) (own_w31 hw) (by decide) (rm6_0 l Z a0 hw [] b28 b3_29 T29.heap n0 O29 q30 q31 q32 q33 q34 g_b28) rfl rfl (by rw [hml]; rfl) (a := b28) (argsL := [(.ref b3_29), .null]) (rest := [(.ref b28)]) (lenOf own_pd6 rfl) rfl rfl (W := 1) (by exact hW0) (by decide) (by decide) (hb hby at_88) (by decide) (by decide)) ?_
  rintro _ T35 L35 X35 ⟨rfl, N35q, K35q, P35_0, P35_1, P35_2, P35_3, P35_4⟩
  have le36 : h0.size ≤ h18.size := Nat.le_trans le27 E18.1
  have le37 : h0.size ≤ T19.heap.size := Nat.le_trans le36 K19q.1
  have le38 : h0.size ≤ T25.heap.size := Nat.le_trans le37 K25q.1
  have O35 := Old.keep O29 K35q (allS g_b28 all0)
  have K35 : Keep h0 T35.heap ([] : List Addr) := Keep.trans K29 K35q (allS (Or.inr (Nat.le_trans le38 (Nat.le_of_eq g28.symm))) all0)
  have N35 := Fr.app N29 N35q
  show Home T35 (mkF m 91 #[.val (.int i0), .val (.int i1), .val (.int i2), .val (.int v1), .val (.int v2), .val (.int v3), .val (.int (0 : Int32)), .val (.int (0 : Int32)), sr b10, sr b18, .unset, .unset, .unset, .unset, .unset, .unset, .unset, .unset, .unset, .unset] [(.ref b28)])
  refine Home.run X35 hx hby sg0_91_1 (pc' := 93) (L' := #[.val (.int i0), .val (.int i1), .val (.int i2), .val (.int v1), .val (.int v2), .val (.int v3), .val (.int (0 : Int32)), .val (.int (0 : Int32)), sr b10, sr b18, sr b28, .unset, .unset, .unset, .unset, .unset, .unset, .unset, .unset, .unset]) (S' := []) rfl ?_
  refine Home.nw (own_newO X35 hx hZ hown (own_w49 hw) (own_w50 hw) (own_w51 hw) rfl rfl (hb hby at_93) (by decide) (by decide)) fun T39 h39 b39 g39 X39 e39 E39 A39 D39 => ?_
  have g_b39 : n0 ≤ b39 := Nat.le_trans (Old.le O35) (Nat.le_of_eq g39.symm)
  have F_modCount_b39 : Fld Z h39 b39 "java/util/AbstractList" "modCount" "I" (.int (0 : Int32)) := D39 (Or.inl (own_w69 hw)) (ty := .int) (by decide)
  have F_elementData_b39 : Fld Z h39 b39 "java/util/ArrayList" "elementData" "[Ljava/lang/Object;" .null := D39 (Or.inl (own_w72 hw)) (ty := (.array (.object "java/lang/Object"))) (by decide)
  have F_size_b39 : Fld Z h39 b39 "java/util/ArrayList" "size" "I" (.int (0 : Int32)) := D39 (Or.inl (own_w85 hw)) (ty := .int) (by decide)
  have O39 := O35.ext E39
  have K39 : Keep h0 h39 ([] : List Addr) := Keep.ext K35 E39
  refine Home.run X39 hx hby sg0_96_1 (pc' := 97) (L' := #[.val (.int i0), .val (.int i1), .val (.int i2), .val (.int v1), .val (.int v2), .val (.int v3), .val (.int (0 : Int32)), .val (.int (0 : Int32)), sr b10, sr b18, sr b28, .unset, .unset, .unset, .unset, .unset, .unset, .unset, .unset, .unset]) (S' := [(.ref b39), (.ref b39)]) rfl ?_
  refine Home.call (own_special X39 hx hZ hown rfl (own_w52 hw) (own_w53 hw) (own_w51 hw) (own_w54 hw) (by decide) (rm9_0 l Z a0 hw [] b39 sv_DEFAULTCAPACITY_EMPTY_ELEMENTDATA h39 n0 O39 A39 F_modCount_b39 F_elementData_b39 F_size_b39 g_b39 S_DEFAULTCAPACITY_EMPTY_ELEMENTDATA) e39 rfl (by rw [hml]; rfl) (a := b39) (argsL := []) (rest := [(.ref b39)]) (lenOf own_pd4 rfl) rfl rfl (W := 1) (by exact hW0) (by decide) (by decide) (hb hby at_97) (by decide) (by decide)) ?_
  rintro _ T40 L40 X40 ⟨rfl, N40q, K40q, P40_0, P40_1, P40_2, P40_3⟩
  have le41 : h0.size ≤ h28.size := Nat.le_trans le38 E28.1
  have le42 : h0.size ≤ T29.heap.size := Nat.le_trans le41 K29q.1
  have le43 : h0.size ≤ T35.heap.size := Nat.le_trans le42 K35q.1
  have O40 := Old.keep O39 K40q (allS g_b39 all0)
  have K40 : Keep h0 T40.heap ([] : List Addr) := Keep.trans K39 K40q (allS (Or.inr (Nat.le_trans le43 (Nat.le_of_eq g39.symm))) all0)
  have N40 := Fr.app N35 N40q
  show Home T40 (mkF m 100 #[.val (.int i0), .val (.int i1), .val (.int i2), .val (.int v1), .val (.int v2), .val (.int v3), .val (.int (0 : Int32)), .val (.int (0 : Int32)), sr b10, sr b18, sr b28, .unset, .unset, .unset, .unset, .unset, .unset, .unset, .unset, .unset] [(.ref b39)])
  refine Home.run X40 hx hby sg0_100_1 (pc' := 102) (L' := #[.val (.int i0), .val (.int i1), .val (.int i2), .val (.int v1), .val (.int v2), .val (.int v3), .val (.int (0 : Int32)), .val (.int (0 : Int32)), sr b10, sr b18, sr b28, sr b39, .unset, .unset, .unset, .unset, .unset, .unset, .unset, .unset]) (S' := []) rfl ?_
  refine Home.run X40 hx hby sg0_102_1 (pc' := 104) (L' := #[.val (.int i0), .val (.int i1), .val (.int i2), .val (.int v1), .val (.int v2), .val (.int v3), .val (.int (0 : Int32)), .val (.int (0 : Int32)), sr b10, sr b18, sr b28, sr b39, .unset, .unset, .unset, .unset, .unset, .unset, .unset, .unset]) (S' := [(.int (0 : Int32))]) rfl ?_
  refine Home.go (fun _ => XS.ifYes X40.here hx rfl (pc0 := 104) (pc' := 117) rfl (hb hby at_104) rfl ((if0 _ _).trans (flt (by decide)).2.2.2) (by decide) (by decide)) ?_
  refine Home.run X40 hx hby sg0_117_2 (pc' := 120) (L' := #[.val (.int i0), .val (.int i1), .val (.int i2), .val (.int v1), .val (.int v2), .val (.int v3), .val (.int (0 : Int32)), .val (.int (0 : Int32)), sr b10, sr b18, sr b28, sr b39, .unset, .unset, .unset, .unset, .unset, .unset, .unset, .unset]) (S' := [(.int (1 : Int32)), (.int (0 : Int32))]) rfl ?_
  refine Home.go (fun _ => XS.icmpYes X40.here hx rfl (pc0 := 120) (pc' := 133) rfl (hb hby at_120) rfl (flt (by decide)).2.2.2 (by decide) (by decide)) ?_
  refine Home.run X40 hx hby sg0_133_2 (pc' := 136) (L' := #[.val (.int i0), .val (.int i1), .val (.int i2), .val (.int v1), .val (.int v2), .val (.int v3), .val (.int (0 : Int32)), .val (.int (0 : Int32)), sr b10, sr b18, sr b28, sr b39, .unset, .unset, .unset, .unset, .unset, .unset, .unset, .unset]) (S' := [(.int (2 : Int32)), (.int (0 : Int32))]) rfl ?_
  refine Home.go (fun _ => XS.icmpYes X40.here hx rfl (pc0 := 136) (pc' := 149) rfl (hb hby at_136) rfl (flt (by decide)).2.2.2 (by decide) (by decide)) ?_
  refine Home.run X40 hx hby sg0_149_2 (pc' := 152) (L' := #[.val (.int i0), .val (.int i1), .val (.int i2), .val (.int v1), .val (.int v2), .val (.int v3), .val (.int (0 : Int32)), .val (.int (0 : Int32)), sr b10, sr b18, sr b28, sr b39, .unset, .unset, .unset, .unset, .unset, .unset, .unset, .unset]) (S' := [(.int (0 : Int32)), (.int i1)]) rfl ?_
  refine Home.st (own_pure (own_static X40 hx hZ hown (own_w108 hw) (own_w109 hw) (own_w110 hw) (own_w111 hw) (by decide) (rm17_0 l Z a0 hw [] i1 T40.heap n0 O40) rfl rfl (by rw [hml]; rfl) (argsL := [(.int i1), (.int (0 : Int32))]) (rest := []) (lenOf own_pd7 rfl) rfl rfl (W := 0) (by exact hW0) (by decide) (by decide) (hb hby at_152) (by decide) (by decide))) fun T44 X44 e44 => ?_
  refine Home.run X44 hx hby sg0_155_5 (pc' := 163) (L' := #[.val (.int i0), .val (.int i1), .val (.int i2), .val (.int v1), .val (.int v2), .val (.int v3), .val (.int (0 : Int32)), .val (.int (0 : Int32)), sr b10, sr b18, sr b28, sr b39, .val (.int (0 : Int32)), .unset, .unset, .unset, .unset, .unset, .unset, .unset]) (S' := [(.int (0 : Int32)), (.int ((i1.toUInt32 >>> ((8 : Int32) &&& 31).toUInt32).toInt32))]) rfl ?_
  refine Home.st (own_pure (own_static X44 hx hZ hown (own_w108 hw) (own_w109 hw) (own_w110 hw) (own_w111 hw) (by decide) (rm17_0 l Z a0 hw [] ((i1.toUInt32 >>> ((8 : Int32) &&& 31).toUInt32).toInt32) T40.heap n0 O40) e44 rfl (by rw [hml]; rfl) (argsL := [(.int ((i1.toUInt32 >>> ((8 : Int32) &&& 31).toUInt32).toInt32)), (.int (0 : Int32))]) (rest := []) (lenOf own_pd7 rfl) rfl rfl (W := 0) (by exact hW0) (by decide) (by decide) (hb hby at_163) (by decide) (by decide))) fun T45 X45 e45 => ?_
  refine Home.run X45 hx hby sg0_166_5 (pc' := 174) (L' := #[.val (.int i0), .val (.int i1), .val (.int i2), .val (.int v1), .val (.int v2), .val (.int v3), .val (.int (0 : Int32)), .val (.int (0 : Int32)), sr b10, sr b18, sr b28, sr b39, .val (.int (0 : Int32)), .val (.int (0 : Int32)), .unset, .unset, .unset, .unset, .unset, .unset]) (S' := [(.int (0 : Int32)), (.int ((i1.toUInt32 >>> ((16 : Int32) &&& 31).toUInt32).toInt32))]) rfl ?_
  refine Home.st (own_pure (own_static X45 hx hZ hown (own_w108 hw) (own_w109 hw) (own_w110 hw) (own_w111 hw) (by decide) (rm17_0 l Z a0 hw [] ((i1.toUInt32 >>> ((16 : Int32) &&& 31).toUInt32).toInt32) T40.heap n0 O40) e45 rfl (by rw [hml]; rfl) (argsL := [(.int ((i1.toUInt32 >>> ((16 : Int32) &&& 31).toUInt32).toInt32)), (.int (0 : Int32))]) (rest := []) (lenOf own_pd7 rfl) rfl rfl (W := 0) (by exact hW0) (by decide) (by decide) (hb hby at_174) (by decide) (by decide))) fun T46 X46 e46 => ?_
  refine Home.run X46 hx hby sg0_177_5 (pc' := 186) (L' := #[.val (.int i0), .val (.int i1), .val (.int i2), .val (.int v1), .val (.int v2), .val (.int v3), .val (.int (0 : Int32)), .val (.int (0 : Int32)), sr b10, sr b18, sr b28, sr b39, .val (.int (0 : Int32)), .val (.int (0 : Int32)), .val (.int (0 : Int32)), .unset, .unset, .unset, .unset, .unset]) (S' := [(.int (0 : Int32)), (.int v3), (.int v2), (.int v1)]) rfl ?_
  refine Home.st (own_pure (own_static X46 hx hZ hown (own_w112 hw) (own_w113 hw) (own_w110 hw) (own_w114 hw) (by decide) (rm18_0 l Z a0 hw [] v1 v2 v3 T40.heap n0 O40 bv1 bv2 bv3) e46 rfl (by rw [hml]; rfl) (argsL := [(.int v1), (.int v2), (.int v3), (.int (0 : Int32))]) (rest := []) (lenOf own_pd8 rfl) rfl rfl (W := 0) (by exact hW0) (by decide) (by decide) (hb hby at_186) (by decide) (by decide))) fun T47 X47 e47 => ?_
  show Home T47 (mkF m 189 #[.val (.int i0), .val (.int i1), .val (.int i2), .val (.int v1), .val (.int v2), .val (.int v3), .val (.int (0 : Int32)), .val (.int (0 : Int32)), sr b10, sr b18, sr b28, sr b39, .val (.int (0 : Int32)), .val (.int (0 : Int32)), .val (.int (0 : Int32)), .unset, .unset, .unset, .unset, .unset] [(.int v1)])
  refine Home.run X47 hx hby sg0_189_5 (pc' := 198) (L' := #[.val (.int i0), .val (.int i1), .val (.int i2), .val (.int v1), .val (.int v2), .val (.int v3), .val (.int (0 : Int32)), .val (.int (0 : Int32)), sr b10, sr b18, sr b28, sr b39, .val (.int (0 : Int32)), .val (.int (0 : Int32)), .val (.int (0 : Int32)), .val (.int v1), .unset, .unset, .unset, .unset]) (S' := [(.int (0 : Int32)), (.int v3), (.int v2), (.int v1)]) rfl ?_
  refine Home.st (own_pure (own_static X47 hx hZ hown (own_w112 hw) (own_w113 hw) (own_w110 hw) (own_w114 hw) (by decide) (rm18_0 l Z a0 hw [] v1 v2 v3 T40.heap n0 O40 bv1 bv2 bv3) e47 rfl (by rw [hml]; rfl) (argsL := [(.int v1), (.int v2), (.int v3), (.int (0 : Int32))]) (rest := []) (lenOf own_pd8 rfl) rfl rfl (W := 0) (by exact hW0) (by decide) (by decide) (hb hby at_198) (by decide) (by decide))) fun T48 X48 e48 => ?_
  refine Home.run X48 hx hby sg0_201_5 (pc' := 210) (L' := #[.val (.int i0), .val (.int i1), .val (.int i2), .val (.int v1), .val (.int v2), .val (.int v3), .val (.int (0 : Int32)), .val (.int (0 : Int32)), sr b10, sr b18, sr b28, sr b39, .val (.int (0 : Int32)), .val (.int (0 : Int32)), .val (.int (0 : Int32)), .val (.int v1), .val (.int v1), .unset, .unset, .unset]) (S' := [(.int (0 : Int32)), (.int v3), (.int v2), (.int v1)]) rfl ?_
  refine Home.st (own_pure (own_static X48 hx hZ hown (own_w112 hw) (own_w113 hw) (own_w110 hw) (own_w114 hw) (by decide) (rm18_0 l Z a0 hw [] v1 v2 v3 T40.heap n0 O40 bv1 bv2 bv3) e48 rfl (by rw [hml]; rfl) (argsL := [(.int v1), (.int v2), (.int v3), (.int (0 : Int32))]) (rest := []) (lenOf own_pd8 rfl) rfl rfl (W := 0) (by exact hW0) (by decide) (by decide) (hb hby at_210) (by decide) (by decide))) fun T49 X49 e49 => ?_
  refine Home.run X49 hx hby sg0_213_1 (pc' := 215) (L' := #[.val (.int i0), .val (.int i1), .val (.int i2), .val (.int v1), .val (.int v2), .val (.int v3), .val (.int (0 : Int32)), .val (.int (0 : Int32)), sr b10, sr b18, sr b28, sr b39, .val (.int (0 : Int32)), .val (.int (0 : Int32)), .val (.int (0 : Int32)), .val (.int v1), .val (.int v1), .val (.int v1), .unset, .unset]) (S' := []) rfl ?_
  refine Home.nw (own_newO X49 hx hZ hown (own_w49 hw) (own_w50 hw) (own_w51 hw) e49 rfl (hb hby at_215) (by decide) (by decide)) fun T50 h50 b50 g50 X50 e50 E50 A50 D50 => ?_
  have g_b50 : n0 ≤ b50 := Nat.le_trans (Old.le O40) (Nat.le_of_eq g50.symm)
  have F_modCount_b50 : Fld Z h50 b50 "java/util/AbstractList" "modCount" "I" (.int (0 : Int32)) := D50 (Or.inl (own_w69 hw)) (ty := .int) (by decide)
  have F_elementData_b50 : Fld Z h50 b50 "java/util/ArrayList" "elementData" "[Ljava/lang/Object;" .null := D50 (Or.inl (own_w72 hw)) (ty := (.array (.object "java/lang/Object"))) (by decide)
  have F_size_b50 : Fld Z h50 b50 "java/util/ArrayList" "size" "I" (.int (0 : Int32)) := D50 (Or.inl (own_w85 hw)) (ty := .int) (by decide)
  have O50 := O40.ext E50
  have K50 : Keep h0 h50 ([] : List Addr) := Keep.ext K40 E50
  refine Home.run X50 hx hby sg0_218_1 (pc' := 219) (L' := #[.val (.int i0), .val (.int i1), .val (.int i2), .val (.int v1), .val (.int v2), .val (.int v3), .val (.int (0 : Int32)), .val (.int (0 : Int32)), sr b10, sr b18, sr b28, sr b39, .val (.int (0 : Int32)), .val (.int (0 : Int32)), .val (.int (0 : Int32)), .val (.int v1), .val (.int v1), .val (.int v1), .unset, .unset]) (S' := [(.ref b50), (.ref b50)]) rfl ?_
  refine Home.call (own_special X50 hx hZ hown rfl (own_w52 hw) (own_w53 hw) (own_w51 hw) (own_w54 hw) (by decide) (rm9_0 l Z a0 hw [] b50 sv_DEFAULTCAPACITY_EMPTY_ELEMENTDATA h50 n0 O50 A50 F_modCount_b50 F_elementData_b50 F_size_b50 g_b50 S_DEFAULTCAPACITY_EMPTY_ELEMENTDATA) e50 rfl (by rw [hml]; rfl) (a := b50) (argsL := []) (rest := [(.ref b50)]) (lenOf own_pd4 rfl) rfl rfl (W := 1) (by exact hW0) (by decide) (by decide) (hb hby at_219) (by decide) (by decide)) ?_
  rintro _ T51 L51 X51 ⟨rfl, N51q, K51q, P51_0, P51_1, P51_2, P51_3⟩
  have le52 : h0.size ≤ h39.size := Nat.le_trans le43 E39.1
  have le53 : h0.size ≤ T40.heap.size := Nat.le_trans le52 K40q.1
  have O51 := Old.keep O50 K51q (allS g_b50 all0)
  have K51 : Keep h0 T51.heap ([] : List Addr) := Keep.trans K50 K51q (allS (Or.inr (Nat.le_trans le53 (Nat.le_of_eq g50.symm))) all0)
  have N51 := Fr.app N40 N51q
  show Home T51 (mkF m 222 #[.val (.int i0), .val (.int i1), .val (.int i2), .val (.int v1), .val (.int v2), .val (.int v3), .val (.int (0 : Int32)), .val (.int (0 : Int32)), sr b10, sr b18, sr b28, sr b39, .val (.int (0 : Int32)), .val (.int (0 : Int32)), .val (.int (0 : Int32)), .val (.int v1), .val (.int v1), .val (.int v1), .unset, .unset] [(.ref b50)])
  refine Home.run X51 hx hby sg0_222_2 (pc' := 226) (L' := #[.val (.int i0), .val (.int i1), .val (.int i2), .val (.int v1), .val (.int v2), .val (.int v3), .val (.int (0 : Int32)), .val (.int (0 : Int32)), sr b10, sr b18, sr b28, sr b39, .val (.int (0 : Int32)), .val (.int (0 : Int32)), .val (.int (0 : Int32)), .val (.int v1), .val (.int v1), .val (.int v1), sr b50, .unset]) (S' := [(.int (0 : Int32))]) rfl ?_
  refine Home.go (fun _ => XS.ifYes X51.here hx rfl (pc0 := 226) (pc' := 242) rfl (hb hby at_226) rfl ((if0 _ _).trans (flt (by decide)).2.2.2) (by decide) (by decide)) ?_
  refine Home.run X51 hx hby sg0_242_2 (pc' := 245) (L' := #[.val (.int i0), .val (.int i1), .val (.int i2), .val (.int v1), .val (.int v2), .val (.int v3), .val (.int (0 : Int32)), .val (.int (0 : Int32)), sr b10, sr b18, sr b28, sr b39, .val (.int (0 : Int32)), .val (.int (0 : Int32)), .val (.int (0 : Int32)), .val (.int v1), .val (.int v1), .val (.int v1), sr b50, .unset]) (S' := [(.int (1 : Int32)), (.int (0 : Int32))]) rfl ?_
  refine Home.go (fun _ => XS.icmpYes X51.here hx rfl (pc0 := 245) (pc' := 261) rfl (hb hby at_245) rfl (flt (by decide)).2.2.2 (by decide) (by decide)) ?_
  refine Home.run X51 hx hby sg0_261_2 (pc' := 264) (L' := #[.val (.int i0), .val (.int i1), .val (.int i2), .val (.int v1), .val (.int v2), .val (.int v3), .val (.int (0 : Int32)), .val (.int (0 : Int32)), sr b10, sr b18, sr b28, sr b39, .val (.int (0 : Int32)), .val (.int (0 : Int32)), .val (.int (0 : Int32)), .val (.int v1), .val (.int v1), .val (.int v1), sr b50, .unset]) (S' := [(.int (2 : Int32)), (.int (0 : Int32))]) rfl ?_
  refine Home.go (fun _ => XS.icmpYes X51.here hx rfl (pc0 := 264) (pc' := 280) rfl (hb hby at_264) rfl (flt (by decide)).2.2.2 (by decide) (by decide)) ?_
  refine Home.run X51 hx hby sg0_280_2 (pc' := 284) (L' := #[.val (.int i0), .val (.int i1), .val (.int i2), .val (.int v1), .val (.int v2), .val (.int v3), .val (.int (0 : Int32)), .val (.int (0 : Int32)), sr b10, sr b18, sr b28, sr b39, .val (.int (0 : Int32)), .val (.int (0 : Int32)), .val (.int (0 : Int32)), .val (.int v1), .val (.int v1), .val (.int v1), sr b50, .unset]) (S' := [(.ref b50), (.ref b39)]) rfl ?_
  refine Home.call (own_static X51 hx hZ hown (own_w115 hw) (own_w116 hw) (own_w2 hw) (own_w117 hw) (by decide) (rm19_0 l Z a0 hw [] b39 b50 sv_DEFAULTCAPACITY_EMPTY_ELEMENTDATA T51.heap n0 O51 S_DEFAULTCAPACITY_EMPTY_ELEMENTDATA P51_0 P51_1 P51_3) rfl rfl (by rw [hml]; rfl) (argsL := [(.ref b39), (.ref b50)]) (rest := []) (lenOf own_pd12 rfl) rfl rfl (W := 0) (by exact hW0) (by decide) (by decide) (hb hby at_284) (by decide) (by decide)) ?_
  rintro _ T54 L54 X54 ⟨b1_54, rfl, N54q, sz_b1_54, K54q, P54_0, P54_1, P54_2, P54_3⟩
  have g_b1_54 : n0 ≤ b1_54 := Nat.le_trans (Old.le O51) sz_b1_54
  have O54 := Old.keep O51 K54q all0
  have K54 : Keep h0 T54.heap ([] : List Addr) := Keep.trans K51 K54q all0
  have N54 := Fr.app N51 N54q
  refine Home.run X54 hx hby sg0_287_2 (pc' := 291) (L' := #[.val (.int i0), .val (.int i1), .val (.int i2), .val (.int v1), .val (.int v2), .val (.int v3), .val (.int (0 : Int32)), .val (.int (0 : Int32)), sr b10, sr b18, sr b28, sr b39, .val (.int (0 : Int32)), .val (.int (0 : Int32)), .val (.int (0 : Int32)), .val (.int v1), .val (.int v1), .val (.int v1), sr b50, sr b1_54]) (S' := [(.ref b1_54)]) rfl ?_
  refine Home.st (own_pure (own_face X54 hx hZ hown (own_w155 hw) (own_w156 hw) (mvT hZ (own_w157 hw)) (own_w158 hw) (own_w159 hw) (own_w160 hw) (own_w161 hw) (own_w80 hw) (own_w51 hw) (own_w162 hw) (by decide) (rm23_0 l Z a0 hw [] b1_54 T54.heap n0 O54 P54_3) rfl P54_0 rfl (by rw [hml]; rfl) (argsL := []) (rest := []) (lenOf own_pd13 rfl) rfl rfl (W := 0) (by exact hW0) (by decide) (by decide) (hb hby at_291) (by decide) (by decide))) fun T55 X55 e55 => ?_
  show Home T55 (mkF m 296 #[.val (.int i0), .val (.int i1), .val (.int i2), .val (.int v1), .val (.int v2), .val (.int v3), .val (.int (0 : Int32)), .val (.int (0 : Int32)), sr b10, sr b18, sr b28, sr b39, .val (.int (0 : Int32)), .val (.int (0 : Int32)), .val (.int (0 : Int32)), .val (.int v1), .val (.int v1), .val (.int v1), sr b50, sr b1_54] [(.int (0 : Int32))])
  refine Home.run X55 hx hby sg0_296_1 (pc' := 298) (L' := #[.val (.int i0), .val (.int i1), .val (.int i2), .val (.int v1), .val (.int v2), .val (.int v3), .val (.int (0 : Int32)), .val (.int (0 : Int32)), sr b10, sr b18, sr b28, sr b39, .val (.int (0 : Int32)), .val (.int (0 : Int32)), .val (.int (0 : Int32)), .val (.int v1), .val (.int v1), .val (.int v1), sr b50, sr b1_54]) (S' := [(.int (0 : Int32)), (.int (0 : Int32))]) rfl ?_
  refine Home.go (fun _ => XS.icmpYes X55.here hx rfl (pc0 := 298) (pc' := 303) rfl (hb hby at_298) rfl (teq (by decide)).1 (by decide) (by decide)) ?_
  refine Home.run X55 hx hby sg0_303_1 (pc' := 305) (L' := #[.val (.int i0), .val (.int i1), .val (.int i2), .val (.int v1), .val (.int v2), .val (.int v3), .val (.int (0 : Int32)), .val (.int (0 : Int32)), sr b10, sr b18, sr b28, sr b39, .val (.int (0 : Int32)), .val (.int (0 : Int32)), .val (.int (0 : Int32)), .val (.int v1), .val (.int v1), .val (.int v1), sr b50, sr b1_54]) (S' := [(.int (0 : Int32))]) rfl ?_
  refine Home.go (fun _ => XS.ifYes X55.here hx rfl (pc0 := 305) (pc' := 342) rfl (hb hby at_305) rfl ((if0 _ _).trans (flt (by decide)).2.2.2) (by decide) (by decide)) ?_
  refine Home.run X55 hx hby sg0_342_2 (pc' := 345) (L' := #[.val (.int i0), .val (.int i1), .val (.int i2), .val (.int v1), .val (.int v2), .val (.int v3), .val (.int (0 : Int32)), .val (.int (0 : Int32)), sr b10, sr b18, sr b28, sr b39, .val (.int (0 : Int32)), .val (.int (0 : Int32)), .val (.int (0 : Int32)), .val (.int v1), .val (.int v1), .val (.int v1), sr b50, sr b1_54]) (S' := [(.int (1 : Int32)), (.int (0 : Int32))]) rfl ?_
  refine Home.go (fun _ => XS.icmpYes X55.here hx rfl (pc0 := 345) (pc' := 382) rfl (hb hby at_345) rfl (flt (by decide)).2.2.2 (by decide) (by decide)) ?_
  refine Home.run X55 hx hby sg0_382_2 (pc' := 385) (L' := #[.val (.int i0), .val (.int i1), .val (.int i2), .val (.int v1), .val (.int v2), .val (.int v3), .val (.int (0 : Int32)), .val (.int (0 : Int32)), sr b10, sr b18, sr b28, sr b39, .val (.int (0 : Int32)), .val (.int (0 : Int32)), .val (.int (0 : Int32)), .val (.int v1), .val (.int v1), .val (.int v1), sr b50, sr b1_54]) (S' := [(.int (2 : Int32)), (.int (0 : Int32))]) rfl ?_
  refine Home.go (fun _ => XS.icmpYes X55.here hx rfl (pc0 := 385) (pc' := 422) rfl (hb hby at_385) rfl (flt (by decide)).2.2.2 (by decide) (by decide)) ?_
  refine Home.run X55 hx hby sg0_422_1 (pc' := 423) (L' := #[.val (.int i0), .val (.int i1), .val (.int i2), .val (.int v1), .val (.int v2), .val (.int v3), .val (.int (0 : Int32)), .val (.int (0 : Int32)), sr b10, sr b18, sr b28, sr b39, .val (.int (0 : Int32)), .val (.int (0 : Int32)), .val (.int (0 : Int32)), .val (.int v1), .val (.int v1), .val (.int v1), sr b50, sr b1_54]) (S' := [(.int (1 : Int32))]) rfl ?_
  exact Home.retN X55 hx hlk (t := .boolean) hret (by simp) (hb hby at_423) ⟨rfl, N54⟩ (by decide) (by decide)
 ·
  refine Home.go (fun _ => XS.ifYes X0.here hx rfl (pc0 := 43) (pc' := 49) rfl (hb hby at_43) rfl ((if0 _ _).trans (feq c6).2) (by decide) (by decide)) ?_
  have bd9 : ¬ v4 < (1 : Int32) ∧ ¬ (3 : Int32) < v4 := ⟨(bnd_nel bv4.1 c6 (by decide +kernel)), bv4.2⟩
  refine Home.nw (own_newO X0 hx hZ hown (own_w0 hw) (own_w1 hw) (own_w2 hw) e0 rfl (hb hby at_49) (by decide) (by decide)) fun T56 h56 b56 g56 X56 e56 E56 A56 D56 => ?_
  have g_b56 : n0 ≤ b56 := Nat.le_trans (Old.le O0) (Nat.le_of_eq g56.symm)
  have F_name_b56 : Fld Z h56 b56 "com/example/wary_meter/warymeter/Column" "name" "Ljava/lang/String;" .null := D56 (Or.inr (own_w42 hw)) (ty := (.object "java/lang/String")) (by decide)
  have F_value_b56 : Fld Z h56 b56 "com/example/wary_meter/warymeter/Column" "value" "Ljava/util/function/Function;" .null := D56 (Or.inr (own_w44 hw)) (ty := (.object "java/util/function/Function")) (by decide)
  have F_key_b56 : Fld Z h56 b56 "com/example/wary_meter/warymeter/Column" "key" "Ljava/util/function/Function;" .null := D56 (Or.inr (own_w46 hw)) (ty := (.object "java/util/function/Function")) (by decide)
  have F_text_b56 : Fld Z h56 b56 "com/example/wary_meter/warymeter/Column" "text" "Ljava/util/function/Function;" .null := D56 (Or.inr (own_w48 hw)) (ty := (.object "java/util/function/Function")) (by decide)
  have O56 := O0.ext E56
  have K56 : Keep h0 h56 ([] : List Addr) := Keep.ext (Keep.refl h0 ([] : List Addr)) E56
  refine Home.run X56 hx hby sg0_52_2 (pc' := 54) (L' := #[.val (.int i0), .val (.int i1), .val (.int i2), .val (.int v1), .val (.int v2), .val (.int v3), .val (.int v4), .val (.int v5), .unset, .unset, .unset, .unset, .unset, .unset, .unset, .unset, .unset, .unset, .unset, .unset]) (S' := [(.int v1), (.ref b56), (.ref b56)]) rfl ?_
  refine Home.call (own_static X56 hx hZ hown (own_w3 hw) (own_w4 hw) (own_w5 hw) (own_w6 hw) (by decide) (rm1_0 l Z a0 hw [] v1 sv_COMPACT_STRINGS h56 n0 O56 bv1 S_COMPACT_STRINGS hCS) e56 rfl (by rw [hml]; rfl) (argsL := [(.int v1)]) (rest := [(.ref b56), (.ref b56)]) (lenOf own_pd3 rfl) rfl rfl (W := 2) (by exact hW0) (by decide) (by decide) (hb hby at_54) (by decide) (by decide)) ?_
  rintro _ T57 L57 X57 ⟨b3_57, b1_4_57, k1_4_57, rfl, N57q, sz_b3_57, sz_b1_4_57, K57q, P57_0, P57_1, P57_2, P57_3⟩
  have g_b3_57 : n0 ≤ b3_57 := Nat.le_trans (Old.le O56) sz_b3_57
  have g_b1_4_57 : n0 ≤ b1_4_57 := Nat.le_trans (Old.le O56) sz_b1_4_57
  have O57 := Old.keep O56 K57q all0
  have K57 : Keep h0 T57.heap ([] : List Addr) := Keep.trans K56 K57q all0
  have N57 := Fr.app N0 N57q
  show Home T57 (mkF m 57 #[.val (.int i0), .val (.int i1), .val (.int i2), .val (.int v1), .val (.int v2), .val (.int v3), .val (.int v4), .val (.int v5), .unset, .unset, .unset, .unset, .unset, .unset, .unset, .unset, .unset, .unset, .unset, .unset] [(.ref b3_57), (.ref b56), (.ref b56)])
  refine Home.run X57 hx hby sg0_57_1 (pc' := 58) (L' := #[.val (.int i0), .val (.int i1), .val (.int i2), .val (.int v1), .val (.int v2), .val (.int v3), .val (.int v4), .val (.int v5), .unset, .unset, .unset, .unset, .unset, .unset, .unset, .unset, .unset, .unset, .unset, .unset]) (S' := [.null, (.ref b3_57), (.ref b56), (.ref b56)]) rfl ?_
  have q58 := (A56.keep K57q)
  have q59 := (F_name_b56.keep K57q nin0)
  have q60 := (F_value_b56.keep K57q nin0)
  have q61 := (F_key_b56.keep K57q nin0)
  have q62 := (F_text_b56.keep K57q nin0)
  refine Home.call (own_special X57 hx hZ hown rfl (own_w29 hw) (own_w30 hw) (own_w2 hw) (own_w31 hw) (by decide) (rm6_0 l Z a0 hw [] b56 b3_57 T57.heap n0 O57 q58 q59 q60 q61 q62 g_b56) rfl rfl (by rw [hml]; rfl) (a := b56) (argsL := [(.ref b3_57), .null]) (rest := [(.ref b56)]) (lenOf own_pd6 rfl) rfl rfl (W := 1) (by exact hW0) (by decide) (by decide) (hb hby at_58) (by decide) (by decide)) ?_
  rintro _ T63 L63 X63 ⟨rfl, N63q, K63q, P63_0, P63_1, P63_2, P63_3, P63_4⟩
  have O63 := Old.keep O57 K63q (allS g_b56 all0)
  have K63 : Keep h0 T63.heap ([] : List Addr) := Keep.trans K57 K63q (allS (Or.inr (Nat.le_trans (Nat.le_refl _) (Nat.le_of_eq g56.symm))) all0)
  have N63 := Fr.app N57 N63q
  refine Home.run X63 hx hby sg0_61_1 (pc' := 63) (L' := #[.val (.int i0), .val (.int i1), .val (.int i2), .val (.int v1), .val (.int v2), .val (.int v3), .val (.int v4), .val (.int v5), sr b56, .unset, .unset, .unset, .unset, .unset, .unset, .unset, .unset, .unset, .unset, .unset]) (S' := []) rfl ?_
  refine Home.nw (own_newO X63 hx hZ hown (own_w0 hw) (own_w1 hw) (own_w2 hw) rfl rfl (hb hby at_63) (by decide) (by decide)) fun T64 h64 b64 g64 X64 e64 E64 A64 D64 => ?_
  have g_b64 : n0 ≤ b64 := Nat.le_trans (Old.le O63) (Nat.le_of_eq g64.symm)
  have F_name_b64 : Fld Z h64 b64 "com/example/wary_meter/warymeter/Column" "name" "Ljava/lang/String;" .null := D64 (Or.inr (own_w42 hw)) (ty := (.object "java/lang/String")) (by decide)
  have F_value_b64 : Fld Z h64 b64 "com/example/wary_meter/warymeter/Column" "value" "Ljava/util/function/Function;" .null := D64 (Or.inr (own_w44 hw)) (ty := (.object "java/util/function/Function")) (by decide)
  have F_key_b64 : Fld Z h64 b64 "com/example/wary_meter/warymeter/Column" "key" "Ljava/util/function/Function;" .null := D64 (Or.inr (own_w46 hw)) (ty := (.object "java/util/function/Function")) (by decide)
  have F_text_b64 : Fld Z h64 b64 "com/example/wary_meter/warymeter/Column" "text" "Ljava/util/function/Function;" .null := D64 (Or.inr (own_w48 hw)) (ty := (.object "java/util/function/Function")) (by decide)
  have O64 := O63.ext E64
  have K64 : Keep h0 h64 ([] : List Addr) := Keep.ext K63 E64
  show Home T64 (mkF m 66 #[.val (.int i0), .val (.int i1), .val (.int i2), .val (.int v1), .val (.int v2), .val (.int v3), .val (.int v4), .val (.int v5), sr b56, .unset, .unset, .unset, .unset, .unset, .unset, .unset, .unset, .unset, .unset, .unset] [(.ref b64)])
  refine Home.run X64 hx hby sg0_66_2 (pc' := 69) (L' := #[.val (.int i0), .val (.int i1), .val (.int i2), .val (.int v1), .val (.int v2), .val (.int v3), .val (.int v4), .val (.int v5), sr b56, .unset, .unset, .unset, .unset, .unset, .unset, .unset, .unset, .unset, .unset, .unset]) (S' := [(.int v2), (.ref b64), (.ref b64)]) rfl ?_
  refine Home.call (own_static X64 hx hZ hown (own_w3 hw) (own_w4 hw) (own_w5 hw) (own_w6 hw) (by decide) (rm1_0 l Z a0 hw [] v2 sv_COMPACT_STRINGS h64 n0 O64 bv2 S_COMPACT_STRINGS hCS) e64 rfl (by rw [hml]; rfl) (argsL := [(.int v2)]) (rest := [(.ref b64), (.ref b64)]) (lenOf own_pd3 rfl) rfl rfl (W := 2) (by exact hW0) (by decide) (by decide) (hb hby at_69) (by decide) (by decide)) ?_
  rintro _ T65 L65 X65 ⟨b3_65, b1_4_65, k1_4_65, rfl, N65q, sz_b3_65, sz_b1_4_65, K65q, P65_0, P65_1, P65_2, P65_3⟩
  have g_b3_65 : n0 ≤ b3_65 := Nat.le_trans (Old.le O64) sz_b3_65
  have g_b1_4_65 : n0 ≤ b1_4_65 := Nat.le_trans (Old.le O64) sz_b1_4_65
  have O65 := Old.keep O64 K65q all0
  have K65 : Keep h0 T65.heap ([] : List Addr) := Keep.trans K64 K65q all0
  have N65 := Fr.app N63 N65q
  refine Home.run X65 hx hby sg0_72_1 (pc' := 73) (L' := #[.val (.int i0), .val (.int i1), .val (.int i2), .val (.int v1), .val (.int v2), .val (.int v3), .val (.int v4), .val (.int v5), sr b56, .unset, .unset, .unset, .unset, .unset, .unset, .unset, .unset, .unset, .unset, .unset]) (S' := [.null, (.ref b3_65), (.ref b64), (.ref b64)]) rfl ?_
  have q66 := (A64.keep K65q)
  have q67 := (F_name_b64.keep K65q nin0)
  have q68 := (F_value_b64.keep K65q nin0)
  have q69 := (F_key_b64.keep K65q nin0)
  have q70 := (F_text_b64.keep K65q nin0)
  refine Home.call (own_special X65 hx hZ hown rfl (own_w29 hw) (own_w30 hw) (own_w2 hw) (own_w31 hw) (by decide) (rm6_0 l Z a0 hw [] b64 b3_65 T65.heap n0 O65 q66 q67 q68 q69 q70 g_b64) rfl rfl (by rw [hml]; rfl) (a := b64) (argsL := [(.ref b3_65), .null]) (rest := [(.ref b64)]) (lenOf own_pd6 rfl) rfl rfl (W := 1) (by exact hW0) (by decide) (by decide) (hb hby at_73) (by decide) (by decide)) ?_
  rintro _ T71 L71 X71 ⟨rfl, N71q, K71q, P71_0, P71_1, P71_2, P71_3, P71_4⟩
  have le72 : h0.size ≤ T57.heap.size := Nat.le_trans E56.1 K57q.1
  have le73 : h0.size ≤ T63.heap.size := Nat.le_trans le72 K63q.1
  have O71 := Old.keep O65 K71q (allS g_b64 all0)
  have K71 : Keep h0 T71.heap ([] : List Addr) := Keep.trans K65 K71q (allS (Or.inr (Nat.le_trans le73 (Nat.le_of_eq g64.symm))) all0)
  have N71 := Fr.app N65 N71q
  show Home T71 (mkF m 76 #[.val (.int i0), .val (.int i1), .val (.int i2), .val (.int v1), .val (.int v2), .val (.int v3), .val (.int v4), .val (.int v5), sr b56, .unset, .unset, .unset, .unset, .unset, .unset, .unset, .unset, .unset, .unset, .unset] [(.ref b64)])
  refine Home.run X71 hx hby sg0_76_1 (pc' := 78) (L' := #[.val (.int i0), .val (.int i1), .val (.int i2), .val (.int v1), .val (.int v2), .val (.int v3), .val (.int v4), .val (.int v5), sr b56, sr b64, .unset, .unset, .unset, .unset, .unset, .unset, .unset, .unset, .unset, .unset]) (S' := []) rfl ?_
  refine Home.nw (own_newO X71 hx hZ hown (own_w0 hw) (own_w1 hw) (own_w2 hw) rfl rfl (hb hby at_78) (by decide) (by decide)) fun T74 h74 b74 g74 X74 e74 E74 A74 D74 => ?_
  have g_b74 : n0 ≤ b74 := Nat.le_trans (Old.le O71) (Nat.le_of_eq g74.symm)
  have F_name_b74 : Fld Z h74 b74 "com/example/wary_meter/warymeter/Column" "name" "Ljava/lang/String;" .null := D74 (Or.inr (own_w42 hw)) (ty := (.object "java/lang/String")) (by decide)
  have F_value_b74 : Fld Z h74 b74 "com/example/wary_meter/warymeter/Column" "value" "Ljava/util/function/Function;" .null := D74 (Or.inr (own_w44 hw)) (ty := (.object "java/util/function/Function")) (by decide)
  have F_key_b74 : Fld Z h74 b74 "com/example/wary_meter/warymeter/Column" "key" "Ljava/util/function/Function;" .null := D74 (Or.inr (own_w46 hw)) (ty := (.object "java/util/function/Function")) (by decide)
  have F_text_b74 : Fld Z h74 b74 "com/example/wary_meter/warymeter/Column" "text" "Ljava/util/function/Function;" .null := D74 (Or.inr (own_w48 hw)) (ty := (.object "java/util/function/Function")) (by decide)
  have O74 := O71.ext E74
  have K74 : Keep h0 h74 ([] : List Addr) := Keep.ext K71 E74
  refine Home.run X74 hx hby sg0_81_2 (pc' := 84) (L' := #[.val (.int i0), .val (.int i1), .val (.int i2), .val (.int v1), .val (.int v2), .val (.int v3), .val (.int v4), .val (.int v5), sr b56, sr b64, .unset, .unset, .unset, .unset, .unset, .unset, .unset, .unset, .unset, .unset]) (S' := [(.int v3), (.ref b74), (.ref b74)]) rfl ?_
  refine Home.call (own_static X74 hx hZ hown (own_w3 hw) (own_w4 hw) (own_w5 hw) (own_w6 hw) (by decide) (rm1_0 l Z a0 hw [] v3 sv_COMPACT_STRINGS h74 n0 O74 bv3 S_COMPACT_STRINGS hCS) e74 rfl (by rw [hml]; rfl) (argsL := [(.int v3)]) (rest := [(.ref b74), (.ref b74)]) (lenOf own_pd3 rfl) rfl rfl (W := 2) (by exact hW0) (by decide) (by decide) (hb hby at_84) (by decide) (by decide)) ?_
  rintro _ T75 L75 X75 ⟨b3_75, b1_4_75, k1_4_75, rfl, N75q, sz_b3_75, sz_b1_4_75, K75q, P75_0, P75_1, P75_2, P75_3⟩
  have g_b3_75 : n0 ≤ b3_75 := Nat.le_trans (Old.le O74) sz_b3_75
  have g_b1_4_75 : n0 ≤ b1_4_75 := Nat.le_trans (Old.le O74) sz_b1_4_75
  have O75 := Old.keep O74 K75q all0
  have K75 : Keep h0 T75.heap ([] : List Addr) := Keep.trans K74 K75q all0
  have N75 := Fr.app N71 N75q
  show Home T75 (mkF m 87 #[.val (.int i0), .val (.int i1), .val (.int i2), .val (.int v1), .val (.int v2), .val (.int v3), .val (.int v4), .val (.int v5), sr b56, sr b64, .unset, .unset, .unset, .unset, .unset, .unset, .unset, .unset, .unset, .unset] [(.ref b3_75), (.ref b74), (.ref b74)])
  refine Home.run X75 hx hby sg0_87_1 (pc' := 88) (L' := #[.val (.int i0), .val (.int i1), .val (.int i2), .val (.int v1), .val (.int v2), .val (.int v3), .val (.int v4), .val (.int v5), sr b56, sr b64, .unset, .unset, .unset, .unset, .unset, .unset, .unset, .unset, .unset, .unset]) (S' := [.null, (.ref b3_75), (.ref b74), (.ref b74)]) rfl ?_
  have q76 := (A74.keep K75q)
  have q77 := (F_name_b74.keep K75q nin0)
  have q78 := (F_value_b74.keep K75q nin0)
  have q79 := (F_key_b74.keep K75q nin0)
  have q80 := (F_text_b74.keep K75q nin0)
  refine Home.call (own_special X75 hx hZ hown rfl (own_w29 hw) (own_w30 hw) (own_w2 hw) (own_w31 hw) (by decide) (rm6_0 l Z a0 hw [] b74 b3_75 T75.heap n0 O75 q76 q77 q78 q79 q80 g_b74) rfl rfl (by rw [hml]; rfl) (a := b74) (argsL := [(.ref b3_75), .null]) (rest := [(.ref b74)]) (lenOf own_pd6 rfl) rfl rfl (W := 1) (by exact hW0) (by decide) (by decide) (hb hby at_88) (by decide) (by decide)) ?_
  rintro _ T81 L81 X81 ⟨rfl, N81q, K81q, P81_0, P81_1, P81_2, P81_3, P81_4⟩
  have le82 : h0.size ≤ h64.size := Nat.le_trans le73 E64.1
  have le83 : h0.size ≤ T65.heap.size := Nat.le_trans le82 K65q.1
  have le84 : h0.size ≤ T71.heap.size := Nat.le_trans le83 K71q.1
  have O81 := Old.keep O75 K81q (allS g_b74 all0)
  have K81 : Keep h0 T81.heap ([] : List Addr) := Keep.trans K75 K81q (allS (Or.inr (Nat.le_trans le84 (Nat.le_of_eq g74.symm))) all0)
  have N81 := Fr.app N75 N81q
  show Home T81 (mkF m 91 #[.val (.int i0), .val (.int i1), .val (.int i2), .val (.int v1), .val (.int v2), .val (.int v3), .val (.int v4), .val (.int v5), sr b56, sr b64, .unset, .unset, .unset, .unset, .unset, .unset, .unset, .unset, .unset, .unset] [(.ref b74)])
  refine Home.run X81 hx hby sg0_91_1 (pc' := 93) (L' := #[.val (.int i0), .val (.int i1), .val (.int i2), .val (.int v1), .val (.int v2), .val (.int v3), .val (.int v4), .val (.int v5), sr b56, sr b64, sr b74, .unset, .unset, .unset, .unset, .unset, .unset, .unset, .unset, .unset]) (S' := []) rfl ?_
  refine Home.nw (own_newO X81 hx hZ hown (own_w49 hw) (own_w50 hw) (own_w51 hw) rfl rfl (hb hby at_93) (by decide) (by decide)) fun T85 h85 b85 g85 X85 e85 E85 A85 D85 => ?_
  have g_b85 : n0 ≤ b85 := Nat.le_trans (Old.le O81) (Nat.le_of_eq g85.symm)
  have F_modCount_b85 : Fld Z h85 b85 "java/util/AbstractList" "modCount" "I" (.int (0 : Int32)) := D85 (Or.inl (own_w69 hw)) (ty := .int) (by decide)
  have F_elementData_b85 : Fld Z h85 b85 "java/util/ArrayList" "elementData" "[Ljava/lang/Object;" .null := D85 (Or.inl (own_w72 hw)) (ty := (.array (.object "java/lang/Object"))) (by decide)
  have F_size_b85 : Fld Z h85 b85 "java/util/ArrayList" "size" "I" (.int (0 : Int32)) := D85 (Or.inl (own_w85 hw)) (ty := .int) (by decide)
  have O85 := O81.ext E85
  have K85 : Keep h0 h85 ([] : List Addr) := Keep.ext K81 E85
  refine Home.run X85 hx hby sg0_96_1 (pc' := 97) (L' := #[.val (.int i0), .val (.int i1), .val (.int i2), .val (.int v1), .val (.int v2), .val (.int v3), .val (.int v4), .val (.int v5), sr b56, sr b64, sr b74, .unset, .unset, .unset, .unset, .unset, .unset, .unset, .unset, .unset]) (S' := [(.ref b85), (.ref b85)]) rfl ?_
  refine Home.call (own_special X85 hx hZ hown rfl (own_w52 hw) (own_w53 hw) (own_w51 hw) (own_w54 hw) (by decide) (rm9_0 l Z a0 hw [] b85 sv_DEFAULTCAPACITY_EMPTY_ELEMENTDATA h85 n0 O85 A85 F_modCount_b85 F_elementData_b85 F_size_b85 g_b85 S_DEFAULTCAPACITY_EMPTY_ELEMENTDATA) e85 rfl (by rw [hml]; rfl) (a := b85) (argsL := []) (rest := [(.ref b85)]) (lenOf own_pd4 rfl) rfl rfl (W := 1) (by exact hW0) (by decide) (by decide) (hb hby at_97) (by decide) (by decide)) ?_
  rintro _ T86 L86 X86 ⟨rfl, N86q, K86q, P86_0, P86_1, P86_2, P86_3⟩
  have le87 : h0.size ≤ h74.size := Nat.le_trans le84 E74.1
  have le88 : h0.size ≤ T75.heap.size := Nat.le_trans le87 K75q.1
  have le89 : h0.size ≤ T81.heap.size := Nat.le_trans le88 K81q.1
  have O86 := Old.keep O85 K86q (allS g_b85 all0)
  have K86 : Keep h0 T86.heap ([] : List Addr) := Keep.trans K85 K86q (allS (Or.inr (Nat.le_trans le89 (Nat.le_of_eq g85.symm))) all0)
  have N86 := Fr.app N81 N86q
  show Home T86 (mkF m 100 #[.val (.int i0), .val (.int i1), .val (.int i2), .val (.int v1), .val (.int v2), .val (.int v3), .val (.int v4), .val (.int v5), sr b56, sr b64, sr b74, .unset, .unset, .unset, .unset, .unset, .unset, .unset, .unset, .unset] [(.ref b85)])
  refine Home.run X86 hx hby sg0_100_1 (pc' := 102) (L' := #[.val (.int i0), .val (.int i1), .val (.int i2), .val (.int v1), .val (.int v2), .val (.int v3), .val (.int v4), .val (.int v5), sr b56, sr b64, sr b74, sr b85, .unset, .unset, .unset, .unset, .unset, .unset, .unset, .unset]) (S' := []) rfl ?_
  refine Home.cut (C := fun E => ∀ {T : State} {lc : List Loc} {hJ : Heap} (X : Stand p l e room_1 s m #[(.int i0), (.int i1), (.int i2)] below meth c T lc 11 40) (N : Fr n0 lc) (eT : T.heap = hJ) (Kq : Keep T86.heap hJ ([b85] : List Addr)) (b900 : Addr) (k900 : ClassId) (sz_b900 : T86.heap.size ≤ b900) (HJ112_0 : Fld Z hJ b85 "java/util/ArrayList" "elementData" "[Ljava/lang/Object;" (.ref b900)) (HJ112_1 : Fld Z hJ b85 "java/util/ArrayList" "size" "I" (.int v4)) (HJ112_2 : Fld Z hJ b85 "java/util/AbstractList" "modCount" "I" (.int v4)) (HJ112_3 : Arv Z hJ b900 k900 (.object "java/lang/Object") (10 : Int32) [(.ref b56), (own_el1 v4 b64), (own_el2 v4 b74), .null, .null, .null, .null, .null, .null, .null] .null), @Home p e below E T (mkF m 149 #[.val (.int i0), .val (.int i1), .val (.int i2), .val (.int v1), .val (.int v2), .val (.int v3), .val (.int v4), .val (.int v5), sr b56, sr b64, sr b74, sr b85, .unset, .unset, .unset, .unset, .unset, .unset, .unset, .unset] [])) (fun _ J112 => ?_) ?_
  ·
   by_cases c90 : v4 = (1 : Int32)
   ·
    have bd91 : ¬ v4 < (1 : Int32) ∧ ¬ (1 : Int32) < v4 := ⟨(bnd_eql c90), (bnd_eqr c90)⟩
    refine Home.run X86 hx hby sg0_102_1 (pc' := 104) (L' := #[.val (.int i0), .val (.int i1), .val (.int i2), .val (.int v1), .val (.int v2), .val (.int v3), .val (.int v4), .val (.int v5), sr b56, sr b64, sr b74, sr b85, .unset, .unset, .unset, .unset, .unset, .unset, .unset, .unset]) (S' := [(.int v4)]) rfl ?_
    refine Home.go (fun _ => XS.ifNo X86.here hx rfl (hb hby at_104) rfl ((if0 _ _).trans (tlt (bnd_lt (bnd_lit (0 : Int32)) bd91 (by decide +kernel))).2.2.2)) ?_
    refine Home.run X86 hx hby sg0_107_2 (pc' := 111) (L' := #[.val (.int i0), .val (.int i1), .val (.int i2), .val (.int v1), .val (.int v2), .val (.int v3), .val (.int v4), .val (.int v5), sr b56, sr b64, sr b74, sr b85, .unset, .unset, .unset, .unset, .unset, .unset, .unset, .unset]) (S' := [(.ref b56), (.ref b85)]) rfl ?_
    have q93 := ((((((((P63_0.ext E64).keep K65q).keep K71q).ext E74).keep K75q).keep K81q).ext E85).keep K86q)
    refine Home.call (own_face X86 hx hZ hown (own_w73 hw) (own_w74 hw) (mvT hZ (own_w75 hw)) (own_w76 hw) (own_w77 hw) (own_w78 hw) (own_w79 hw) (own_w80 hw) (own_w51 hw) (own_w81 hw) (by decide) (rm12_0 l Z a0 hw [] b85 b56 sv_DEFAULTCAPACITY_EMPTY_ELEMENTDATA kde T86.heap n0 O86 P86_1 P86_0 g_b85 P86_2 P86_3 V_de S_DEFAULTCAPACITY_EMPTY_ELEMENTDATA q93) rfl P86_0 rfl (by rw [hml]; rfl) (argsL := [(.ref b56)]) (rest := []) (lenOf own_pd17 rfl) rfl rfl (W := 0) (by exact hW0) (by decide) (by decide) (hb hby at_111) (by decide) (by decide)) ?_
    rintro _ T94 L94 X94 ⟨b6_2_2_7_94, k6_2_2_7_94, rfl, N94q, sz_b6_2_2_7_94, K94q, P94_0, P94_1, P94_2, P94_3, P94_4, P94_5⟩
    have g_b6_2_2_7_94 : n0 ≤ b6_2_2_7_94 := Nat.le_trans (Old.le O86) sz_b6_2_2_7_94
    have O94 := Old.keep O86 K94q (allS g_b85 all0)
    have K94 : Keep h0 T94.heap ([] : List Addr) := Keep.trans K86 K94q (allS (Or.inr (Nat.le_trans le89 (Nat.le_of_eq g85.symm))) all0)
    have N94 := Fr.app N86 N94q
    refine Home.run X94 hx hby sg0_116_3 (pc' := 120) (L' := #[.val (.int i0), .val (.int i1), .val (.int i2), .val (.int v1), .val (.int v2), .val (.int v3), .val (.int v4), .val (.int v5), sr b56, sr b64, sr b74, sr b85, .unset, .unset, .unset, .unset, .unset, .unset, .unset, .unset]) (S' := [(.int (1 : Int32)), (.int v4)]) rfl ?_
    refine Home.go (fun _ => XS.icmpYes X94.here hx rfl (pc0 := 120) (pc' := 133) rfl (hb hby at_120) rfl (flt (bnd_nlt (bnd_lit (1 : Int32)) bd91 (by decide +kernel))).2.2.2 (by decide) (by decide)) ?_
    refine Home.run X94 hx hby sg0_133_2 (pc' := 136) (L' := #[.val (.int i0), .val (.int i1), .val (.int i2), .val (.int v1), .val (.int v2), .val (.int v3), .val (.int v4), .val (.int v5), sr b56, sr b64, sr b74, sr b85, .unset, .unset, .unset, .unset, .unset, .unset, .unset, .unset]) (S' := [(.int (2 : Int32)), (.int v4)]) rfl ?_
    refine Home.go (fun _ => XS.icmpYes X94.here hx rfl (pc0 := 136) (pc' := 149) rfl (hb hby at_136) rfl (flt (bnd_nlt (bnd_lit (2 : Int32)) bd91 (by decide +kernel))).2.2.2 (by decide) (by decide)) ?_
    exact J112 X94 N94 rfl K94q b6_2_2_7_94 k6_2_2_7_94 (Nat.le_trans (Nat.le_refl _) sz_b6_2_2_7_94) P94_2 (by rw [c90]; exact P94_3) (by rw [c90]; exact P94_0) (by rw [c90]; exact P94_4)
   ·
    have bd92 : ¬ v4 < (2 : Int32) ∧ ¬ (3 : Int32) < v4 := ⟨(bnd_nel bd9.1 c90 (by decide +kernel)), bd9.2⟩
    by_cases c95 : v4 = (2 : Int32)
    ·
     have bd96 : ¬ v4 < (2 : Int32) ∧ ¬ (2 : Int32) < v4 := ⟨(bnd_eql c95), (bnd_eqr c95)⟩
     refine Home.run X86 hx hby sg0_102_1 (pc' := 104) (L' := #[.val (.int i0), .val (.int i1), .val (.int i2), .val (.int v1), .val (.int v2), .val (.int v3), .val (.int v4), .val (.int v5), sr b56, sr b64, sr b74, sr b85, .unset, .unset, .unset, .unset, .unset, .unset, .unset, .unset]) (S' := [(.int v4)]) rfl ?_
     refine Home.go (fun _ => XS.ifNo X86.here hx rfl (hb hby at_104) rfl ((if0 _ _).trans (tlt (bnd_lt (bnd_lit (0 : Int32)) bd96 (by decide +kernel))).2.2.2)) ?_
     refine Home.run X86 hx hby sg0_107_2 (pc' := 111) (L' := #[.val (.int i0), .val (.int i1), .val (.int i2), .val (.int v1), .val (.int v2), .val (.int v3), .val (.int v4), .val (.int v5), sr b56, sr b64, sr b74, sr b85, .unset, .unset, .unset, .unset, .unset, .unset, .unset, .unset]) (S' := [(.ref b56), (.ref b85)]) rfl ?_
     have q98 := ((((((((P63_0.ext E64).keep K65q).keep K71q).ext E74).keep K75q).keep K81q).ext E85).keep K86q)
     refine Home.call (own_face X86 hx hZ hown (own_w73 hw) (own_w74 hw) (mvT hZ (own_w75 hw)) (own_w76 hw) (own_w77 hw) (own_w78 hw) (own_w79 hw) (own_w80 hw) (own_w51 hw) (own_w81 hw) (by decide) (rm12_0 l Z a0 hw [] b85 b56 sv_DEFAULTCAPACITY_EMPTY_ELEMENTDATA kde T86.heap n0 O86 P86_1 P86_0 g_b85 P86_2 P86_3 V_de S_DEFAULTCAPACITY_EMPTY_ELEMENTDATA q98) rfl P86_0 rfl (by rw [hml]; rfl) (argsL := [(.ref b56)]) (rest := []) (lenOf own_pd17 rfl) rfl rfl (W := 0) (by exact hW0) (by decide) (by decide) (hb hby at_111) (by decide) (by decide)) ?_
     rintro _ T99 L99 X99 ⟨b6_2_2_7_99, k6_2_2_7_99, rfl, N99q, sz_b6_2_2_7_99, K99q, P99_0, P99_1, P99_2, P99_3, P99_4, P99_5⟩
     have g_b6_2_2_7_99 : n0 ≤ b6_2_2_7_99 := Nat.le_trans (Old.le O86) sz_b6_2_2_7_99
     have O99 := Old.keep O86 K99q (allS g_b85 all0)
     have K99 : Keep h0 T99.heap ([] : List Addr) := Keep.trans K86 K99q (allS (Or.inr (Nat.le_trans le89 (Nat.le_of_eq g85.symm))) all0)
     have N99 := Fr.app N86 N99q
     refine Home.run X99 hx hby sg0_116_3 (pc' := 120) (L' := #[.val (.int i0), .val (.int i1), .val (.int i2), .val (.int v1), .val (.int v2), .val (.int v3), .val (.int v4), .val (.int v5), sr b56, sr b64, sr b74, sr b85, .unset, .unset, .unset, .unset, .unset, .unset, .unset, .unset]) (S' := [(.int (1 : Int32)), (.int v4)]) rfl ?_
     refine Home.go (fun _ => XS.icmpNo X99.here hx rfl (hb hby at_120) rfl (tlt (bnd_lt (bnd_lit (1 : Int32)) bd96 (by decide +kernel))).2.2.2) ?_
     refine Home.run X99 hx hby sg0_123_2 (pc' := 127) (L' := #[.val (.int i0), .val (.int i1), .val (.int i2), .val (.int v1), .val (.int v2), .val (.int v3), .val (.int v4), .val (.int v5), sr b56, sr b64, sr b74, sr b85, .unset, .unset, .unset, .unset, .unset, .unset, .unset, .unset]) (S' := [(.ref b64), (.ref b85)]) rfl ?_
     have q100 := ((((((P71_0.ext E74).keep K75q).keep K81q).ext E85).keep K86q).keep K99q)
     refine Home.call (own_face X99 hx hZ hown (own_w73 hw) (own_w74 hw) (mvT hZ (own_w75 hw)) (own_w76 hw) (own_w77 hw) (own_w78 hw) (own_w79 hw) (own_w80 hw) (own_w51 hw) (own_w81 hw) (by decide) (rm12_1 l Z a0 hw [] b85 b64 b6_2_2_7_99 k6_2_2_7_99 b56 T99.heap n0 O99 P99_0 P99_1 g_b85 P99_2 P99_3 P99_4 P99_5 q100 g_b6_2_2_7_99) rfl P99_1 rfl (by rw [hml]; rfl) (argsL := [(.ref b64)]) (rest := []) (lenOf own_pd17 rfl) rfl rfl (W := 0) (by exact hW0) (by decide) (by decide) (hb hby at_127) (by decide) (by decide)) ?_
     rintro _ T101 L101 X101 ⟨rfl, N101q, K101q, P101_0, P101_1, P101_2, P101_3, P101_4⟩
     have le102 : h0.size ≤ h85.size := Nat.le_trans le89 E85.1
     have le103 : h0.size ≤ T86.heap.size := Nat.le_trans le102 K86q.1
     have O101 := Old.keep O99 K101q (allS g_b85 (allS g_b6_2_2_7_99 all0))
     have K101 : Keep h0 T101.heap ([] : List Addr) := Keep.trans K99 K101q (allS (Or.inr (Nat.le_trans le89 (Nat.le_of_eq g85.symm))) (allS (Or.inr (Nat.le_trans le103 sz_b6_2_2_7_99)) all0))
     have N101 := Fr.app N99 N101q
     show Home T101 (mkF m 132 #[.val (.int i0), .val (.int i1), .val (.int i2), .val (.int v1), .val (.int v2), .val (.int v3), .val (.int v4), .val (.int v5), sr b56, sr b64, sr b74, sr b85, .unset, .unset, .unset, .unset, .unset, .unset, .unset, .unset] [(.int (1 : Int32))])
     refine Home.run X101 hx hby sg0_132_3 (pc' := 136) (L' := #[.val (.int i0), .val (.int i1), .val (.int i2), .val (.int v1), .val (.int v2), .val (.int v3), .val (.int v4), .val (.int v5), sr b56, sr b64, sr b74, sr b85, .unset, .unset, .unset, .unset, .unset, .unset, .unset, .unset]) (S' := [(.int (2 : Int32)), (.int v4)]) rfl ?_
     refine Home.go (fun _ => XS.icmpYes X101.here hx rfl (pc0 := 136) (pc' := 149) rfl (hb hby at_136) rfl (flt (bnd_nlt (bnd_lit (2 : Int32)) bd96 (by decide +kernel))).2.2.2 (by decide) (by decide)) ?_
     have k114 : Keep T86.heap T101.heap [b85] := K99q.trans K101q (allS (Or.inl (List.mem_of_getElem? (i := 0) rfl)) (allS (Or.inr (Nat.le_trans (Nat.le_refl _) sz_b6_2_2_7_99)) all0))
     exact J112 X101 N101 rfl k114 b6_2_2_7_99 k6_2_2_7_99 (Nat.le_trans (Nat.le_refl _) sz_b6_2_2_7_99) P101_2 (by rw [c95]; exact P101_3) (by rw [c95]; exact P101_0) (by rw [c95]; exact P101_4)
    ·
     have bd97 : ¬ v4 < (3 : Int32) ∧ ¬ (3 : Int32) < v4 := ⟨(bnd_nel bd92.1 c95 (by decide +kernel)), bd92.2⟩
     refine Home.run X86 hx hby sg0_102_1 (pc' := 104) (L' := #[.val (.int i0), .val (.int i1), .val (.int i2), .val (.int v1), .val (.int v2), .val (.int v3), .val (.int v4), .val (.int v5), sr b56, sr b64, sr b74, sr b85, .unset, .unset, .unset, .unset, .unset, .unset, .unset, .unset]) (S' := [(.int v4)]) rfl ?_
     refine Home.go (fun _ => XS.ifNo X86.here hx rfl (hb hby at_104) rfl ((if0 _ _).trans (tlt (bnd_lt (bnd_lit (0 : Int32)) bd97 (by decide +kernel))).2.2.2)) ?_
     refine Home.run X86 hx hby sg0_107_2 (pc' := 111) (L' := #[.val (.int i0), .val (.int i1), .val (.int i2), .val (.int v1), .val (.int v2), .val (.int v3), .val (.int v4), .val (.int v5), sr b56, sr b64, sr b74, sr b85, .unset, .unset, .unset, .unset, .unset, .unset, .unset, .unset]) (S' := [(.ref b56), (.ref b85)]) rfl ?_
     have q104 := ((((((((P63_0.ext E64).keep K65q).keep K71q).ext E74).keep K75q).keep K81q).ext E85).keep K86q)
     refine Home.call (own_face X86 hx hZ hown (own_w73 hw) (own_w74 hw) (mvT hZ (own_w75 hw)) (own_w76 hw) (own_w77 hw) (own_w78 hw) (own_w79 hw) (own_w80 hw) (own_w51 hw) (own_w81 hw) (by decide) (rm12_0 l Z a0 hw [] b85 b56 sv_DEFAULTCAPACITY_EMPTY_ELEMENTDATA kde T86.heap n0 O86 P86_1 P86_0 g_b85 P86_2 P86_3 V_de S_DEFAULTCAPACITY_EMPTY_ELEMENTDATA q104) rfl P86_0 rfl (by rw [hml]; rfl) (argsL := [(.ref b56)]) (rest := []) (lenOf own_pd17 rfl) rfl rfl (W := 0) (by exact hW0) (by decide) (by decide) (hb hby at_111) (by decide) (by decide)) ?_
     rintro _ T105 L105 X105 ⟨b6_2_2_7_105, k6_2_2_7_105, rfl, N105q, sz_b6_2_2_7_105, K105q, P105_0, P105_1, P105_2, P105_3, P105_4, P105_5⟩
     have g_b6_2_2_7_105 : n0 ≤ b6_2_2_7_105 := Nat.le_trans (Old.le O86) sz_b6_2_2_7_105
     have O105 := Old.keep O86 K105q (allS g_b85 all0)
     have K105 : Keep h0 T105.heap ([] : List Addr) := Keep.trans K86 K105q (allS (Or.inr (Nat.le_trans le89 (Nat.le_of_eq g85.symm))) all0)
     have N105 := Fr.app N86 N105q
     refine Home.run X105 hx hby sg0_116_3 (pc' := 120) (L' := #[.val (.int i0), .val (.int i1), .val (.int i2), .val (.int v1), .val (.int v2), .val (.int v3), .val (.int v4), .val (.int v5), sr b56, sr b64, sr b74, sr b85, .unset, .unset, .unset, .unset, .unset, .unset, .unset, .unset]) (S' := [(.int (1 : Int32)), (.int v4)]) rfl ?_
     refine Home.go (fun _ => XS.icmpNo X105.here hx rfl (hb hby at_120) rfl (tlt (bnd_lt (bnd_lit (1 : Int32)) bd97 (by decide +kernel))).2.2.2) ?_
     refine Home.run X105 hx hby sg0_123_2 (pc' := 127) (L' := #[.val (.int i0), .val (.int i1), .val (.int i2), .val (.int v1), .val (.int v2), .val (.int v3), .val (.int v4), .val (.int v5), sr b56, sr b64, sr b74, sr b85, .unset, .unset, .unset, .unset, .unset, .unset, .unset, .unset]) (S' := [(.ref b64), (.ref b85)]) rfl ?_
     have q106 := ((((((P71_0.ext E74).keep K75q).keep K81q).ext E85).keep K86q).keep K105q)
     refine Home.call (own_face X105 hx hZ hown (own_w73 hw) (own_w74 hw) (mvT hZ (own_w75 hw)) (own_w76 hw) (own_w77 hw) (own_w78 hw) (own_w79 hw) (own_w80 hw) (own_w51 hw) (own_w81 hw) (by decide) (rm12_1 l Z a0 hw [] b85 b64 b6_2_2_7_105 k6_2_2_7_105 b56 T105.heap n0 O105 P105_0 P105_1 g_b85 P105_2 P105_3 P105_4 P105_5 q106 g_b6_2_2_7_105) rfl P105_1 rfl (by rw [hml]; rfl) (argsL := [(.ref b64)]) (rest := []) (lenOf own_pd17 rfl) rfl rfl (W := 0) (by exact hW0) (by decide) (by decide) (hb hby at_127) (by decide) (by decide)) ?_
     rintro _ T107 L107 X107 ⟨rfl, N107q, K107q, P107_0, P107_1, P107_2, P107_3, P107_4⟩
     have le108 : h0.size ≤ h85.size := Nat.le_trans le89 E85.1
     have le109 : h0.size ≤ T86.heap.size := Nat.le_trans le108 K86q.1
     have O107 := Old.keep O105 K107q (allS g_b85 (allS g_b6_2_2_7_105 all0))
     have K107 : Keep h0 T107.heap ([] : List Addr) := Keep.trans K105 K107q (allS (Or.inr (Nat.le_trans le89 (Nat.le_of_eq g85.symm))) (allS (Or.inr (Nat.le_trans le109 sz_b6_2_2_7_105)) all0))
     have N107 := Fr.app N105 N107q
     show Home T107 (mkF m 132 #[.val (.int i0), .val (.int i1), .val (.int i2), .val (.int v1), .val (.int v2), .val (.int v3), .val (.int v4), .val (.int v5), sr b56, sr b64, sr b74, sr b85, .unset, .unset, .unset, .unset, .unset, .unset, .unset, .unset] [(.int (1 : Int32))])
     refine Home.run X107 hx hby sg0_132_3 (pc' := 136) (L' := #[.val (.int i0), .val (.int i1), .val (.int i2), .val (.int v1), .val (.int v2), .val (.int v3), .val (.int v4), .val (.int v5), sr b56, sr b64, sr b74, sr b85, .unset, .unset, .unset, .unset, .unset, .unset, .unset, .unset]) (S' := [(.int (2 : Int32)), (.int v4)]) rfl ?_
     refine Home.go (fun _ => XS.icmpNo X107.here hx rfl (hb hby at_136) rfl (tlt (bnd_lt (bnd_lit (2 : Int32)) bd97 (by decide +kernel))).2.2.2) ?_
     refine Home.run X107 hx hby sg0_139_2 (pc' := 143) (L' := #[.val (.int i0), .val (.int i1), .val (.int i2), .val (.int v1), .val (.int v2), .val (.int v3), .val (.int v4), .val (.int v5), sr b56, sr b64, sr b74, sr b85, .unset, .unset, .unset, .unset, .unset, .unset, .unset, .unset]) (S' := [(.ref b74), (.ref b85)]) rfl ?_
     have q110 := ((((P81_0.ext E85).keep K86q).keep K105q).keep K107q)
     refine Home.call (own_face X107 hx hZ hown (own_w73 hw) (own_w74 hw) (mvT hZ (own_w75 hw)) (own_w76 hw) (own_w77 hw) (own_w78 hw) (own_w79 hw) (own_w80 hw) (own_w51 hw) (own_w81 hw) (by decide) (rm12_2 l Z a0 hw [] b85 b74 b6_2_2_7_105 k6_2_2_7_105 b56 b64 T107.heap n0 O107 P107_0 P107_1 g_b85 P107_2 P107_3 P107_4 P105_5 q110 g_b6_2_2_7_105) rfl P107_1 rfl (by rw [hml]; rfl) (argsL := [(.ref b74)]) (rest := []) (lenOf own_pd17 rfl) rfl rfl (W := 0) (by exact hW0) (by decide) (by decide) (hb hby at_143) (by decide) (by decide)) ?_
     rintro _ T111 L111 X111 ⟨rfl, N111q, K111q, P111_0, P111_1, P111_2, P111_3, P111_4⟩
     have O111 := Old.keep O107 K111q (allS g_b85 (allS g_b6_2_2_7_105 all0))
     have K111 : Keep h0 T111.heap ([] : List Addr) := Keep.trans K107 K111q (allS (Or.inr (Nat.le_trans le89 (Nat.le_of_eq g85.symm))) (allS (Or.inr (Nat.le_trans le109 sz_b6_2_2_7_105)) all0))
     have N111 := Fr.app N107 N111q
     refine Home.run X111 hx hby sg0_148_1 (pc' := 149) (L' := #[.val (.int i0), .val (.int i1), .val (.int i2), .val (.int v1), .val (.int v2), .val (.int v3), .val (.int v4), .val (.int v5), sr b56, sr b64, sr b74, sr b85, .unset, .unset, .unset, .unset, .unset, .unset, .unset, .unset]) (S' := []) rfl ?_
     have k117 : Keep T86.heap T107.heap [b85] := K105q.trans K107q (allS (Or.inl (List.mem_of_getElem? (i := 0) rfl)) (allS (Or.inr (Nat.le_trans (Nat.le_refl _) sz_b6_2_2_7_105)) all0))
     have k116 : Keep T86.heap T111.heap [b85] := k117.trans K111q (allS (Or.inl (List.mem_of_getElem? (i := 0) rfl)) (allS (Or.inr (Nat.le_trans (Nat.le_refl _) sz_b6_2_2_7_105)) all0))
     exact J112 X111 N111 rfl k116 b6_2_2_7_105 k6_2_2_7_105 (Nat.le_trans (Nat.le_refl _) sz_b6_2_2_7_105) P111_2 (by rw [(bnd_fix bd97)]; exact P111_3) (by rw [(bnd_fix bd97)]; exact P111_0) (by rw [(bnd_fix bd97)]; exact P111_4)
  intro TJ112 lcJ112 hJ112 XJ112 NJ112 eJ112 KqJ112 b900 k900 sz_b900 HJ112_0 HJ112_1 HJ112_2 HJ112_3
  have OJ112 := Old.keep O86 KqJ112 (allS g_b85 all0)
  have KJ112 : Keep h0 hJ112 ([] : List Addr) := Keep.trans K86 KqJ112 (allS (Or.inr (Nat.le_trans le89 (Nat.le_of_eq g85.symm))) all0)
  have g_b900 : n0 ≤ b900 := Nat.le_trans (Old.le O86) sz_b900
  show Home TJ112 (mkF m 149 #[.val (.int i0), .val (.int i1), .val (.int i2), .val (.int v1), .val (.int v2), .val (.int v3), .val (.int v4), .val (.int v5), sr b56, sr b64, sr b74, sr b85, .unset, .unset, .unset, .unset, .unset, .unset, .unset, .unset] [])
  refine Home.run XJ112 hx hby sg0_149_2 (pc' := 152) (L' := #[.val (.int i0), .val (.int i1), .val (.int i2), .val (.int v1), .val (.int v2), .val (.int v3), .val (.int v4), .val (.int v5), sr b56, sr b64, sr b74, sr b85, .unset, .unset, .unset, .unset, .unset, .unset, .unset, .unset]) (S' := [(.int v4), (.int i1)]) rfl ?_
  refine Home.st (own_pure (own_static XJ112 hx hZ hown (own_w108 hw) (own_w109 hw) (own_w110 hw) (own_w111 hw) (by decide) (rm17_1 l Z a0 hw [] i1 v4 hJ112 n0 OJ112 bd9) eJ112 rfl (by rw [hml]; rfl) (argsL := [(.int i1), (.int v4)]) (rest := []) (lenOf own_pd7 rfl) rfl rfl (W := 0) (by exact hW0) (by decide) (by decide) (hb hby at_152) (by decide) (by decide))) fun T119 X119 e119 => ?_
  refine Home.run X119 hx hby sg0_155_1 (pc' := 157) (L' := #[.val (.int i0), .val (.int i1), .val (.int i2), .val (.int v1), .val (.int v2), .val (.int v3), .val (.int v4), .val (.int v5), sr b56, sr b64, sr b74, sr b85, .val (.int ((i1 &&& (255 : Int32)) % v4)), .unset, .unset, .unset, .unset, .unset, .unset, .unset]) (S' := []) rfl ?_
  obtain ⟨v120, hv120⟩ : ∃ z, z = ((i1 &&& (255 : Int32)) % v4) := ⟨_, rfl⟩
  rw [← hv120]
  have bv120 : ¬ v120 < (0 : Int32) ∧ ¬ (2 : Int32) < v120 := by rw [hv120]; exact (bnd_rem2 (bnd_and i1 (255 : Int32) (by decide)) bd9 (hi := (2 : Int32)) (by decide +kernel) (by decide +kernel) (by decide +kernel))
  refine Home.run X119 hx hby sg0_157_4 (pc' := 163) (L' := #[.val (.int i0), .val (.int i1), .val (.int i2), .val (.int v1), .val (.int v2), .val (.int v3), .val (.int v4), .val (.int v5), sr b56, sr b64, sr b74, sr b85, .val (.int v120), .unset, .unset, .unset, .unset, .unset, .unset, .unset]) (S' := [(.int v4), (.int ((i1.toUInt32 >>> ((8 : Int32) &&& 31).toUInt32).toInt32))]) rfl ?_
  refine Home.st (own_pure (own_static X119 hx hZ hown (own_w108 hw) (own_w109 hw) (own_w110 hw) (own_w111 hw) (by decide) (rm17_1 l Z a0 hw [] ((i1.toUInt32 >>> ((8 : Int32) &&& 31).toUInt32).toInt32) v4 hJ112 n0 OJ112 bd9) e119 rfl (by rw [hml]; rfl) (argsL := [(.int ((i1.toUInt32 >>> ((8 : Int32) &&& 31).toUInt32).toInt32)), (.int v4)]) (rest := []) (lenOf own_pd7 rfl) rfl rfl (W := 0) (by exact hW0) (by decide) (by decide) (hb hby at_163) (by decide) (by decide))) fun T121 X121 e121 => ?_
  refine Home.run X121 hx hby sg0_166_1 (pc' := 168) (L' := #[.val (.int i0), .val (.int i1), .val (.int i2), .val (.int v1), .val (.int v2), .val (.int v3), .val (.int v4), .val (.int v5), sr b56, sr b64, sr b74, sr b85, .val (.int v120), .val (.int ((((i1.toUInt32 >>> ((8 : Int32) &&& 31).toUInt32).toInt32) &&& (255 : Int32)) % v4)), .unset, .unset, .unset, .unset, .unset, .unset]) (S' := []) rfl ?_
  obtain ⟨v122, hv122⟩ : ∃ z, z = ((((i1.toUInt32 >>> ((8 : Int32) &&& 31).toUInt32).toInt32) &&& (255 : Int32)) % v4) := ⟨_, rfl⟩
  rw [← hv122]
  have bv122 : ¬ v122 < (0 : Int32) ∧ ¬ (2 : Int32) < v122 := by rw [hv122]; exact (bnd_rem2 (bnd_and ((i1.toUInt32 >>> ((8 : Int32) &&& 31).toUInt32).toInt32) (255 : Int32) (by decide)) bd9 (hi := (2 : Int32)) (by decide +kernel) (by decide +kernel) (by decide +kernel))
  refine Home.run X121 hx hby sg0_168_4 (pc' := 174) (L' := #[.val (.int i0), .val (.int i1), .val (.int i2), .val (.int v1), .val (.int v2), .val (.int v3), .val (.int v4), .val (.int v5), sr b56, sr b64, sr b74, sr b85, .val (.int v120), .val (.int v122), .unset, .unset, .unset, .unset, .unset, .unset]) (S' := [(.int v4), (.int ((i1.toUInt32 >>> ((16 : Int32) &&& 31).toUInt32).toInt32))]) rfl ?_
  refine Home.st (own_pure (own_static X121 hx hZ hown (own_w108 hw) (own_w109 hw) (own_w110 hw) (own_w111 hw) (by decide) (rm17_1 l Z a0 hw [] ((i1.toUInt32 >>> ((16 : Int32) &&& 31).toUInt32).toInt32) v4 hJ112 n0 OJ112 bd9) e121 rfl (by rw [hml]; rfl) (argsL := [(.int ((i1.toUInt32 >>> ((16 : Int32) &&& 31).toUInt32).toInt32)), (.int v4)]) (rest := []) (lenOf own_pd7 rfl) rfl rfl (W := 0) (by exact hW0) (by decide) (by decide) (hb hby at_174) (by decide) (by decide))) fun T123 X123 e123 => ?_
  show Home T123 (mkF m 177 #[.val (.int i0), .val (.int i1), .val (.int i2), .val (.int v1), .val (.int v2), .val (.int v3), .val (.int v4), .val (.int v5), sr b56, sr b64, sr b74, sr b85, .val (.int v120), .val (.int v122), .unset, .unset, .unset, .unset, .unset, .unset] [(.int ((((i1.toUInt32 >>> ((16 : Int32) &&& 31).toUInt32).toInt32) &&& (255 : Int32)) % v4))])
  refine Home.run X123 hx hby sg0_177_1 (pc' := 179) (L' := #[.val (.int i0), .val (.int i1), .val (.int i2), .val (.int v1), .val (.int v2), .val (.int v3), .val (.int v4), .val (.int v5), sr b56, sr b64, sr b74, sr b85, .val (.int v120), .val (.int v122), .val (.int ((((i1.toUInt32 >>> ((16 : Int32) &&& 31).toUInt32).toInt32) &&& (255 : Int32)) % v4)), .unset, .unset, .unset, .unset, .unset]) (S' := []) rfl ?_
  obtain ⟨v124, hv124⟩ : ∃ z, z = ((((i1.toUInt32 >>> ((16 : Int32) &&& 31).toUInt32).toInt32) &&& (255 : Int32)) % v4) := ⟨_, rfl⟩
  rw [← hv124]
  have bv124 : ¬ v124 < (0 : Int32) ∧ ¬ (2 : Int32) < v124 := by rw [hv124]; exact (bnd_rem2 (bnd_and ((i1.toUInt32 >>> ((16 : Int32) &&& 31).toUInt32).toInt32) (255 : Int32) (by decide)) bd9 (hi := (2 : Int32)) (by decide +kernel) (by decide +kernel) (by decide +kernel))
  refine Home.run X123 hx hby sg0_179_4 (pc' := 186) (L' := #[.val (.int i0), .val (.int i1), .val (.int i2), .val (.int v1), .val (.int v2), .val (.int v3), .val (.int v4), .val (.int v5), sr b56, sr b64, sr b74, sr b85, .val (.int v120), .val (.int v122), .val (.int v124), .unset, .unset, .unset, .unset, .unset]) (S' := [(.int v120), (.int v3), (.int v2), (.int v1)]) rfl ?_
  refine Home.st (own_pure (own_static X123 hx hZ hown (own_w112 hw) (own_w113 hw) (own_w110 hw) (own_w114 hw) (by decide) (rm18_1 l Z a0 hw [] v1 v2 v3 v120 hJ112 n0 OJ112 bv1 bv2 bv3 bv120) e123 rfl (by rw [hml]; rfl) (argsL := [(.int v1), (.int v2), (.int v3), (.int v120)]) (rest := []) (lenOf own_pd8 rfl) rfl rfl (W := 0) (by exact hW0) (by decide) (by decide) (hb hby at_186) (by decide) (by decide))) fun T125 X125 e125 => ?_
  show Home T125 (mkF m 189 #[.val (.int i0), .val (.int i1), .val (.int i2), .val (.int v1), .val (.int v2), .val (.int v3), .val (.int v4), .val (.int v5), sr b56, sr b64, sr b74, sr b85, .val (.int v120), .val (.int v122), .val (.int v124), .unset, .unset, .unset, .unset, .unset] [(.int (f_rm18_1 v1 v2 v3 v120))])
  obtain ⟨r126, hr126⟩ : ∃ z, z = (f_rm18_1 v1 v2 v3 v120) := ⟨_, rfl⟩
  rw [← hr126]
  have br126 : ¬ r126 < (0 : Int32) ∧ ¬ (255 : Int32) < r126 := by rw [hr126]; exact f_rm18_1_bnd v1 v2 v3 v120 bv1 bv2 bv3 bv120
  refine Home.run X125 hx hby sg0_189_5 (pc' := 198) (L' := #[.val (.int i0), .val (.int i1), .val (.int i2), .val (.int v1), .val (.int v2), .val (.int v3), .val (.int v4), .val (.int v5), sr b56, sr b64, sr b74, sr b85, .val (.int v120), .val (.int v122), .val (.int v124), .val (.int r126), .unset, .unset, .unset, .unset]) (S' := [(.int v122), (.int v3), (.int v2), (.int v1)]) rfl ?_
  refine Home.st (own_pure (own_static X125 hx hZ hown (own_w112 hw) (own_w113 hw) (own_w110 hw) (own_w114 hw) (by decide) (rm18_1 l Z a0 hw [] v1 v2 v3 v122 hJ112 n0 OJ112 bv1 bv2 bv3 bv122) e125 rfl (by rw [hml]; rfl) (argsL := [(.int v1), (.int v2), (.int v3), (.int v122)]) (rest := []) (lenOf own_pd8 rfl) rfl rfl (W := 0) (by exact hW0) (by decide) (by decide) (hb hby at_198) (by decide) (by decide))) fun T127 X127 e127 => ?_
  show Home T127 (mkF m 201 #[.val (.int i0), .val (.int i1), .val (.int i2), .val (.int v1), .val (.int v2), .val (.int v3), .val (.int v4), .val (.int v5), sr b56, sr b64, sr b74, sr b85, .val (.int v120), .val (.int v122), .val (.int v124), .val (.int r126), .unset, .unset, .unset, .unset] [(.int (f_rm18_1 v1 v2 v3 v122))])
  obtain ⟨r128, hr128⟩ : ∃ z, z = (f_rm18_1 v1 v2 v3 v122) := ⟨_, rfl⟩
  rw [← hr128]
  have br128 : ¬ r128 < (0 : Int32) ∧ ¬ (255 : Int32) < r128 := by rw [hr128]; exact f_rm18_1_bnd v1 v2 v3 v122 bv1 bv2 bv3 bv122
  refine Home.run X127 hx hby sg0_201_5 (pc' := 210) (L' := #[.val (.int i0), .val (.int i1), .val (.int i2), .val (.int v1), .val (.int v2), .val (.int v3), .val (.int v4), .val (.int v5), sr b56, sr b64, sr b74, sr b85, .val (.int v120), .val (.int v122), .val (.int v124), .val (.int r126), .val (.int r128), .unset, .unset, .unset]) (S' := [(.int v124), (.int v3), (.int v2), (.int v1)]) rfl ?_
  refine Home.st (own_pure (own_static X127 hx hZ hown (own_w112 hw) (own_w113 hw) (own_w110 hw) (own_w114 hw) (by decide) (rm18_1 l Z a0 hw [] v1 v2 v3 v124 hJ112 n0 OJ112 bv1 bv2 bv3 bv124) e127 rfl (by rw [hml]; rfl) (argsL := [(.int v1), (.int v2), (.int v3), (.int v124)]) (rest := []) (lenOf own_pd8 rfl) rfl rfl (W := 0) (by exact hW0) (by decide) (by decide) (hb hby at_210) (by decide) (by decide))) fun T129 X129 e129 => ?_
  show Home T129 (mkF m 213 #[.val (.int i0), .val (.int i1), .val (.int i2), .val (.int v1), .val (.int v2), .val (.int v3), .val (.int v4), .val (.int v5), sr b56, sr b64, sr b74, sr b85, .val (.int v120), .val (.int v122), .val (.int v124), .val (.int r126), .val (.int r128), .unset, .unset, .unset] [(.int (f_rm18_1 v1 v2 v3 v124))])
  obtain ⟨r130, hr130⟩ : ∃ z, z = (f_rm18_1 v1 v2 v3 v124) := ⟨_, rfl⟩
  rw [← hr130]
  have br130 : ¬ r130 < (0 : Int32) ∧ ¬ (255 : Int32) < r130 := by rw [hr130]; exact f_rm18_1_bnd v1 v2 v3 v124 bv1 bv2 bv3 bv124
  refine Home.run X129 hx hby sg0_213_1 (pc' := 215) (L' := #[.val (.int i0), .val (.int i1), .val (.int i2), .val (.int v1), .val (.int v2), .val (.int v3), .val (.int v4), .val (.int v5), sr b56, sr b64, sr b74, sr b85, .val (.int v120), .val (.int v122), .val (.int v124), .val (.int r126), .val (.int r128), .val (.int r130), .unset, .unset]) (S' := []) rfl ?_
  refine Home.nw (own_newO X129 hx hZ hown (own_w49 hw) (own_w50 hw) (own_w51 hw) e129 rfl (hb hby at_215) (by decide) (by decide)) fun T131 h131 b131 g131 X131 e131 E131 A131 D131 => ?_
  have g_b131 : n0 ≤ b131 := Nat.le_trans (Old.le OJ112) (Nat.le_of_eq g131.symm)
  have F_modCount_b131 : Fld Z h131 b131 "java/util/AbstractList" "modCount" "I" (.int (0 : Int32)) := D131 (Or.inl (own_w69 hw)) (ty := .int) (by decide)
  have F_elementData_b131 : Fld Z h131 b131 "java/util/ArrayList" "elementData" "[Ljava/lang/Object;" .null := D131 (Or.inl (own_w72 hw)) (ty := (.array (.object "java/lang/Object"))) (by decide)
  have F_size_b131 : Fld Z h131 b131 "java/util/ArrayList" "size" "I" (.int (0 : Int32)) := D131 (Or.inl (own_w85 hw)) (ty := .int) (by decide)
  have O131 := OJ112.ext E131
  have K131 : Keep h0 h131 ([] : List Addr) := Keep.ext KJ112 E131
  refine Home.run X131 hx hby sg0_218_1 (pc' := 219) (L' := #[.val (.int i0), .val (.int i1), .val (.int i2), .val (.int v1), .val (.int v2), .val (.int v3), .val (.int v4), .val (.int v5), sr b56, sr b64, sr b74, sr b85, .val (.int v120), .val (.int v122), .val (.int v124), .val (.int r126), .val (.int r128), .val (.int r130), .unset, .unset]) (S' := [(.ref b131), (.ref b131)]) rfl ?_
  refine Home.call (own_special X131 hx hZ hown rfl (own_w52 hw) (own_w53 hw) (own_w51 hw) (own_w54 hw) (by decide) (rm9_0 l Z a0 hw [] b131 sv_DEFAULTCAPACITY_EMPTY_ELEMENTDATA h131 n0 O131 A131 F_modCount_b131 F_elementData_b131 F_size_b131 g_b131 S_DEFAULTCAPACITY_EMPTY_ELEMENTDATA) e131 rfl (by rw [hml]; rfl) (a := b131) (argsL := []) (rest := [(.ref b131)]) (lenOf own_pd4 rfl) rfl rfl (W := 1) (by exact hW0) (by decide) (by decide) (hb hby at_219) (by decide) (by decide)) ?_
  rintro _ T132 L132 X132 ⟨rfl, N132q, K132q, P132_0, P132_1, P132_2, P132_3⟩
  have le133 : h0.size ≤ h85.size := Nat.le_trans le89 E85.1
  have le134 : h0.size ≤ T86.heap.size := Nat.le_trans le133 K86q.1
  have le135 : h0.size ≤ hJ112.size := Nat.le_trans le134 KqJ112.1
  have O132 := Old.keep O131 K132q (allS g_b131 all0)
  have K132 : Keep h0 T132.heap ([] : List Addr) := Keep.trans K131 K132q (allS (Or.inr (Nat.le_trans le135 (Nat.le_of_eq g131.symm))) all0)
  have N132 := Fr.app NJ112 N132q
  show Home T132 (mkF m 222 #[.val (.int i0), .val (.int i1), .val (.int i2), .val (.int v1), .val (.int v2), .val (.int v3), .val (.int v4), .val (.int v5), sr b56, sr b64, sr b74, sr b85, .val (.int v120), .val (.int v122), .val (.int v124), .val (.int r126), .val (.int r128), .val (.int r130), .unset, .unset] [(.ref b131)])
  refine Home.run X132 hx hby sg0_222_2 (pc' := 226) (L' := #[.val (.int i0), .val (.int i1), .val (.int i2), .val (.int v1), .val (.int v2), .val (.int v3), .val (.int v4), .val (.int v5), sr b56, sr b64, sr b74, sr b85, .val (.int v120), .val (.int v122), .val (.int v124), .val (.int r126), .val (.int r128), .val (.int r130), sr b131, .unset]) (S' := [(.int v5)]) rfl ?_
  by_cases c136 : (0 : Int32) < v5
  ·
   refine Home.go (fun _ => XS.ifNo X132.here hx rfl (hb hby at_226) rfl ((if0 _ _).trans (tlt c136).2.2.2)) ?_
   have bd137 : ¬ v5 < (1 : Int32) ∧ ¬ (3 : Int32) < v5 := ⟨(bnd_up c136 (by decide +kernel)), bv5.2⟩
   refine Home.run X132 hx hby sg0_229_2 (pc' := 233) (L' := #[.val (.int i0), .val (.int i1), .val (.int i2), .val (.int v1), .val (.int v2), .val (.int v3), .val (.int v4), .val (.int v5), sr b56, sr b64, sr b74, sr b85, .val (.int v120), .val (.int v122), .val (.int v124), .val (.int r126), .val (.int r128), .val (.int r130), sr b131, .unset]) (S' := [(.int r126), (.ref b131)]) rfl ?_
   refine Home.call (own_static X132 hx hZ hown (own_w3 hw) (own_w4 hw) (own_w5 hw) (own_w6 hw) (by decide) (rm1_0 l Z a0 hw [] r126 sv_COMPACT_STRINGS T132.heap n0 O132 br126 S_COMPACT_STRINGS hCS) rfl rfl (by rw [hml]; rfl) (argsL := [(.int r126)]) (rest := [(.ref b131)]) (lenOf own_pd3 rfl) rfl rfl (W := 1) (by exact hW0) (by decide) (by decide) (hb hby at_233) (by decide) (by decide)) ?_
   rintro _ T140 L140 X140 ⟨b3_140, b1_4_140, k1_4_140, rfl, N140q, sz_b3_140, sz_b1_4_140, K140q, P140_0, P140_1, P140_2, P140_3⟩
   have g_b3_140 : n0 ≤ b3_140 := Nat.le_trans (Old.le O132) sz_b3_140
   have g_b1_4_140 : n0 ≤ b1_4_140 := Nat.le_trans (Old.le O132) sz_b1_4_140
   have O140 := Old.keep O132 K140q all0
   have K140 : Keep h0 T140.heap ([] : List Addr) := Keep.trans K132 K140q all0
   have N140 := Fr.app N132 N140q
   have q141 := (P132_0.keep K140q)
   have q142 := (P132_1.keep K140q nin0)
   have q143 := (P132_2.keep K140q nin0)
   have q144 := (P132_3.keep K140q nin0)
   refine Home.call (own_face X140 hx hZ hown (own_w73 hw) (own_w74 hw) (mvT hZ (own_w75 hw)) (own_w76 hw) (own_w77 hw) (own_w78 hw) (own_w79 hw) (own_w80 hw) (own_w51 hw) (own_w81 hw) (by decide) (rm12_3 l Z a0 hw [] b131 b3_140 sv_DEFAULTCAPACITY_EMPTY_ELEMENTDATA kde T140.heap n0 O140 q142 q141 g_b131 q143 q144 V_de S_DEFAULTCAPACITY_EMPTY_ELEMENTDATA P140_0) rfl q141 rfl (by rw [hml]; rfl) (argsL := [(.ref b3_140)]) (rest := []) (lenOf own_pd17 rfl) rfl rfl (W := 0) (by exact hW0) (by decide) (by decide) (hb hby at_236) (by decide) (by decide)) ?_
   rintro _ T145 L145 X145 ⟨b6_2_2_7_145, k6_2_2_7_145, rfl, N145q, sz_b6_2_2_7_145, K145q, P145_0, P145_1, P145_2, P145_3, P145_4, P145_5⟩
   have g_b6_2_2_7_145 : n0 ≤ b6_2_2_7_145 := Nat.le_trans (Old.le O140) sz_b6_2_2_7_145
   have O145 := Old.keep O140 K145q (allS g_b131 all0)
   have K145 : Keep h0 T145.heap ([] : List Addr) := Keep.trans K140 K145q (allS (Or.inr (Nat.le_trans le135 (Nat.le_of_eq g131.symm))) all0)
   have N145 := Fr.app N140 N145q
   show Home T145 (mkF m 241 #[.val (.int i0), .val (.int i1), .val (.int i2), .val (.int v1), .val (.int v2), .val (.int v3), .val (.int v4), .val (.int v5), sr b56, sr b64, sr b74, sr b85, .val (.int v120), .val (.int v122), .val (.int v124), .val (.int r126), .val (.int r128), .val (.int r130), sr b131, .unset] [(.int (1 : Int32))])
   refine Home.run X145 hx hby sg0_241_3 (pc' := 245) (L' := #[.val (.int i0), .val (.int i1), .val (.int i2), .val (.int v1), .val (.int v2), .val (.int v3), .val (.int v4), .val (.int v5), sr b56, sr b64, sr b74, sr b85, .val (.int v120), .val (.int v122), .val (.int v124), .val (.int r126), .val (.int r128), .val (.int r130), sr b131, .unset]) (S' := [(.int (1 : Int32)), (.int v5)]) rfl ?_
   by_cases c146 : (1 : Int32) < v5
   ·
    refine Home.go (fun _ => XS.icmpNo X145.here hx rfl (hb hby at_245) rfl (tlt c146).2.2.2) ?_
    have bd147 : ¬ v5 < (2 : Int32) ∧ ¬ (3 : Int32) < v5 := ⟨(bnd_up c146 (by decide +kernel)), bd137.2⟩
    refine Home.run X145 hx hby sg0_248_2 (pc' := 252) (L' := #[.val (.int i0), .val (.int i1), .val (.int i2), .val (.int v1), .val (.int v2), .val (.int v3), .val (.int v4), .val (.int v5), sr b56, sr b64, sr b74, sr b85, .val (.int v120), .val (.int v122), .val (.int v124), .val (.int r126), .val (.int r128), .val (.int r130), sr b131, .unset]) (S' := [(.int r128), (.ref b131)]) rfl ?_
    refine Home.call (own_static X145 hx hZ hown (own_w3 hw) (own_w4 hw) (own_w5 hw) (own_w6 hw) (by decide) (rm1_0 l Z a0 hw [] r128 sv_COMPACT_STRINGS T145.heap n0 O145 br128 S_COMPACT_STRINGS hCS) rfl rfl (by rw [hml]; rfl) (argsL := [(.int r128)]) (rest := [(.ref b131)]) (lenOf own_pd3 rfl) rfl rfl (W := 1) (by exact hW0) (by decide) (by decide) (hb hby at_252) (by decide) (by decide)) ?_
    rintro _ T150 L150 X150 ⟨b3_150, b1_4_150, k1_4_150, rfl, N150q, sz_b3_150, sz_b1_4_150, K150q, P150_0, P150_1, P150_2, P150_3⟩
    have g_b3_150 : n0 ≤ b3_150 := Nat.le_trans (Old.le O145) sz_b3_150
    have g_b1_4_150 : n0 ≤ b1_4_150 := Nat.le_trans (Old.le O145) sz_b1_4_150
    have O150 := Old.keep O145 K150q all0
    have K150 : Keep h0 T150.heap ([] : List Addr) := Keep.trans K145 K150q all0
    have N150 := Fr.app N145 N150q
    have q151 := (P145_1.keep K150q)
    have q152 := (P145_0.keep K150q nin0)
    have q153 := (P145_2.keep K150q nin0)
    have q154 := (P145_3.keep K150q nin0)
    have q155 := (P145_4.keep K150q nin0)
    refine Home.call (own_face X150 hx hZ hown (own_w73 hw) (own_w74 hw) (mvT hZ (own_w75 hw)) (own_w76 hw) (own_w77 hw) (own_w78 hw) (own_w79 hw) (own_w80 hw) (own_w51 hw) (own_w81 hw) (by decide) (rm12_4 l Z a0 hw [] b131 b3_150 b6_2_2_7_145 k6_2_2_7_145 b3_140 T150.heap n0 O150 q152 q151 g_b131 q153 q154 q155 P145_5 P150_0 g_b6_2_2_7_145) rfl q151 rfl (by rw [hml]; rfl) (argsL := [(.ref b3_150)]) (rest := []) (lenOf own_pd17 rfl) rfl rfl (W := 0) (by exact hW0) (by decide) (by decide) (hb hby at_255) (by decide) (by decide)) ?_
    rintro _ T156 L156 X156 ⟨rfl, N156q, K156q, P156_0, P156_1, P156_2, P156_3, P156_4⟩
    have le157 : h0.size ≤ h131.size := Nat.le_trans le135 E131.1
    have le158 : h0.size ≤ T132.heap.size := Nat.le_trans le157 K132q.1
    have le159 : h0.size ≤ T140.heap.size := Nat.le_trans le158 K140q.1
    have O156 := Old.keep O150 K156q (allS g_b131 (allS g_b6_2_2_7_145 all0))
    have K156 : Keep h0 T156.heap ([] : List Addr) := Keep.trans K150 K156q (allS (Or.inr (Nat.le_trans le135 (Nat.le_of_eq g131.symm))) (allS (Or.inr (Nat.le_trans le159 sz_b6_2_2_7_145)) all0))
    have N156 := Fr.app N150 N156q
    show Home T156 (mkF m 260 #[.val (.int i0), .val (.int i1), .val (.int i2), .val (.int v1), .val (.int v2), .val (.int v3), .val (.int v4), .val (.int v5), sr b56, sr b64, sr b74, sr b85, .val (.int v120), .val (.int v122), .val (.int v124), .val (.int r126), .val (.int r128), .val (.int r130), sr b131, .unset] [(.int (1 : Int32))])
    refine Home.run X156 hx hby sg0_260_3 (pc' := 264) (L' := #[.val (.int i0), .val (.int i1), .val (.int i2), .val (.int v1), .val (.int v2), .val (.int v3), .val (.int v4), .val (.int v5), sr b56, sr b64, sr b74, sr b85, .val (.int v120), .val (.int v122), .val (.int v124), .val (.int r126), .val (.int r128), .val (.int r130), sr b131, .unset]) (S' := [(.int (2 : Int32)), (.int v5)]) rfl ?_
    by_cases c160 : (2 : Int32) < v5
    ·
     refine Home.go (fun _ => XS.icmpNo X156.here hx rfl (hb hby at_264) rfl (tlt c160).2.2.2) ?_
     have bd161 : ¬ v5 < (3 : Int32) ∧ ¬ (3 : Int32) < v5 := ⟨(bnd_up c160 (by decide +kernel)), bd147.2⟩
     have fx162 : v5 = (3 : Int32) := bnd_fix bd161
     try rw [fx162]
     show Home T156 (mkF m 267 #[.val (.int i0), .val (.int i1), .val (.int i2), .val (.int v1), .val (.int v2), .val (.int v3), .val (.int v4), .val (.int (3 : Int32)), sr b56, sr b64, sr b74, sr b85, .val (.int v120), .val (.int v122), .val (.int v124), .val (.int r126), .val (.int r128), .val (.int r130), sr b131, .unset] [])
     refine Home.run X156 hx hby sg0_267_2 (pc' := 271) (L' := #[.val (.int i0), .val (.int i1), .val (.int i2), .val (.int v1), .val (.int v2), .val (.int v3), .val (.int v4), .val (.int (3 : Int32)), sr b56, sr b64, sr b74, sr b85, .val (.int v120), .val (.int v122), .val (.int v124), .val (.int r126), .val (.int r128), .val (.int r130), sr b131, .unset]) (S' := [(.int r130), (.ref b131)]) rfl ?_
     refine Home.call (own_static X156 hx hZ hown (own_w3 hw) (own_w4 hw) (own_w5 hw) (own_w6 hw) (by decide) (rm1_0 l Z a0 hw [] r130 sv_COMPACT_STRINGS T156.heap n0 O156 br130 S_COMPACT_STRINGS hCS) rfl rfl (by rw [hml]; rfl) (argsL := [(.int r130)]) (rest := [(.ref b131)]) (lenOf own_pd3 rfl) rfl rfl (W := 1) (by exact hW0) (by decide) (by decide) (hb hby at_271) (by decide) (by decide)) ?_
     rintro _ T165 L165 X165 ⟨b3_165, b1_4_165, k1_4_165, rfl, N165q, sz_b3_165, sz_b1_4_165, K165q, P165_0, P165_1, P165_2, P165_3⟩
     have g_b3_165 : n0 ≤ b3_165 := Nat.le_trans (Old.le O156) sz_b3_165
     have g_b1_4_165 : n0 ≤ b1_4_165 := Nat.le_trans (Old.le O156) sz_b1_4_165
     have O165 := Old.keep O156 K165q all0
     have K165 : Keep h0 T165.heap ([] : List Addr) := Keep.trans K156 K165q all0
     have N165 := Fr.app N156 N165q
     have q166 := (P156_1.keep K165q)
     have q167 := (P156_0.keep K165q nin0)
     have q168 := (P156_2.keep K165q nin0)
     have q169 := (P156_3.keep K165q nin0)
     have q170 := (P156_4.keep K165q nin0)
     refine Home.call (own_face X165 hx hZ hown (own_w73 hw) (own_w74 hw) (mvT hZ (own_w75 hw)) (own_w76 hw) (own_w77 hw) (own_w78 hw) (own_w79 hw) (own_w80 hw) (own_w51 hw) (own_w81 hw) (by decide) (rm12_5 l Z a0 hw [] b131 b3_165 b6_2_2_7_145 k6_2_2_7_145 b3_140 b3_150 T165.heap n0 O165 q167 q166 g_b131 q168 q169 q170 P145_5 P165_0 g_b6_2_2_7_145) rfl q166 rfl (by rw [hml]; rfl) (argsL := [(.ref b3_165)]) (rest := []) (lenOf own_pd17 rfl) rfl rfl (W := 0) (by exact hW0) (by decide) (by decide) (hb hby at_274) (by decide) (by decide)) ?_
     rintro _ T171 L171 X171 ⟨rfl, N171q, K171q, P171_0, P171_1, P171_2, P171_3, P171_4⟩
     have O171 := Old.keep O165 K171q (allS g_b131 (allS g_b6_2_2_7_145 all0))
     have K171 : Keep h0 T171.heap ([] : List Addr) := Keep.trans K165 K171q (allS (Or.inr (Nat.le_trans le135 (Nat.le_of_eq g131.symm))) (allS (Or.inr (Nat.le_trans le159 sz_b6_2_2_7_145)) all0))
     have N171 := Fr.app N165 N171q
     show Home T171 (mkF m 279 #[.val (.int i0), .val (.int i1), .val (.int i2), .val (.int v1), .val (.int v2), .val (.int v3), .val (.int v4), .val (.int (3 : Int32)), sr b56, sr b64, sr b74, sr b85, .val (.int v120), .val (.int v122), .val (.int v124), .val (.int r126), .val (.int r128), .val (.int r130), sr b131, .unset] [(.int (1 : Int32))])
     refine Home.run X171 hx hby sg0_279_3 (pc' := 284) (L' := #[.val (.int i0), .val (.int i1), .val (.int i2), .val (.int v1), .val (.int v2), .val (.int v3), .val (.int v4), .val (.int (3 : Int32)), sr b56, sr b64, sr b74, sr b85, .val (.int v120), .val (.int v122), .val (.int v124), .val (.int r126), .val (.int r128), .val (.int r130), sr b131, .unset]) (S' := [(.ref b131), (.ref b85)]) rfl ?_
     have q172 := (((((P140_0.keep K145q).keep K150q).keep K156q).keep K165q).keep K171q)
     have q173 := (((((((((P86_0.keep KqJ112).ext E131).keep K132q).keep K140q).keep K145q).keep K150q).keep K156q).keep K165q).keep K171q)
     have le174 : h85.size ≤ hJ112.size := Nat.le_trans K86q.1 KqJ112.1
     have ne175 : b85 ≠ b131 := (Nat.ne_of_lt (Nat.lt_of_lt_of_le A85.lt (Nat.le_trans le174 (Nat.le_of_eq g131.symm))))
     have le176 : h85.size ≤ h131.size := Nat.le_trans le174 E131.1
     have le177 : h85.size ≤ T132.heap.size := Nat.le_trans le176 K132q.1
     have le178 : h85.size ≤ T140.heap.size := Nat.le_trans le177 K140q.1
     have ne179 : b85 ≠ b6_2_2_7_145 := (Nat.ne_of_lt (Nat.lt_of_lt_of_le A85.lt (Nat.le_trans le178 sz_b6_2_2_7_145)))
     have q180 := ((((((((HJ112_2.ext E131).keep K132q (ninS ne175 nin0)).keep K140q nin0).keep K145q (ninS ne175 nin0)).keep K150q nin0).keep K156q (ninS ne175 (ninS ne179 nin0))).keep K165q nin0).keep K171q (ninS ne175 (ninS ne179 nin0)))
     have q181 := ((((((((HJ112_1.ext E131).keep K132q (ninS ne175 nin0)).keep K140q nin0).keep K145q (ninS ne175 nin0)).keep K150q nin0).keep K156q (ninS ne175 (ninS ne179 nin0))).keep K165q nin0).keep K171q (ninS ne175 (ninS ne179 nin0)))
     have q182 := ((((((((HJ112_0.ext E131).keep K132q (ninS ne175 nin0)).keep K140q nin0).keep K145q (ninS ne175 nin0)).keep K150q nin0).keep K156q (ninS ne175 (ninS ne179 nin0))).keep K165q nin0).keep K171q (ninS ne175 (ninS ne179 nin0)))
     have ne183 : b900 ≠ b131 := (Nat.ne_of_lt (Nat.lt_of_lt_of_le HJ112_3.lt (Nat.le_trans (Nat.le_refl _) (Nat.le_of_eq g131.symm))))
     have le184 : hJ112.size ≤ T132.heap.size := Nat.le_trans E131.1 K132q.1
     have le185 : hJ112.size ≤ T140.heap.size := Nat.le_trans le184 K140q.1
     have ne186 : b900 ≠ b6_2_2_7_145 := (Nat.ne_of_lt (Nat.lt_of_lt_of_le HJ112_3.lt (Nat.le_trans le185 sz_b6_2_2_7_145)))
     have q187 := ((((((((HJ112_3.ext E131).keep K132q (ninS ne183 nin0)).keep K140q nin0).keep K145q (ninS ne183 nin0)).keep K150q nin0).keep K156q (ninS ne183 (ninS ne186 nin0))).keep K165q nin0).keep K171q (ninS ne183 (ninS ne186 nin0)))
     have q188 := (((((((((((((((((P63_0.ext E64).keep K65q).keep K71q).ext E74).keep K75q).keep K81q).ext E85).keep K86q).keep KqJ112).ext E131).keep K132q).keep K140q).keep K145q).keep K150q).keep K156q).keep K165q).keep K171q)
     have le189 : h56.size ≤ T63.heap.size := Nat.le_trans K57q.1 K63q.1
     have ne190 : b56 ≠ b64 := (Nat.ne_of_lt (Nat.lt_of_lt_of_le A56.lt (Nat.le_trans le189 (Nat.le_of_eq g64.symm))))
     have le191 : h56.size ≤ h64.size := Nat.le_trans le189 E64.1
     have le192 : h56.size ≤ T65.heap.size := Nat.le_trans le191 K65q.1
     have le193 : h56.size ≤ T71.heap.size := Nat.le_trans le192 K71q.1
     have ne194 : b56 ≠ b74 := (Nat.ne_of_lt (Nat.lt_of_lt_of_le A56.lt (Nat.le_trans le193 (Nat.le_of_eq g74.symm))))
     have le195 : h56.size ≤ h74.size := Nat.le_trans le193 E74.1
     have le196 : h56.size ≤ T75.heap.size := Nat.le_trans le195 K75q.1
     have le197 : h56.size ≤ T81.heap.size := Nat.le_trans le196 K81q.1
     have ne198 : b56 ≠ b85 := (Nat.ne_of_lt (Nat.lt_of_lt_of_le A56.lt (Nat.le_trans le197 (Nat.le_of_eq g85.symm))))
     have le199 : h56.size ≤ h85.size := Nat.le_trans le197 E85.1
     have le200 : h56.size ≤ T86.heap.size := Nat.le_trans le199 K86q.1
     have le201 : h56.size ≤ hJ112.size := Nat.le_trans le200 KqJ112.1
     have ne202 : b56 ≠ b131 := (Nat.ne_of_lt (Nat.lt_of_lt_of_le A56.lt (Nat.le_trans le201 (Nat.le_of_eq g131.symm))))
     have le203 : h56.size ≤ h131.size := Nat.le_trans le201 E131.1
     have le204 : h56.size ≤ T132.heap.size := Nat.le_trans le203 K132q.1
     have le205 : h56.size ≤ T140.heap.size := Nat.le_trans le204 K140q.1
     have ne206 : b56 ≠ b6_2_2_7_145 := (Nat.ne_of_lt (Nat.lt_of_lt_of_le A56.lt (Nat.le_trans le205 sz_b6_2_2_7_145)))
     have q207 := (((((((((((((((((P63_1.ext E64).keep K65q nin0).keep K71q (ninS ne190 nin0)).ext E74).keep K75q nin0).keep K81q (ninS ne194 nin0)).ext E85).keep K86q (ninS ne198 nin0)).keep KqJ112 (ninS ne198 nin0)).ext E131).keep K132q (ninS ne202 nin0)).keep K140q nin0).keep K145q (ninS ne202 nin0)).keep K150q nin0).keep K156q (ninS ne202 (ninS ne206 nin0))).keep K165q nin0).keep K171q (ninS ne202 (ninS ne206 nin0)))
     have q208 := ((((((((((((((((((P57_0.keep K63q).ext E64).keep K65q).keep K71q).ext E74).keep K75q).keep K81q).ext E85).keep K86q).keep KqJ112).ext E131).keep K132q).keep K140q).keep K145q).keep K150q).keep K156q).keep K165q).keep K171q)
     have ne209 : b3_57 ≠ b56 := (Ne.symm (Nat.ne_of_lt (Nat.lt_of_lt_of_le A56.lt (Nat.le_trans (Nat.le_refl _) sz_b3_57))))
     have ne210 : b3_57 ≠ b64 := (Nat.ne_of_lt (Nat.lt_of_lt_of_le P57_0.lt (Nat.le_trans K63q.1 (Nat.le_of_eq g64.symm))))
     have le211 : T57.heap.size ≤ h64.size := Nat.le_trans K63q.1 E64.1
     have le212 : T57.heap.size ≤ T65.heap.size := Nat.le_trans le211 K65q.1
     have le213 : T57.heap.size ≤ T71.heap.size := Nat.le_trans le212 K71q.1
     have ne214 : b3_57 ≠ b74 := (Nat.ne_of_lt (Nat.lt_of_lt_of_le P57_0.lt (Nat.le_trans le213 (Nat.le_of_eq g74.symm))))
     have le215 : T57.heap.size ≤ h74.size := Nat.le_trans le213 E74.1
     have le216 : T57.heap.size ≤ T75.heap.size := Nat.le_trans le215 K75q.1
     have le217 : T57.heap.size ≤ T81.heap.size := Nat.le_trans le216 K81q.1
     have ne218 : b3_57 ≠ b85 := (Nat.ne_of_lt (Nat.lt_of_lt_of_le P57_0.lt (Nat.le_trans le217 (Nat.le_of_eq g85.symm))))
     have le219 : T57.heap.size ≤ h85.size := Nat.le_trans le217 E85.1
     have le220 : T57.heap.size ≤ T86.heap.size := Nat.le_trans le219 K86q.1
     have le221 : T57.heap.size ≤ hJ112.size := Nat.le_trans le220 KqJ112.1
     have ne222 : b3_57 ≠ b131 := (Nat.ne_of_lt (Nat.lt_of_lt_of_le P57_0.lt (Nat.le_trans le221 (Nat.le_of_eq g131.symm))))
     have le223 : T57.heap.size ≤ h131.size := Nat.le_trans le221 E131.1
     have le224 : T57.heap.size ≤ T132.heap.size := Nat.le_trans le223 K132q.1
     have le225 : T57.heap.size ≤ T140.heap.size := Nat.le_trans le224 K140q.1
     have ne226 : b3_57 ≠ b6_2_2_7_145 := (Nat.ne_of_lt (Nat.lt_of_lt_of_le P57_0.lt (Nat.le_trans le225 sz_b6_2_2_7_145)))
     have q227 := ((((((((((((((((((P57_2.keep K63q (ninS ne209 nin0)).ext E64).keep K65q nin0).keep K71q (ninS ne210 nin0)).ext E74).keep K75q nin0).keep K81q (ninS ne214 nin0)).ext E85).keep K86q (ninS ne218 nin0)).keep KqJ112 (ninS ne218 nin0)).ext E131).keep K132q (ninS ne222 nin0)).keep K140q nin0).keep K145q (ninS ne222 nin0)).keep K150q nin0).keep K156q (ninS ne222 (ninS ne226 nin0))).keep K165q nin0).keep K171q (ninS ne222 (ninS ne226 nin0)))
     have ne228 : b3_140 ≠ b131 := (Ne.symm (Nat.ne_of_lt (Nat.lt_of_lt_of_le A131.lt (Nat.le_trans K132q.1 sz_b3_140))))
     have ne229 : b3_140 ≠ b6_2_2_7_145 := (Nat.ne_of_lt (Nat.lt_of_lt_of_le P140_0.lt (Nat.le_trans (Nat.le_refl _) sz_b6_2_2_7_145)))
     have q230 := (((((P140_2.keep K145q (ninS ne228 nin0)).keep K150q nin0).keep K156q (ninS ne228 (ninS ne229 nin0))).keep K165q nin0).keep K171q (ninS ne228 (ninS ne229 nin0)))
     have q231 := ((((((((((((((((((P57_1.keep K63q (ninS ne209 nin0)).ext E64).keep K65q nin0).keep K71q (ninS ne210 nin0)).ext E74).keep K75q nin0).keep K81q (ninS ne214 nin0)).ext E85).keep K86q (ninS ne218 nin0)).keep KqJ112 (ninS ne218 nin0)).ext E131).keep K132q (ninS ne222 nin0)).keep K140q nin0).keep K145q (ninS ne222 nin0)).keep K150q nin0).keep K156q (ninS ne222 (ninS ne226 nin0))).keep K165q nin0).keep K171q (ninS ne222 (ninS ne226 nin0)))
     have q232 := (((((P140_1.keep K145q (ninS ne228 nin0)).keep K150q nin0).keep K156q (ninS ne228 (ninS ne229 nin0))).keep K165q nin0).keep K171q (ninS ne228 (ninS ne229 nin0)))
     have ne233 : b1_4_57 ≠ b56 := (Ne.symm (Nat.ne_of_lt (Nat.lt_of_lt_of_le A56.lt (Nat.le_trans (Nat.le_refl _) sz_b1_4_57))))
     have ne234 : b1_4_57 ≠ b64 := (Nat.ne_of_lt (Nat.lt_of_lt_of_le P57_3.lt (Nat.le_trans K63q.1 (Nat.le_of_eq g64.symm))))
     have ne235 : b1_4_57 ≠ b74 := (Nat.ne_of_lt (Nat.lt_of_lt_of_le P57_3.lt (Nat.le_trans le213 (Nat.le_of_eq g74.symm))))
     have ne236 : b1_4_57 ≠ b85 := (Nat.ne_of_lt (Nat.lt_of_lt_of_le P57_3.lt (Nat.le_trans le217 (Nat.le_of_eq g85.symm))))
     have ne237 : b1_4_57 ≠ b131 := (Nat.ne_of_lt (Nat.lt_of_lt_of_le P57_3.lt (Nat.le_trans le221 (Nat.le_of_eq g131.symm))))
     have ne238 : b1_4_57 ≠ b6_2_2_7_145 := (Nat.ne_of_lt (Nat.lt_of_lt_of_le P57_3.lt (Nat.le_trans le225 sz_b6_2_2_7_145)))
     have q239 := ((((((((((((((((((P57_3.keep K63q (ninS ne233 nin0)).ext E64).keep K65q nin0).keep K71q (ninS ne234 nin0)).ext E74).keep K75q nin0).keep K81q (ninS ne235 nin0)).ext E85).keep K86q (ninS ne236 nin0)).keep KqJ112 (ninS ne236 nin0)).ext E131).keep K132q (ninS ne237 nin0)).keep K140q nin0).keep K145q (ninS ne237 nin0)).keep K150q nin0).keep K156q (ninS ne237 (ninS ne238 nin0))).keep K165q nin0).keep K171q (ninS ne237 (ninS ne238 nin0)))
     have ne240 : b1_4_140 ≠ b131 := (Ne.symm (Nat.ne_of_lt (Nat.lt_of_lt_of_le A131.lt (Nat.le_trans K132q.1 sz_b1_4_140))))
     have ne241 : b1_4_140 ≠ b6_2_2_7_145 := (Nat.ne_of_lt (Nat.lt_of_lt_of_le P140_3.lt (Nat.le_trans (Nat.le_refl _) sz_b6_2_2_7_145)))
     have q242 := (((((P140_3.keep K145q (ninS ne240 nin0)).keep K150q nin0).keep K156q (ninS ne240 (ninS ne241 nin0))).keep K165q nin0).keep K171q (ninS ne240 (ninS ne241 nin0)))
     have q243 := ((((((((((((((P71_0.ext E74).keep K75q).keep K81q).ext E85).keep K86q).keep KqJ112).ext E131).keep K132q).keep K140q).keep K145q).keep K150q).keep K156q).keep K165q).keep K171q)
     have le244 : h64.size ≤ T71.heap.size := Nat.le_trans K65q.1 K71q.1
     have ne245 : b64 ≠ b74 := (Nat.ne_of_lt (Nat.lt_of_lt_of_le A64.lt (Nat.le_trans le244 (Nat.le_of_eq g74.symm))))
     have le246 : h64.size ≤ h74.size := Nat.le_trans le244 E74.1
     have le247 : h64.size ≤ T75.heap.size := Nat.le_trans le246 K75q.1
     have le248 : h64.size ≤ T81.heap.size := Nat.le_trans le247 K81q.1
     have ne249 : b64 ≠ b85 := (Nat.ne_of_lt (Nat.lt_of_lt_of_le A64.lt (Nat.le_trans le248 (Nat.le_of_eq g85.symm))))
     have le250 : h64.size ≤ h85.size := Nat.le_trans le248 E85.1
     have le251 : h64.size ≤ T86.heap.size := Nat.le_trans le250 K86q.1
     have le252 : h64.size ≤ hJ112.size := Nat.le_trans le251 KqJ112.1
     have ne253 : b64 ≠ b131 := (Nat.ne_of_lt (Nat.lt_of_lt_of_le A64.lt (Nat.le_trans le252 (Nat.le_of_eq g131.symm))))
     have le254 : h64.size ≤ h131.size := Nat.le_trans le252 E131.1
     have le255 : h64.size ≤ T132.heap.size := Nat.le_trans le254 K132q.1
     have le256 : h64.size ≤ T140.heap.size := Nat.le_trans le255 K140q.1
     have ne257 : b64 ≠ b6_2_2_7_145 := (Nat.ne_of_lt (Nat.lt_of_lt_of_le A64.lt (Nat.le_trans le256 sz_b6_2_2_7_145)))
     have q258 := ((((((((((((((P71_1.ext E74).keep K75q nin0).keep K81q (ninS ne245 nin0)).ext E85).keep K86q (ninS ne249 nin0)).keep KqJ112 (ninS ne249 nin0)).ext E131).keep K132q (ninS ne253 nin0)).keep K140q nin0).keep K145q (ninS ne253 nin0)).keep K150q nin0).keep K156q (ninS ne253 (ninS ne257 nin0))).keep K165q nin0).keep K171q (ninS ne253 (ninS ne257 nin0)))
     have q259 := (((((((((((((((P65_0.keep K71q).ext E74).keep K75q).keep K81q).ext E85).keep K86q).keep KqJ112).ext E131).keep K132q).keep K140q).keep K145q).keep K150q).keep K156q).keep K165q).keep K171q)
     have ne260 : b3_65 ≠ b64 := (Ne.symm (Nat.ne_of_lt (Nat.lt_of_lt_of_le A64.lt (Nat.le_trans (Nat.le_refl _) sz_b3_65))))
     have ne261 : b3_65 ≠ b74 := (Nat.ne_of_lt (Nat.lt_of_lt_of_le P65_0.lt (Nat.le_trans K71q.1 (Nat.le_of_eq g74.symm))))
     have le262 : T65.heap.size ≤ h74.size := Nat.le_trans K71q.1 E74.1
     have le263 : T65.heap.size ≤ T75.heap.size := Nat.le_trans le262 K75q.1
     have le264 : T65.heap.size ≤ T81.heap.size := Nat.le_trans le263 K81q.1
     have ne265 : b3_65 ≠ b85 := (Nat.ne_of_lt (Nat.lt_of_lt_of_le P65_0.lt (Nat.le_trans le264 (Nat.le_of_eq g85.symm))))
     have le266 : T65.heap.size ≤ h85.size := Nat.le_trans le264 E85.1
     have le267 : T65.heap.size ≤ T86.heap.size := Nat.le_trans le266 K86q.1
     have le268 : T65.heap.size ≤ hJ112.size := Nat.le_trans le267 KqJ112.1
     have ne269 : b3_65 ≠ b131 := (Nat.ne_of_lt (Nat.lt_of_lt_of_le P65_0.lt (Nat.le_trans le268 (Nat.le_of_eq g131.symm))))
     have le270 : T65.heap.size ≤ h131.size := Nat.le_trans le268 E131.1
     have le271 : T65.heap.size ≤ T132.heap.size := Nat.le_trans le270 K132q.1
     have le272 : T65.heap.size ≤ T140.heap.size := Nat.le_trans le271 K140q.1
     have ne273 : b3_65 ≠ b6_2_2_7_145 := (Nat.ne_of_lt (Nat.lt_of_lt_of_le P65_0.lt (Nat.le_trans le272 sz_b6_2_2_7_145)))
     have q274 := (((((((((((((((P65_2.keep K71q (ninS ne260 nin0)).ext E74).keep K75q nin0).keep K81q (ninS ne261 nin0)).ext E85).keep K86q (ninS ne265 nin0)).keep KqJ112 (ninS ne265 nin0)).ext E131).keep K132q (ninS ne269 nin0)).keep K140q nin0).keep K145q (ninS ne269 nin0)).keep K150q nin0).keep K156q (ninS ne269 (ninS ne273 nin0))).keep K165q nin0).keep K171q (ninS ne269 (ninS ne273 nin0)))
     have q275 := (((((((((((((((P65_1.keep K71q (ninS ne260 nin0)).ext E74).keep K75q nin0).keep K81q (ninS ne261 nin0)).ext E85).keep K86q (ninS ne265 nin0)).keep KqJ112 (ninS ne265 nin0)).ext E131).keep K132q (ninS ne269 nin0)).keep K140q nin0).keep K145q (ninS ne269 nin0)).keep K150q nin0).keep K156q (ninS ne269 (ninS ne273 nin0))).keep K165q nin0).keep K171q (ninS ne269 (ninS ne273 nin0)))
     have ne276 : b1_4_65 ≠ b64 := (Ne.symm (Nat.ne_of_lt (Nat.lt_of_lt_of_le A64.lt (Nat.le_trans (Nat.le_refl _) sz_b1_4_65))))
     have ne277 : b1_4_65 ≠ b74 := (Nat.ne_of_lt (Nat.lt_of_lt_of_le P65_3.lt (Nat.le_trans K71q.1 (Nat.le_of_eq g74.symm))))
     have ne278 : b1_4_65 ≠ b85 := (Nat.ne_of_lt (Nat.lt_of_lt_of_le P65_3.lt (Nat.le_trans le264 (Nat.le_of_eq g85.symm))))
     have ne279 : b1_4_65 ≠ b131 := (Nat.ne_of_lt (Nat.lt_of_lt_of_le P65_3.lt (Nat.le_trans le268 (Nat.le_of_eq g131.symm))))
     have ne280 : b1_4_65 ≠ b6_2_2_7_145 := (Nat.ne_of_lt (Nat.lt_of_lt_of_le P65_3.lt (Nat.le_trans le272 sz_b6_2_2_7_145)))
     have q281 := (((((((((((((((P65_3.keep K71q (ninS ne276 nin0)).ext E74).keep K75q nin0).keep K81q (ninS ne277 nin0)).ext E85).keep K86q (ninS ne278 nin0)).keep KqJ112 (ninS ne278 nin0)).ext E131).keep K132q (ninS ne279 nin0)).keep K140q nin0).keep K145q (ninS ne279 nin0)).keep K150q nin0).keep K156q (ninS ne279 (ninS ne280 nin0))).keep K165q nin0).keep K171q (ninS ne279 (ninS ne280 nin0)))
     have q282 := (((((((((((P81_0.ext E85).keep K86q).keep KqJ112).ext E131).keep K132q).keep K140q).keep K145q).keep K150q).keep K156q).keep K165q).keep K171q)
     have le283 : h74.size ≤ T81.heap.size := Nat.le_trans K75q.1 K81q.1
     have ne284 : b74 ≠ b85 := (Nat.ne_of_lt (Nat.lt_of_lt_of_le A74.lt (Nat.le_trans le283 (Nat.le_of_eq g85.symm))))
     have le285 : h74.size ≤ h85.size := Nat.le_trans le283 E85.1
     have le286 : h74.size ≤ T86.heap.size := Nat.le_trans le285 K86q.1
     have le287 : h74.size ≤ hJ112.size := Nat.le_trans le286 KqJ112.1
     have ne288 : b74 ≠ b131 := (Nat.ne_of_lt (Nat.lt_of_lt_of_le A74.lt (Nat.le_trans le287 (Nat.le_of_eq g131.symm))))
     have le289 : h74.size ≤ h131.size := Nat.le_trans le287 E131.1
     have le290 : h74.size ≤ T132.heap.size := Nat.le_trans le289 K132q.1
     have le291 : h74.size ≤ T140.heap.size := Nat.le_trans le290 K140q.1
     have ne292 : b74 ≠ b6_2_2_7_145 := (Nat.ne_of_lt (Nat.lt_of_lt_of_le A74.lt (Nat.le_trans le291 sz_b6_2_2_7_145)))
     have q293 := (((((((((((P81_1.ext E85).keep K86q (ninS ne284 nin0)).keep KqJ112 (ninS ne284 nin0)).ext E131).keep K132q (ninS ne288 nin0)).keep K140q nin0).keep K145q (ninS ne288 nin0)).keep K150q nin0).keep K156q (ninS ne288 (ninS ne292 nin0))).keep K165q nin0).keep K171q (ninS ne288 (ninS ne292 nin0)))
     have q294 := ((((((((((((P75_0.keep K81q).ext E85).keep K86q).keep KqJ112).ext E131).keep K132q).keep K140q).keep K145q).keep K150q).keep K156q).keep K165q).keep K171q)
     have ne295 : b3_75 ≠ b74 := (Ne.symm (Nat.ne_of_lt (Nat.lt_of_lt_of_le A74.lt (Nat.le_trans (Nat.le_refl _) sz_b3_75))))
     have ne296 : b3_75 ≠ b85 := (Nat.ne_of_lt (Nat.lt_of_lt_of_le P75_0.lt (Nat.le_trans K81q.1 (Nat.le_of_eq g85.symm))))
     have le297 : T75.heap.size ≤ h85.size := Nat.le_trans K81q.1 E85.1
     have le298 : T75.heap.size ≤ T86.heap.size := Nat.le_trans le297 K86q.1
     have le299 : T75.heap.size ≤ hJ112.size := Nat.le_trans le298 KqJ112.1
     have ne300 : b3_75 ≠ b131 := (Nat.ne_of_lt (Nat.lt_of_lt_of_le P75_0.lt (Nat.le_trans le299 (Nat.le_of_eq g131.symm))))
     have le301 : T75.heap.size ≤ h131.size := Nat.le_trans le299 E131.1
     have le302 : T75.heap.size ≤ T132.heap.size := Nat.le_trans le301 K132q.1
     have le303 : T75.heap.size ≤ T140.heap.size := Nat.le_trans le302 K140q.1
     have ne304 : b3_75 ≠ b6_2_2_7_145 := (Nat.ne_of_lt (Nat.lt_of_lt_of_le P75_0.lt (Nat.le_trans le303 sz_b6_2_2_7_145)))
     have q305 := ((((((((((((P75_2.keep K81q (ninS ne295 nin0)).ext E85).keep K86q (ninS ne296 nin0)).keep KqJ112 (ninS ne296 nin0)).ext E131).keep K132q (ninS ne300 nin0)).keep K140q nin0).keep K145q (ninS ne300 nin0)).keep K150q nin0).keep K156q (ninS ne300 (ninS ne304 nin0))).keep K165q nin0).keep K171q (ninS ne300 (ninS ne304 nin0)))
     have q306 := ((((((((((((P75_1.keep K81q (ninS ne295 nin0)).ext E85).keep K86q (ninS ne296 nin0)).keep KqJ112 (ninS ne296 nin0)).ext E131).keep K132q (ninS ne300 nin0)).keep K140q nin0).keep K145q (ninS ne300 nin0)).keep K150q nin0).keep K156q (ninS ne300 (ninS ne304 nin0))).keep K165q nin0).keep K171q (ninS ne300 (ninS ne304 nin0)))
     have ne307 : b1_4_75 ≠ b74 := (Ne.symm (Nat.ne_of_lt (Nat.lt_of_lt_of_le A74.lt (Nat.le_trans (Nat.le_refl _) sz_b1_4_75))))
     have ne308 : b1_4_75 ≠ b85 := (Nat.ne_of_lt (Nat.lt_of_lt_of_le P75_3.lt (Nat.le_trans K81q.1 (Nat.le_of_eq g85.symm))))
     have ne309 : b1_4_75 ≠ b131 := (Nat.ne_of_lt (Nat.lt_of_lt_of_le P75_3.lt (Nat.le_trans le299 (Nat.le_of_eq g131.symm))))
     have ne310 : b1_4_75 ≠ b6_2_2_7_145 := (Nat.ne_of_lt (Nat.lt_of_lt_of_le P75_3.lt (Nat.le_trans le303 sz_b6_2_2_7_145)))
     have q311 := ((((((((((((P75_3.keep K81q (ninS ne307 nin0)).ext E85).keep K86q (ninS ne308 nin0)).keep KqJ112 (ninS ne308 nin0)).ext E131).keep K132q (ninS ne309 nin0)).keep K140q nin0).keep K145q (ninS ne309 nin0)).keep K150q nin0).keep K156q (ninS ne309 (ninS ne310 nin0))).keep K165q nin0).keep K171q (ninS ne309 (ninS ne310 nin0)))
     have q312 := (((P150_0.keep K156q).keep K165q).keep K171q)
     have ne313 : b3_150 ≠ b6_2_2_7_145 := (Ne.symm (Nat.ne_of_lt (Nat.lt_of_lt_of_le P145_4.lt (Nat.le_trans (Nat.le_refl _) sz_b3_150))))
     have le314 : h131.size ≤ T140.heap.size := Nat.le_trans K132q.1 K140q.1
     have le315 : h131.size ≤ T145.heap.size := Nat.le_trans le314 K145q.1
     have ne316 : b3_150 ≠ b131 := (Ne.symm (Nat.ne_of_lt (Nat.lt_of_lt_of_le A131.lt (Nat.le_trans le315 sz_b3_150))))
     have q317 := (((P150_2.keep K156q (ninS ne316 (ninS ne313 nin0))).keep K165q nin0).keep K171q (ninS ne316 (ninS ne313 nin0)))
     have q318 := (((P150_1.keep K156q (ninS ne316 (ninS ne313 nin0))).keep K165q nin0).keep K171q (ninS ne316 (ninS ne313 nin0)))
     have ne319 : b1_4_150 ≠ b6_2_2_7_145 := (Ne.symm (Nat.ne_of_lt (Nat.lt_of_lt_of_le P145_4.lt (Nat.le_trans (Nat.le_refl _) sz_b1_4_150))))
     have ne320 : b1_4_150 ≠ b131 := (Ne.symm (Nat.ne_of_lt (Nat.lt_of_lt_of_le A131.lt (Nat.le_trans le315 sz_b1_4_150))))
     have q321 := (((P150_3.keep K156q (ninS ne320 (ninS ne319 nin0))).keep K165q nin0).keep K171q (ninS ne320 (ninS ne319 nin0)))
     have q322 := (P165_0.keep K171q)
     have le323 : T145.heap.size ≤ T156.heap.size := Nat.le_trans K150q.1 K156q.1
     have ne324 : b3_165 ≠ b6_2_2_7_145 := (Ne.symm (Nat.ne_of_lt (Nat.lt_of_lt_of_le P145_4.lt (Nat.le_trans le323 sz_b3_165))))
     have le325 : h131.size ≤ T150.heap.size := Nat.le_trans le315 K150q.1
     have le326 : h131.size ≤ T156.heap.size := Nat.le_trans le325 K156q.1
     have ne327 : b3_165 ≠ b131 := (Ne.symm (Nat.ne_of_lt (Nat.lt_of_lt_of_le A131.lt (Nat.le_trans le326 sz_b3_165))))
     have q328 := (P165_2.keep K171q (ninS ne327 (ninS ne324 nin0)))
     have q329 := (P165_1.keep K171q (ninS ne327 (ninS ne324 nin0)))
     have ne330 : b1_4_165 ≠ b6_2_2_7_145 := (Ne.symm (Nat.ne_of_lt (Nat.lt_of_lt_of_le P145_4.lt (Nat.le_trans le323 sz_b1_4_165))))
     have ne331 : b1_4_165 ≠ b131 := (Ne.symm (Nat.ne_of_lt (Nat.lt_of_lt_of_le A131.lt (Nat.le_trans le326 sz_b1_4_165))))
     have q332 := (P165_3.keep K171q (ninS ne331 (ninS ne330 nin0)))
     have ne333 : b3_57 ≠ b3_140 := (Nat.ne_of_lt (Nat.lt_of_lt_of_le P57_0.lt (Nat.le_trans le224 sz_b3_140)))
     have ne334 : b3_65 ≠ b3_140 := (Nat.ne_of_lt (Nat.lt_of_lt_of_le P65_0.lt (Nat.le_trans le271 sz_b3_140)))
     have ne335 : b3_75 ≠ b3_140 := (Nat.ne_of_lt (Nat.lt_of_lt_of_le P75_0.lt (Nat.le_trans le302 sz_b3_140)))
     have le336 : T57.heap.size ≤ T145.heap.size := Nat.le_trans le225 K145q.1
     have ne337 : b3_57 ≠ b3_150 := (Nat.ne_of_lt (Nat.lt_of_lt_of_le P57_0.lt (Nat.le_trans le336 sz_b3_150)))
     have le338 : T65.heap.size ≤ T145.heap.size := Nat.le_trans le272 K145q.1
     have ne339 : b3_65 ≠ b3_150 := (Nat.ne_of_lt (Nat.lt_of_lt_of_le P65_0.lt (Nat.le_trans le338 sz_b3_150)))
     have le340 : T75.heap.size ≤ T145.heap.size := Nat.le_trans le303 K145q.1
     have ne341 : b3_75 ≠ b3_150 := (Nat.ne_of_lt (Nat.lt_of_lt_of_le P75_0.lt (Nat.le_trans le340 sz_b3_150)))
     have le342 : T57.heap.size ≤ T150.heap.size := Nat.le_trans le336 K150q.1
     have le343 : T57.heap.size ≤ T156.heap.size := Nat.le_trans le342 K156q.1
     have ne344 : b3_57 ≠ b3_165 := (Nat.ne_of_lt (Nat.lt_of_lt_of_le P57_0.lt (Nat.le_trans le343 sz_b3_165)))
     have le345 : T65.heap.size ≤ T150.heap.size := Nat.le_trans le338 K150q.1
     have le346 : T65.heap.size ≤ T156.heap.size := Nat.le_trans le345 K156q.1
     have ne347 : b3_65 ≠ b3_165 := (Nat.ne_of_lt (Nat.lt_of_lt_of_le P65_0.lt (Nat.le_trans le346 sz_b3_165)))
     have le348 : T75.heap.size ≤ T150.heap.size := Nat.le_trans le340 K150q.1
     have le349 : T75.heap.size ≤ T156.heap.size := Nat.le_trans le348 K156q.1
     have ne350 : b3_75 ≠ b3_165 := (Nat.ne_of_lt (Nat.lt_of_lt_of_le P75_0.lt (Nat.le_trans le349 sz_b3_165)))
     refine Home.call (own_static X171 hx hZ hown (own_w115 hw) (own_w116 hw) (own_w2 hw) (own_w117 hw) (by decide) (rm19_1 l Z a0 hw [] b85 b131 sv_DEFAULTCAPACITY_EMPTY_ELEMENTDATA b6_2_2_7_145 k6_2_2_7_145 b3_140 b3_150 b3_165 v4 b900 k900 b56 b64 b74 b3_57 sv_COMPACT_STRINGS b1_4_57 b1_4_140 k1_4_57 (v1.toInt8.toInt32) k1_4_140 (r126.toInt8.toInt32) b3_65 b1_4_65 k1_4_65 (v2.toInt8.toInt32) b3_75 b1_4_75 k1_4_75 (v3.toInt8.toInt32) kde b1_4_150 k1_4_150 (r128.toInt8.toInt32) b1_4_165 k1_4_165 (r130.toInt8.toInt32) T171.heap n0 O171 S_DEFAULTCAPACITY_EMPTY_ELEMENTDATA P171_1 P171_0 P171_3 P171_2 P171_4 q172 q173 q180 q181 bd9 q182 q187 q188 q207 q208 S_COMPACT_STRINGS q227 q230 q231 q232 q239 q242 ne333 hCS q243 q258 q259 q274 q275 q281 ne334 q282 q293 q294 q305 q306 q311 ne335 (own_nn351 b56 b64 b74 i0 i1 i2 v1 hv1 v2 hv2 v3 hv3 v4 hv4 v120 hv120 r126 hr126 c6) V_de q312 q317 q318 q321 ne337 ne339 ne341 (own_nn352 b56 b64 b74 i0 i1 i2 v1 hv1 v2 hv2 v3 hv3 v4 hv4 v122 hv122 r128 hr128 c6) q322 q328 q329 q332 ne344 ne347 ne350 (own_nn353 b56 b64 b74 i0 i1 i2 v1 hv1 v2 hv2 v3 hv3 v4 hv4 v124 hv124 r130 hr130 c6)) rfl rfl (by rw [hml]; rfl) (argsL := [(.ref b85), (.ref b131)]) (rest := []) (lenOf own_pd12 rfl) rfl rfl (W := 0) (by exact hW0) (by decide) (by decide) (hb hby at_284) (by decide) (by decide)) ?_
     rintro _ T354 L354 X354 ⟨b1_354, b6_2_2_7_77_354, a68_354, a156_354, a256_354, k6_2_2_7_77_354, rfl, N354q, sz_b1_354, sz_b6_2_2_7_77_354, K354q, P354_0, P354_1, P354_2, P354_3, P354_4, P354_5, R354_0, R354_1, R354_2⟩
     have g_b1_354 : n0 ≤ b1_354 := Nat.le_trans (Old.le O171) sz_b1_354
     have g_b6_2_2_7_77_354 : n0 ≤ b6_2_2_7_77_354 := Nat.le_trans (Old.le O171) sz_b6_2_2_7_77_354
     have O354 := Old.keep O171 K354q all0
     have K354 : Keep h0 T354.heap ([] : List Addr) := Keep.trans K171 K354q all0
     have N354 := Fr.app N171 N354q
     show Home T354 (mkF m 287 #[.val (.int i0), .val (.int i1), .val (.int i2), .val (.int v1), .val (.int v2), .val (.int v3), .val (.int v4), .val (.int (3 : Int32)), sr b56, sr b64, sr b74, sr b85, .val (.int v120), .val (.int v122), .val (.int v124), .val (.int r126), .val (.int r128), .val (.int r130), sr b131, .unset] [(.ref b1_354)])
     refine Home.run X354 hx hby sg0_287_2 (pc' := 291) (L' := #[.val (.int i0), .val (.int i1), .val (.int i2), .val (.int v1), .val (.int v2), .val (.int v3), .val (.int v4), .val (.int (3 : Int32)), sr b56, sr b64, sr b74, sr b85, .val (.int v120), .val (.int v122), .val (.int v124), .val (.int r126), .val (.int r128), .val (.int r130), sr b131, sr b1_354]) (S' := [(.ref b1_354)]) rfl ?_
     refine Home.st (own_pure (own_face X354 hx hZ hown (own_w155 hw) (own_w156 hw) (mvT hZ (own_w157 hw)) (own_w158 hw) (own_w159 hw) (own_w160 hw) (own_w161 hw) (own_w80 hw) (own_w51 hw) (own_w162 hw) (by decide) (rm23_1 l Z a0 hw [] b1_354 T354.heap n0 O354 P354_3) rfl P354_0 rfl (by rw [hml]; rfl) (argsL := []) (rest := []) (lenOf own_pd13 rfl) rfl rfl (W := 0) (by exact hW0) (by decide) (by decide) (hb hby at_291) (by decide) (by decide))) fun T355 X355 e355 => ?_
     refine Home.run X355 hx hby sg0_296_1 (pc' := 298) (L' := #[.val (.int i0), .val (.int i1), .val (.int i2), .val (.int v1), .val (.int v2), .val (.int v3), .val (.int v4), .val (.int (3 : Int32)), sr b56, sr b64, sr b74, sr b85, .val (.int v120), .val (.int v122), .val (.int v124), .val (.int r126), .val (.int r128), .val (.int r130), sr b131, sr b1_354]) (S' := [(.int (3 : Int32)), (.int (3 : Int32))]) rfl ?_
     refine Home.go (fun _ => XS.icmpYes X355.here hx rfl (pc0 := 298) (pc' := 303) rfl (hb hby at_298) rfl (teq (by decide)).1 (by decide) (by decide)) ?_
     refine Home.run X355 hx hby sg0_303_1 (pc' := 305) (L' := #[.val (.int i0), .val (.int i1), .val (.int i2), .val (.int v1), .val (.int v2), .val (.int v3), .val (.int v4), .val (.int (3 : Int32)), sr b56, sr b64, sr b74, sr b85, .val (.int v120), .val (.int v122), .val (.int v124), .val (.int r126), .val (.int r128), .val (.int r130), sr b131, sr b1_354]) (S' := [(.int (3 : Int32))]) rfl ?_
     refine Home.go (fun _ => XS.ifNo X355.here hx rfl (hb hby at_305) rfl ((if0 _ _).trans (tlt (by decide)).2.2.2)) ?_
     refine Home.run X355 hx hby sg0_308_2 (pc' := 311) (L' := #[.val (.int i0), .val (.int i1), .val (.int i2), .val (.int v1), .val (.int v2), .val (.int v3), .val (.int v4), .val (.int (3 : Int32)), sr b56, sr b64, sr b74, sr b85, .val (.int v120), .val (.int v122), .val (.int v124), .val (.int r126), .val (.int r128), .val (.int r130), sr b131, sr b1_354]) (S' := [(.int (0 : Int32)), (.ref b1_354)]) rfl ?_
     refine Home.st (own_pure (own_face X355 hx hZ hown (own_w195 hw) (own_w196 hw) (mvT hZ (own_w197 hw)) (own_w198 hw) (own_w199 hw) (own_w200 hw) (own_w201 hw) (own_w80 hw) (own_w51 hw) (own_w202 hw) (by decide) (rm29_0 l Z a0 hw [] b1_354 b6_2_2_7_77_354 k6_2_2_7_77_354 a68_354 a156_354 a256_354 T354.heap n0 O354 P354_3 P354_0 P354_2 P354_4) e355 P354_0 rfl (by rw [hml]; rfl) (argsL := [(.int (0 : Int32))]) (rest := []) (lenOf own_pd22 rfl) rfl rfl (W := 0) (by exact hW0) (by decide) (by decide) (hb hby at_311) (by decide) (by decide))) fun T356 X356 e356 => ?_
     refine Home.run X356 hx hby sg0_316_8 (pc' := 331) (L' := #[.val (.int i0), .val (.int i1), .val (.int i2), .val (.int v1), .val (.int v2), .val (.int v3), .val (.int v4), .val (.int (3 : Int32)), sr b56, sr b64, sr b74, sr b85, .val (.int v120), .val (.int v122), .val (.int v124), .val (.int r126), .val (.int r128), .val (.int r130), sr b131, sr b1_354]) (S' := [(.int r126), (.int v4), (.int v3), (.int v2), (.int v1), (.ref b74), (.ref b64), (.ref b56), (.ref a68_354)]) rfl ?_
     refine Home.st (own_pure (own_static X356 hx hZ hown (own_w216 hw) (own_w217 hw) (own_w110 hw) (own_w218 hw) (by decide) (rm33_0 l Z a0 hw [] v1 v2 v3 v4 r126 T354.heap n0 O354 bv1 bv2 bv3 bd9 br126) e356 rfl (by rw [hml]; rfl) (argsL := [(.int v1), (.int v2), (.int v3), (.int v4), (.int r126)]) (rest := [(.ref b74), (.ref b64), (.ref b56), (.ref a68_354)]) (lenOf own_pd23 rfl) rfl rfl (W := 4) (by exact hW0) (by decide) (by decide) (hb hby at_331) (by decide) (by decide))) fun T357 X357 e357 => ?_
     show Home T357 (mkF m 334 #[.val (.int i0), .val (.int i1), .val (.int i2), .val (.int v1), .val (.int v2), .val (.int v3), .val (.int v4), .val (.int (3 : Int32)), sr b56, sr b64, sr b74, sr b85, .val (.int v120), .val (.int v122), .val (.int v124), .val (.int r126), .val (.int r128), .val (.int r130), sr b131, sr b1_354] [(.int (f_rm33_0 v2 v3 v4 r126)), (.ref b74), (.ref b64), (.ref b56), (.ref a68_354)])
     obtain ⟨r358, hr358⟩ : ∃ z, z = (f_rm33_0 v2 v3 v4 r126) := ⟨_, rfl⟩
     rw [← hr358]
     have br358 : ¬ r358 < (0 : Int32) ∧ ¬ (2 : Int32) < r358 := by rw [hr358]; exact f_rm33_0_bnd v2 v3 v4 r126 v1 bv1 bv2 bv3 bd9 br126
     refine Home.st (own_pure (own_static X357 hx hZ hown (own_w219 hw) (own_w220 hw) (own_w110 hw) (own_w221 hw) (by decide) (rm34_0 l Z a0 hw [] b56 b64 b74 r358 T354.heap n0 O354 br358) e357 rfl (by rw [hml]; rfl) (argsL := [(.ref b56), (.ref b64), (.ref b74), (.int r358)]) (rest := [(.ref a68_354)]) (lenOf own_pd24 rfl) rfl rfl (W := 1) (by exact hW0) (by decide) (by decide) (hb hby at_334) (by decide) (by decide))) fun T359 X359 e359 => ?_
     show Home T359 (mkF m 337 #[.val (.int i0), .val (.int i1), .val (.int i2), .val (.int v1), .val (.int v2), .val (.int v3), .val (.int v4), .val (.int (3 : Int32)), sr b56, sr b64, sr b74, sr b85, .val (.int v120), .val (.int v122), .val (.int v124), .val (.int r126), .val (.int r128), .val (.int r130), sr b131, sr b1_354] [(f_rm34_0 b56 b64 b74 r358), (.ref a68_354)])
     obtain ⟨r360, hr360⟩ : ∃ z, z = (f_rm34_0 b56 b64 b74 r358) := ⟨_, rfl⟩
     rw [← hr360]
     have isr_r360 : r360.isRef = true := by rw [hr360]; exact f_rm34_0_isRef b56 b64 b74 r358
     refine Home.go (fun _ => Jvm.RoadKit.acmp X359 hx rfl rfl isr_r360 (pc0 := 337) (pc' := 342) (same := true) rfl (hb hby at_337) rfl (decide_eq_true (R354_0.symm.trans (own_sel361 b56 b64 b74 i0 i1 i2 v1 hv1 v2 hv2 v3 hv3 v4 hv4 v120 hv120 r126 hr126 r358 hr358 r360 hr360 c6))) (by decide) (by decide)) ?_
     show Home T359 (mkF m 342 #[.val (.int i0), .val (.int i1), .val (.int i2), .val (.int v1), .val (.int v2), .val (.int v3), .val (.int v4), .val (.int (3 : Int32)), sr b56, sr b64, sr b74, sr b85, .val (.int v120), .val (.int v122), .val (.int v124), .val (.int r126), .val (.int r128), .val (.int r130), sr b131, sr b1_354] [])
     refine Home.run X359 hx hby sg0_342_2 (pc' := 345) (L' := #[.val (.int i0), .val (.int i1), .val (.int i2), .val (.int v1), .val (.int v2), .val (.int v3), .val (.int v4), .val (.int (3 : Int32)), sr b56, sr b64, sr b74, sr b85, .val (.int v120), .val (.int v122), .val (.int v124), .val (.int r126), .val (.int r128), .val (.int r130), sr b131, sr b1_354]) (S' := [(.int (1 : Int32)), (.int (3 : Int32))]) rfl ?_
     refine Home.go (fun _ => XS.icmpNo X359.here hx rfl (hb hby at_345) rfl (tlt (by decide)).2.2.2) ?_
     refine Home.run X359 hx hby sg0_348_2 (pc' := 351) (L' := #[.val (.int i0), .val (.int i1), .val (.int i2), .val (.int v1), .val (.int v2), .val (.int v3), .val (.int v4), .val (.int (3 : Int32)), sr b56, sr b64, sr b74, sr b85, .val (.int v120), .val (.int v122), .val (.int v124), .val (.int r126), .val (.int r128), .val (.int r130), sr b131, sr b1_354]) (S' := [(.int (1 : Int32)), (.ref b1_354)]) rfl ?_
     refine Home.st (own_pure (own_face X359 hx hZ hown (own_w195 hw) (own_w196 hw) (mvT hZ (own_w197 hw)) (own_w198 hw) (own_w199 hw) (own_w200 hw) (own_w201 hw) (own_w80 hw) (own_w51 hw) (own_w202 hw) (by decide) (rm29_1 l Z a0 hw [] b1_354 b6_2_2_7_77_354 k6_2_2_7_77_354 a68_354 a156_354 a256_354 T354.heap n0 O354 P354_3 P354_0 P354_2 P354_4) e359 P354_0 rfl (by rw [hml]; rfl) (argsL := [(.int (1 : Int32))]) (rest := []) (lenOf own_pd22 rfl) rfl rfl (W := 0) (by exact hW0) (by decide) (by decide) (hb hby at_351) (by decide) (by decide))) fun T362 X362 e362 => ?_
     refine Home.run X362 hx hby sg0_356_8 (pc' := 371) (L' := #[.val (.int i0), .val (.int i1), .val (.int i2), .val (.int v1), .val (.int v2), .val (.int v3), .val (.int v4), .val (.int (3 : Int32)), sr b56, sr b64, sr b74, sr b85, .val (.int v120), .val (.int v122), .val (.int v124), .val (.int r126), .val (.int r128), .val (.int r130), sr b131, sr b1_354]) (S' := [(.int r128), (.int v4), (.int v3), (.int v2), (.int v1), (.ref b74), (.ref b64), (.ref b56), (.ref a156_354)]) rfl ?_
     refine Home.st (own_pure (own_static X362 hx hZ hown (own_w216 hw) (own_w217 hw) (own_w110 hw) (own_w218 hw) (by decide) (rm33_0 l Z a0 hw [] v1 v2 v3 v4 r128 T354.heap n0 O354 bv1 bv2 bv3 bd9 br128) e362 rfl (by rw [hml]; rfl) (argsL := [(.int v1), (.int v2), (.int v3), (.int v4), (.int r128)]) (rest := [(.ref b74), (.ref b64), (.ref b56), (.ref a156_354)]) (lenOf own_pd23 rfl) rfl rfl (W := 4) (by exact hW0) (by decide) (by decide) (hb hby at_371) (by decide) (by decide))) fun T363 X363 e363 => ?_
     show Home T363 (mkF m 374 #[.val (.int i0), .val (.int i1), .val (.int i2), .val (.int v1), .val (.int v2), .val (.int v3), .val (.int v4), .val (.int (3 : Int32)), sr b56, sr b64, sr b74, sr b85, .val (.int v120), .val (.int v122), .val (.int v124), .val (.int r126), .val (.int r128), .val (.int r130), sr b131, sr b1_354] [(.int (f_rm33_0 v2 v3 v4 r128)), (.ref b74), (.ref b64), (.ref b56), (.ref a156_354)])
     obtain ⟨r364, hr364⟩ : ∃ z, z = (f_rm33_0 v2 v3 v4 r128) := ⟨_, rfl⟩
     rw [← hr364]
     have br364 : ¬ r364 < (0 : Int32) ∧ ¬ (2 : Int32) < r364 := by rw [hr364]; exact f_rm33_0_bnd v2 v3 v4 r128 v1 bv1 bv2 bv3 bd9 br128
     refine Home.st (own_pure (own_static X363 hx hZ hown (own_w219 hw) (own_w220 hw) (own_w110 hw) (own_w221 hw) (by decide) (rm34_0 l Z a0 hw [] b56 b64 b74 r364 T354.heap n0 O354 br364) e363 rfl (by rw [hml]; rfl) (argsL := [(.ref b56), (.ref b64), (.ref b74), (.int r364)]) (rest := [(.ref a156_354)]) (lenOf own_pd24 rfl) rfl rfl (W := 1) (by exact hW0) (by decide) (by decide) (hb hby at_374) (by decide) (by decide))) fun T365 X365 e365 => ?_
     show Home T365 (mkF m 377 #[.val (.int i0), .val (.int i1), .val (.int i2), .val (.int v1), .val (.int v2), .val (.int v3), .val (.int v4), .val (.int (3 : Int32)), sr b56, sr b64, sr b74, sr b85, .val (.int v120), .val (.int v122), .val (.int v124), .val (.int r126), .val (.int r128), .val (.int r130), sr b131, sr b1_354] [(f_rm34_0 b56 b64 b74 r364), (.ref a156_354)])
     obtain ⟨r366, hr366⟩ : ∃ z, z = (f_rm34_0 b56 b64 b74 r364) := ⟨_, rfl⟩
     rw [← hr366]
     have isr_r366 : r366.isRef = true := by rw [hr366]; exact f_rm34_0_isRef b56 b64 b74 r364
     refine Home.go (fun _ => Jvm.RoadKit.acmp X365 hx rfl rfl isr_r366 (pc0 := 377) (pc' := 382) (same := true) rfl (hb hby at_377) rfl (decide_eq_true (R354_1.symm.trans (own_sel367 b56 b64 b74 i0 i1 i2 v1 hv1 v2 hv2 v3 hv3 v4 hv4 v122 hv122 r128 hr128 r364 hr364 r366 hr366 c6))) (by decide) (by decide)) ?_
     show Home T365 (mkF m 382 #[.val (.int i0), .val (.int i1), .val (.int i2), .val (.int v1), .val (.int v2), .val (.int v3), .val (.int v4), .val (.int (3 : Int32)), sr b56, sr b64, sr b74, sr b85, .val (.int v120), .val (.int v122), .val (.int v124), .val (.int r126), .val (.int r128), .val (.int r130), sr b131, sr b1_354] [])
     refine Home.run X365 hx hby sg0_382_2 (pc' := 385) (L' := #[.val (.int i0), .val (.int i1), .val (.int i2), .val (.int v1), .val (.int v2), .val (.int v3), .val (.int v4), .val (.int (3 : Int32)), sr b56, sr b64, sr b74, sr b85, .val (.int v120), .val (.int v122), .val (.int v124), .val (.int r126), .val (.int r128), .val (.int r130), sr b131, sr b1_354]) (S' := [(.int (2 : Int32)), (.int (3 : Int32))]) rfl ?_
     refine Home.go (fun _ => XS.icmpNo X365.here hx rfl (hb hby at_385) rfl (tlt (by decide)).2.2.2) ?_
     refine Home.run X365 hx hby sg0_388_2 (pc' := 391) (L' := #[.val (.int i0), .val (.int i1), .val (.int i2), .val (.int v1), .val (.int v2), .val (.int v3), .val (.int v4), .val (.int (3 : Int32)), sr b56, sr b64, sr b74, sr b85, .val (.int v120), .val (.int v122), .val (.int v124), .val (.int r126), .val (.int r128), .val (.int r130), sr b131, sr b1_354]) (S' := [(.int (2 : Int32)), (.ref b1_354)]) rfl ?_
     refine Home.st (own_pure (own_face X365 hx hZ hown (own_w195 hw) (own_w196 hw) (mvT hZ (own_w197 hw)) (own_w198 hw) (own_w199 hw) (own_w200 hw) (own_w201 hw) (own_w80 hw) (own_w51 hw) (own_w202 hw) (by decide) (rm29_2 l Z a0 hw [] b1_354 b6_2_2_7_77_354 k6_2_2_7_77_354 a68_354 a156_354 a256_354 T354.heap n0 O354 P354_3 P354_0 P354_2 P354_4) e365 P354_0 rfl (by rw [hml]; rfl) (argsL := [(.int (2 : Int32))]) (rest := []) (lenOf own_pd22 rfl) rfl rfl (W := 0) (by exact hW0) (by decide) (by decide) (hb hby at_391) (by decide) (by decide))) fun T368 X368 e368 => ?_
     refine Home.run X368 hx hby sg0_396_8 (pc' := 411) (L' := #[.val (.int i0), .val (.int i1), .val (.int i2), .val (.int v1), .val (.int v2), .val (.int v3), .val (.int v4), .val (.int (3 : Int32)), sr b56, sr b64, sr b74, sr b85, .val (.int v120), .val (.int v122), .val (.int v124), .val (.int r126), .val (.int r128), .val (.int r130), sr b131, sr b1_354]) (S' := [(.int r130), (.int v4), (.int v3), (.int v2), (.int v1), (.ref b74), (.ref b64), (.ref b56), (.ref a256_354)]) rfl ?_
     refine Home.st (own_pure (own_static X368 hx hZ hown (own_w216 hw) (own_w217 hw) (own_w110 hw) (own_w218 hw) (by decide) (rm33_0 l Z a0 hw [] v1 v2 v3 v4 r130 T354.heap n0 O354 bv1 bv2 bv3 bd9 br130) e368 rfl (by rw [hml]; rfl) (argsL := [(.int v1), (.int v2), (.int v3), (.int v4), (.int r130)]) (rest := [(.ref b74), (.ref b64), (.ref b56), (.ref a256_354)]) (lenOf own_pd23 rfl) rfl rfl (W := 4) (by exact hW0) (by decide) (by decide) (hb hby at_411) (by decide) (by decide))) fun T369 X369 e369 => ?_
     show Home T369 (mkF m 414 #[.val (.int i0), .val (.int i1), .val (.int i2), .val (.int v1), .val (.int v2), .val (.int v3), .val (.int v4), .val (.int (3 : Int32)), sr b56, sr b64, sr b74, sr b85, .val (.int v120), .val (.int v122), .val (.int v124), .val (.int r126), .val (.int r128), .val (.int r130), sr b131, sr b1_354] [(.int (f_rm33_0 v2 v3 v4 r130)), (.ref b74), (.ref b64), (.ref b56), (.ref a256_354)])
     obtain ⟨r370, hr370⟩ : ∃ z, z = (f_rm33_0 v2 v3 v4 r130) := ⟨_, rfl⟩
     rw [← hr370]
     have br370 : ¬ r370 < (0 : Int32) ∧ ¬ (2 : Int32) < r370 := by rw [hr370]; exact f_rm33_0_bnd v2 v3 v4 r130 v1 bv1 bv2 bv3 bd9 br130
     refine Home.st (own_pure (own_static X369 hx hZ hown (own_w219 hw) (own_w220 hw) (own_w110 hw) (own_w221 hw) (by decide) (rm34_0 l Z a0 hw [] b56 b64 b74 r370 T354.heap n0 O354 br370) e369 rfl (by rw [hml]; rfl) (argsL := [(.ref b56), (.ref b64), (.ref b74), (.int r370)]) (rest := [(.ref a256_354)]) (lenOf own_pd24 rfl) rfl rfl (W := 1) (by exact hW0) (by decide) (by decide) (hb hby at_414) (by decide) (by decide))) fun T371 X371 e371 => ?_
     show Home T371 (mkF m 417 #[.val (.int i0), .val (.int i1), .val (.int i2), .val (.int v1), .val (.int v2), .val (.int v3), .val (.int v4), .val (.int (3 : Int32)), sr b56, sr b64, sr b74, sr b85, .val (.int v120), .val (.int v122), .val (.int v124), .val (.int r126), .val (.int r128), .val (.int r130), sr b131, sr b1_354] [(f_rm34_0 b56 b64 b74 r370), (.ref a256_354)])
     obtain ⟨r372, hr372⟩ : ∃ z, z = (f_rm34_0 b56 b64 b74 r370) := ⟨_, rfl⟩
     rw [← hr372]
     have isr_r372 : r372.isRef = true := by rw [hr372]; exact f_rm34_0_isRef b56 b64 b74 r370
     refine Home.go (fun _ => Jvm.RoadKit.acmp X371 hx rfl rfl isr_r372 (pc0 := 417) (pc' := 422) (same := true) rfl (hb hby at_417) rfl (decide_eq_true (R354_2.symm.trans (own_sel373 b56 b64 b74 i0 i1 i2 v1 hv1 v2 hv2 v3 hv3 v4 hv4 v124 hv124 r130 hr130 r370 hr370 r372 hr372 c6))) (by decide) (by decide)) ?_
     show Home T371 (mkF m 422 #[.val (.int i0), .val (.int i1), .val (.int i2), .val (.int v1), .val (.int v2), .val (.int v3), .val (.int v4), .val (.int (3 : Int32)), sr b56, sr b64, sr b74, sr b85, .val (.int v120), .val (.int v122), .val (.int v124), .val (.int r126), .val (.int r128), .val (.int r130), sr b131, sr b1_354] [])
     refine Home.run X371 hx hby sg0_422_1 (pc' := 423) (L' := #[.val (.int i0), .val (.int i1), .val (.int i2), .val (.int v1), .val (.int v2), .val (.int v3), .val (.int v4), .val (.int (3 : Int32)), sr b56, sr b64, sr b74, sr b85, .val (.int v120), .val (.int v122), .val (.int v124), .val (.int r126), .val (.int r128), .val (.int r130), sr b131, sr b1_354]) (S' := [(.int (1 : Int32))]) rfl ?_
     exact Home.retN X371 hx hlk (t := .boolean) hret (by simp) (hb hby at_423) ⟨rfl, N354⟩ (by decide) (by decide)
    ·
     refine Home.go (fun _ => XS.icmpYes X156.here hx rfl (pc0 := 264) (pc' := 280) rfl (hb hby at_264) rfl (flt c160).2.2.2 (by decide) (by decide)) ?_
     have bd163 : ¬ v5 < (2 : Int32) ∧ ¬ (2 : Int32) < v5 := ⟨bd147.1, c160⟩
     have fx164 : v5 = (2 : Int32) := bnd_fix bd163
     try rw [fx164]
     show Home T156 (mkF m 280 #[.val (.int i0), .val (.int i1), .val (.int i2), .val (.int v1), .val (.int v2), .val (.int v3), .val (.int v4), .val (.int (2 : Int32)), sr b56, sr b64, sr b74, sr b85, .val (.int v120), .val (.int v122), .val (.int v124), .val (.int r126), .val (.int r128), .val (.int r130), sr b131, .unset] [])
     refine Home.run X156 hx hby sg0_280_2 (pc' := 284) (L' := #[.val (.int i0), .val (.int i1), .val (.int i2), .val (.int v1), .val (.int v2), .val (.int v3), .val (.int v4), .val (.int (2 : Int32)), sr b56, sr b64, sr b74, sr b85, .val (.int v120), .val (.int v122), .val (.int v124), .val (.int r126), .val (.int r128), .val (.int r130), sr b131, .unset]) (S' := [(.ref b131), (.ref b85)]) rfl ?_
     have q374 := (((P140_0.keep K145q).keep K150q).keep K156q)
     have q375 := (((((((P86_0.keep KqJ112).ext E131).keep K132q).keep K140q).keep K145q).keep K150q).keep K156q)
     have le376 : h85.size ≤ hJ112.size := Nat.le_trans K86q.1 KqJ112.1
     have ne377 : b85 ≠ b131 := (Nat.ne_of_lt (Nat.lt_of_lt_of_le A85.lt (Nat.le_trans le376 (Nat.le_of_eq g131.symm))))
     have le378 : h85.size ≤ h131.size := Nat.le_trans le376 E131.1
     have le379 : h85.size ≤ T132.heap.size := Nat.le_trans le378 K132q.1
     have le380 : h85.size ≤ T140.heap.size := Nat.le_trans le379 K140q.1
     have ne381 : b85 ≠ b6_2_2_7_145 := (Nat.ne_of_lt (Nat.lt_of_lt_of_le A85.lt (Nat.le_trans le380 sz_b6_2_2_7_145)))
     have q382 := ((((((HJ112_2.ext E131).keep K132q (ninS ne377 nin0)).keep K140q nin0).keep K145q (ninS ne377 nin0)).keep K150q nin0).keep K156q (ninS ne377 (ninS ne381 nin0)))
     have q383 := ((((((HJ112_1.ext E131).keep K132q (ninS ne377 nin0)).keep K140q nin0).keep K145q (ninS ne377 nin0)).keep K150q nin0).keep K156q (ninS ne377 (ninS ne381 nin0)))
     have q384 := ((((((HJ112_0.ext E131).keep K132q (ninS ne377 nin0)).keep K140q nin0).keep K145q (ninS ne377 nin0)).keep K150q nin0).keep K156q (ninS ne377 (ninS ne381 nin0)))
     have ne385 : b900 ≠ b131 := (Nat.ne_of_lt (Nat.lt_of_lt_of_le HJ112_3.lt (Nat.le_trans (Nat.le_refl _) (Nat.le_of_eq g131.symm))))
     have le386 : hJ112.size ≤ T132.heap.size := Nat.le_trans E131.1 K132q.1
     have le387 : hJ112.size ≤ T140.heap.size := Nat.le_trans le386 K140q.1
     have ne388 : b900 ≠ b6_2_2_7_145 := (Nat.ne_of_lt (Nat.lt_of_lt_of_le HJ112_3.lt (Nat.le_trans le387 sz_b6_2_2_7_145)))
     have q389 := ((((((HJ112_3.ext E131).keep K132q (ninS ne385 nin0)).keep K140q nin0).keep K145q (ninS ne385 nin0)).keep K150q nin0).keep K156q (ninS ne385 (ninS ne388 nin0)))
     have q390 := (((((((((((((((P63_0.ext E64).keep K65q).keep K71q).ext E74).keep K75q).keep K81q).ext E85).keep K86q).keep KqJ112).ext E131).keep K132q).keep K140q).keep K145q).keep K150q).keep K156q)
     have le391 : h56.size ≤ T63.heap.size := Nat.le_trans K57q.1 K63q.1
     have ne392 : b56 ≠ b64 := (Nat.ne_of_lt (Nat.lt_of_lt_of_le A56.lt (Nat.le_trans le391 (Nat.le_of_eq g64.symm))))
     have le393 : h56.size ≤ h64.size := Nat.le_trans le391 E64.1
     have le394 : h56.size ≤ T65.heap.size := Nat.le_trans le393 K65q.1
     have le395 : h56.size ≤ T71.heap.size := Nat.le_trans le394 K71q.1
     have ne396 : b56 ≠ b74 := (Nat.ne_of_lt (Nat.lt_of_lt_of_le A56.lt (Nat.le_trans le395 (Nat.le_of_eq g74.symm))))
     have le397 : h56.size ≤ h74.size := Nat.le_trans le395 E74.1
     have le398 : h56.size ≤ T75.heap.size := Nat.le_trans le397 K75q.1
     have le399 : h56.size ≤ T81.heap.size := Nat.le_trans le398 K81q.1
     have ne400 : b56 ≠ b85 := (Nat.ne_of_lt (Nat.lt_of_lt_of_le A56.lt (Nat.le_trans le399 (Nat.le_of_eq g85.symm))))
     have le401 : h56.size ≤ h85.size := Nat.le_trans le399 E85.1
     have le402 : h56.size ≤ T86.heap.size := Nat.le_trans le401 K86q.1
     have le403 : h56.size ≤ hJ112.size := Nat.le_trans le402 KqJ112.1
     have ne404 : b56 ≠ b131 := (Nat.ne_of_lt (Nat.lt_of_lt_of_le A56.lt (Nat.le_trans le403 (Nat.le_of_eq g131.symm))))
     have le405 : h56.size ≤ h131.size := Nat.le_trans le403 E131.1
     have le406 : h56.size ≤ T132.heap.size := Nat.le_trans le405 K132q.1
     have le407 : h56.size ≤ T140.heap.size := Nat.le_trans le406 K140q.1
     have ne408 : b56 ≠ b6_2_2_7_145 := (Nat.ne_of_lt (Nat.lt_of_lt_of_le A56.lt (Nat.le_trans le407 sz_b6_2_2_7_145)))
     have q409 := (((((((((((((((P63_1.ext E64).keep K65q nin0).keep K71q (ninS ne392 nin0)).ext E74).keep K75q nin0).keep K81q (ninS ne396 nin0)).ext E85).keep K86q (ninS ne400 nin0)).keep KqJ112 (ninS ne400 nin0)).ext E131).keep K132q (ninS ne404 nin0)).keep K140q nin0).keep K145q (ninS ne404 nin0)).keep K150q nin0).keep K156q (ninS ne404 (ninS ne408 nin0)))
     have q410 := ((((((((((((((((P57_0.keep K63q).ext E64).keep K65q).keep K71q).ext E74).keep K75q).keep K81q).ext E85).keep K86q).keep KqJ112).ext E131).keep K132q).keep K140q).keep K145q).keep K150q).keep K156q)
     have ne411 : b3_57 ≠ b56 := (Ne.symm (Nat.ne_of_lt (Nat.lt_of_lt_of_le A56.lt (Nat.le_trans (Nat.le_refl _) sz_b3_57))))
     have ne412 : b3_57 ≠ b64 := (Nat.ne_of_lt (Nat.lt_of_lt_of_le P57_0.lt (Nat.le_trans K63q.1 (Nat.le_of_eq g64.symm))))
     have le413 : T57.heap.size ≤ h64.size := Nat.le_trans K63q.1 E64.1
     have le414 : T57.heap.size ≤ T65.heap.size := Nat.le_trans le413 K65q.1
     have le415 : T57.heap.size ≤ T71.heap.size := Nat.le_trans le414 K71q.1
     have ne416 : b3_57 ≠ b74 := (Nat.ne_of_lt (Nat.lt_of_lt_of_le P57_0.lt (Nat.le_trans le415 (Nat.le_of_eq g74.symm))))
     have le417 : T57.heap.size ≤ h74.size := Nat.le_trans le415 E74.1
     have le418 : T57.heap.size ≤ T75.heap.size := Nat.le_trans le417 K75q.1
     have le419 : T57.heap.size ≤ T81.heap.size := Nat.le_trans le418 K81q.1
     have ne420 : b3_57 ≠ b85 := (Nat.ne_of_lt (Nat.lt_of_lt_of_le P57_0.lt (Nat.le_trans le419 (Nat.le_of_eq g85.symm))))
     have le421 : T57.heap.size ≤ h85.size := Nat.le_trans le419 E85.1
     have le422 : T57.heap.size ≤ T86.heap.size := Nat.le_trans le421 K86q.1
     have le423 : T57.heap.size ≤ hJ112.size := Nat.le_trans le422 KqJ112.1
     have ne424 : b3_57 ≠ b131 := (Nat.ne_of_lt (Nat.lt_of_lt_of_le P57_0.lt (Nat.le_trans le423 (Nat.le_of_eq g131.symm))))
     have le425 : T57.heap.size ≤ h131.size := Nat.le_trans le423 E131.1
     have le426 : T57.heap.size ≤ T132.heap.size := Nat.le_trans le425 K132q.1
     have le427 : T57.heap.size ≤ T140.heap.size := Nat.le_trans le426 K140q.1
     have ne428 : b3_57 ≠ b6_2_2_7_145 := (Nat.ne_of_lt (Nat.lt_of_lt_of_le P57_0.lt (Nat.le_trans le427 sz_b6_2_2_7_145)))
     have q429 := ((((((((((((((((P57_2.keep K63q (ninS ne411 nin0)).ext E64).keep K65q nin0).keep K71q (ninS ne412 nin0)).ext E74).keep K75q nin0).keep K81q (ninS ne416 nin0)).ext E85).keep K86q (ninS ne420 nin0)).keep KqJ112 (ninS ne420 nin0)).ext E131).keep K132q (ninS ne424 nin0)).keep K140q nin0).keep K145q (ninS ne424 nin0)).keep K150q nin0).keep K156q (ninS ne424 (ninS ne428 nin0)))
     have ne430 : b3_140 ≠ b131 := (Ne.symm (Nat.ne_of_lt (Nat.lt_of_lt_of_le A131.lt (Nat.le_trans K132q.1 sz_b3_140))))
     have ne431 : b3_140 ≠ b6_2_2_7_145 := (Nat.ne_of_lt (Nat.lt_of_lt_of_le P140_0.lt (Nat.le_trans (Nat.le_refl _) sz_b6_2_2_7_145)))
     have q432 := (((P140_2.keep K145q (ninS ne430 nin0)).keep K150q nin0).keep K156q (ninS ne430 (ninS ne431 nin0)))
     have q433 := ((((((((((((((((P57_1.keep K63q (ninS ne411 nin0)).ext E64).keep K65q nin0).keep K71q (ninS ne412 nin0)).ext E74).keep K75q nin0).keep K81q (ninS ne416 nin0)).ext E85).keep K86q (ninS ne420 nin0)).keep KqJ112 (ninS ne420 nin0)).ext E131).keep K132q (ninS ne424 nin0)).keep K140q nin0).keep K145q (ninS ne424 nin0)).keep K150q nin0).keep K156q (ninS ne424 (ninS ne428 nin0)))
     have q434 := (((P140_1.keep K145q (ninS ne430 nin0)).keep K150q nin0).keep K156q (ninS ne430 (ninS ne431 nin0)))
     have ne435 : b1_4_57 ≠ b56 := (Ne.symm (Nat.ne_of_lt (Nat.lt_of_lt_of_le A56.lt (Nat.le_trans (Nat.le_refl _) sz_b1_4_57))))
     have ne436 : b1_4_57 ≠ b64 := (Nat.ne_of_lt (Nat.lt_of_lt_of_le P57_3.lt (Nat.le_trans K63q.1 (Nat.le_of_eq g64.symm))))
     have ne437 : b1_4_57 ≠ b74 := (Nat.ne_of_lt (Nat.lt_of_lt_of_le P57_3.lt (Nat.le_trans le415 (Nat.le_of_eq g74.symm))))
     have ne438 : b1_4_57 ≠ b85 := (Nat.ne_of_lt (Nat.lt_of_lt_of_le P57_3.lt (Nat.le_trans le419 (Nat.le_of_eq g85.symm))))
     have ne439 : b1_4_57 ≠ b131 := (Nat.ne_of_lt (Nat.lt_of_lt_of_le P57_3.lt (Nat.le_trans le423 (Nat.le_of_eq g131.symm))))
     have ne440 : b1_4_57 ≠ b6_2_2_7_145 := (Nat.ne_of_lt (Nat.lt_of_lt_of_le P57_3.lt (Nat.le_trans le427 sz_b6_2_2_7_145)))
     have q441 := ((((((((((((((((P57_3.keep K63q (ninS ne435 nin0)).ext E64).keep K65q nin0).keep K71q (ninS ne436 nin0)).ext E74).keep K75q nin0).keep K81q (ninS ne437 nin0)).ext E85).keep K86q (ninS ne438 nin0)).keep KqJ112 (ninS ne438 nin0)).ext E131).keep K132q (ninS ne439 nin0)).keep K140q nin0).keep K145q (ninS ne439 nin0)).keep K150q nin0).keep K156q (ninS ne439 (ninS ne440 nin0)))
     have ne442 : b1_4_140 ≠ b131 := (Ne.symm (Nat.ne_of_lt (Nat.lt_of_lt_of_le A131.lt (Nat.le_trans K132q.1 sz_b1_4_140))))
     have ne443 : b1_4_140 ≠ b6_2_2_7_145 := (Nat.ne_of_lt (Nat.lt_of_lt_of_le P140_3.lt (Nat.le_trans (Nat.le_refl _) sz_b6_2_2_7_145)))
     have q444 := (((P140_3.keep K145q (ninS ne442 nin0)).keep K150q nin0).keep K156q (ninS ne442 (ninS ne443 nin0)))
     have q445 := ((((((((((((P71_0.ext E74).keep K75q).keep K81q).ext E85).keep K86q).keep KqJ112).ext E131).keep K132q).keep K140q).keep K145q).keep K150q).keep K156q)
     have le446 : h64.size ≤ T71.heap.size := Nat.le_trans K65q.1 K71q.1
     have ne447 : b64 ≠ b74 := (Nat.ne_of_lt (Nat.lt_of_lt_of_le A64.lt (Nat.le_trans le446 (Nat.le_of_eq g74.symm))))
     have le448 : h64.size ≤ h74.size := Nat.le_trans le446 E74.1
     have le449 : h64.size ≤ T75.heap.size := Nat.le_trans le448 K75q.1
     have le450 : h64.size ≤ T81.heap.size := Nat.le_trans le449 K81q.1
     have ne451 : b64 ≠ b85 := (Nat.ne_of_lt (Nat.lt_of_lt_of_le A64.lt (Nat.le_trans le450 (Nat.le_of_eq g85.symm))))
     have le452 : h64.size ≤ h85.size := Nat.le_trans le450 E85.1
     have le453 : h64.size ≤ T86.heap.size := Nat.le_trans le452 K86q.1
     have le454 : h64.size ≤ hJ112.size := Nat.le_trans le453 KqJ112.1
     have ne455 : b64 ≠ b131 := (Nat.ne_of_lt (Nat.lt_of_lt_of_le A64.lt (Nat.le_trans le454 (Nat.le_of_eq g131.symm))))
     have le456 : h64.size ≤ h131.size := Nat.le_trans le454 E131.1
     have le457 : h64.size ≤ T132.heap.size := Nat.le_trans le456 K132q.1
     have le458 : h64.size ≤ T140.heap.size := Nat.le_trans le457 K140q.1
     have ne459 : b64 ≠ b6_2_2_7_145 := (Nat.ne_of_lt (Nat.lt_of_lt_of_le A64.lt (Nat.le_trans le458 sz_b6_2_2_7_145)))
     have q460 := ((((((((((((P71_1.ext E74).keep K75q nin0).keep K81q (ninS ne447 nin0)).ext E85).keep K86q (ninS ne451 nin0)).keep KqJ112 (ninS ne451 nin0)).ext E131).keep K132q (ninS ne455 nin0)).keep K140q nin0).keep K145q (ninS ne455 nin0)).keep K150q nin0).keep K156q (ninS ne455 (ninS ne459 nin0)))
     have q461 := (((((((((((((P65_0.keep K71q).ext E74).keep K75q).keep K81q).ext E85).keep K86q).keep KqJ112).ext E131).keep K132q).keep K140q).keep K145q).keep K150q).keep K156q)
     have ne462 : b3_65 ≠ b64 := (Ne.symm (Nat.ne_of_lt (Nat.lt_of_lt_of_le A64.lt (Nat.le_trans (Nat.le_refl _) sz_b3_65))))
     have ne463 : b3_65 ≠ b74 := (Nat.ne_of_lt (Nat.lt_of_lt_of_le P65_0.lt (Nat.le_trans K71q.1 (Nat.le_of_eq g74.symm))))
     have le464 : T65.heap.size ≤ h74.size := Nat.le_trans K71q.1 E74.1
     have le465 : T65.heap.size ≤ T75.heap.size := Nat.le_trans le464 K75q.1
     have le466 : T65.heap.size ≤ T81.heap.size := Nat.le_trans le465 K81q.1
     have ne467 : b3_65 ≠ b85 := (Nat.ne_of_lt (Nat.lt_of_lt_of_le P65_0.lt (Nat.le_trans le466 (Nat.le_of_eq g85.symm))))
     have le468 : T65.heap.size ≤ h85.size := Nat.le_trans le466 E85.1
     have le469 : T65.heap.size ≤ T86.heap.size := Nat.le_trans le468 K86q.1
     have le470 : T65.heap.size ≤ hJ112.size := Nat.le_trans le469 KqJ112.1
     have ne471 : b3_65 ≠ b131 := (Nat.ne_of_lt (Nat.lt_of_lt_of_le P65_0.lt (Nat.le_trans le470 (Nat.le_of_eq g131.symm))))
     have le472 : T65.heap.size ≤ h131.size := Nat.le_trans le470 E131.1
     have le473 : T65.heap.size ≤ T132.heap.size := Nat.le_trans le472 K132q.1
     have le474 : T65.heap.size ≤ T140.heap.size := Nat.le_trans le473 K140q.1
     have ne475 : b3_65 ≠ b6_2_2_7_145 := (Nat.ne_of_lt (Nat.lt_of_lt_of_le P65_0.lt (Nat.le_trans le474 sz_b6_2_2_7_145)))
     have q476 := (((((((((((((P65_2.keep K71q (ninS ne462 nin0)).ext E74).keep K75q nin0).keep K81q (ninS ne463 nin0)).ext E85).keep K86q (ninS ne467 nin0)).keep KqJ112 (ninS ne467 nin0)).ext E131).keep K132q (ninS ne471 nin0)).keep K140q nin0).keep K145q (ninS ne471 nin0)).keep K150q nin0).keep K156q (ninS ne471 (ninS ne475 nin0)))
     have q477 := (((((((((((((P65_1.keep K71q (ninS ne462 nin0)).ext E74).keep K75q nin0).keep K81q (ninS ne463 nin0)).ext E85).keep K86q (ninS ne467 nin0)).keep KqJ112 (ninS ne467 nin0)).ext E131).keep K132q (ninS ne471 nin0)).keep K140q nin0).keep K145q (ninS ne471 nin0)).keep K150q nin0).keep K156q (ninS ne471 (ninS ne475 nin0)))
     have ne478 : b1_4_65 ≠ b64 := (Ne.symm (Nat.ne_of_lt (Nat.lt_of_lt_of_le A64.lt (Nat.le_trans (Nat.le_refl _) sz_b1_4_65))))
     have ne479 : b1_4_65 ≠ b74 := (Nat.ne_of_lt (Nat.lt_of_lt_of_le P65_3.lt (Nat.le_trans K71q.1 (Nat.le_of_eq g74.symm))))
     have ne480 : b1_4_65 ≠ b85 := (Nat.ne_of_lt (Nat.lt_of_lt_of_le P65_3.lt (Nat.le_trans le466 (Nat.le_of_eq g85.symm))))
     have ne481 : b1_4_65 ≠ b131 := (Nat.ne_of_lt (Nat.lt_of_lt_of_le P65_3.lt (Nat.le_trans le470 (Nat.le_of_eq g131.symm))))
     have ne482 : b1_4_65 ≠ b6_2_2_7_145 := (Nat.ne_of_lt (Nat.lt_of_lt_of_le P65_3.lt (Nat.le_trans le474 sz_b6_2_2_7_145)))
     have q483 := (((((((((((((P65_3.keep K71q (ninS ne478 nin0)).ext E74).keep K75q nin0).keep K81q (ninS ne479 nin0)).ext E85).keep K86q (ninS ne480 nin0)).keep KqJ112 (ninS ne480 nin0)).ext E131).keep K132q (ninS ne481 nin0)).keep K140q nin0).keep K145q (ninS ne481 nin0)).keep K150q nin0).keep K156q (ninS ne481 (ninS ne482 nin0)))
     have q484 := (((((((((P81_0.ext E85).keep K86q).keep KqJ112).ext E131).keep K132q).keep K140q).keep K145q).keep K150q).keep K156q)
     have le485 : h74.size ≤ T81.heap.size := Nat.le_trans K75q.1 K81q.1
     have ne486 : b74 ≠ b85 := (Nat.ne_of_lt (Nat.lt_of_lt_of_le A74.lt (Nat.le_trans le485 (Nat.le_of_eq g85.symm))))
     have le487 : h74.size ≤ h85.size := Nat.le_trans le485 E85.1
     have le488 : h74.size ≤ T86.heap.size := Nat.le_trans le487 K86q.1
     have le489 : h74.size ≤ hJ112.size := Nat.le_trans le488 KqJ112.1
     have ne490 : b74 ≠ b131 := (Nat.ne_of_lt (Nat.lt_of_lt_of_le A74.lt (Nat.le_trans le489 (Nat.le_of_eq g131.symm))))
     have le491 : h74.size ≤ h131.size := Nat.le_trans le489 E131.1
     have le492 : h74.size ≤ T132.heap.size := Nat.le_trans le491 K132q.1
     have le493 : h74.size ≤ T140.heap.size := Nat.le_trans le492 K140q.1
     have ne494 : b74 ≠ b6_2_2_7_145 := (Nat.ne_of_lt (Nat.lt_of_lt_of_le A74.lt (Nat.le_trans le493 sz_b6_2_2_7_145)))
     have q495 := (((((((((P81_1.ext E85).keep K86q (ninS ne486 nin0)).keep KqJ112 (ninS ne486 nin0)).ext E131).keep K132q (ninS ne490 nin0)).keep K140q nin0).keep K145q (ninS ne490 nin0)).keep K150q nin0).keep K156q (ninS ne490 (ninS ne494 nin0)))
     have q496 := ((((((((((P75_0.keep K81q).ext E85).keep K86q).keep KqJ112).ext E131).keep K132q).keep K140q).keep K145q).keep K150q).keep K156q)
     have ne497 : b3_75 ≠ b74 := (Ne.symm (Nat.ne_of_lt (Nat.lt_of_lt_of_le A74.lt (Nat.le_trans (Nat.le_refl _) sz_b3_75))))
     have ne498 : b3_75 ≠ b85 := (Nat.ne_of_lt (Nat.lt_of_lt_of_le P75_0.lt (Nat.le_trans K81q.1 (Nat.le_of_eq g85.symm))))
     have le499 : T75.heap.size ≤ h85.size := Nat.le_trans K81q.1 E85.1
     have le500 : T75.heap.size ≤ T86.heap.size := Nat.le_trans le499 K86q.1
     have le501 : T75.heap.size ≤ hJ112.size := Nat.le_trans le500 KqJ112.1
     have ne502 : b3_75 ≠ b131 := (Nat.ne_of_lt (Nat.lt_of_lt_of_le P75_0.lt (Nat.le_trans le501 (Nat.le_of_eq g131.symm))))
     have le503 : T75.heap.size ≤ h131.size := Nat.le_trans le501 E131.1
     have le504 : T75.heap.size ≤ T132.heap.size := Nat.le_trans le503 K132q.1
     have le505 : T75.heap.size ≤ T140.heap.size := Nat.le_trans le504 K140q.1
     have ne506 : b3_75 ≠ b6_2_2_7_145 := (Nat.ne_of_lt (Nat.lt_of_lt_of_le P75_0.lt (Nat.le_trans le505 sz_b6_2_2_7_145)))
     have q507 := ((((((((((P75_2.keep K81q (ninS ne497 nin0)).ext E85).keep K86q (ninS ne498 nin0)).keep KqJ112 (ninS ne498 nin0)).ext E131).keep K132q (ninS ne502 nin0)).keep K140q nin0).keep K145q (ninS ne502 nin0)).keep K150q nin0).keep K156q (ninS ne502 (ninS ne506 nin0)))
     have q508 := ((((((((((P75_1.keep K81q (ninS ne497 nin0)).ext E85).keep K86q (ninS ne498 nin0)).keep KqJ112 (ninS ne498 nin0)).ext E131).keep K132q (ninS ne502 nin0)).keep K140q nin0).keep K145q (ninS ne502 nin0)).keep K150q nin0).keep K156q (ninS ne502 (ninS ne506 nin0)))
     have ne509 : b1_4_75 ≠ b74 := (Ne.symm (Nat.ne_of_lt (Nat.lt_of_lt_of_le A74.lt (Nat.le_trans (Nat.le_refl _) sz_b1_4_75))))
     have ne510 : b1_4_75 ≠ b85 := (Nat.ne_of_lt (Nat.lt_of_lt_of_le P75_3.lt (Nat.le_trans K81q.1 (Nat.le_of_eq g85.symm))))
     have ne511 : b1_4_75 ≠ b131 := (Nat.ne_of_lt (Nat.lt_of_lt_of_le P75_3.lt (Nat.le_trans le501 (Nat.le_of_eq g131.symm))))
     have ne512 : b1_4_75 ≠ b6_2_2_7_145 := (Nat.ne_of_lt (Nat.lt_of_lt_of_le P75_3.lt (Nat.le_trans le505 sz_b6_2_2_7_145)))
     have q513 := ((((((((((P75_3.keep K81q (ninS ne509 nin0)).ext E85).keep K86q (ninS ne510 nin0)).keep KqJ112 (ninS ne510 nin0)).ext E131).keep K132q (ninS ne511 nin0)).keep K140q nin0).keep K145q (ninS ne511 nin0)).keep K150q nin0).keep K156q (ninS ne511 (ninS ne512 nin0)))
     have q514 := (P150_0.keep K156q)
     have ne515 : b3_150 ≠ b6_2_2_7_145 := (Ne.symm (Nat.ne_of_lt (Nat.lt_of_lt_of_le P145_4.lt (Nat.le_trans (Nat.le_refl _) sz_b3_150))))
     have le516 : h131.size ≤ T140.heap.size := Nat.le_trans K132q.1 K140q.1
     have le517 : h131.size ≤ T145.heap.size := Nat.le_trans le516 K145q.1
     have ne518 : b3_150 ≠ b131 := (Ne.symm (Nat.ne_of_lt (Nat.lt_of_lt_of_le A131.lt (Nat.le_trans le517 sz_b3_150))))
     have q519 := (P150_2.keep K156q (ninS ne518 (ninS ne515 nin0)))
     have q520 := (P150_1.keep K156q (ninS ne518 (ninS ne515 nin0)))
     have ne521 : b1_4_150 ≠ b6_2_2_7_145 := (Ne.symm (Nat.ne_of_lt (Nat.lt_of_lt_of_le P145_4.lt (Nat.le_trans (Nat.le_refl _) sz_b1_4_150))))
     have ne522 : b1_4_150 ≠ b131 := (Ne.symm (Nat.ne_of_lt (Nat.lt_of_lt_of_le A131.lt (Nat.le_trans le517 sz_b1_4_150))))
     have q523 := (P150_3.keep K156q (ninS ne522 (ninS ne521 nin0)))
     have ne524 : b3_57 ≠ b3_140 := (Nat.ne_of_lt (Nat.lt_of_lt_of_le P57_0.lt (Nat.le_trans le426 sz_b3_140)))
     have ne525 : b3_65 ≠ b3_140 := (Nat.ne_of_lt (Nat.lt_of_lt_of_le P65_0.lt (Nat.le_trans le473 sz_b3_140)))
     have ne526 : b3_75 ≠ b3_140 := (Nat.ne_of_lt (Nat.lt_of_lt_of_le P75_0.lt (Nat.le_trans le504 sz_b3_140)))
     have le527 : T57.heap.size ≤ T145.heap.size := Nat.le_trans le427 K145q.1
     have ne528 : b3_57 ≠ b3_150 := (Nat.ne_of_lt (Nat.lt_of_lt_of_le P57_0.lt (Nat.le_trans le527 sz_b3_150)))
     have le529 : T65.heap.size ≤ T145.heap.size := Nat.le_trans le474 K145q.1
     have ne530 : b3_65 ≠ b3_150 := (Nat.ne_of_lt (Nat.lt_of_lt_of_le P65_0.lt (Nat.le_trans le529 sz_b3_150)))
     have le531 : T75.heap.size ≤ T145.heap.size := Nat.le_trans le505 K145q.1
     have ne532 : b3_75 ≠ b3_150 := (Nat.ne_of_lt (Nat.lt_of_lt_of_le P75_0.lt (Nat.le_trans le531 sz_b3_150)))
     refine Home.call (own_static X156 hx hZ hown (own_w115 hw) (own_w116 hw) (own_w2 hw) (own_w117 hw) (by decide) (rm19_2 l Z a0 hw [] b85 b131 sv_DEFAULTCAPACITY_EMPTY_ELEMENTDATA b6_2_2_7_145 k6_2_2_7_145 b3_140 b3_150 v4 b900 k900 b56 b64 b74 b3_57 sv_COMPACT_STRINGS b1_4_57 b1_4_140 k1_4_57 (v1.toInt8.toInt32) k1_4_140 (r126.toInt8.toInt32) b3_65 b1_4_65 k1_4_65 (v2.toInt8.toInt32) b3_75 b1_4_75 k1_4_75 (v3.toInt8.toInt32) kde b1_4_150 k1_4_150 (r128.toInt8.toInt32) T156.heap n0 O156 S_DEFAULTCAPACITY_EMPTY_ELEMENTDATA P156_1 P156_0 P156_3 P156_2 P156_4 q374 q375 q382 q383 bd9 q384 q389 q390 q409 q410 S_COMPACT_STRINGS q429 q432 q433 q434 q441 q444 ne524 hCS q445 q460 q461 q476 q477 q483 ne525 q484 q495 q496 q507 q508 q513 ne526 (own_nn351 b56 b64 b74 i0 i1 i2 v1 hv1 v2 hv2 v3 hv3 v4 hv4 v120 hv120 r126 hr126 c6) V_de q514 q519 q520 q523 ne528 ne530 ne532 (own_nn352 b56 b64 b74 i0 i1 i2 v1 hv1 v2 hv2 v3 hv3 v4 hv4 v122 hv122 r128 hr128 c6)) rfl rfl (by rw [hml]; rfl) (argsL := [(.ref b85), (.ref b131)]) (rest := []) (lenOf own_pd12 rfl) rfl rfl (W := 0) (by exact hW0) (by decide) (by decide) (hb hby at_284) (by decide) (by decide)) ?_
     rintro _ T535 L535 X535 ⟨b1_535, b6_2_2_7_77_535, a68_535, a156_535, k6_2_2_7_77_535, rfl, N535q, sz_b1_535, sz_b6_2_2_7_77_535, K535q, P535_0, P535_1, P535_2, P535_3, P535_4, P535_5, R535_0, R535_1⟩
     have g_b1_535 : n0 ≤ b1_535 := Nat.le_trans (Old.le O156) sz_b1_535
     have g_b6_2_2_7_77_535 : n0 ≤ b6_2_2_7_77_535 := Nat.le_trans (Old.le O156) sz_b6_2_2_7_77_535
     have O535 := Old.keep O156 K535q all0
     have K535 : Keep h0 T535.heap ([] : List Addr) := Keep.trans K156 K535q all0
     have N535 := Fr.app N156 N535q
     show Home T535 (mkF m 287 #[.val (.int i0), .val (.int i1), .val (.int i2), .val (.int v1), .val (.int v2), .val (.int v3), .val (.int v4), .val (.int (2 : Int32)), sr b56, sr b64, sr b74, sr b85, .val (.int v120), .val (.int v122), .val (.int v124), .val (.int r126), .val (.int r128), .val (.int r130), sr b131, .unset] [(.ref b1_535)])
     refine Home.run X535 hx hby sg0_287_2 (pc' := 291) (L' := #[.val (.int i0), .val (.int i1), .val (.int i2), .val (.int v1), .val (.int v2), .val (.int v3), .val (.int v4), .val (.int (2 : Int32)), sr b56, sr b64, sr b74, sr b85, .val (.int v120), .val (.int v122), .val (.int v124), .val (.int r126), .val (.int r128), .val (.int r130), sr b131, sr b1_535]) (S' := [(.ref b1_535)]) rfl ?_
     refine Home.st (own_pure (own_face X535 hx hZ hown (own_w155 hw) (own_w156 hw) (mvT hZ (own_w157 hw)) (own_w158 hw) (own_w159 hw) (own_w160 hw) (own_w161 hw) (own_w80 hw) (own_w51 hw) (own_w162 hw) (by decide) (rm23_2 l Z a0 hw [] b1_535 T535.heap n0 O535 P535_3) rfl P535_0 rfl (by rw [hml]; rfl) (argsL := []) (rest := []) (lenOf own_pd13 rfl) rfl rfl (W := 0) (by exact hW0) (by decide) (by decide) (hb hby at_291) (by decide) (by decide))) fun T536 X536 e536 => ?_
     refine Home.run X536 hx hby sg0_296_1 (pc' := 298) (L' := #[.val (.int i0), .val (.int i1), .val (.int i2), .val (.int v1), .val (.int v2), .val (.int v3), .val (.int v4), .val (.int (2 : Int32)), sr b56, sr b64, sr b74, sr b85, .val (.int v120), .val (.int v122), .val (.int v124), .val (.int r126), .val (.int r128), .val (.int r130), sr b131, sr b1_535]) (S' := [(.int (2 : Int32)), (.int (2 : Int32))]) rfl ?_
     refine Home.go (fun _ => XS.icmpYes X536.here hx rfl (pc0 := 298) (pc' := 303) rfl (hb hby at_298) rfl (teq (by decide)).1 (by decide) (by decide)) ?_
     refine Home.run X536 hx hby sg0_303_1 (pc' := 305) (L' := #[.val (.int i0), .val (.int i1), .val (.int i2), .val (.int v1), .val (.int v2), .val (.int v3), .val (.int v4), .val (.int (2 : Int32)), sr b56, sr b64, sr b74, sr b85, .val (.int v120), .val (.int v122), .val (.int v124), .val (.int r126), .val (.int r128), .val (.int r130), sr b131, sr b1_535]) (S' := [(.int (2 : Int32))]) rfl ?_
     refine Home.go (fun _ => XS.ifNo X536.here hx rfl (hb hby at_305) rfl ((if0 _ _).trans (tlt (by decide)).2.2.2)) ?_
     refine Home.run X536 hx hby sg0_308_2 (pc' := 311) (L' := #[.val (.int i0), .val (.int i1), .val (.int i2), .val (.int v1), .val (.int v2), .val (.int v3), .val (.int v4), .val (.int (2 : Int32)), sr b56, sr b64, sr b74, sr b85, .val (.int v120), .val (.int v122), .val (.int v124), .val (.int r126), .val (.int r128), .val (.int r130), sr b131, sr b1_535]) (S' := [(.int (0 : Int32)), (.ref b1_535)]) rfl ?_
     refine Home.st (own_pure (own_face X536 hx hZ hown (own_w195 hw) (own_w196 hw) (mvT hZ (own_w197 hw)) (own_w198 hw) (own_w199 hw) (own_w200 hw) (own_w201 hw) (own_w80 hw) (own_w51 hw) (own_w202 hw) (by decide) (rm29_3 l Z a0 hw [] b1_535 b6_2_2_7_77_535 k6_2_2_7_77_535 a68_535 a156_535 T535.heap n0 O535 P535_3 P535_0 P535_2 P535_4) e536 P535_0 rfl (by rw [hml]; rfl) (argsL := [(.int (0 : Int32))]) (rest := []) (lenOf own_pd22 rfl) rfl rfl (W := 0) (by exact hW0) (by decide) (by decide) (hb hby at_311) (by decide) (by decide))) fun T537 X537 e537 => ?_
     refine Home.run X537 hx hby sg0_316_8 (pc' := 331) (L' := #[.val (.int i0), .val (.int i1), .val (.int i2), .val (.int v1), .val (.int v2), .val (.int v3), .val (.int v4), .val (.int (2 : Int32)), sr b56, sr b64, sr b74, sr b85, .val (.int v120), .val (.int v122), .val (.int v124), .val (.int r126), .val (.int r128), .val (.int r130), sr b131, sr b1_535]) (S' := [(.int r126), (.int v4), (.int v3), (.int v2), (.int v1), (.ref b74), (.ref b64), (.ref b56), (.ref a68_535)]) rfl ?_
     refine Home.st (own_pure (own_static X537 hx hZ hown (own_w216 hw) (own_w217 hw) (own_w110 hw) (own_w218 hw) (by decide) (rm33_0 l Z a0 hw [] v1 v2 v3 v4 r126 T535.heap n0 O535 bv1 bv2 bv3 bd9 br126) e537 rfl (by rw [hml]; rfl) (argsL := [(.int v1), (.int v2), (.int v3), (.int v4), (.int r126)]) (rest := [(.ref b74), (.ref b64), (.ref b56), (.ref a68_535)]) (lenOf own_pd23 rfl) rfl rfl (W := 4) (by exact hW0) (by decide) (by decide) (hb hby at_331) (by decide) (by decide))) fun T538 X538 e538 => ?_
     show Home T538 (mkF m 334 #[.val (.int i0), .val (.int i1), .val (.int i2), .val (.int v1), .val (.int v2), .val (.int v3), .val (.int v4), .val (.int (2 : Int32)), sr b56, sr b64, sr b74, sr b85, .val (.int v120), .val (.int v122), .val (.int v124), .val (.int r126), .val (.int r128), .val (.int r130), sr b131, sr b1_535] [(.int (f_rm33_0 v2 v3 v4 r126)), (.ref b74), (.ref b64), (.ref b56), (.ref a68_535)])
     obtain ⟨r539, hr539⟩ : ∃ z, z = (f_rm33_0 v2 v3 v4 r126) := ⟨_, rfl⟩
     rw [← hr539]
     have br539 : ¬ r539 < (0 : Int32) ∧ ¬ (2 : Int32) < r539 := by rw [hr539]; exact f_rm33_0_bnd v2 v3 v4 r126 v1 bv1 bv2 bv3 bd9 br126
     refine Home.st (own_pure (own_static X538 hx hZ hown (own_w219 hw) (own_w220 hw) (own_w110 hw) (own_w221 hw) (by decide) (rm34_0 l Z a0 hw [] b56 b64 b74 r539 T535.heap n0 O535 br539) e538 rfl (by rw [hml]; rfl) (argsL := [(.ref b56), (.ref b64), (.ref b74), (.int r539)]) (rest := [(.ref a68_535)]) (lenOf own_pd24 rfl) rfl rfl (W := 1) (by exact hW0) (by decide) (by decide) (hb hby at_334) (by decide) (by decide))) fun T540 X540 e540 => ?_
     show Home T540 (mkF m 337 #[.val (.int i0), .val (.int i1), .val (.int i2), .val (.int v1), .val (.int v2), .val (.int v3), .val (.int v4), .val (.int (2 : Int32)), sr b56, sr b64, sr b74, sr b85, .val (.int v120), .val (.int v122), .val (.int v124), .val (.int r126), .val (.int r128), .val (.int r130), sr b131, sr b1_535] [(f_rm34_0 b56 b64 b74 r539), (.ref a68_535)])
     obtain ⟨r541, hr541⟩ : ∃ z, z = (f_rm34_0 b56 b64 b74 r539) := ⟨_, rfl⟩
     rw [← hr541]
     have isr_r541 : r541.isRef = true := by rw [hr541]; exact f_rm34_0_isRef b56 b64 b74 r539
     refine Home.go (fun _ => Jvm.RoadKit.acmp X540 hx rfl rfl isr_r541 (pc0 := 337) (pc' := 342) (same := true) rfl (hb hby at_337) rfl (decide_eq_true (R535_0.symm.trans (own_sel361 b56 b64 b74 i0 i1 i2 v1 hv1 v2 hv2 v3 hv3 v4 hv4 v120 hv120 r126 hr126 r539 hr539 r541 hr541 c6))) (by decide) (by decide)) ?_
     show Home T540 (mkF m 342 #[.val (.int i0), .val (.int i1), .val (.int i2), .val (.int v1), .val (.int v2), .val (.int v3), .val (.int v4), .val (.int (2 : Int32)), sr b56, sr b64, sr b74, sr b85, .val (.int v120), .val (.int v122), .val (.int v124), .val (.int r126), .val (.int r128), .val (.int r130), sr b131, sr b1_535] [])
     refine Home.run X540 hx hby sg0_342_2 (pc' := 345) (L' := #[.val (.int i0), .val (.int i1), .val (.int i2), .val (.int v1), .val (.int v2), .val (.int v3), .val (.int v4), .val (.int (2 : Int32)), sr b56, sr b64, sr b74, sr b85, .val (.int v120), .val (.int v122), .val (.int v124), .val (.int r126), .val (.int r128), .val (.int r130), sr b131, sr b1_535]) (S' := [(.int (1 : Int32)), (.int (2 : Int32))]) rfl ?_
     refine Home.go (fun _ => XS.icmpNo X540.here hx rfl (hb hby at_345) rfl (tlt (by decide)).2.2.2) ?_
     refine Home.run X540 hx hby sg0_348_2 (pc' := 351) (L' := #[.val (.int i0), .val (.int i1), .val (.int i2), .val (.int v1), .val (.int v2), .val (.int v3), .val (.int v4), .val (.int (2 : Int32)), sr b56, sr b64, sr b74, sr b85, .val (.int v120), .val (.int v122), .val (.int v124), .val (.int r126), .val (.int r128), .val (.int r130), sr b131, sr b1_535]) (S' := [(.int (1 : Int32)), (.ref b1_535)]) rfl ?_
     refine Home.st (own_pure (own_face X540 hx hZ hown (own_w195 hw) (own_w196 hw) (mvT hZ (own_w197 hw)) (own_w198 hw) (own_w199 hw) (own_w200 hw) (own_w201 hw) (own_w80 hw) (own_w51 hw) (own_w202 hw) (by decide) (rm29_4 l Z a0 hw [] b1_535 b6_2_2_7_77_535 k6_2_2_7_77_535 a68_535 a156_535 T535.heap n0 O535 P535_3 P535_0 P535_2 P535_4) e540 P535_0 rfl (by rw [hml]; rfl) (argsL := [(.int (1 : Int32))]) (rest := []) (lenOf own_pd22 rfl) rfl rfl (W := 0) (by exact hW0) (by decide) (by decide) (hb hby at_351) (by decide) (by decide))) fun T543 X543 e543 => ?_
     refine Home.run X543 hx hby sg0_356_8 (pc' := 371) (L' := #[.val (.int i0), .val (.int i1), .val (.int i2), .val (.int v1), .val (.int v2), .val (.int v3), .val (.int v4), .val (.int (2 : Int32)), sr b56, sr b64, sr b74, sr b85, .val (.int v120), .val (.int v122), .val (.int v124), .val (.int r126), .val (.int r128), .val (.int r130), sr b131, sr b1_535]) (S' := [(.int r128), (.int v4), (.int v3), (.int v2), (.int v1), (.ref b74), (.ref b64), (.ref b56), (.ref a156_535)]) rfl ?_
     refine Home.st (own_pure (own_static X543 hx hZ hown (own_w216 hw) (own_w217 hw) (own_w110 hw) (own_w218 hw) (by decide) (rm33_0 l Z a0 hw [] v1 v2 v3 v4 r128 T535.heap n0 O535 bv1 bv2 bv3 bd9 br128) e543 rfl (by rw [hml]; rfl) (argsL := [(.int v1), (.int v2), (.int v3), (.int v4), (.int r128)]) (rest := [(.ref b74), (.ref b64), (.ref b56), (.ref a156_535)]) (lenOf own_pd23 rfl) rfl rfl (W := 4) (by exact hW0) (by decide) (by decide) (hb hby at_371) (by decide) (by decide))) fun T544 X544 e544 => ?_
     show Home T544 (mkF m 374 #[.val (.int i0), .val (.int i1), .val (.int i2), .val (.int v1), .val (.int v2), .val (.int v3), .val (.int v4), .val (.int (2 : Int32)), sr b56, sr b64, sr b74, sr b85, .val (.int v120), .val (.int v122), .val (.int v124), .val (.int r126), .val (.int r128), .val (.int r130), sr b131, sr b1_535] [(.int (f_rm33_0 v2 v3 v4 r128)), (.ref b74), (.ref b64), (.ref b56), (.ref a156_535)])
     obtain ⟨r545, hr545⟩ : ∃ z, z = (f_rm33_0 v2 v3 v4 r128) := ⟨_, rfl⟩
     rw [← hr545]
     have br545 : ¬ r545 < (0 : Int32) ∧ ¬ (2 : Int32) < r545 := by rw [hr545]; exact f_rm33_0_bnd v2 v3 v4 r128 v1 bv1 bv2 bv3 bd9 br128
     refine Home.st (own_pure (own_static X544 hx hZ hown (own_w219 hw) (own_w220 hw) (own_w110 hw) (own_w221 hw) (by decide) (rm34_0 l Z a0 hw [] b56 b64 b74 r545 T535.heap n0 O535 br545) e544 rfl (by rw [hml]; rfl) (argsL := [(.ref b56), (.ref b64), (.ref b74), (.int r545)]) (rest := [(.ref a156_535)]) (lenOf own_pd24 rfl) rfl rfl (W := 1) (by exact hW0) (by decide) (by decide) (hb hby at_374) (by decide) (by decide))) fun T546 X546 e546 => ?_
     show Home T546 (mkF m 377 #[.val (.int i0), .val (.int i1), .val (.int i2), .val (.int v1), .val (.int v2), .val (.int v3), .val (.int v4), .val (.int (2 : Int32)), sr b56, sr b64, sr b74, sr b85, .val (.int v120), .val (.int v122), .val (.int v124), .val (.int r126), .val (.int r128), .val (.int r130), sr b131, sr b1_535] [(f_rm34_0 b56 b64 b74 r545), (.ref a156_535)])
     obtain ⟨r547, hr547⟩ : ∃ z, z = (f_rm34_0 b56 b64 b74 r545) := ⟨_, rfl⟩
     rw [← hr547]
     have isr_r547 : r547.isRef = true := by rw [hr547]; exact f_rm34_0_isRef b56 b64 b74 r545
     refine Home.go (fun _ => Jvm.RoadKit.acmp X546 hx rfl rfl isr_r547 (pc0 := 377) (pc' := 382) (same := true) rfl (hb hby at_377) rfl (decide_eq_true (R535_1.symm.trans (own_sel367 b56 b64 b74 i0 i1 i2 v1 hv1 v2 hv2 v3 hv3 v4 hv4 v122 hv122 r128 hr128 r545 hr545 r547 hr547 c6))) (by decide) (by decide)) ?_
     show Home T546 (mkF m 382 #[.val (.int i0), .val (.int i1), .val (.int i2), .val (.int v1), .val (.int v2), .val (.int v3), .val (.int v4), .val (.int (2 : Int32)), sr b56, sr b64, sr b74, sr b85, .val (.int v120), .val (.int v122), .val (.int v124), .val (.int r126), .val (.int r128), .val (.int r130), sr b131, sr b1_535] [])
     refine Home.run X546 hx hby sg0_382_2 (pc' := 385) (L' := #[.val (.int i0), .val (.int i1), .val (.int i2), .val (.int v1), .val (.int v2), .val (.int v3), .val (.int v4), .val (.int (2 : Int32)), sr b56, sr b64, sr b74, sr b85, .val (.int v120), .val (.int v122), .val (.int v124), .val (.int r126), .val (.int r128), .val (.int r130), sr b131, sr b1_535]) (S' := [(.int (2 : Int32)), (.int (2 : Int32))]) rfl ?_
     refine Home.go (fun _ => XS.icmpYes X546.here hx rfl (pc0 := 385) (pc' := 422) rfl (hb hby at_385) rfl (flt (by decide)).2.2.2 (by decide) (by decide)) ?_
     refine Home.run X546 hx hby sg0_422_1 (pc' := 423) (L' := #[.val (.int i0), .val (.int i1), .val (.int i2), .val (.int v1), .val (.int v2), .val (.int v3), .val (.int v4), .val (.int (2 : Int32)), sr b56, sr b64, sr b74, sr b85, .val (.int v120), .val (.int v122), .val (.int v124), .val (.int r126), .val (.int r128), .val (.int r130), sr b131, sr b1_535]) (S' := [(.int (1 : Int32))]) rfl ?_
     exact Home.retN X546 hx hlk (t := .boolean) hret (by simp) (hb hby at_423) ⟨rfl, N535⟩ (by decide) (by decide)
   ·
    refine Home.go (fun _ => XS.icmpYes X145.here hx rfl (pc0 := 245) (pc' := 261) rfl (hb hby at_245) rfl (flt c146).2.2.2 (by decide) (by decide)) ?_
    have bd148 : ¬ v5 < (1 : Int32) ∧ ¬ (1 : Int32) < v5 := ⟨bd137.1, c146⟩
    have fx149 : v5 = (1 : Int32) := bnd_fix bd148
    try rw [fx149]
    show Home T145 (mkF m 261 #[.val (.int i0), .val (.int i1), .val (.int i2), .val (.int v1), .val (.int v2), .val (.int v3), .val (.int v4), .val (.int (1 : Int32)), sr b56, sr b64, sr b74, sr b85, .val (.int v120), .val (.int v122), .val (.int v124), .val (.int r126), .val (.int r128), .val (.int r130), sr b131, .unset] [])
    refine Home.run X145 hx hby sg0_261_2 (pc' := 264) (L' := #[.val (.int i0), .val (.int i1), .val (.int i2), .val (.int v1), .val (.int v2), .val (.int v3), .val (.int v4), .val (.int (1 : Int32)), sr b56, sr b64, sr b74, sr b85, .val (.int v120), .val (.int v122), .val (.int v124), .val (.int r126), .val (.int r128), .val (.int r130), sr b131, .unset]) (S' := [(.int (2 : Int32)), (.int (1 : Int32))]) rfl ?_
    refine Home.go (fun _ => XS.icmpYes X145.here hx rfl (pc0 := 264) (pc' := 280) rfl (hb hby at_264) rfl (flt (by decide)).2.2.2 (by decide) (by decide)) ?_
    refine Home.run X145 hx hby sg0_280_2 (pc' := 284) (L' := #[.val (.int i0), .val (.int i1), .val (.int i2), .val (.int v1), .val (.int v2), .val (.int v3), .val (.int v4), .val (.int (1 : Int32)), sr b56, sr b64, sr b74, sr b85, .val (.int v120), .val (.int v122), .val (.int v124), .val (.int r126), .val (.int r128), .val (.int r130), sr b131, .unset]) (S' := [(.ref b131), (.ref b85)]) rfl ?_
    have q549 := (P140_0.keep K145q)
    have q550 := (((((P86_0.keep KqJ112).ext E131).keep K132q).keep K140q).keep K145q)
    have le551 : h85.size ≤ hJ112.size := Nat.le_trans K86q.1 KqJ112.1
    have ne552 : b85 ≠ b131 := (Nat.ne_of_lt (Nat.lt_of_lt_of_le A85.lt (Nat.le_trans le551 (Nat.le_of_eq g131.symm))))
    have q553 := ((((HJ112_2.ext E131).keep K132q (ninS ne552 nin0)).keep K140q nin0).keep K145q (ninS ne552 nin0))
    have q554 := ((((HJ112_1.ext E131).keep K132q (ninS ne552 nin0)).keep K140q nin0).keep K145q (ninS ne552 nin0))
    have q555 := ((((HJ112_0.ext E131).keep K132q (ninS ne552 nin0)).keep K140q nin0).keep K145q (ninS ne552 nin0))
    have ne556 : b900 ≠ b131 := (Nat.ne_of_lt (Nat.lt_of_lt_of_le HJ112_3.lt (Nat.le_trans (Nat.le_refl _) (Nat.le_of_eq g131.symm))))
    have q557 := ((((HJ112_3.ext E131).keep K132q (ninS ne556 nin0)).keep K140q nin0).keep K145q (ninS ne556 nin0))
    have q558 := (((((((((((((P63_0.ext E64).keep K65q).keep K71q).ext E74).keep K75q).keep K81q).ext E85).keep K86q).keep KqJ112).ext E131).keep K132q).keep K140q).keep K145q)
    have le559 : h56.size ≤ T63.heap.size := Nat.le_trans K57q.1 K63q.1
    have ne560 : b56 ≠ b64 := (Nat.ne_of_lt (Nat.lt_of_lt_of_le A56.lt (Nat.le_trans le559 (Nat.le_of_eq g64.symm))))
    have le561 : h56.size ≤ h64.size := Nat.le_trans le559 E64.1
    have le562 : h56.size ≤ T65.heap.size := Nat.le_trans le561 K65q.1
    have le563 : h56.size ≤ T71.heap.size := Nat.le_trans le562 K71q.1
    have ne564 : b56 ≠ b74 := (Nat.ne_of_lt (Nat.lt_of_lt_of_le A56.lt (Nat.le_trans le563 (Nat.le_of_eq g74.symm))))
    have le565 : h56.size ≤ h74.size := Nat.le_trans le563 E74.1
    have le566 : h56.size ≤ T75.heap.size := Nat.le_trans le565 K75q.1
    have le567 : h56.size ≤ T81.heap.size := Nat.le_trans le566 K81q.1
    have ne568 : b56 ≠ b85 := (Nat.ne_of_lt (Nat.lt_of_lt_of_le A56.lt (Nat.le_trans le567 (Nat.le_of_eq g85.symm))))
    have le569 : h56.size ≤ h85.size := Nat.le_trans le567 E85.1
    have le570 : h56.size ≤ T86.heap.size := Nat.le_trans le569 K86q.1
    have le571 : h56.size ≤ hJ112.size := Nat.le_trans le570 KqJ112.1
    have ne572 : b56 ≠ b131 := (Nat.ne_of_lt (Nat.lt_of_lt_of_le A56.lt (Nat.le_trans le571 (Nat.le_of_eq g131.symm))))
    have q573 := (((((((((((((P63_1.ext E64).keep K65q nin0).keep K71q (ninS ne560 nin0)).ext E74).keep K75q nin0).keep K81q (ninS ne564 nin0)).ext E85).keep K86q (ninS ne568 nin0)).keep KqJ112 (ninS ne568 nin0)).ext E131).keep K132q (ninS ne572 nin0)).keep K140q nin0).keep K145q (ninS ne572 nin0))
    have q574 := ((((((((((((((P57_0.keep K63q).ext E64).keep K65q).keep K71q).ext E74).keep K75q).keep K81q).ext E85).keep K86q).keep KqJ112).ext E131).keep K132q).keep K140q).keep K145q)
    have ne575 : b3_57 ≠ b56 := (Ne.symm (Nat.ne_of_lt (Nat.lt_of_lt_of_le A56.lt (Nat.le_trans (Nat.le_refl _) sz_b3_57))))
    have ne576 : b3_57 ≠ b64 := (Nat.ne_of_lt (Nat.lt_of_lt_of_le P57_0.lt (Nat.le_trans K63q.1 (Nat.le_of_eq g64.symm))))
    have le577 : T57.heap.size ≤ h64.size := Nat.le_trans K63q.1 E64.1
    have le578 : T57.heap.size ≤ T65.heap.size := Nat.le_trans le577 K65q.1
    have le579 : T57.heap.size ≤ T71.heap.size := Nat.le_trans le578 K71q.1
    have ne580 : b3_57 ≠ b74 := (Nat.ne_of_lt (Nat.lt_of_lt_of_le P57_0.lt (Nat.le_trans le579 (Nat.le_of_eq g74.symm))))
    have le581 : T57.heap.size ≤ h74.size := Nat.le_trans le579 E74.1
    have le582 : T57.heap.size ≤ T75.heap.size := Nat.le_trans le581 K75q.1
    have le583 : T57.heap.size ≤ T81.heap.size := Nat.le_trans le582 K81q.1
    have ne584 : b3_57 ≠ b85 := (Nat.ne_of_lt (Nat.lt_of_lt_of_le P57_0.lt (Nat.le_trans le583 (Nat.le_of_eq g85.symm))))
    have le585 : T57.heap.size ≤ h85.size := Nat.le_trans le583 E85.1
    have le586 : T57.heap.size ≤ T86.heap.size := Nat.le_trans le585 K86q.1
    have le587 : T57.heap.size ≤ hJ112.size := Nat.le_trans le586 KqJ112.1
    have ne588 : b3_57 ≠ b131 := (Nat.ne_of_lt (Nat.lt_of_lt_of_le P57_0.lt (Nat.le_trans le587 (Nat.le_of_eq g131.symm))))
    have q589 := ((((((((((((((P57_2.keep K63q (ninS ne575 nin0)).ext E64).keep K65q nin0).keep K71q (ninS ne576 nin0)).ext E74).keep K75q nin0).keep K81q (ninS ne580 nin0)).ext E85).keep K86q (ninS ne584 nin0)).keep KqJ112 (ninS ne584 nin0)).ext E131).keep K132q (ninS ne588 nin0)).keep K140q nin0).keep K145q (ninS ne588 nin0))
    have ne590 : b3_140 ≠ b131 := (Ne.symm (Nat.ne_of_lt (Nat.lt_of_lt_of_le A131.lt (Nat.le_trans K132q.1 sz_b3_140))))
    have q591 := (P140_2.keep K145q (ninS ne590 nin0))
    have q592 := ((((((((((((((P57_1.keep K63q (ninS ne575 nin0)).ext E64).keep K65q nin0).keep K71q (ninS ne576 nin0)).ext E74).keep K75q nin0).keep K81q (ninS ne580 nin0)).ext E85).keep K86q (ninS ne584 nin0)).keep KqJ112 (ninS ne584 nin0)).ext E131).keep K132q (ninS ne588 nin0)).keep K140q nin0).keep K145q (ninS ne588 nin0))
    have q593 := (P140_1.keep K145q (ninS ne590 nin0))
    have ne594 : b1_4_57 ≠ b56 := (Ne.symm (Nat.ne_of_lt (Nat.lt_of_lt_of_le A56.lt (Nat.le_trans (Nat.le_refl _) sz_b1_4_57))))
    have ne595 : b1_4_57 ≠ b64 := (Nat.ne_of_lt (Nat.lt_of_lt_of_le P57_3.lt (Nat.le_trans K63q.1 (Nat.le_of_eq g64.symm))))
    have ne596 : b1_4_57 ≠ b74 := (Nat.ne_of_lt (Nat.lt_of_lt_of_le P57_3.lt (Nat.le_trans le579 (Nat.le_of_eq g74.symm))))
    have ne597 : b1_4_57 ≠ b85 := (Nat.ne_of_lt (Nat.lt_of_lt_of_le P57_3.lt (Nat.le_trans le583 (Nat.le_of_eq g85.symm))))
    have ne598 : b1_4_57 ≠ b131 := (Nat.ne_of_lt (Nat.lt_of_lt_of_le P57_3.lt (Nat.le_trans le587 (Nat.le_of_eq g131.symm))))
    have q599 := ((((((((((((((P57_3.keep K63q (ninS ne594 nin0)).ext E64).keep K65q nin0).keep K71q (ninS ne595 nin0)).ext E74).keep K75q nin0).keep K81q (ninS ne596 nin0)).ext E85).keep K86q (ninS ne597 nin0)).keep KqJ112 (ninS ne597 nin0)).ext E131).keep K132q (ninS ne598 nin0)).keep K140q nin0).keep K145q (ninS ne598 nin0))
    have ne600 : b1_4_140 ≠ b131 := (Ne.symm (Nat.ne_of_lt (Nat.lt_of_lt_of_le A131.lt (Nat.le_trans K132q.1 sz_b1_4_140))))
    have q601 := (P140_3.keep K145q (ninS ne600 nin0))
    have q602 := ((((((((((P71_0.ext E74).keep K75q).keep K81q).ext E85).keep K86q).keep KqJ112).ext E131).keep K132q).keep K140q).keep K145q)
    have le603 : h64.size ≤ T71.heap.size := Nat.le_trans K65q.1 K71q.1
    have ne604 : b64 ≠ b74 := (Nat.ne_of_lt (Nat.lt_of_lt_of_le A64.lt (Nat.le_trans le603 (Nat.le_of_eq g74.symm))))
    have le605 : h64.size ≤ h74.size := Nat.le_trans le603 E74.1
    have le606 : h64.size ≤ T75.heap.size := Nat.le_trans le605 K75q.1
    have le607 : h64.size ≤ T81.heap.size := Nat.le_trans le606 K81q.1
    have ne608 : b64 ≠ b85 := (Nat.ne_of_lt (Nat.lt_of_lt_of_le A64.lt (Nat.le_trans le607 (Nat.le_of_eq g85.symm))))
    have le609 : h64.size ≤ h85.size := Nat.le_trans le607 E85.1
    have le610 : h64.size ≤ T86.heap.size := Nat.le_trans le609 K86q.1
    have le611 : h64.size ≤ hJ112.size := Nat.le_trans le610 KqJ112.1
    have ne612 : b64 ≠ b131 := (Nat.ne_of_lt (Nat.lt_of_lt_of_le A64.lt (Nat.le_trans le611 (Nat.le_of_eq g131.symm))))
    have q613 := ((((((((((P71_1.ext E74).keep K75q nin0).keep K81q (ninS ne604 nin0)).ext E85).keep K86q (ninS ne608 nin0)).keep KqJ112 (ninS ne608 nin0)).ext E131).keep K132q (ninS ne612 nin0)).keep K140q nin0).keep K145q (ninS ne612 nin0))
    have q614 := (((((((((((P65_0.keep K71q).ext E74).keep K75q).keep K81q).ext E85).keep K86q).keep KqJ112).ext E131).keep K132q).keep K140q).keep K145q)
    have ne615 : b3_65 ≠ b64 := (Ne.symm (Nat.ne_of_lt (Nat.lt_of_lt_of_le A64.lt (Nat.le_trans (Nat.le_refl _) sz_b3_65))))
    have ne616 : b3_65 ≠ b74 := (Nat.ne_of_lt (Nat.lt_of_lt_of_le P65_0.lt (Nat.le_trans K71q.1 (Nat.le_of_eq g74.symm))))
    have le617 : T65.heap.size ≤ h74.size := Nat.le_trans K71q.1 E74.1
    have le618 : T65.heap.size ≤ T75.heap.size := Nat.le_trans le617 K75q.1
    have le619 : T65.heap.size ≤ T81.heap.size := Nat.le_trans le618 K81q.1
    have ne620 : b3_65 ≠ b85 := (Nat.ne_of_lt (Nat.lt_of_lt_of_le P65_0.lt (Nat.le_trans le619 (Nat.le_of_eq g85.symm))))
    have le621 : T65.heap.size ≤ h85.size := Nat.le_trans le619 E85.1
    have le622 : T65.heap.size ≤ T86.heap.size := Nat.le_trans le621 K86q.1
    have le623 : T65.heap.size ≤ hJ112.size := Nat.le_trans le622 KqJ112.1
    have ne624 : b3_65 ≠ b131 := (Nat.ne_of_lt (Nat.lt_of_lt_of_le P65_0.lt (Nat.le_trans le623 (Nat.le_of_eq g131.symm))))
    have q625 := (((((((((((P65_2.keep K71q (ninS ne615 nin0)).ext E74).keep K75q nin0).keep K81q (ninS ne616 nin0)).ext E85).keep K86q (ninS ne620 nin0)).keep KqJ112 (ninS ne620 nin0)).ext E131).keep K132q (ninS ne624 nin0)).keep K140q nin0).keep K145q (ninS ne624 nin0))
    have q626 := (((((((((((P65_1.keep K71q (ninS ne615 nin0)).ext E74).keep K75q nin0).keep K81q (ninS ne616 nin0)).ext E85).keep K86q (ninS ne620 nin0)).keep KqJ112 (ninS ne620 nin0)).ext E131).keep K132q (ninS ne624 nin0)).keep K140q nin0).keep K145q (ninS ne624 nin0))
    have ne627 : b1_4_65 ≠ b64 := (Ne.symm (Nat.ne_of_lt (Nat.lt_of_lt_of_le A64.lt (Nat.le_trans (Nat.le_refl _) sz_b1_4_65))))
    have ne628 : b1_4_65 ≠ b74 := (Nat.ne_of_lt (Nat.lt_of_lt_of_le P65_3.lt (Nat.le_trans K71q.1 (Nat.le_of_eq g74.symm))))
    have ne629 : b1_4_65 ≠ b85 := (Nat.ne_of_lt (Nat.lt_of_lt_of_le P65_3.lt (Nat.le_trans le619 (Nat.le_of_eq g85.symm))))
    have ne630 : b1_4_65 ≠ b131 := (Nat.ne_of_lt (Nat.lt_of_lt_of_le P65_3.lt (Nat.le_trans le623 (Nat.le_of_eq g131.symm))))
    have q631 := (((((((((((P65_3.keep K71q (ninS ne627 nin0)).ext E74).keep K75q nin0).keep K81q (ninS ne628 nin0)).ext E85).keep K86q (ninS ne629 nin0)).keep KqJ112 (ninS ne629 nin0)).ext E131).keep K132q (ninS ne630 nin0)).keep K140q nin0).keep K145q (ninS ne630 nin0))
    have q632 := (((((((P81_0.ext E85).keep K86q).keep KqJ112).ext E131).keep K132q).keep K140q).keep K145q)
    have le633 : h74.size ≤ T81.heap.size := Nat.le_trans K75q.1 K81q.1
    have ne634 : b74 ≠ b85 := (Nat.ne_of_lt (Nat.lt_of_lt_of_le A74.lt (Nat.le_trans le633 (Nat.le_of_eq g85.symm))))
    have le635 : h74.size ≤ h85.size := Nat.le_trans le633 E85.1
    have le636 : h74.size ≤ T86.heap.size := Nat.le_trans le635 K86q.1
    have le637 : h74.size ≤ hJ112.size := Nat.le_trans le636 KqJ112.1
    have ne638 : b74 ≠ b131 := (Nat.ne_of_lt (Nat.lt_of_lt_of_le A74.lt (Nat.le_trans le637 (Nat.le_of_eq g131.symm))))
    have q639 := (((((((P81_1.ext E85).keep K86q (ninS ne634 nin0)).keep KqJ112 (ninS ne634 nin0)).ext E131).keep K132q (ninS ne638 nin0)).keep K140q nin0).keep K145q (ninS ne638 nin0))
    have q640 := ((((((((P75_0.keep K81q).ext E85).keep K86q).keep KqJ112).ext E131).keep K132q).keep K140q).keep K145q)
    have ne641 : b3_75 ≠ b74 := (Ne.symm (Nat.ne_of_lt (Nat.lt_of_lt_of_le A74.lt (Nat.le_trans (Nat.le_refl _) sz_b3_75))))
    have ne642 : b3_75 ≠ b85 := (Nat.ne_of_lt (Nat.lt_of_lt_of_le P75_0.lt (Nat.le_trans K81q.1 (Nat.le_of_eq g85.symm))))
    have le643 : T75.heap.size ≤ h85.size := Nat.le_trans K81q.1 E85.1
    have le644 : T75.heap.size ≤ T86.heap.size := Nat.le_trans le643 K86q.1
    have le645 : T75.heap.size ≤ hJ112.size := Nat.le_trans le644 KqJ112.1
    have ne646 : b3_75 ≠ b131 := (Nat.ne_of_lt (Nat.lt_of_lt_of_le P75_0.lt (Nat.le_trans le645 (Nat.le_of_eq g131.symm))))
    have q647 := ((((((((P75_2.keep K81q (ninS ne641 nin0)).ext E85).keep K86q (ninS ne642 nin0)).keep KqJ112 (ninS ne642 nin0)).ext E131).keep K132q (ninS ne646 nin0)).keep K140q nin0).keep K145q (ninS ne646 nin0))
    have q648 := ((((((((P75_1.keep K81q (ninS ne641 nin0)).ext E85).keep K86q (ninS ne642 nin0)).keep KqJ112 (ninS ne642 nin0)).ext E131).keep K132q (ninS ne646 nin0)).keep K140q nin0).keep K145q (ninS ne646 nin0))
    have ne649 : b1_4_75 ≠ b74 := (Ne.symm (Nat.ne_of_lt (Nat.lt_of_lt_of_le A74.lt (Nat.le_trans (Nat.le_refl _) sz_b1_4_75))))
    have ne650 : b1_4_75 ≠ b85 := (Nat.ne_of_lt (Nat.lt_of_lt_of_le P75_3.lt (Nat.le_trans K81q.1 (Nat.le_of_eq g85.symm))))
    have ne651 : b1_4_75 ≠ b131 := (Nat.ne_of_lt (Nat.lt_of_lt_of_le P75_3.lt (Nat.le_trans le645 (Nat.le_of_eq g131.symm))))
    have q652 := ((((((((P75_3.keep K81q (ninS ne649 nin0)).ext E85).keep K86q (ninS ne650 nin0)).keep KqJ112 (ninS ne650 nin0)).ext E131).keep K132q (ninS ne651 nin0)).keep K140q nin0).keep K145q (ninS ne651 nin0))
    have le653 : T57.heap.size ≤ h131.size := Nat.le_trans le587 E131.1
    have le654 : T57.heap.size ≤ T132.heap.size := Nat.le_trans le653 K132q.1
    have ne655 : b3_57 ≠ b3_140 := (Nat.ne_of_lt (Nat.lt_of_lt_of_le P57_0.lt (Nat.le_trans le654 sz_b3_140)))
    have le656 : T65.heap.size ≤ h131.size := Nat.le_trans le623 E131.1
    have le657 : T65.heap.size ≤ T132.heap.size := Nat.le_trans le656 K132q.1
    have ne658 : b3_65 ≠ b3_140 := (Nat.ne_of_lt (Nat.lt_of_lt_of_le P65_0.lt (Nat.le_trans le657 sz_b3_140)))
    have le659 : T75.heap.size ≤ h131.size := Nat.le_trans le645 E131.1
    have le660 : T75.heap.size ≤ T132.heap.size := Nat.le_trans le659 K132q.1
    have ne661 : b3_75 ≠ b3_140 := (Nat.ne_of_lt (Nat.lt_of_lt_of_le P75_0.lt (Nat.le_trans le660 sz_b3_140)))
    refine Home.call (own_static X145 hx hZ hown (own_w115 hw) (own_w116 hw) (own_w2 hw) (own_w117 hw) (by decide) (rm19_3 l Z a0 hw [] b85 b131 sv_DEFAULTCAPACITY_EMPTY_ELEMENTDATA b6_2_2_7_145 k6_2_2_7_145 b3_140 v4 b900 k900 b56 b64 b74 b3_57 sv_COMPACT_STRINGS b1_4_57 b1_4_140 k1_4_57 (v1.toInt8.toInt32) k1_4_140 (r126.toInt8.toInt32) b3_65 b1_4_65 k1_4_65 (v2.toInt8.toInt32) b3_75 b1_4_75 k1_4_75 (v3.toInt8.toInt32) kde T145.heap n0 O145 S_DEFAULTCAPACITY_EMPTY_ELEMENTDATA P145_1 P145_0 P145_3 P145_2 P145_4 q549 q550 q553 q554 bd9 q555 q557 q558 q573 q574 S_COMPACT_STRINGS q589 q591 q592 q593 q599 q601 ne655 hCS q602 q613 q614 q625 q626 q631 ne658 q632 q639 q640 q647 q648 q652 ne661 (own_nn351 b56 b64 b74 i0 i1 i2 v1 hv1 v2 hv2 v3 hv3 v4 hv4 v120 hv120 r126 hr126 c6) V_de) rfl rfl (by rw [hml]; rfl) (argsL := [(.ref b85), (.ref b131)]) (rest := []) (lenOf own_pd12 rfl) rfl rfl (W := 0) (by exact hW0) (by decide) (by decide) (hb hby at_284) (by decide) (by decide)) ?_
    rintro _ T663 L663 X663 ⟨b1_663, b6_2_2_7_77_663, a68_663, k6_2_2_7_77_663, rfl, N663q, sz_b1_663, sz_b6_2_2_7_77_663, K663q, P663_0, P663_1, P663_2, P663_3, P663_4, P663_5, R663_0⟩
    have g_b1_663 : n0 ≤ b1_663 := Nat.le_trans (Old.le O145) sz_b1_663
    have g_b6_2_2_7_77_663 : n0 ≤ b6_2_2_7_77_663 := Nat.le_trans (Old.le O145) sz_b6_2_2_7_77_663
    have O663 := Old.keep O145 K663q all0
    have K663 : Keep h0 T663.heap ([] : List Addr) := Keep.trans K145 K663q all0
    have N663 := Fr.app N145 N663q
    show Home T663 (mkF m 287 #[.val (.int i0), .val (.int i1), .val (.int i2), .val (.int v1), .val (.int v2), .val (.int v3), .val (.int v4), .val (.int (1 : Int32)), sr b56, sr b64, sr b74, sr b85, .val (.int v120), .val (.int v122), .val (.int v124), .val (.int r126), .val (.int r128), .val (.int r130), sr b131, .unset] [(.ref b1_663)])
    refine Home.run X663 hx hby sg0_287_2 (pc' := 291) (L' := #[.val (.int i0), .val (.int i1), .val (.int i2), .val (.int v1), .val (.int v2), .val (.int v3), .val (.int v4), .val (.int (1 : Int32)), sr b56, sr b64, sr b74, sr b85, .val (.int v120), .val (.int v122), .val (.int v124), .val (.int r126), .val (.int r128), .val (.int r130), sr b131, sr b1_663]) (S' := [(.ref b1_663)]) rfl ?_
    refine Home.st (own_pure (own_face X663 hx hZ hown (own_w155 hw) (own_w156 hw) (mvT hZ (own_w157 hw)) (own_w158 hw) (own_w159 hw) (own_w160 hw) (own_w161 hw) (own_w80 hw) (own_w51 hw) (own_w162 hw) (by decide) (rm23_3 l Z a0 hw [] b1_663 T663.heap n0 O663 P663_3) rfl P663_0 rfl (by rw [hml]; rfl) (argsL := []) (rest := []) (lenOf own_pd13 rfl) rfl rfl (W := 0) (by exact hW0) (by decide) (by decide) (hb hby at_291) (by decide) (by decide))) fun T664 X664 e664 => ?_
    refine Home.run X664 hx hby sg0_296_1 (pc' := 298) (L' := #[.val (.int i0), .val (.int i1), .val (.int i2), .val (.int v1), .val (.int v2), .val (.int v3), .val (.int v4), .val (.int (1 : Int32)), sr b56, sr b64, sr b74, sr b85, .val (.int v120), .val (.int v122), .val (.int v124), .val (.int r126), .val (.int r128), .val (.int r130), sr b131, sr b1_663]) (S' := [(.int (1 : Int32)), (.int (1 : Int32))]) rfl ?_
    refine Home.go (fun _ => XS.icmpYes X664.here hx rfl (pc0 := 298) (pc' := 303) rfl (hb hby at_298) rfl (teq (by decide)).1 (by decide) (by decide)) ?_
    refine Home.run X664 hx hby sg0_303_1 (pc' := 305) (L' := #[.val (.int i0), .val (.int i1), .val (.int i2), .val (.int v1), .val (.int v2), .val (.int v3), .val (.int v4), .val (.int (1 : Int32)), sr b56, sr b64, sr b74, sr b85, .val (.int v120), .val (.int v122), .val (.int v124), .val (.int r126), .val (.int r128), .val (.int r130), sr b131, sr b1_663]) (S' := [(.int (1 : Int32))]) rfl ?_
    refine Home.go (fun _ => XS.ifNo X664.here hx rfl (hb hby at_305) rfl ((if0 _ _).trans (tlt (by decide)).2.2.2)) ?_
    refine Home.run X664 hx hby sg0_308_2 (pc' := 311) (L' := #[.val (.int i0), .val (.int i1), .val (.int i2), .val (.int v1), .val (.int v2), .val (.int v3), .val (.int v4), .val (.int (1 : Int32)), sr b56, sr b64, sr b74, sr b85, .val (.int v120), .val (.int v122), .val (.int v124), .val (.int r126), .val (.int r128), .val (.int r130), sr b131, sr b1_663]) (S' := [(.int (0 : Int32)), (.ref b1_663)]) rfl ?_
    refine Home.st (own_pure (own_face X664 hx hZ hown (own_w195 hw) (own_w196 hw) (mvT hZ (own_w197 hw)) (own_w198 hw) (own_w199 hw) (own_w200 hw) (own_w201 hw) (own_w80 hw) (own_w51 hw) (own_w202 hw) (by decide) (rm29_5 l Z a0 hw [] b1_663 b6_2_2_7_77_663 k6_2_2_7_77_663 a68_663 T663.heap n0 O663 P663_3 P663_0 P663_2 P663_4) e664 P663_0 rfl (by rw [hml]; rfl) (argsL := [(.int (0 : Int32))]) (rest := []) (lenOf own_pd22 rfl) rfl rfl (W := 0) (by exact hW0) (by decide) (by decide) (hb hby at_311) (by decide) (by decide))) fun T665 X665 e665 => ?_
    refine Home.run X665 hx hby sg0_316_8 (pc' := 331) (L' := #[.val (.int i0), .val (.int i1), .val (.int i2), .val (.int v1), .val (.int v2), .val (.int v3), .val (.int v4), .val (.int (1 : Int32)), sr b56, sr b64, sr b74, sr b85, .val (.int v120), .val (.int v122), .val (.int v124), .val (.int r126), .val (.int r128), .val (.int r130), sr b131, sr b1_663]) (S' := [(.int r126), (.int v4), (.int v3), (.int v2), (.int v1), (.ref b74), (.ref b64), (.ref b56), (.ref a68_663)]) rfl ?_
    refine Home.st (own_pure (own_static X665 hx hZ hown (own_w216 hw) (own_w217 hw) (own_w110 hw) (own_w218 hw) (by decide) (rm33_0 l Z a0 hw [] v1 v2 v3 v4 r126 T663.heap n0 O663 bv1 bv2 bv3 bd9 br126) e665 rfl (by rw [hml]; rfl) (argsL := [(.int v1), (.int v2), (.int v3), (.int v4), (.int r126)]) (rest := [(.ref b74), (.ref b64), (.ref b56), (.ref a68_663)]) (lenOf own_pd23 rfl) rfl rfl (W := 4) (by exact hW0) (by decide) (by decide) (hb hby at_331) (by decide) (by decide))) fun T666 X666 e666 => ?_
    show Home T666 (mkF m 334 #[.val (.int i0), .val (.int i1), .val (.int i2), .val (.int v1), .val (.int v2), .val (.int v3), .val (.int v4), .val (.int (1 : Int32)), sr b56, sr b64, sr b74, sr b85, .val (.int v120), .val (.int v122), .val (.int v124), .val (.int r126), .val (.int r128), .val (.int r130), sr b131, sr b1_663] [(.int (f_rm33_0 v2 v3 v4 r126)), (.ref b74), (.ref b64), (.ref b56), (.ref a68_663)])
    obtain ⟨r667, hr667⟩ : ∃ z, z = (f_rm33_0 v2 v3 v4 r126) := ⟨_, rfl⟩
    rw [← hr667]
    have br667 : ¬ r667 < (0 : Int32) ∧ ¬ (2 : Int32) < r667 := by rw [hr667]; exact f_rm33_0_bnd v2 v3 v4 r126 v1 bv1 bv2 bv3 bd9 br126
    refine Home.st (own_pure (own_static X666 hx hZ hown (own_w219 hw) (own_w220 hw) (own_w110 hw) (own_w221 hw) (by decide) (rm34_0 l Z a0 hw [] b56 b64 b74 r667 T663.heap n0 O663 br667) e666 rfl (by rw [hml]; rfl) (argsL := [(.ref b56), (.ref b64), (.ref b74), (.int r667)]) (rest := [(.ref a68_663)]) (lenOf own_pd24 rfl) rfl rfl (W := 1) (by exact hW0) (by decide) (by decide) (hb hby at_334) (by decide) (by decide))) fun T668 X668 e668 => ?_
    show Home T668 (mkF m 337 #[.val (.int i0), .val (.int i1), .val (.int i2), .val (.int v1), .val (.int v2), .val (.int v3), .val (.int v4), .val (.int (1 : Int32)), sr b56, sr b64, sr b74, sr b85, .val (.int v120), .val (.int v122), .val (.int v124), .val (.int r126), .val (.int r128), .val (.int r130), sr b131, sr b1_663] [(f_rm34_0 b56 b64 b74 r667), (.ref a68_663)])
    obtain ⟨r669, hr669⟩ : ∃ z, z = (f_rm34_0 b56 b64 b74 r667) := ⟨_, rfl⟩
    rw [← hr669]
    have isr_r669 : r669.isRef = true := by rw [hr669]; exact f_rm34_0_isRef b56 b64 b74 r667
    refine Home.go (fun _ => Jvm.RoadKit.acmp X668 hx rfl rfl isr_r669 (pc0 := 337) (pc' := 342) (same := true) rfl (hb hby at_337) rfl (decide_eq_true (R663_0.symm.trans (own_sel361 b56 b64 b74 i0 i1 i2 v1 hv1 v2 hv2 v3 hv3 v4 hv4 v120 hv120 r126 hr126 r667 hr667 r669 hr669 c6))) (by decide) (by decide)) ?_
    show Home T668 (mkF m 342 #[.val (.int i0), .val (.int i1), .val (.int i2), .val (.int v1), .val (.int v2), .val (.int v3), .val (.int v4), .val (.int (1 : Int32)), sr b56, sr b64, sr b74, sr b85, .val (.int v120), .val (.int v122), .val (.int v124), .val (.int r126), .val (.int r128), .val (.int r130), sr b131, sr b1_663] [])
    refine Home.run X668 hx hby sg0_342_2 (pc' := 345) (L' := #[.val (.int i0), .val (.int i1), .val (.int i2), .val (.int v1), .val (.int v2), .val (.int v3), .val (.int v4), .val (.int (1 : Int32)), sr b56, sr b64, sr b74, sr b85, .val (.int v120), .val (.int v122), .val (.int v124), .val (.int r126), .val (.int r128), .val (.int r130), sr b131, sr b1_663]) (S' := [(.int (1 : Int32)), (.int (1 : Int32))]) rfl ?_
    refine Home.go (fun _ => XS.icmpYes X668.here hx rfl (pc0 := 345) (pc' := 382) rfl (hb hby at_345) rfl (flt (by decide)).2.2.2 (by decide) (by decide)) ?_
    refine Home.run X668 hx hby sg0_382_2 (pc' := 385) (L' := #[.val (.int i0), .val (.int i1), .val (.int i2), .val (.int v1), .val (.int v2), .val (.int v3), .val (.int v4), .val (.int (1 : Int32)), sr b56, sr b64, sr b74, sr b85, .val (.int v120), .val (.int v122), .val (.int v124), .val (.int r126), .val (.int r128), .val (.int r130), sr b131, sr b1_663]) (S' := [(.int (2 : Int32)), (.int (1 : Int32))]) rfl ?_
    refine Home.go (fun _ => XS.icmpYes X668.here hx rfl (pc0 := 385) (pc' := 422) rfl (hb hby at_385) rfl (flt (by decide)).2.2.2 (by decide) (by decide)) ?_
    refine Home.run X668 hx hby sg0_422_1 (pc' := 423) (L' := #[.val (.int i0), .val (.int i1), .val (.int i2), .val (.int v1), .val (.int v2), .val (.int v3), .val (.int v4), .val (.int (1 : Int32)), sr b56, sr b64, sr b74, sr b85, .val (.int v120), .val (.int v122), .val (.int v124), .val (.int r126), .val (.int r128), .val (.int r130), sr b131, sr b1_663]) (S' := [(.int (1 : Int32))]) rfl ?_
    exact Home.retN X668 hx hlk (t := .boolean) hret (by simp) (hb hby at_423) ⟨rfl, N663⟩ (by decide) (by decide)
  ·
   refine Home.go (fun _ => XS.ifYes X132.here hx rfl (pc0 := 226) (pc' := 242) rfl (hb hby at_226) rfl ((if0 _ _).trans (flt c136).2.2.2) (by decide) (by decide)) ?_
   have bd138 : ¬ v5 < (0 : Int32) ∧ ¬ (0 : Int32) < v5 := ⟨bv5.1, c136⟩
   have fx139 : v5 = (0 : Int32) := bnd_fix bd138
   try rw [fx139]
   show Home T132 (mkF m 242 #[.val (.int i0), .val (.int i1), .val (.int i2), .val (.int v1), .val (.int v2), .val (.int v3), .val (.int v4), .val (.int (0 : Int32)), sr b56, sr b64, sr b74, sr b85, .val (.int v120), .val (.int v122), .val (.int v124), .val (.int r126), .val (.int r128), .val (.int r130), sr b131, .unset] [])
   refine Home.run X132 hx hby sg0_242_2 (pc' := 245) (L' := #[.val (.int i0), .val (.int i1), .val (.int i2), .val (.int v1), .val (.int v2), .val (.int v3), .val (.int v4), .val (.int (0 : Int32)), sr b56, sr b64, sr b74, sr b85, .val (.int v120), .val (.int v122), .val (.int v124), .val (.int r126), .val (.int r128), .val (.int r130), sr b131, .unset]) (S' := [(.int (1 : Int32)), (.int (0 : Int32))]) rfl ?_
   refine Home.go (fun _ => XS.icmpYes X132.here hx rfl (pc0 := 245) (pc' := 261) rfl (hb hby at_245) rfl (flt (by decide)).2.2.2 (by decide) (by decide)) ?_
   refine Home.run X132 hx hby sg0_261_2 (pc' := 264) (L' := #[.val (.int i0), .val (.int i1), .val (.int i2), .val (.int v1), .val (.int v2), .val (.int v3), .val (.int v4), .val (.int (0 : Int32)), sr b56, sr b64, sr b74, sr b85, .val (.int v120), .val (.int v122), .val (.int v124), .val (.int r126), .val (.int r128), .val (.int r130), sr b131, .unset]) (S' := [(.int (2 : Int32)), (.int (0 : Int32))]) rfl ?_
   refine Home.go (fun _ => XS.icmpYes X132.here hx rfl (pc0 := 264) (pc' := 280) rfl (hb hby at_264) rfl (flt (by decide)).2.2.2 (by decide) (by decide)) ?_
   refine Home.run X132 hx hby sg0_280_2 (pc' := 284) (L' := #[.val (.int i0), .val (.int i1), .val (.int i2), .val (.int v1), .val (.int v2), .val (.int v3), .val (.int v4), .val (.int (0 : Int32)), sr b56, sr b64, sr b74, sr b85, .val (.int v120), .val (.int v122), .val (.int v124), .val (.int r126), .val (.int r128), .val (.int r130), sr b131, .unset]) (S' := [(.ref b131), (.ref b85)]) rfl ?_
   refine Home.call (own_static X132 hx hZ hown (own_w115 hw) (own_w116 hw) (own_w2 hw) (own_w117 hw) (by decide) (rm19_0 l Z a0 hw [] b85 b131 sv_DEFAULTCAPACITY_EMPTY_ELEMENTDATA T132.heap n0 O132 S_DEFAULTCAPACITY_EMPTY_ELEMENTDATA P132_0 P132_1 P132_3) rfl rfl (by rw [hml]; rfl) (argsL := [(.ref b85), (.ref b131)]) (rest := []) (lenOf own_pd12 rfl) rfl rfl (W := 0) (by exact hW0) (by decide) (by decide) (hb hby at_284) (by decide) (by decide)) ?_
   rintro _ T671 L671 X671 ⟨b1_671, rfl, N671q, sz_b1_671, K671q, P671_0, P671_1, P671_2, P671_3⟩
   have g_b1_671 : n0 ≤ b1_671 := Nat.le_trans (Old.le O132) sz_b1_671
   have O671 := Old.keep O132 K671q all0
   have K671 : Keep h0 T671.heap ([] : List Addr) := Keep.trans K132 K671q all0
   have N671 := Fr.app N132 N671q
   refine Home.run X671 hx hby sg0_287_2 (pc' := 291) (L' := #[.val (.int i0), .val (.int i1), .val (.int i2), .val (.int v1), .val (.int v2), .val (.int v3), .val (.int v4), .val (.int (0 : Int32)), sr b56, sr b64, sr b74, sr b85, .val (.int v120), .val (.int v122), .val (.int v124), .val (.int r126), .val (.int r128), .val (.int r130), sr b131, sr b1_671]) (S' := [(.ref b1_671)]) rfl ?_
   refine Home.st (own_pure (own_face X671 hx hZ hown (own_w155 hw) (own_w156 hw) (mvT hZ (own_w157 hw)) (own_w158 hw) (own_w159 hw) (own_w160 hw) (own_w161 hw) (own_w80 hw) (own_w51 hw) (own_w162 hw) (by decide) (rm23_0 l Z a0 hw [] b1_671 T671.heap n0 O671 P671_3) rfl P671_0 rfl (by rw [hml]; rfl) (argsL := []) (rest := []) (lenOf own_pd13 rfl) rfl rfl (W := 0) (by exact hW0) (by decide) (by decide) (hb hby at_291) (by decide) (by decide))) fun T672 X672 e672 => ?_
   refine Home.run X672 hx hby sg0_296_1 (pc' := 298) (L' := #[.val (.int i0), .val (.int i1), .val (.int i2), .val (.int v1), .val (.int v2), .val (.int v3), .val (.int v4), .val (.int (0 : Int32)), sr b56, sr b64, sr b74, sr b85, .val (.int v120), .val (.int v122), .val (.int v124), .val (.int r126), .val (.int r128), .val (.int r130), sr b131, sr b1_671]) (S' := [(.int (0 : Int32)), (.int (0 : Int32))]) rfl ?_
   refine Home.go (fun _ => XS.icmpYes X672.here hx rfl (pc0 := 298) (pc' := 303) rfl (hb hby at_298) rfl (teq (by decide)).1 (by decide) (by decide)) ?_
   refine Home.run X672 hx hby sg0_303_1 (pc' := 305) (L' := #[.val (.int i0), .val (.int i1), .val (.int i2), .val (.int v1), .val (.int v2), .val (.int v3), .val (.int v4), .val (.int (0 : Int32)), sr b56, sr b64, sr b74, sr b85, .val (.int v120), .val (.int v122), .val (.int v124), .val (.int r126), .val (.int r128), .val (.int r130), sr b131, sr b1_671]) (S' := [(.int (0 : Int32))]) rfl ?_
   refine Home.go (fun _ => XS.ifYes X672.here hx rfl (pc0 := 305) (pc' := 342) rfl (hb hby at_305) rfl ((if0 _ _).trans (flt (by decide)).2.2.2) (by decide) (by decide)) ?_
   refine Home.run X672 hx hby sg0_342_2 (pc' := 345) (L' := #[.val (.int i0), .val (.int i1), .val (.int i2), .val (.int v1), .val (.int v2), .val (.int v3), .val (.int v4), .val (.int (0 : Int32)), sr b56, sr b64, sr b74, sr b85, .val (.int v120), .val (.int v122), .val (.int v124), .val (.int r126), .val (.int r128), .val (.int r130), sr b131, sr b1_671]) (S' := [(.int (1 : Int32)), (.int (0 : Int32))]) rfl ?_
   refine Home.go (fun _ => XS.icmpYes X672.here hx rfl (pc0 := 345) (pc' := 382) rfl (hb hby at_345) rfl (flt (by decide)).2.2.2 (by decide) (by decide)) ?_
   refine Home.run X672 hx hby sg0_382_2 (pc' := 385) (L' := #[.val (.int i0), .val (.int i1), .val (.int i2), .val (.int v1), .val (.int v2), .val (.int v3), .val (.int v4), .val (.int (0 : Int32)), sr b56, sr b64, sr b74, sr b85, .val (.int v120), .val (.int v122), .val (.int v124), .val (.int r126), .val (.int r128), .val (.int r130), sr b131, sr b1_671]) (S' := [(.int (2 : Int32)), (.int (0 : Int32))]) rfl ?_
   refine Home.go (fun _ => XS.icmpYes X672.here hx rfl (pc0 := 385) (pc' := 422) rfl (hb hby at_385) rfl (flt (by decide)).2.2.2 (by decide) (by decide)) ?_
   refine Home.run X672 hx hby sg0_422_1 (pc' := 423) (L' := #[.val (.int i0), .val (.int i1), .val (.int i2), .val (.int v1), .val (.int v2), .val (.int v3), .val (.int v4), .val (.int (0 : Int32)), sr b56, sr b64, sr b74, sr b85, .val (.int v120), .val (.int v122), .val (.int v124), .val (.int r126), .val (.int r128), .val (.int r130), sr b131, sr b1_671]) (S' := [(.int (1 : Int32))]) rfl ?_
   exact Home.retN X672 hx hlk (t := .boolean) hret (by simp) (hb hby at_423) ⟨rfl, N671⟩ (by decide) (by decide)
theorem comes_1 {Post : Tables → Env → Array Value → State → Outcome → State → Prop} (hpost : ∀ tb e args s v u, (limb_1_1.after args s (.returned v) u = true ∧ limb_1_2.after args s (.returned v) u = true ∧ True) → FrameEnd s (.returned v) u (Jvm.fieldLocs frame_1_writes args s ++ Jvm.arrayLocs frame_1_arrays args s ++ Jvm.staticLocs frame_1_statics s) 64 320 → Post tb e args s (.returned v) u) :
    ArmFor flags0 classFile x code maxLocals ret World_1 tables_1 room_1 Calls_1 rest_1 Pre_1 Post := by
  intro l hfl _ _ p e ha hc hk s m args below hf hA hF happ hP
  obtain ⟨hcalls, hrest, hpre⟩ := hP
  obtain ⟨-, -, -, hnamed, -, -, -, hat⟩ := (Spec.applies_iff hf).mp happ
  obtain ⟨hg, hn⟩ := and_e (Cond.before_iff.mp (show (Jvm.Cond.and given_1 narrow_1).before args s = true from hpre))
  obtain ⟨gg1, gg2⟩ := and_e hg
  obtain ⟨gg3, gg4⟩ := and_e gg2
  obtain ⟨gg5, gg6⟩ := and_e gg4
  obtain ⟨w0, w1, w2, rfl⟩ : ∃ w0 w1 w2 : Value, args = #[w0, w1, w2] := by
    have hs : args.size = 3 := by simpa [Cond.value, given_1] using gg1
    obtain ⟨L⟩ := args
    match L, hs with
    | [w0, w1, w2], _ => exact ⟨w0, w1, w2, rfl⟩
  have hw := fun d (hd : d ∈ tables_1) => atoms_spec (ws := Jvm.Cond.code x code maxLocals ret :: tables_1) hat d (List.mem_cons_of_mem _ hd)
  have hfit : Fit s := fun {y c} hc i hi => by
    obtain ⟨ha, rfl⟩ := Array.getElem?_eq_some_iff.mp hc
    have q := List.all_eq_true.mp ((Array.all_eq_true_iff_forall_mem.mp hF) _ (Array.getElem_mem ha)) i (List.mem_range.mpr hi)
    simpa [Array.getElem?_eq_getElem hi] using q
  obtain ⟨hsets, hown0⟩ := atoms_of _ (rest_1_c_eq ▸ (show rest_1_c.before _ s = true from hrest))
  have hr0 := Cond.before_iff.mp hown0
  obtain ⟨i0, ei0⟩ := is_v gg3
  obtain rfl : w0 = (.int i0) := Option.some.inj ei0
  obtain ⟨i1, ei1⟩ := is_v gg5
  obtain rfl : w1 = (.int i1) := Option.some.inj ei1
  obtain ⟨i2, ei2⟩ := is_v gg6
  obtain rfl : w2 = (.int i2) := Option.some.inj ei2
  obtain ⟨sv_COMPACT_STRINGS, v_cs⟩ := is_v (Cond.before_iff.mp (hsets _ (List.mem_of_getElem? (i := 1) rfl)))
  have S_COMPACT_STRINGS := Sta.start v_cs (Or.inl (hsets _ (List.mem_of_getElem? (i := 0) rfl)))
  have hCS : ¬ (sv_COMPACT_STRINGS = (0 : Int32)) := gotF (Cond.eq_ints v_cs (Term.int_eval 0)) (not_v (Cond.before_iff.mp (hsets _ (List.mem_of_getElem? (i := 2) rfl))))
  obtain ⟨sv_DEFAULTCAPACITY_EMPTY_ELEMENTDATA, v_de⟩ := arr_v (Cond.before_iff.mp (hsets _ (List.mem_of_getElem? (i := 15) rfl)))
  have S_DEFAULTCAPACITY_EMPTY_ELEMENTDATA := Sta.start v_de (Or.inr ⟨(own_w51 hw), (hsets _ (List.mem_of_getElem? (i := 11) rfl))⟩)
  obtain ⟨cde, A_de⟩ := Arr.start v_de (Cond.before_iff.mp (hsets _ (List.mem_of_getElem? (i := 15) rfl)))
  obtain ⟨de1, de2⟩ := own_lenk v_de A_de (Cond.before_iff.mp (hsets _ (List.mem_of_getElem? (i := 17) rfl)))
  have V_de := Arv.start (vs := []) (dv := .null) hfit A_de de1 de2 (by decide) rfl trivial
  obtain ⟨n, o, h1, h2, h3, _, L, rfl, ⟨rfl, N⟩, hq⟩ := rm0 l s _ hw tables_1 i0 i1 i2 sv_COMPACT_STRINGS sv_DEFAULTCAPACITY_EMPTY_ELEMENTDATA cde.cls s.heap s.heap.size (Old.start s) S_COMPACT_STRINGS hCS S_DEFAULTCAPACITY_EMPTY_ELEMENTDATA V_de p e ha hc hk s m _ below hf ((Spec.applies_iff_loose hf).mp happ).1 ⟨rfl, State.Warmed39.refl s, rfl⟩ trivial
  refine ⟨n, _, h1, h2, h3, hpost _ _ _ _ _ _ ⟨Cond.after_iff.mpr rfl, Cond.after_iff.mpr (eq_i res_at (Term.int_eval (1)) rfl), trivial⟩ ⟨hq.1, hq.2.1, (hq.2.2.sift fun y hy => Or.inr (N y hy)).mono (by decide) (by decide)⟩⟩
theorem main_1_1 : Claimed_1_1 := comes_1 fun _ _ _ _ _ _ h hF => ⟨h.1, hF⟩
theorem main_1_2 : Claimed_1_2 := comes_1 fun _ _ _ _ _ _ h hF => ⟨h.2.1, hF⟩
end Jvm.Pilot.@@N@@
namespace Jvm.Pilot.@@N@@
open Jvm Jvm.ClassFile Sem Op Lib Jvm.Free Jvm.Stand Jvm.Pilot.@@N@@.Jvm.D
/-! MADE BY PROGRAM (witnessworld.py) out of the Statement's table words and the real class files: 31 classes; the members and pool entries that the words name. The judged class is class 1, her method 5. -/
namespace start1
open Jvm.ClassFile
def u (s : String) : CpInfo := .utf8 (stringToUtf16 s)
/-- a pool by its gaps: so many unusable entries, then the entry; so many at the end -/
def gap : Nat → List CpInfo → List CpInfo
  | 0, r => r
  | n + 1, r => .unusable :: gap n r
def poolList (es : List (Nat × CpInfo)) (last : Nat) : List CpInfo := es.foldr (fun e r => gap e.1 (e.2 :: r)) (gap last [])
def pool (es : List (Nat × CpInfo)) (last : Nat) : Array CpInfo := ⟨poolList es last⟩
def fileOf (pool : Array CpInfo) (this : Nat) (attrs : Array Attribute := #[]) (ms : Array MethodInfo := #[]) (fl : Nat := 33) (sup : Nat := 0) (ifs : Array Nat := #[]) (fds : Array FieldInfo := #[]) : ClassFile where
  minorVersion := 0
  majorVersion := 65
  constantPool := pool
  accessFlags := fl
  thisClass := this
  superClass := sup
  interfaces := ifs
  fields := fds
  methods := ms
  attributes := attrs
def plain (name : String) (sup : Option ClassId) : Class where
  name := name
  kind := .ordinary
  loader := none
  accessFlags := 33
  super := sup
  interfaces := #[]
  cf := none
  fields := #[]
  methods := #[]
  instanceTypes := #[]
  staticTypes := #[]
  resolved := #[]
  callSites := []
  init := .initialized
  statics := none
  mirror := none

def pool0 : Array CpInfo := pool [(5, u "<init>"), (0, u "()V"), (1, .class_ 10), (1, u "java/lang/Object")] 113

def k0c0 : Code := { maxStack := 0, maxLocals := 1, code := object_method_1_code, exceptionTable := #[], attributes := #[] }
def k0m0 : Method := { name := "<init>", desc := "()V", sig := { parameters := [], returnType := none }, accessFlags := 1, code := some k0c0 }
/-- java/lang/Object -/
def k0 : Class := { plain "java/lang/Object" none with
  accessFlags := 33
  interfaces := #[]
  cf := some (fileOf pool0 8 #[] #[{ accessFlags := 1, nameIndex := 5, descriptorIndex := 6, attributes := #[] }] 33 0 #[] #[])
  fields := #[]
  methods := #[k0m0]
  instanceTypes := #[]
  staticTypes := #[]
  resolved := Array.replicate 124 none
  statics := none }

def pool1 : Array CpInfo := pool [(2, .class_ 4), (0, .nameAndType 5 6), (0, u "java/lang/Object"), (0, u "<init>"), (0, u "()V"), (0, .class_ 8), (0, u "com/example/wary_meter/warymeter/Column"), (0, .methodref 10 11), (0, .class_ 12), (0, .nameAndType 13 14), (0, u "java/lang/String"), (0, u "valueOf"), (0, u "(C)Ljava/lang/String;"), (0, .methodref 7 16), (0, .nameAndType 5 17), (0, u "(Ljava/lang/String;Ljava/util/function/Function;)V"), (0, .class_ 19), (0, u "java/util/ArrayList"), (0, .methodref 18 3), (0, .interfaceMethodref 22 23), (0, .class_ 24), (0, .nameAndType 25 26), (0, u "java/util/List"), (0, u "add"), (0, u "(Ljava/lang/Object;)Z"), (0, .methodref 28 29), (0, .class_ 30), (0, .nameAndType 31 32), (0, u "com/example/wary_meter/warymeter/ColumnPickPinLaw"), (0, u "sel"), (0, u "(II)I"), (0, .methodref 28 34), (0, .nameAndType 35 36), (0, u "charAt"), (0, u "(CCCI)C"), (0, .methodref 7 38), (0, .nameAndType 39 40), (0, u "pick"), (0, u "(Ljava/util/List;Ljava/util/List;)Ljava/util/List;"), (0, .interfaceMethodref 22 42), (0, .nameAndType 43 44), (0, u "size"), (0, u "()I"), (0, .interfaceMethodref 22 46), (0, .nameAndType 47 48), (0, u "get"), (0, u "(I)Ljava/lang/Object;"), (0, .methodref 28 50), (0, .nameAndType 51 52), (0, u "last"), (0, u "(CCCIC)I"), (0, .methodref 28 54), (0, .nameAndType 55 56), (0, u "colAt"), (0, u "(Lcom/example/wary_meter/warymeter/Column;Lcom/example/wary_meter/warymeter/Column;Lcom/example/wary_meter/warymeter/Column;I)Lcom/example/wary_meter/warymeter/Column;"), (5, u "law"), (0, u "(III)Z")] 2

def k1m0 : Method := { name := "<init>", desc := "()V", sig := { parameters := [], returnType := none }, accessFlags := 1, code := none }
def k1c1 : Code := { maxStack := 2, maxLocals := 2, code := method_2_code, exceptionTable := #[], attributes := #[] }
def k1m1 : Method := { name := "sel", desc := "(II)I", sig := { parameters := [.int, .int], returnType := some .int }, accessFlags := 10, code := some k1c1 }
def k1c2 : Code := { maxStack := 2, maxLocals := 4, code := method_3_code, exceptionTable := #[], attributes := #[] }
def k1m2 : Method := { name := "charAt", desc := "(CCCI)C", sig := { parameters := [.char, .char, .char, .int], returnType := some .char }, accessFlags := 10, code := some k1c2 }
def k1c3 : Code := { maxStack := 2, maxLocals := 5, code := method_4_code, exceptionTable := #[], attributes := #[] }
def k1m3 : Method := { name := "last", desc := "(CCCIC)I", sig := { parameters := [.char, .char, .char, .int, .char], returnType := some .int }, accessFlags := 10, code := some k1c3 }
def k1c4 : Code := { maxStack := 2, maxLocals := 4, code := method_5_code, exceptionTable := #[], attributes := #[] }
def k1m4 : Method := { name := "colAt", desc := "(Lcom/example/wary_meter/warymeter/Column;Lcom/example/wary_meter/warymeter/Column;Lcom/example/wary_meter/warymeter/Column;I)Lcom/example/wary_meter/warymeter/Column;", sig := { parameters := [(.object "com/example/wary_meter/warymeter/Column"), (.object "com/example/wary_meter/warymeter/Column"), (.object "com/example/wary_meter/warymeter/Column"), .int], returnType := some (.object "com/example/wary_meter/warymeter/Column") }, accessFlags := 10, code := some k1c4 }
def k1c5 : Code := { maxStack := 9, maxLocals := 20, code := code, exceptionTable := #[], attributes := #[] }
def k1m5 : Method := { name := "law", desc := "(III)Z", sig := { parameters := [.int, .int, .int], returnType := some .boolean }, accessFlags := 9, code := some k1c5 }
/-- com/example/wary_meter/warymeter/ColumnPickPinLaw -/
def k1 : Class := { plain "com/example/wary_meter/warymeter/ColumnPickPinLaw" (some 0) with
  accessFlags := 49
  interfaces := #[]
  cf := some (fileOf pool1 28 #[] #[{ accessFlags := 1, nameIndex := 5, descriptorIndex := 6, attributes := #[] }, { accessFlags := 10, nameIndex := 31, descriptorIndex := 32, attributes := #[] }, { accessFlags := 10, nameIndex := 35, descriptorIndex := 36, attributes := #[] }, { accessFlags := 10, nameIndex := 51, descriptorIndex := 52, attributes := #[] }, { accessFlags := 10, nameIndex := 55, descriptorIndex := 56, attributes := #[] }, { accessFlags := 9, nameIndex := 62, descriptorIndex := 63, attributes := #[] }] 49 2 #[] #[])
  fields := #[]
  methods := #[k1m0, k1m1, k1m2, k1m3, k1m4, k1m5]
  instanceTypes := #[]
  staticTypes := #[]
  resolved := Array.replicate 66 none
  statics := none }

def pool2 : Array CpInfo := pool [(1, .methodref 2 3), (0, .class_ 4), (0, .nameAndType 5 6), (0, u "java/lang/Object"), (0, u "<init>"), (0, u "()V"), (0, .class_ 8), (0, u "java/lang/Record")] 13

def k2c0 : Code := { maxStack := 1, maxLocals := 1, code := jdk_30_method_1_code, exceptionTable := #[], attributes := #[] }
def k2m0 : Method := { name := "<init>", desc := "()V", sig := { parameters := [], returnType := none }, accessFlags := 4, code := some k2c0 }
/-- java/lang/Record -/
def k2 : Class := { plain "java/lang/Record" (some 0) with
  accessFlags := 1057
  interfaces := #[]
  cf := some (fileOf pool2 7 #[] #[{ accessFlags := 4, nameIndex := 5, descriptorIndex := 6, attributes := #[] }] 1057 2 #[] #[])
  fields := #[]
  methods := #[k2m0]
  instanceTypes := #[]
  staticTypes := #[]
  resolved := Array.replicate 22 none
  statics := none }

def pool3 : Array CpInfo := pool [(1, .methodref 2 3), (0, .class_ 4), (0, .nameAndType 5 6), (0, u "java/lang/Record"), (0, u "<init>"), (0, u "()V"), (0, .fieldref 8 9), (0, .class_ 10), (0, .nameAndType 11 12), (0, u "com/example/wary_meter/warymeter/Column"), (0, u "name"), (0, u "Ljava/lang/String;"), (0, .fieldref 8 14), (0, .nameAndType 15 16), (0, u "value"), (0, u "Ljava/util/function/Function;"), (0, .fieldref 8 18), (0, .nameAndType 19 16), (0, u "key"), (0, .fieldref 8 21), (0, .nameAndType 22 16), (0, u "text"), (0, .methodref 8 24), (0, .nameAndType 5 25), (0, u "(Ljava/lang/String;Ljava/util/function/Function;Ljava/util/function/Function;Ljava/util/function/Function;)V"), (5, .class_ 33), (1, u "java/util/List"), (2, .class_ 37), (0, u "java/lang/String"), (4, .methodref 8 43), (0, .nameAndType 11 44), (0, u "()Ljava/lang/String;"), (0, .class_ 46), (0, u "java/util/ArrayList"), (0, .methodref 45 3), (0, .interfaceMethodref 31 49), (0, .nameAndType 50 51), (0, u "iterator"), (0, u "()Ljava/util/Iterator;"), (0, .interfaceMethodref 53 54), (0, .class_ 55), (0, .nameAndType 56 57), (0, u "java/util/Iterator"), (0, u "hasNext"), (0, u "()Z"), (0, .interfaceMethodref 53 59), (0, .nameAndType 60 61), (0, u "next"), (0, u "()Ljava/lang/Object;"), (0, .methodref 36 63), (0, .nameAndType 64 65), (0, u "equals"), (0, u "(Ljava/lang/Object;)Z"), (9, .interfaceMethodref 31 76), (0, .nameAndType 77 65), (0, u "add"), (26, u "(Ljava/lang/String;Ljava/util/function/Function;)V"), (14, u "pick"), (0, u "(Ljava/util/List;Ljava/util/List;)Ljava/util/List;")] 54

def k3c0 : Code := { maxStack := 5, maxLocals := 3, code := prog_3_method_1_code, exceptionTable := #[], attributes := #[] }
def k3m0 : Method := { name := "<init>", desc := "(Ljava/lang/String;Ljava/util/function/Function;)V", sig := { parameters := [(.object "java/lang/String"), (.object "java/util/function/Function")], returnType := none }, accessFlags := 0, code := some k3c0 }
def k3c1 : Code := { maxStack := 2, maxLocals := 5, code := prog_3_method_2_code, exceptionTable := #[], attributes := #[] }
def k3m1 : Method := { name := "<init>", desc := "(Ljava/lang/String;Ljava/util/function/Function;Ljava/util/function/Function;Ljava/util/function/Function;)V", sig := { parameters := [(.object "java/lang/String"), (.object "java/util/function/Function"), (.object "java/util/function/Function"), (.object "java/util/function/Function")], returnType := none }, accessFlags := 0, code := some k3c1 }
def k3c2 : Code := { maxStack := 3, maxLocals := 8, code := prog_3_method_5_code, exceptionTable := #[], attributes := #[] }
def k3m2 : Method := { name := "pick", desc := "(Ljava/util/List;Ljava/util/List;)Ljava/util/List;", sig := { parameters := [(.object "java/util/List"), (.object "java/util/List")], returnType := some (.object "java/util/List") }, accessFlags := 8, code := some k3c2 }
def k3c3 : Code := { maxStack := 1, maxLocals := 1, code := prog_3_method_10_code, exceptionTable := #[], attributes := #[] }
def k3m3 : Method := { name := "name", desc := "()Ljava/lang/String;", sig := { parameters := [], returnType := some (.object "java/lang/String") }, accessFlags := 1, code := some k3c3 }
/-- com/example/wary_meter/warymeter/Column -/
def k3 : Class := { plain "com/example/wary_meter/warymeter/Column" (some 2) with
  accessFlags := 48
  interfaces := #[]
  cf := some (fileOf pool3 8 #[] #[{ accessFlags := 0, nameIndex := 5, descriptorIndex := 104, attributes := #[] }, { accessFlags := 0, nameIndex := 5, descriptorIndex := 25, attributes := #[] }, { accessFlags := 8, nameIndex := 119, descriptorIndex := 120, attributes := #[] }, { accessFlags := 1, nameIndex := 11, descriptorIndex := 44, attributes := #[] }] 48 2 #[] #[{ accessFlags := 18, nameIndex := 11, descriptorIndex := 12, attributes := #[] }, { accessFlags := 18, nameIndex := 15, descriptorIndex := 16, attributes := #[] }, { accessFlags := 18, nameIndex := 19, descriptorIndex := 16, attributes := #[] }, { accessFlags := 18, nameIndex := 22, descriptorIndex := 16, attributes := #[] }])
  fields := #[{ name := "name", type := (.object "java/lang/String"), accessFlags := 18, slot := 0, constantValue := 0 }, { name := "value", type := (.object "java/util/function/Function"), accessFlags := 18, slot := 1, constantValue := 0 }, { name := "key", type := (.object "java/util/function/Function"), accessFlags := 18, slot := 2, constantValue := 0 }, { name := "text", type := (.object "java/util/function/Function"), accessFlags := 18, slot := 3, constantValue := 0 }]
  methods := #[k3m0, k3m1, k3m2, k3m3]
  instanceTypes := #[(.object "java/lang/String"), (.object "java/util/function/Function"), (.object "java/util/function/Function"), (.object "java/util/function/Function")]
  staticTypes := #[]
  resolved := Array.replicate 175 none
  statics := none }

def pool4 : Array CpInfo := pool [(1, .class_ 2), (0, u "java/io/Serializable"), (0, .class_ 4), (0, u "java/lang/Object")] 2

/-- java/io/Serializable -/
def k4 : Class := { plain "java/io/Serializable" (some 0) with
  accessFlags := 1537
  interfaces := #[]
  cf := some (fileOf pool4 1 #[] #[] 1537 3 #[] #[])
  fields := #[]
  methods := #[]
  instanceTypes := #[]
  staticTypes := #[]
  resolved := Array.replicate 7 none
  statics := none }

def pool5 : Array CpInfo := pool [(1, .class_ 2), (0, u "java/lang/Comparable"), (0, .class_ 4), (0, u "java/lang/Object")] 7

/-- java/lang/Comparable -/
def k5 : Class := { plain "java/lang/Comparable" (some 0) with
  accessFlags := 1537
  interfaces := #[]
  cf := some (fileOf pool5 1 #[] #[] 1537 3 #[] #[])
  fields := #[]
  methods := #[]
  instanceTypes := #[]
  staticTypes := #[]
  resolved := Array.replicate 12 none
  statics := none }

def pool6 : Array CpInfo := pool [(2, .class_ 4), (1, u "java/lang/CharSequence"), (42, .class_ 48), (0, u "java/lang/CharSequence$1CodePointIterator"), (10, .class_ 60), (0, u "java/lang/CharSequence$1CharIterator"), (5, .class_ 67), (0, u "java/lang/Object")] 63

/-- java/lang/CharSequence -/
def k6 : Class := { plain "java/lang/CharSequence" (some 0) with
  accessFlags := 1537
  interfaces := #[]
  cf := some (fileOf pool6 2 #[.nestMembers #[47, 59]] #[] 1537 66 #[] #[])
  fields := #[]
  methods := #[]
  instanceTypes := #[]
  staticTypes := #[]
  resolved := Array.replicate 131 none
  statics := none }

def pool7 : Array CpInfo := pool [(1, .class_ 2), (0, u "java/lang/constant/Constable"), (0, .class_ 4), (0, u "java/lang/Object")] 6

/-- java/lang/constant/Constable -/
def k7 : Class := { plain "java/lang/constant/Constable" (some 0) with
  accessFlags := 1537
  interfaces := #[]
  cf := some (fileOf pool7 1 #[] #[] 1537 3 #[] #[])
  fields := #[]
  methods := #[]
  instanceTypes := #[]
  staticTypes := #[]
  resolved := Array.replicate 11 none
  statics := none }

def pool8 : Array CpInfo := pool [(1, .class_ 2), (0, u "java/lang/constant/ConstantDesc"), (0, .class_ 4), (0, u "java/lang/Object")] 32

/-- java/lang/constant/ConstantDesc -/
def k8 : Class := { plain "java/lang/constant/ConstantDesc" (some 0) with
  accessFlags := 1537
  interfaces := #[]
  cf := some (fileOf pool8 1 #[] #[] 1537 3 #[] #[])
  fields := #[]
  methods := #[]
  instanceTypes := #[]
  staticTypes := #[]
  resolved := Array.replicate 37 none
  statics := none }

def pool9 : Array CpInfo := pool [(1, .methodref 2 3), (0, .class_ 4), (0, .nameAndType 5 6), (0, u "java/lang/Object"), (0, u "<init>"), (0, u "()V"), (2, .fieldref 10 11), (0, .class_ 12), (0, .nameAndType 13 14), (0, u "java/lang/String"), (0, u "value"), (0, u "[B"), (0, .fieldref 10 16), (0, .nameAndType 17 18), (0, u "coder"), (0, u "B"), (2, u "hash"), (0, u "I"), (2, u "hashIsZero"), (0, u "Z"), (11, .fieldref 10 39), (0, .nameAndType 40 26), (0, u "COMPACT_STRINGS"), (12, u "toBytes"), (53, .class_ 109), (1, u "java/lang/StringLatin1"), (99, .methodref 10 210), (0, .nameAndType 5 211), (0, u "([BB)V"), (157, u "(C)Z"), (171, .methodref 107 542), (0, .nameAndType 543 544), (0, u "equals"), (0, u "([B[B)Z"), (28, u "(Ljava/lang/Object;)Z"), (1, .class_ 576), (0, u "java/lang/CharSequence"), (22, u "CASE_INSENSITIVE_ORDER"), (0, u "Ljava/util/Comparator;"), (181, u "valueOf"), (0, u "(C)Ljava/lang/String;"), (231, .methodref 107 1016), (0, .nameAndType 1017 369), (0, u "canEncode"), (0, .methodref 107 1019), (0, .nameAndType 53 1020), (0, u "(C)[B"), (80, u "serialPersistentFields"), (0, u "[Ljava/io/ObjectStreamField;"), (0, .class_ 1104), (0, u "java/lang/String$CaseInsensitiveComparator"), (1, .class_ 1107), (0, u "java/io/Serializable"), (0, .class_ 1109), (0, u "java/lang/Comparable"), (0, .class_ 1111), (0, u "java/lang/constant/Constable"), (0, .class_ 1113), (0, u "java/lang/constant/ConstantDesc"), (2, u "serialVersionUID"), (0, u "J"), (3, u "REPL"), (0, u "C"), (2, u "LATIN1"), (1, u "UTF16")] 323

def k9m0 : Method := { name := "<init>", desc := "()V", sig := { parameters := [], returnType := none }, accessFlags := 1, code := none }
def k9c1 : Code := { maxStack := 2, maxLocals := 3, code := jdk_42_method_66_code, exceptionTable := #[], attributes := #[] }
def k9m1 : Method := { name := "equals", desc := "(Ljava/lang/Object;)Z", sig := { parameters := [(.object "java/lang/Object")], returnType := some .boolean }, accessFlags := 1, code := some k9c1 }
def k9c2 : Code := { maxStack := 4, maxLocals := 1, code := jdk_42_method_139_code, exceptionTable := #[], attributes := #[] }
def k9m2 : Method := { name := "valueOf", desc := "(C)Ljava/lang/String;", sig := { parameters := [.char], returnType := some (.object "java/lang/String") }, accessFlags := 9, code := some k9c2 }
def k9c3 : Code := { maxStack := 2, maxLocals := 3, code := jdk_42_method_151_code, exceptionTable := #[], attributes := #[] }
def k9m3 : Method := { name := "<init>", desc := "([BB)V", sig := { parameters := [(.array .byte), .byte], returnType := none }, accessFlags := 0, code := some k9c3 }
/-- java/lang/String -/
def k9 : Class := { plain "java/lang/String" (some 0) with
  accessFlags := 49
  interfaces := #[4, 5, 6, 7, 8]
  cf := some (fileOf pool9 10 #[.nestMembers #[1103]] #[{ accessFlags := 1, nameIndex := 5, descriptorIndex := 6, attributes := #[] }, { accessFlags := 1, nameIndex := 543, descriptorIndex := 573, attributes := #[] }, { accessFlags := 9, nameIndex := 782, descriptorIndex := 783, attributes := #[] }, { accessFlags := 0, nameIndex := 5, descriptorIndex := 211, attributes := #[] }] 49 2 #[1106, 1108, 575, 1110, 1112] #[{ accessFlags := 18, nameIndex := 13, descriptorIndex := 14, attributes := #[] }, { accessFlags := 18, nameIndex := 17, descriptorIndex := 18, attributes := #[] }, { accessFlags := 2, nameIndex := 21, descriptorIndex := 22, attributes := #[] }, { accessFlags := 2, nameIndex := 25, descriptorIndex := 26, attributes := #[] }, { accessFlags := 26, nameIndex := 1116, descriptorIndex := 1117, attributes := #[] }, { accessFlags := 24, nameIndex := 40, descriptorIndex := 26, attributes := #[] }, { accessFlags := 26, nameIndex := 1101, descriptorIndex := 1102, attributes := #[] }, { accessFlags := 26, nameIndex := 1121, descriptorIndex := 1122, attributes := #[] }, { accessFlags := 25, nameIndex := 599, descriptorIndex := 600, attributes := #[] }, { accessFlags := 24, nameIndex := 1125, descriptorIndex := 18, attributes := #[] }, { accessFlags := 24, nameIndex := 1127, descriptorIndex := 18, attributes := #[] }])
  fields := #[{ name := "value", type := (.array .byte), accessFlags := 18, slot := 0, constantValue := 0 }, { name := "coder", type := .byte, accessFlags := 18, slot := 1, constantValue := 0 }, { name := "hash", type := .int, accessFlags := 2, slot := 2, constantValue := 0 }, { name := "hashIsZero", type := .boolean, accessFlags := 2, slot := 3, constantValue := 0 }, { name := "serialVersionUID", type := .long, accessFlags := 26, slot := 0, constantValue := 0 }, { name := "COMPACT_STRINGS", type := .boolean, accessFlags := 24, slot := 1, constantValue := 0 }, { name := "serialPersistentFields", type := (.array (.object "java/io/ObjectStreamField")), accessFlags := 26, slot := 2, constantValue := 0 }, { name := "REPL", type := .char, accessFlags := 26, slot := 3, constantValue := 0 }, { name := "CASE_INSENSITIVE_ORDER", type := (.object "java/util/Comparator"), accessFlags := 25, slot := 4, constantValue := 0 }, { name := "LATIN1", type := .byte, accessFlags := 24, slot := 5, constantValue := 0 }, { name := "UTF16", type := .byte, accessFlags := 24, slot := 6, constantValue := 0 }]
  methods := #[k9m0, k9m1, k9m2, k9m3]
  instanceTypes := #[(.array .byte), .byte, .int, .boolean]
  staticTypes := #[.long, .boolean, (.array (.object "java/io/ObjectStreamField")), .char, (.object "java/util/Comparator"), .byte, .byte]
  resolved := Array.replicate 1451 none
  statics := some 0 }

def pool10 : Array CpInfo := pool [(4, .class_ 6), (1, u "java/lang/Object"), (0, u "<init>"), (0, u "()V"), (5, .class_ 16), (1, u "java/lang/StringLatin1"), (73, u "canEncode"), (14, u "(C)Z"), (15, u "$assertionsDisabled"), (0, u "Z"), (98, .class_ 223), (1, u "java/lang/StringLatin1$LinesSpliterator"), (57, u "equals"), (0, u "([B[B)Z"), (97, u "toBytes"), (1, u "(C)[B"), (7, .class_ 391), (0, u "java/lang/StringLatin1$CharsSpliterator")] 3

def k10m0 : Method := { name := "<init>", desc := "()V", sig := { parameters := [], returnType := none }, accessFlags := 0, code := none }
def k10c1 : Code := { maxStack := 2, maxLocals := 1, code := jdk_43_method_3_code, exceptionTable := #[], attributes := #[] }
def k10m1 : Method := { name := "canEncode", desc := "(C)Z", sig := { parameters := [.char], returnType := some .boolean }, accessFlags := 9, code := some k10c1 }
def k10c2 : Code := { maxStack := 3, maxLocals := 3, code := jdk_43_method_13_code, exceptionTable := #[], attributes := #[] }
def k10m2 : Method := { name := "equals", desc := "([B[B)Z", sig := { parameters := [(.array .byte), (.array .byte)], returnType := some .boolean }, accessFlags := 9, code := some k10c2 }
def k10c3 : Code := { maxStack := 4, maxLocals := 1, code := jdk_43_method_46_code, exceptionTable := #[], attributes := #[] }
def k10m3 : Method := { name := "toBytes", desc := "(C)[B", sig := { parameters := [.char], returnType := some (.array .byte) }, accessFlags := 9, code := some k10c3 }
/-- java/lang/StringLatin1 -/
def k10 : Class := { plain "java/lang/StringLatin1" (some 0) with
  accessFlags := 48
  interfaces := #[]
  cf := some (fileOf pool10 14 #[.nestMembers #[390, 221]] #[{ accessFlags := 0, nameIndex := 7, descriptorIndex := 8, attributes := #[] }, { accessFlags := 9, nameIndex := 90, descriptorIndex := 105, attributes := #[] }, { accessFlags := 9, nameIndex := 281, descriptorIndex := 282, attributes := #[] }, { accessFlags := 9, nameIndex := 380, descriptorIndex := 382, attributes := #[] }] 48 4 #[] #[{ accessFlags := 4120, nameIndex := 121, descriptorIndex := 122, attributes := #[] }])
  fields := #[{ name := "$assertionsDisabled", type := .boolean, accessFlags := 4120, slot := 0, constantValue := 0 }]
  methods := #[k10m0, k10m1, k10m2, k10m3]
  instanceTypes := #[]
  staticTypes := #[.boolean]
  resolved := Array.replicate 395 none
  statics := none }

def pool11 : Array CpInfo := pool [(8, .class_ 10), (1, u "java/lang/Iterable"), (24, .class_ 36), (0, u "java/lang/Object")] 25

/-- java/lang/Iterable -/
def k11 : Class := { plain "java/lang/Iterable" (some 0) with
  accessFlags := 1537
  interfaces := #[]
  cf := some (fileOf pool11 8 #[] #[] 1537 35 #[] #[])
  fields := #[]
  methods := #[]
  instanceTypes := #[]
  staticTypes := #[]
  resolved := Array.replicate 62 none
  statics := none }

def pool12 : Array CpInfo := pool [(10, .class_ 12), (1, u "java/util/Collection"), (47, .class_ 61), (0, u "java/lang/Object"), (0, .class_ 63), (0, u "java/lang/Iterable")] 51

/-- java/util/Collection -/
def k12 : Class := { plain "java/util/Collection" (some 0) with
  accessFlags := 1537
  interfaces := #[11]
  cf := some (fileOf pool12 10 #[] #[] 1537 60 #[62] #[])
  fields := #[]
  methods := #[]
  instanceTypes := #[]
  staticTypes := #[]
  resolved := Array.replicate 115 none
  statics := none }

def pool13 : Array CpInfo := pool [(1, .methodref 2 3), (0, .class_ 4), (0, .nameAndType 5 6), (0, u "java/lang/Object"), (0, u "<init>"), (0, u "()V"), (1, .class_ 10), (1, u "java/util/AbstractCollection"), (66, .class_ 78), (0, u "java/util/Collection")] 81

def k13c0 : Code := { maxStack := 1, maxLocals := 1, code := jdk_22_method_1_code, exceptionTable := #[], attributes := #[] }
def k13m0 : Method := { name := "<init>", desc := "()V", sig := { parameters := [], returnType := none }, accessFlags := 4, code := some k13c0 }
/-- java/util/AbstractCollection -/
def k13 : Class := { plain "java/util/AbstractCollection" (some 0) with
  accessFlags := 1057
  interfaces := #[12]
  cf := some (fileOf pool13 8 #[] #[{ accessFlags := 4, nameIndex := 5, descriptorIndex := 6, attributes := #[] }] 1057 2 #[77] #[])
  fields := #[]
  methods := #[k13m0]
  instanceTypes := #[]
  staticTypes := #[]
  resolved := Array.replicate 160 none
  statics := none }

def pool14 : Array CpInfo := pool [(8, .class_ 10), (1, u "java/util/SequencedCollection"), (15, .class_ 27), (0, u "java/lang/Object"), (0, .class_ 29), (0, u "java/util/Collection")] 27

/-- java/util/SequencedCollection -/
def k14 : Class := { plain "java/util/SequencedCollection" (some 0) with
  accessFlags := 1537
  interfaces := #[12]
  cf := some (fileOf pool14 8 #[] #[] 1537 26 #[28] #[])
  fields := #[]
  methods := #[]
  instanceTypes := #[]
  staticTypes := #[]
  resolved := Array.replicate 57 none
  statics := none }

def pool15 : Array CpInfo := pool [(8, .class_ 10), (1, u "java/util/List"), (49, u "add"), (3, u "(Ljava/lang/Object;)Z"), (10, u "get"), (0, u "(I)Ljava/lang/Object;"), (2, u "size"), (0, u "()I"), (22, .class_ 104), (0, u "java/lang/Object"), (15, .class_ 121), (0, u "java/util/SequencedCollection"), (1, u "iterator"), (0, u "()Ljava/util/Iterator;")] 126

def k15m0 : Method := { name := "size", desc := "()I", sig := { parameters := [], returnType := some .int }, accessFlags := 1025, code := none }
def k15m1 : Method := { name := "iterator", desc := "()Ljava/util/Iterator;", sig := { parameters := [], returnType := some (.object "java/util/Iterator") }, accessFlags := 1025, code := none }
def k15m2 : Method := { name := "add", desc := "(Ljava/lang/Object;)Z", sig := { parameters := [(.object "java/lang/Object")], returnType := some .boolean }, accessFlags := 1025, code := none }
def k15m3 : Method := { name := "get", desc := "(I)Ljava/lang/Object;", sig := { parameters := [.int], returnType := some (.object "java/lang/Object") }, accessFlags := 1025, code := none }
/-- java/util/List -/
def k15 : Class := { plain "java/util/List" (some 0) with
  accessFlags := 1537
  interfaces := #[14]
  cf := some (fileOf pool15 8 #[] #[{ accessFlags := 1025, nameIndex := 79, descriptorIndex := 80, attributes := #[] }, { accessFlags := 1025, nameIndex := 123, descriptorIndex := 124, attributes := #[] }, { accessFlags := 1025, nameIndex := 60, descriptorIndex := 64, attributes := #[] }, { accessFlags := 1025, nameIndex := 75, descriptorIndex := 76, attributes := #[] }] 1537 103 #[120] #[])
  fields := #[]
  methods := #[k15m0, k15m1, k15m2, k15m3]
  instanceTypes := #[]
  staticTypes := #[]
  resolved := Array.replicate 251 none
  statics := none }

def pool16 : Array CpInfo := pool [(1, .methodref 2 3), (0, .class_ 4), (0, .nameAndType 5 6), (0, u "java/util/AbstractCollection"), (0, u "<init>"), (0, u "()V"), (0, .fieldref 8 9), (0, .class_ 10), (0, .nameAndType 11 12), (0, u "java/util/AbstractList"), (0, u "modCount"), (0, u "I"), (64, .class_ 78), (0, u "java/util/AbstractList$Itr"), (3, .class_ 83), (0, u "java/util/AbstractList$ListItr"), (9, .class_ 94), (0, u "java/util/AbstractList$RandomAccessSubList"), (3, .class_ 99), (0, u "java/util/AbstractList$SubList"), (33, .class_ 134), (0, u "java/util/List"), (73, .class_ 209), (0, u "java/util/AbstractList$SubList$1"), (0, .class_ 211), (0, u "java/util/AbstractList$RandomAccessSpliterator")] 6

def k16c0 : Code := { maxStack := 2, maxLocals := 1, code := jdk_39_method_1_code, exceptionTable := #[], attributes := #[] }
def k16m0 : Method := { name := "<init>", desc := "()V", sig := { parameters := [], returnType := none }, accessFlags := 4, code := some k16c0 }
/-- java/util/AbstractList -/
def k16 : Class := { plain "java/util/AbstractList" (some 13) with
  accessFlags := 1057
  interfaces := #[15]
  cf := some (fileOf pool16 8 #[.nestMembers #[93, 98, 208, 210, 82, 77]] #[{ accessFlags := 4, nameIndex := 5, descriptorIndex := 6, attributes := #[] }] 1057 2 #[133] #[{ accessFlags := 132, nameIndex := 11, descriptorIndex := 12, attributes := #[] }])
  fields := #[{ name := "modCount", type := .int, accessFlags := 132, slot := 0, constantValue := 0 }]
  methods := #[k16m0]
  instanceTypes := #[.int]
  staticTypes := #[]
  resolved := Array.replicate 218 none
  statics := none }

def pool17 : Array CpInfo := pool [(1, .class_ 2), (0, u "java/util/RandomAccess"), (0, .class_ 4), (0, u "java/lang/Object")] 2

/-- java/util/RandomAccess -/
def k17 : Class := { plain "java/util/RandomAccess" (some 0) with
  accessFlags := 1537
  interfaces := #[]
  cf := some (fileOf pool17 1 #[] #[] 1537 3 #[] #[])
  fields := #[]
  methods := #[]
  instanceTypes := #[]
  staticTypes := #[]
  resolved := Array.replicate 7 none
  statics := none }

def pool18 : Array CpInfo := pool [(1, .class_ 2), (0, u "java/lang/Cloneable"), (0, .class_ 4), (0, u "java/lang/Object")] 2

/-- java/lang/Cloneable -/
def k18 : Class := { plain "java/lang/Cloneable" (some 0) with
  accessFlags := 1537
  interfaces := #[]
  cf := some (fileOf pool18 1 #[] #[] 1537 3 #[] #[])
  fields := #[]
  methods := #[]
  instanceTypes := #[]
  staticTypes := #[]
  resolved := Array.replicate 7 none
  statics := none }

def pool19 : Array CpInfo := pool [(1, .methodref 2 3), (0, .class_ 4), (0, .nameAndType 5 6), (0, u "java/util/AbstractList"), (0, u "<init>"), (0, u "()V"), (0, .class_ 8), (0, u "java/lang/Object"), (0, .fieldref 10 11), (0, .class_ 12), (0, .nameAndType 13 14), (0, u "java/util/ArrayList"), (0, u "elementData"), (0, u "[Ljava/lang/Object;"), (2, u "EMPTY_ELEMENTDATA"), (21, .fieldref 10 40), (0, .nameAndType 41 14), (0, u "DEFAULTCAPACITY_EMPTY_ELEMENTDATA"), (5, u "()[Ljava/lang/Object;"), (0, .fieldref 10 49), (0, .nameAndType 50 51), (0, u "size"), (0, u "I"), (11, .fieldref 10 64), (0, .nameAndType 65 51), (0, u "modCount"), (3, .methodref 10 70), (0, .nameAndType 71 72), (0, u "grow"), (0, u "(I)[Ljava/lang/Object;"), (6, .methodref 80 81), (0, .class_ 82), (0, .nameAndType 83 84), (0, u "java/lang/Math"), (0, u "max"), (0, u "(II)I"), (11, u "(Ljava/lang/Object;)Z"), (21, .methodref 119 120), (0, .class_ 121), (0, .nameAndType 122 84), (0, u "java/util/Objects"), (0, u "checkIndex"), (0, .methodref 10 124), (0, .nameAndType 13 125), (0, u "(I)Ljava/lang/Object;"), (3, .methodref 10 130), (0, .nameAndType 71 47), (0, .methodref 10 132), (0, .nameAndType 133 134), (0, u "add"), (0, u "(Ljava/lang/Object;[Ljava/lang/Object;I)V"), (13, .class_ 149), (0, u "java/util/List"), (16, u "iterator"), (0, u "()Ljava/util/Iterator;"), (18, u "()I"), (75, .class_ 263), (0, u "java/util/ArrayList$ListItr"), (3, .class_ 268), (0, u "java/util/ArrayList$Itr"), (0, .methodref 267 270), (0, .nameAndType 5 271), (0, u "(Ljava/util/ArrayList;)V"), (4, .class_ 277), (0, u "java/util/ArrayList$SubList"), (12, .class_ 291), (0, u "java/util/ArrayList$ArrayListSpliterator"), (37, .class_ 330), (0, u "java/util/RandomAccess"), (0, .class_ 332), (0, u "java/lang/Cloneable"), (0, .class_ 334), (0, u "java/io/Serializable"), (0, u "serialVersionUID"), (0, u "J"), (3, u "DEFAULT_CAPACITY"), (40, u "get"), (118, .class_ 501), (0, u "java/util/ArrayList$SubList$2"), (0, .class_ 503), (0, u "java/util/ArrayList$SubList$1")] 5

def k19c0 : Code := { maxStack := 2, maxLocals := 1, code := jdk_38_method_2_code, exceptionTable := #[], attributes := #[] }
def k19m0 : Method := { name := "<init>", desc := "()V", sig := { parameters := [], returnType := none }, accessFlags := 1, code := some k19c0 }
def k19c1 : Code := { maxStack := 4, maxLocals := 4, code := jdk_38_method_6_code, exceptionTable := #[], attributes := #[] }
def k19m1 : Method := { name := "grow", desc := "(I)[Ljava/lang/Object;", sig := { parameters := [.int], returnType := some (.array (.object "java/lang/Object")) }, accessFlags := 2, code := some k19c1 }
def k19c2 : Code := { maxStack := 3, maxLocals := 1, code := jdk_38_method_7_code, exceptionTable := #[], attributes := #[] }
def k19m2 : Method := { name := "grow", desc := "()[Ljava/lang/Object;", sig := { parameters := [], returnType := some (.array (.object "java/lang/Object")) }, accessFlags := 2, code := some k19c2 }
def k19c3 : Code := { maxStack := 1, maxLocals := 1, code := jdk_38_method_8_code, exceptionTable := #[], attributes := #[] }
def k19m3 : Method := { name := "size", desc := "()I", sig := { parameters := [], returnType := some .int }, accessFlags := 1, code := some k19c3 }
def k19c4 : Code := { maxStack := 2, maxLocals := 2, code := jdk_38_method_18_code, exceptionTable := #[], attributes := #[] }
def k19m4 : Method := { name := "elementData", desc := "(I)Ljava/lang/Object;", sig := { parameters := [.int], returnType := some (.object "java/lang/Object") }, accessFlags := 0, code := some k19c4 }
def k19c5 : Code := { maxStack := 2, maxLocals := 2, code := jdk_38_method_20_code, exceptionTable := #[], attributes := #[] }
def k19m5 : Method := { name := "get", desc := "(I)Ljava/lang/Object;", sig := { parameters := [.int], returnType := some (.object "java/lang/Object") }, accessFlags := 1, code := some k19c5 }
def k19c6 : Code := { maxStack := 3, maxLocals := 4, code := jdk_38_method_24_code, exceptionTable := #[], attributes := #[] }
def k19m6 : Method := { name := "add", desc := "(Ljava/lang/Object;[Ljava/lang/Object;I)V", sig := { parameters := [(.object "java/lang/Object"), (.array (.object "java/lang/Object")), .int], returnType := none }, accessFlags := 2, code := some k19c6 }
def k19c7 : Code := { maxStack := 4, maxLocals := 2, code := jdk_38_method_25_code, exceptionTable := #[], attributes := #[] }
def k19m7 : Method := { name := "add", desc := "(Ljava/lang/Object;)Z", sig := { parameters := [(.object "java/lang/Object")], returnType := some .boolean }, accessFlags := 1, code := some k19c7 }
def k19c8 : Code := { maxStack := 3, maxLocals := 1, code := jdk_38_method_55_code, exceptionTable := #[], attributes := #[] }
def k19m8 : Method := { name := "iterator", desc := "()Ljava/util/Iterator;", sig := { parameters := [], returnType := some (.object "java/util/Iterator") }, accessFlags := 1, code := some k19c8 }
/-- java/util/ArrayList -/
def k19 : Class := { plain "java/util/ArrayList" (some 16) with
  accessFlags := 33
  interfaces := #[15, 17, 18, 4]
  cf := some (fileOf pool19 10 #[.nestMembers #[290, 276, 500, 502, 262, 267]] #[{ accessFlags := 1, nameIndex := 5, descriptorIndex := 6, attributes := #[] }, { accessFlags := 2, nameIndex := 71, descriptorIndex := 72, attributes := #[] }, { accessFlags := 2, nameIndex := 71, descriptorIndex := 47, attributes := #[] }, { accessFlags := 1, nameIndex := 50, descriptorIndex := 186, attributes := #[] }, { accessFlags := 0, nameIndex := 13, descriptorIndex := 125, attributes := #[] }, { accessFlags := 1, nameIndex := 381, descriptorIndex := 125, attributes := #[] }, { accessFlags := 2, nameIndex := 133, descriptorIndex := 134, attributes := #[] }, { accessFlags := 1, nameIndex := 133, descriptorIndex := 96, attributes := #[] }, { accessFlags := 1, nameIndex := 166, descriptorIndex := 167, attributes := #[] }] 33 2 #[148, 329, 331, 333] #[{ accessFlags := 26, nameIndex := 335, descriptorIndex := 336, attributes := #[] }, { accessFlags := 26, nameIndex := 340, descriptorIndex := 51, attributes := #[] }, { accessFlags := 26, nameIndex := 17, descriptorIndex := 14, attributes := #[] }, { accessFlags := 26, nameIndex := 41, descriptorIndex := 14, attributes := #[] }, { accessFlags := 128, nameIndex := 13, descriptorIndex := 14, attributes := #[] }, { accessFlags := 2, nameIndex := 50, descriptorIndex := 51, attributes := #[] }])
  fields := #[{ name := "serialVersionUID", type := .long, accessFlags := 26, slot := 0, constantValue := 0 }, { name := "DEFAULT_CAPACITY", type := .int, accessFlags := 26, slot := 1, constantValue := 0 }, { name := "EMPTY_ELEMENTDATA", type := (.array (.object "java/lang/Object")), accessFlags := 26, slot := 2, constantValue := 0 }, { name := "DEFAULTCAPACITY_EMPTY_ELEMENTDATA", type := (.array (.object "java/lang/Object")), accessFlags := 26, slot := 3, constantValue := 0 }, { name := "elementData", type := (.array (.object "java/lang/Object")), accessFlags := 128, slot := 1, constantValue := 0 }, { name := "size", type := .int, accessFlags := 2, slot := 2, constantValue := 0 }]
  methods := #[k19m0, k19m1, k19m2, k19m3, k19m4, k19m5, k19m6, k19m7, k19m8]
  instanceTypes := #[.int, (.array (.object "java/lang/Object")), .int]
  staticTypes := #[.long, .int, (.array (.object "java/lang/Object")), (.array (.object "java/lang/Object"))]
  resolved := Array.replicate 509 none
  statics := some 1 }

def pool20 : Array CpInfo := pool [(1, .class_ 2), (0, u "java/lang/Math"), (1, .class_ 6), (1, u "java/lang/Object"), (0, u "<init>"), (0, u "()V"), (89, .class_ 100), (1, u "java/lang/Math$RandomNumberGeneratorHolder"), (71, u "negativeZeroFloatBits"), (0, u "J"), (2, u "negativeZeroDoubleBits"), (21, u "max"), (46, u "$assertionsDisabled"), (0, u "Z"), (88, u "(II)I"), (2, u "twoToTheDoubleScaleDown"), (0, u "D"), (4, u "twoToTheDoubleScaleUp"), (9, u "E"), (3, u "PI"), (2, u "TAU"), (2, u "DEGREES_TO_RADIANS"), (0, u "RADIANS_TO_DEGREES")] 94

def k20m0 : Method := { name := "<init>", desc := "()V", sig := { parameters := [], returnType := none }, accessFlags := 2, code := none }
def k20c1 : Code := { maxStack := 2, maxLocals := 2, code := jdk_29_method_65_code, exceptionTable := #[], attributes := #[] }
def k20m1 : Method := { name := "max", desc := "(II)I", sig := { parameters := [.int, .int], returnType := some .int }, accessFlags := 9, code := some k20c1 }
/-- java/lang/Math -/
def k20 : Class := { plain "java/lang/Math" (some 0) with
  accessFlags := 49
  interfaces := #[]
  cf := some (fileOf pool20 1 #[.nestMembers #[98]] #[{ accessFlags := 2, nameIndex := 7, descriptorIndex := 8, attributes := #[] }, { accessFlags := 9, nameIndex := 198, descriptorIndex := 335, attributes := #[] }] 49 4 #[] #[{ accessFlags := 25, nameIndex := 354, descriptorIndex := 339, attributes := #[] }, { accessFlags := 25, nameIndex := 358, descriptorIndex := 339, attributes := #[] }, { accessFlags := 25, nameIndex := 361, descriptorIndex := 339, attributes := #[] }, { accessFlags := 26, nameIndex := 364, descriptorIndex := 339, attributes := #[] }, { accessFlags := 26, nameIndex := 365, descriptorIndex := 339, attributes := #[] }, { accessFlags := 26, nameIndex := 172, descriptorIndex := 173, attributes := #[] }, { accessFlags := 26, nameIndex := 176, descriptorIndex := 173, attributes := #[] }, { accessFlags := 8, nameIndex := 344, descriptorIndex := 339, attributes := #[] }, { accessFlags := 8, nameIndex := 338, descriptorIndex := 339, attributes := #[] }, { accessFlags := 4120, nameIndex := 245, descriptorIndex := 246, attributes := #[] }])
  fields := #[{ name := "E", type := .double, accessFlags := 25, slot := 0, constantValue := 0 }, { name := "PI", type := .double, accessFlags := 25, slot := 1, constantValue := 0 }, { name := "TAU", type := .double, accessFlags := 25, slot := 2, constantValue := 0 }, { name := "DEGREES_TO_RADIANS", type := .double, accessFlags := 26, slot := 3, constantValue := 0 }, { name := "RADIANS_TO_DEGREES", type := .double, accessFlags := 26, slot := 4, constantValue := 0 }, { name := "negativeZeroFloatBits", type := .long, accessFlags := 26, slot := 5, constantValue := 0 }, { name := "negativeZeroDoubleBits", type := .long, accessFlags := 26, slot := 6, constantValue := 0 }, { name := "twoToTheDoubleScaleUp", type := .double, accessFlags := 8, slot := 7, constantValue := 0 }, { name := "twoToTheDoubleScaleDown", type := .double, accessFlags := 8, slot := 8, constantValue := 0 }, { name := "$assertionsDisabled", type := .boolean, accessFlags := 4120, slot := 9, constantValue := 0 }]
  methods := #[k20m0, k20m1]
  instanceTypes := #[]
  staticTypes := #[.double, .double, .double, .double, .double, .long, .long, .double, .double, .boolean]
  resolved := Array.replicate 460 none
  statics := none }

def pool21 : Array CpInfo := pool [(16, .class_ 18), (1, u "java/util/Iterator"), (0, u "hasNext"), (0, u "()Z"), (2, u "next"), (0, u "()Ljava/lang/Object;"), (6, .class_ 32), (0, u "java/lang/Object")] 20

def k21m0 : Method := { name := "hasNext", desc := "()Z", sig := { parameters := [], returnType := some .boolean }, accessFlags := 1025, code := none }
def k21m1 : Method := { name := "next", desc := "()Ljava/lang/Object;", sig := { parameters := [], returnType := some (.object "java/lang/Object") }, accessFlags := 1025, code := none }
/-- java/util/Iterator -/
def k21 : Class := { plain "java/util/Iterator" (some 0) with
  accessFlags := 1537
  interfaces := #[]
  cf := some (fileOf pool21 16 #[] #[{ accessFlags := 1025, nameIndex := 19, descriptorIndex := 20, attributes := #[] }, { accessFlags := 1025, nameIndex := 23, descriptorIndex := 24, attributes := #[] }] 1537 31 #[] #[])
  fields := #[]
  methods := #[k21m0, k21m1]
  instanceTypes := #[]
  staticTypes := #[]
  resolved := Array.replicate 53 none
  statics := none }

def pool22 : Array CpInfo := pool [(1, .fieldref 2 3), (0, .class_ 4), (0, .nameAndType 5 6), (0, u "java/util/ArrayList$Itr"), (0, u "this$0"), (0, u "Ljava/util/ArrayList;"), (0, .methodref 8 9), (0, .class_ 10), (0, .nameAndType 11 12), (0, u "java/lang/Object"), (0, u "<init>"), (0, u "()V"), (0, .fieldref 2 14), (0, .nameAndType 15 16), (0, u "lastRet"), (0, u "I"), (0, .fieldref 18 19), (0, .class_ 20), (0, .nameAndType 21 16), (0, u "java/util/ArrayList"), (0, u "modCount"), (0, .fieldref 2 23), (0, .nameAndType 24 16), (0, u "expectedModCount"), (0, .fieldref 2 26), (0, .nameAndType 27 16), (0, u "cursor"), (0, .fieldref 18 29), (0, .nameAndType 30 16), (0, u "size"), (0, .methodref 2 32), (0, .nameAndType 33 12), (0, u "checkForComodification"), (3, .fieldref 18 38), (0, .nameAndType 39 40), (0, u "elementData"), (0, u "[Ljava/lang/Object;"), (28, .class_ 70), (0, u "java/util/Iterator"), (0, u "(Ljava/util/ArrayList;)V"), (8, u "hasNext"), (0, u "()Z"), (1, u "next"), (0, u "()Ljava/lang/Object;")] 19

def k22c0 : Code := { maxStack := 2, maxLocals := 2, code := jdk_49_method_1_code, exceptionTable := #[], attributes := #[] }
def k22m0 : Method := { name := "<init>", desc := "(Ljava/util/ArrayList;)V", sig := { parameters := [(.object "java/util/ArrayList")], returnType := none }, accessFlags := 0, code := some k22c0 }
def k22c1 : Code := { maxStack := 2, maxLocals := 1, code := jdk_49_method_2_code, exceptionTable := #[], attributes := #[] }
def k22m1 : Method := { name := "hasNext", desc := "()Z", sig := { parameters := [], returnType := some .boolean }, accessFlags := 1, code := some k22c1 }
def k22c2 : Code := { maxStack := 4, maxLocals := 3, code := jdk_49_method_3_code, exceptionTable := #[], attributes := #[] }
def k22m2 : Method := { name := "next", desc := "()Ljava/lang/Object;", sig := { parameters := [], returnType := some (.object "java/lang/Object") }, accessFlags := 1, code := some k22c2 }
def k22c3 : Code := { maxStack := 2, maxLocals := 1, code := jdk_49_method_6_code, exceptionTable := #[], attributes := #[] }
def k22m3 : Method := { name := "checkForComodification", desc := "()V", sig := { parameters := [], returnType := none }, accessFlags := 16, code := some k22c3 }
/-- java/util/ArrayList$Itr -/
def k22 : Class := { plain "java/util/ArrayList$Itr" (some 0) with
  accessFlags := 32
  interfaces := #[21]
  cf := some (fileOf pool22 2 #[.nestHost 18] #[{ accessFlags := 0, nameIndex := 11, descriptorIndex := 71, attributes := #[] }, { accessFlags := 1, nameIndex := 80, descriptorIndex := 81, attributes := #[] }, { accessFlags := 1, nameIndex := 83, descriptorIndex := 84, attributes := #[] }, { accessFlags := 16, nameIndex := 33, descriptorIndex := 12, attributes := #[] }] 32 8 #[69] #[{ accessFlags := 0, nameIndex := 27, descriptorIndex := 16, attributes := #[] }, { accessFlags := 0, nameIndex := 15, descriptorIndex := 16, attributes := #[] }, { accessFlags := 0, nameIndex := 24, descriptorIndex := 16, attributes := #[] }, { accessFlags := 4112, nameIndex := 5, descriptorIndex := 6, attributes := #[] }])
  fields := #[{ name := "cursor", type := .int, accessFlags := 0, slot := 0, constantValue := 0 }, { name := "lastRet", type := .int, accessFlags := 0, slot := 1, constantValue := 0 }, { name := "expectedModCount", type := .int, accessFlags := 0, slot := 2, constantValue := 0 }, { name := "this$0", type := (.object "java/util/ArrayList"), accessFlags := 4112, slot := 3, constantValue := 0 }]
  methods := #[k22m0, k22m1, k22m2, k22m3]
  instanceTypes := #[.int, .int, .int, (.object "java/util/ArrayList")]
  staticTypes := #[]
  resolved := Array.replicate 104 none
  statics := none }

def pool23 : Array CpInfo := pool [(2, .class_ 4), (1, u "java/lang/Object"), (0, u "<init>"), (0, u "()V"), (35, .class_ 44), (1, u "java/util/Objects"), (60, .methodref 106 107), (0, .class_ 108), (0, .nameAndType 109 110), (0, u "jdk/internal/util/Preconditions"), (0, u "checkIndex"), (0, u "(IILjava/util/function/BiFunction;)I"), (60, u "(II)I")] 12

def k23m0 : Method := { name := "<init>", desc := "()V", sig := { parameters := [], returnType := none }, accessFlags := 2, code := none }
def k23c1 : Code := { maxStack := 3, maxLocals := 2, code := jdk_31_method_17_code, exceptionTable := #[], attributes := #[] }
def k23m1 : Method := { name := "checkIndex", desc := "(II)I", sig := { parameters := [.int, .int], returnType := some .int }, accessFlags := 9, code := some k23c1 }
/-- java/util/Objects -/
def k23 : Class := { plain "java/util/Objects" (some 0) with
  accessFlags := 49
  interfaces := #[]
  cf := some (fileOf pool23 42 #[] #[{ accessFlags := 2, nameIndex := 5, descriptorIndex := 6, attributes := #[] }, { accessFlags := 9, nameIndex := 109, descriptorIndex := 171, attributes := #[] }] 49 2 #[] #[])
  fields := #[]
  methods := #[k23m0, k23m1]
  instanceTypes := #[]
  staticTypes := #[]
  resolved := Array.replicate 184 none
  statics := none }

def pool24 : Array CpInfo := pool [(2, .class_ 4), (1, u "java/lang/Object"), (0, u "<init>"), (0, u "()V"), (17, .class_ 26), (1, u "jdk/internal/util/Preconditions"), (6, u "checkIndex"), (21, .class_ 56), (0, u "jdk/internal/util/Preconditions$4"), (57, .class_ 115), (0, u "jdk/internal/util/Preconditions$1"), (7, u "SIOOBE_FORMATTER"), (0, u "Ljava/util/function/BiFunction;"), (0, .class_ 126), (0, u "jdk/internal/util/Preconditions$2"), (3, u "AIOOBE_FORMATTER"), (0, .class_ 132), (0, u "jdk/internal/util/Preconditions$3"), (3, u "IOOBE_FORMATTER"), (41, u "(IILjava/util/function/BiFunction;)I")] 15

def k24m0 : Method := { name := "<init>", desc := "()V", sig := { parameters := [], returnType := none }, accessFlags := 1, code := none }
def k24c1 : Code := { maxStack := 3, maxLocals := 3, code := jdk_41_method_11_code, exceptionTable := #[], attributes := #[] }
def k24m1 : Method := { name := "checkIndex", desc := "(IILjava/util/function/BiFunction;)I", sig := { parameters := [.int, .int, (.object "java/util/function/BiFunction")], returnType := some .int }, accessFlags := 9, code := some k24c1 }
/-- jdk/internal/util/Preconditions -/
def k24 : Class := { plain "jdk/internal/util/Preconditions" (some 0) with
  accessFlags := 33
  interfaces := #[]
  cf := some (fileOf pool24 24 #[.nestMembers #[55, 131, 125, 114]] #[{ accessFlags := 1, nameIndex := 5, descriptorIndex := 6, attributes := #[] }, { accessFlags := 9, nameIndex := 33, descriptorIndex := 178, attributes := #[] }] 33 2 #[] #[{ accessFlags := 25, nameIndex := 123, descriptorIndex := 124, attributes := #[] }, { accessFlags := 25, nameIndex := 130, descriptorIndex := 124, attributes := #[] }, { accessFlags := 25, nameIndex := 136, descriptorIndex := 124, attributes := #[] }])
  fields := #[{ name := "SIOOBE_FORMATTER", type := (.object "java/util/function/BiFunction"), accessFlags := 25, slot := 0, constantValue := 0 }, { name := "AIOOBE_FORMATTER", type := (.object "java/util/function/BiFunction"), accessFlags := 25, slot := 1, constantValue := 0 }, { name := "IOOBE_FORMATTER", type := (.object "java/util/function/BiFunction"), accessFlags := 25, slot := 2, constantValue := 0 }]
  methods := #[k24m0, k24m1]
  instanceTypes := #[]
  staticTypes := #[(.object "java/util/function/BiFunction"), (.object "java/util/function/BiFunction"), (.object "java/util/function/BiFunction")]
  resolved := Array.replicate 194 none
  statics := some 2 }

def pool25 : Array CpInfo := pool [(9, u "<init>"), (6, .class_ 18), (1, u "java/lang/Object"), (0, u "()V"), (1, .class_ 23), (1, u "jdk/internal/util/ArraysSupport"), (0, u "LOG2_ARRAY_LONG_INDEX_SCALE"), (0, u "I"), (2, u "U"), (0, u "Ljdk/internal/misc/Unsafe;"), (8, u "BIG_ENDIAN"), (0, u "Z"), (8, u "LOG2_BYTE_BIT_SIZE"), (4, u "LOG2_ARRAY_INT_INDEX_SCALE"), (54, u "JLA"), (0, u "Ljdk/internal/access/JavaLangAccess;"), (11, u "LOG2_ARRAY_BOOLEAN_INDEX_SCALE"), (9, u "LOG2_ARRAY_BYTE_INDEX_SCALE"), (5, u "LOG2_ARRAY_CHAR_INDEX_SCALE"), (5, u "LOG2_ARRAY_SHORT_INDEX_SCALE"), (18, u "LOG2_ARRAY_FLOAT_INDEX_SCALE"), (24, u "LOG2_ARRAY_DOUBLE_INDEX_SCALE"), (89, u "T_BOOLEAN"), (2, u "T_CHAR"), (1, u "T_FLOAT"), (1, u "T_DOUBLE"), (1, u "T_BYTE"), (1, u "T_SHORT"), (1, u "T_INT"), (1, u "T_LONG"), (1, u "SOFT_MAX_ARRAY_LENGTH")] 83

def k25m0 : Method := { name := "<init>", desc := "()V", sig := { parameters := [], returnType := none }, accessFlags := 2, code := none }
/-- jdk/internal/util/ArraysSupport -/
def k25 : Class := { plain "jdk/internal/util/ArraysSupport" (some 0) with
  accessFlags := 33
  interfaces := #[]
  cf := some (fileOf pool25 21 #[] #[{ accessFlags := 2, nameIndex := 9, descriptorIndex := 19, attributes := #[] }] 33 16 #[] #[{ accessFlags := 24, nameIndex := 28, descriptorIndex := 29, attributes := #[] }, { accessFlags := 26, nameIndex := 38, descriptorIndex := 39, attributes := #[] }, { accessFlags := 25, nameIndex := 121, descriptorIndex := 25, attributes := #[] }, { accessFlags := 25, nameIndex := 131, descriptorIndex := 25, attributes := #[] }, { accessFlags := 25, nameIndex := 137, descriptorIndex := 25, attributes := #[] }, { accessFlags := 25, nameIndex := 143, descriptorIndex := 25, attributes := #[] }, { accessFlags := 25, nameIndex := 53, descriptorIndex := 25, attributes := #[] }, { accessFlags := 25, nameIndex := 24, descriptorIndex := 25, attributes := #[] }, { accessFlags := 25, nameIndex := 162, descriptorIndex := 25, attributes := #[] }, { accessFlags := 25, nameIndex := 187, descriptorIndex := 25, attributes := #[] }, { accessFlags := 26, nameIndex := 48, descriptorIndex := 25, attributes := #[] }, { accessFlags := 25, nameIndex := 277, descriptorIndex := 25, attributes := #[] }, { accessFlags := 25, nameIndex := 280, descriptorIndex := 25, attributes := #[] }, { accessFlags := 25, nameIndex := 282, descriptorIndex := 25, attributes := #[] }, { accessFlags := 25, nameIndex := 284, descriptorIndex := 25, attributes := #[] }, { accessFlags := 25, nameIndex := 286, descriptorIndex := 25, attributes := #[] }, { accessFlags := 25, nameIndex := 288, descriptorIndex := 25, attributes := #[] }, { accessFlags := 25, nameIndex := 290, descriptorIndex := 25, attributes := #[] }, { accessFlags := 25, nameIndex := 292, descriptorIndex := 25, attributes := #[] }, { accessFlags := 26, nameIndex := 108, descriptorIndex := 109, attributes := #[] }, { accessFlags := 25, nameIndex := 294, descriptorIndex := 25, attributes := #[] }])
  fields := #[{ name := "U", type := (.object "jdk/internal/misc/Unsafe"), accessFlags := 24, slot := 0, constantValue := 0 }, { name := "BIG_ENDIAN", type := .boolean, accessFlags := 26, slot := 1, constantValue := 0 }, { name := "LOG2_ARRAY_BOOLEAN_INDEX_SCALE", type := .int, accessFlags := 25, slot := 2, constantValue := 0 }, { name := "LOG2_ARRAY_BYTE_INDEX_SCALE", type := .int, accessFlags := 25, slot := 3, constantValue := 0 }, { name := "LOG2_ARRAY_CHAR_INDEX_SCALE", type := .int, accessFlags := 25, slot := 4, constantValue := 0 }, { name := "LOG2_ARRAY_SHORT_INDEX_SCALE", type := .int, accessFlags := 25, slot := 5, constantValue := 0 }, { name := "LOG2_ARRAY_INT_INDEX_SCALE", type := .int, accessFlags := 25, slot := 6, constantValue := 0 }, { name := "LOG2_ARRAY_LONG_INDEX_SCALE", type := .int, accessFlags := 25, slot := 7, constantValue := 0 }, { name := "LOG2_ARRAY_FLOAT_INDEX_SCALE", type := .int, accessFlags := 25, slot := 8, constantValue := 0 }, { name := "LOG2_ARRAY_DOUBLE_INDEX_SCALE", type := .int, accessFlags := 25, slot := 9, constantValue := 0 }, { name := "LOG2_BYTE_BIT_SIZE", type := .int, accessFlags := 26, slot := 10, constantValue := 0 }, { name := "T_BOOLEAN", type := .int, accessFlags := 25, slot := 11, constantValue := 0 }, { name := "T_CHAR", type := .int, accessFlags := 25, slot := 12, constantValue := 0 }, { name := "T_FLOAT", type := .int, accessFlags := 25, slot := 13, constantValue := 0 }, { name := "T_DOUBLE", type := .int, accessFlags := 25, slot := 14, constantValue := 0 }, { name := "T_BYTE", type := .int, accessFlags := 25, slot := 15, constantValue := 0 }, { name := "T_SHORT", type := .int, accessFlags := 25, slot := 16, constantValue := 0 }, { name := "T_INT", type := .int, accessFlags := 25, slot := 17, constantValue := 0 }, { name := "T_LONG", type := .int, accessFlags := 25, slot := 18, constantValue := 0 }, { name := "JLA", type := (.object "jdk/internal/access/JavaLangAccess"), accessFlags := 26, slot := 19, constantValue := 0 }, { name := "SOFT_MAX_ARRAY_LENGTH", type := .int, accessFlags := 25, slot := 20, constantValue := 0 }]
  methods := #[k25m0]
  instanceTypes := #[]
  staticTypes := #[(.object "jdk/internal/misc/Unsafe"), .boolean, .int, .int, .int, .int, .int, .int, .int, .int, .int, .int, .int, .int, .int, .int, .int, .int, .int, (.object "jdk/internal/access/JavaLangAccess"), .int]
  resolved := Array.replicate 378 none
  statics := none }

/-- the primitive byte -/
def k26 : Class := { plain "byte" none with kind := .primitive 'B', accessFlags := 0x411 }
/-- [B -/
def k27 : Class := { plain "[B" (some 0) with kind := .array 26 .byte, interfaces := #[18, 4], accessFlags := 1041 }

/-- the primitive int -/
def k28 : Class := { plain "int" none with kind := .primitive 'I', accessFlags := 0x411 }
/-- [I -/
def k29 : Class := { plain "[I" (some 0) with kind := .array 28 .int, interfaces := #[18, 4], accessFlags := 1041 }

/-- [Ljava/lang/Object; -/
def k30 : Class := { plain "[Ljava/lang/Object;" (some 0) with kind := .array 0 (.object "java/lang/Object"), interfaces := #[18, 4], accessFlags := 1041 }

def heap : Heap := #[{ cls := 9, slots := #[.long 0, .int 1, .null, .int 0, .null, .int 0, .int 0], vm := .statics 9 },
  { cls := 19, slots := #[.long 0, .int 0, .ref 3, .ref 4], vm := .statics 19 },
  { cls := 24, slots := #[.null, .null, .null], vm := .statics 24 },
  { cls := 30, slots := #[], vm := .none },
  { cls := 30, slots := #[], vm := .none }]
def classes : Array Class := #[k0, k1, k2, k3, k4, k5, k6, k7, k8, k9, k10, k11, k12, k13, k14, k15, k16, k17, k18, k19, k20, k21, k22, k23, k24, k25, k26, k27, k28, k29, k30]
def interned : List (Array UInt16 × Addr) := []
def slotsUsed : Nat := 14
def theMethod : MethodId := ⟨1, 5⟩
def args0 : Array Value := #[.int 5, .int 6, .int 7]
def aboutOver (below : List Frame) : State where
  vm := { classes := classes, interned := interned.toArray }
  heap := heap
  slotsUsed := slotsUsed
  threads := #[{ frames := .invoking theMethod args0 :: below }]
def below0 : List Frame := [.native { method := ⟨0, 0⟩, args := #[] }]
def about1 : State := aboutOver below0
def p0 : Program := .bare "" "" ""
def e0 : Env := launch0.env 0 0 0
theorem w_frames : about1.frames = Frame.invoking theMethod args0 :: below0 := rfl
set_option maxRecDepth 65536 in
theorem w_args : argsFit about1.vm theMethod args0 = true := by decide +kernel
set_option maxRecDepth 65536 in
theorem w_heap : heapFits about1 = true := by decide +kernel
set_option maxRecDepth 65536 in
theorem w_runnable : about1.curStatus? = some .runnable := by decide +kernel
set_option maxRecDepth 65536 in
theorem w_alone : about1.alone = true := by decide +kernel
set_option maxRecDepth 65536 in
theorem w_named : about1.methodNamed? x = some theMethod := by decide +kernel
set_option maxRecDepth 65536 in
theorem w_hears : about1.hears theMethod below0 = true := by decide +kernel
set_option maxRecDepth 65536 in
theorem w_ripe : about1.ripe theMethod args0 below0 = true := by decide +kernel
theorem w_running : about1.status = .running := rfl
set_option maxRecDepth 65536 in
theorem w_room : about1.hasRoom e0.platform room_1 = true :=
  launch0.hasRoom_least _ room_1 (by decide +kernel) (by decide +kernel) (by decide +kernel) (by decide +kernel) (by decide +kernel) (by decide +kernel)
theorem allAtoms_all (ts : List Jvm.Cond) (a : Array Jvm.Value) (st : Jvm.State) : (allAtoms ts).before a st = ts.all (fun c => c.before a st) := by
  induction ts with
  | nil => rfl
  | cons c t ih =>
    show (Jvm.Cond.and c (allAtoms t)).before a st = _
    rw [Jvm.Cond.before_and, ih, List.all_cons]
def words1 : List Jvm.Cond := Jvm.Cond.code x code maxLocals ret :: tables_1
/-- a 'code' word, met by the world's own term for the bytes: nothing is compared byte by byte -/
theorem code_word {y : MethodName} {bytes : ByteArray} {mx : Nat} {rt : Option FieldType} {a : Array Value} {s : State} {m : MethodId} {meth : Method} {c : Code} (h1 : s.methodNamed? y = some m) (h2 : s.vm.method? m = some meth) (h3 : meth.code = some c) (h4 : c.code = bytes)
    (h5 : (c.maxLocals == mx && c.exceptionTable.isEmpty && decide (c.maxStack ≤ mostOperands) && decide (meth.sig.returnType = rt) && !meth.locks && decide (parseMethodDescriptor y.desc = some meth.sig)) = true) : (Jvm.Cond.code y bytes mx rt).before a s = true := by
  simp only [Bool.and_eq_true, beq_iff_eq, Bool.not_eq_true', decide_eq_true_eq] at h5
  obtain ⟨⟨⟨⟨⟨g1, g2⟩, g3⟩, g4⟩, g5⟩, g6⟩ := h5
  simp [Cond.before, Cond.holds, Cond.value, h1, h2, h3, h4, g1, g2, g3, g4, g5, g6]
def isCode : Jvm.Cond → Bool
  | .code _ _ _ _ => true
  | _ => false
theorem all_split {L : List Jvm.Cond} {P : Jvm.Cond → Bool} (h1 : L.all (fun c => isCode c || P c) = true) (h2 : ∀ c ∈ L.filter isCode, P c = true) : L.all P = true := by
  refine List.all_eq_true.mpr fun c hc => ?_
  have h := List.all_eq_true.mp h1 c hc
  rcases Bool.eq_false_or_eq_true (isCode c) with hi | hi
  · exact h2 c (List.mem_filter.mpr ⟨hc, hi⟩)
  · simpa [hi] using h
set_option maxRecDepth 65536 in
theorem w_c0 : (Jvm.Cond.code x code maxLocals ret).before args0 about1 = true := code_word (m := ⟨1, 5⟩) (meth := k1m5) (c := k1c5) (by decide +kernel) rfl rfl rfl (by decide +kernel)
set_option maxRecDepth 65536 in
theorem w_c1 : (Jvm.Cond.code ({ cls := "java/lang/String", name := "valueOf", desc := "(C)Ljava/lang/String;" } : Jvm.MethodName) jdk_42_method_139_code (1 : Nat) (Option.some (Jvm.ClassFile.FieldType.object "java/lang/String"))).before args0 about1 = true := code_word (m := ⟨9, 2⟩) (meth := k9m2) (c := k9c2) (by decide +kernel) rfl rfl rfl (by decide +kernel)
set_option maxRecDepth 65536 in
theorem w_c2 : (Jvm.Cond.code ({ cls := "java/lang/StringLatin1", name := "canEncode", desc := "(C)Z" } : Jvm.MethodName) jdk_43_method_3_code (1 : Nat) (Option.some Jvm.ClassFile.FieldType.boolean)).before args0 about1 = true := code_word (m := ⟨10, 1⟩) (meth := k10m1) (c := k10c1) (by decide +kernel) rfl rfl rfl (by decide +kernel)
set_option maxRecDepth 65536 in
theorem w_c3 : (Jvm.Cond.code ({ cls := "java/lang/StringLatin1", name := "toBytes", desc := "(C)[B" } : Jvm.MethodName) jdk_43_method_46_code (1 : Nat) (Option.some (Jvm.ClassFile.FieldType.array Jvm.ClassFile.FieldType.byte))).before args0 about1 = true := code_word (m := ⟨10, 3⟩) (meth := k10m3) (c := k10c3) (by decide +kernel) rfl rfl rfl (by decide +kernel)
set_option maxRecDepth 65536 in
theorem w_c4 : (Jvm.Cond.code ({ cls := "java/lang/String", name := "<init>", desc := "([BB)V" } : Jvm.MethodName) jdk_42_method_151_code (3 : Nat) (Option.none : Option Jvm.ClassFile.FieldType)).before args0 about1 = true := code_word (m := ⟨9, 3⟩) (meth := k9m3) (c := k9c3) (by decide +kernel) rfl rfl rfl (by decide +kernel)
set_option maxRecDepth 65536 in
theorem w_c5 : (Jvm.Cond.code ({ cls := "java/lang/Object", name := "<init>", desc := "()V" } : Jvm.MethodName) object_method_1_code (1 : Nat) (Option.none : Option Jvm.ClassFile.FieldType)).before args0 about1 = true := code_word (m := ⟨0, 0⟩) (meth := k0m0) (c := k0c0) (by decide +kernel) rfl rfl rfl (by decide +kernel)
set_option maxRecDepth 65536 in
theorem w_c6 : (Jvm.Cond.code ({ cls := "com/example/wary_meter/warymeter/Column", name := "<init>", desc := "(Ljava/lang/String;Ljava/util/function/Function;)V" } : Jvm.MethodName) prog_3_method_1_code (3 : Nat) (Option.none : Option Jvm.ClassFile.FieldType)).before args0 about1 = true := code_word (m := ⟨3, 0⟩) (meth := k3m0) (c := k3c0) (by decide +kernel) rfl rfl rfl (by decide +kernel)
set_option maxRecDepth 65536 in
theorem w_c7 : (Jvm.Cond.code ({ cls := "com/example/wary_meter/warymeter/Column", name := "<init>", desc := "(Ljava/lang/String;Ljava/util/function/Function;Ljava/util/function/Function;Ljava/util/function/Function;)V" } : Jvm.MethodName) prog_3_method_2_code (5 : Nat) (Option.none : Option Jvm.ClassFile.FieldType)).before args0 about1 = true := code_word (m := ⟨3, 1⟩) (meth := k3m1) (c := k3c1) (by decide +kernel) rfl rfl rfl (by decide +kernel)
set_option maxRecDepth 65536 in
theorem w_c8 : (Jvm.Cond.code ({ cls := "java/lang/Record", name := "<init>", desc := "()V" } : Jvm.MethodName) jdk_30_method_1_code (1 : Nat) (Option.none : Option Jvm.ClassFile.FieldType)).before args0 about1 = true := code_word (m := ⟨2, 0⟩) (meth := k2m0) (c := k2c0) (by decide +kernel) rfl rfl rfl (by decide +kernel)
set_option maxRecDepth 65536 in
theorem w_c9 : (Jvm.Cond.code ({ cls := "java/util/ArrayList", name := "<init>", desc := "()V" } : Jvm.MethodName) jdk_38_method_2_code (1 : Nat) (Option.none : Option Jvm.ClassFile.FieldType)).before args0 about1 = true := code_word (m := ⟨19, 0⟩) (meth := k19m0) (c := k19c0) (by decide +kernel) rfl rfl rfl (by decide +kernel)
set_option maxRecDepth 65536 in
theorem w_c10 : (Jvm.Cond.code ({ cls := "java/util/AbstractList", name := "<init>", desc := "()V" } : Jvm.MethodName) jdk_39_method_1_code (1 : Nat) (Option.none : Option Jvm.ClassFile.FieldType)).before args0 about1 = true := code_word (m := ⟨16, 0⟩) (meth := k16m0) (c := k16c0) (by decide +kernel) rfl rfl rfl (by decide +kernel)
set_option maxRecDepth 65536 in
theorem w_c11 : (Jvm.Cond.code ({ cls := "java/util/AbstractCollection", name := "<init>", desc := "()V" } : Jvm.MethodName) jdk_22_method_1_code (1 : Nat) (Option.none : Option Jvm.ClassFile.FieldType)).before args0 about1 = true := code_word (m := ⟨13, 0⟩) (meth := k13m0) (c := k13c0) (by decide +kernel) rfl rfl rfl (by decide +kernel)
set_option maxRecDepth 65536 in
theorem w_c12 : (Jvm.Cond.code ({ cls := "java/util/ArrayList", name := "add", desc := "(Ljava/lang/Object;)Z" } : Jvm.MethodName) jdk_38_method_25_code (2 : Nat) (Option.some Jvm.ClassFile.FieldType.boolean)).before args0 about1 = true := code_word (m := ⟨19, 7⟩) (meth := k19m7) (c := k19c7) (by decide +kernel) rfl rfl rfl (by decide +kernel)
set_option maxRecDepth 65536 in
theorem w_c13 : (Jvm.Cond.code ({ cls := "java/util/ArrayList", name := "add", desc := "(Ljava/lang/Object;[Ljava/lang/Object;I)V" } : Jvm.MethodName) jdk_38_method_24_code (4 : Nat) (Option.none : Option Jvm.ClassFile.FieldType)).before args0 about1 = true := code_word (m := ⟨19, 6⟩) (meth := k19m6) (c := k19c6) (by decide +kernel) rfl rfl rfl (by decide +kernel)
set_option maxRecDepth 65536 in
theorem w_c14 : (Jvm.Cond.code ({ cls := "java/util/ArrayList", name := "grow", desc := "()[Ljava/lang/Object;" } : Jvm.MethodName) jdk_38_method_7_code (1 : Nat) (Option.some (Jvm.ClassFile.FieldType.array (Jvm.ClassFile.FieldType.object "java/lang/Object")))).before args0 about1 = true := code_word (m := ⟨19, 2⟩) (meth := k19m2) (c := k19c2) (by decide +kernel) rfl rfl rfl (by decide +kernel)
set_option maxRecDepth 65536 in
theorem w_c15 : (Jvm.Cond.code ({ cls := "java/util/ArrayList", name := "grow", desc := "(I)[Ljava/lang/Object;" } : Jvm.MethodName) jdk_38_method_6_code (4 : Nat) (Option.some (Jvm.ClassFile.FieldType.array (Jvm.ClassFile.FieldType.object "java/lang/Object")))).before args0 about1 = true := code_word (m := ⟨19, 1⟩) (meth := k19m1) (c := k19c1) (by decide +kernel) rfl rfl rfl (by decide +kernel)
set_option maxRecDepth 65536 in
theorem w_c16 : (Jvm.Cond.code ({ cls := "java/lang/Math", name := "max", desc := "(II)I" } : Jvm.MethodName) jdk_29_method_65_code (2 : Nat) (Option.some Jvm.ClassFile.FieldType.int)).before args0 about1 = true := code_word (m := ⟨20, 1⟩) (meth := k20m1) (c := k20c1) (by decide +kernel) rfl rfl rfl (by decide +kernel)
set_option maxRecDepth 65536 in
theorem w_c17 : (Jvm.Cond.code ({ cls := "com/example/wary_meter/warymeter/ColumnPickPinLaw", name := "sel", desc := "(II)I" } : Jvm.MethodName) method_2_code (2 : Nat) (Option.some Jvm.ClassFile.FieldType.int)).before args0 about1 = true := code_word (m := ⟨1, 1⟩) (meth := k1m1) (c := k1c1) (by decide +kernel) rfl rfl rfl (by decide +kernel)
set_option maxRecDepth 65536 in
theorem w_c18 : (Jvm.Cond.code ({ cls := "com/example/wary_meter/warymeter/ColumnPickPinLaw", name := "charAt", desc := "(CCCI)C" } : Jvm.MethodName) method_3_code (4 : Nat) (Option.some Jvm.ClassFile.FieldType.char)).before args0 about1 = true := code_word (m := ⟨1, 2⟩) (meth := k1m2) (c := k1c2) (by decide +kernel) rfl rfl rfl (by decide +kernel)
set_option maxRecDepth 65536 in
theorem w_c19 : (Jvm.Cond.code ({ cls := "com/example/wary_meter/warymeter/Column", name := "pick", desc := "(Ljava/util/List;Ljava/util/List;)Ljava/util/List;" } : Jvm.MethodName) prog_3_method_5_code (8 : Nat) (Option.some (Jvm.ClassFile.FieldType.object "java/util/List"))).before args0 about1 = true := code_word (m := ⟨3, 2⟩) (meth := k3m2) (c := k3c2) (by decide +kernel) rfl rfl rfl (by decide +kernel)
set_option maxRecDepth 65536 in
theorem w_c20 : (Jvm.Cond.code ({ cls := "java/util/ArrayList", name := "iterator", desc := "()Ljava/util/Iterator;" } : Jvm.MethodName) jdk_38_method_55_code (1 : Nat) (Option.some (Jvm.ClassFile.FieldType.object "java/util/Iterator"))).before args0 about1 = true := code_word (m := ⟨19, 8⟩) (meth := k19m8) (c := k19c8) (by decide +kernel) rfl rfl rfl (by decide +kernel)
set_option maxRecDepth 65536 in
theorem w_c21 : (Jvm.Cond.code ({ cls := "java/util/ArrayList$Itr", name := "<init>", desc := "(Ljava/util/ArrayList;)V" } : Jvm.MethodName) jdk_49_method_1_code (2 : Nat) (Option.none : Option Jvm.ClassFile.FieldType)).before args0 about1 = true := code_word (m := ⟨22, 0⟩) (meth := k22m0) (c := k22c0) (by decide +kernel) rfl rfl rfl (by decide +kernel)
set_option maxRecDepth 65536 in
theorem w_c22 : (Jvm.Cond.code ({ cls := "java/util/ArrayList$Itr", name := "hasNext", desc := "()Z" } : Jvm.MethodName) jdk_49_method_2_code (1 : Nat) (Option.some Jvm.ClassFile.FieldType.boolean)).before args0 about1 = true := code_word (m := ⟨22, 1⟩) (meth := k22m1) (c := k22c1) (by decide +kernel) rfl rfl rfl (by decide +kernel)
set_option maxRecDepth 65536 in
theorem w_c23 : (Jvm.Cond.code ({ cls := "java/util/ArrayList", name := "size", desc := "()I" } : Jvm.MethodName) jdk_38_method_8_code (1 : Nat) (Option.some Jvm.ClassFile.FieldType.int)).before args0 about1 = true := code_word (m := ⟨19, 3⟩) (meth := k19m3) (c := k19c3) (by decide +kernel) rfl rfl rfl (by decide +kernel)
set_option maxRecDepth 65536 in
theorem w_c24 : (Jvm.Cond.code ({ cls := "java/util/ArrayList$Itr", name := "next", desc := "()Ljava/lang/Object;" } : Jvm.MethodName) jdk_49_method_3_code (3 : Nat) (Option.some (Jvm.ClassFile.FieldType.object "java/lang/Object"))).before args0 about1 = true := code_word (m := ⟨22, 2⟩) (meth := k22m2) (c := k22c2) (by decide +kernel) rfl rfl rfl (by decide +kernel)
set_option maxRecDepth 65536 in
theorem w_c25 : (Jvm.Cond.code ({ cls := "java/util/ArrayList$Itr", name := "checkForComodification", desc := "()V" } : Jvm.MethodName) jdk_49_method_6_code (1 : Nat) (Option.none : Option Jvm.ClassFile.FieldType)).before args0 about1 = true := code_word (m := ⟨22, 3⟩) (meth := k22m3) (c := k22c3) (by decide +kernel) rfl rfl rfl (by decide +kernel)
set_option maxRecDepth 65536 in
theorem w_c26 : (Jvm.Cond.code ({ cls := "com/example/wary_meter/warymeter/Column", name := "name", desc := "()Ljava/lang/String;" } : Jvm.MethodName) prog_3_method_10_code (1 : Nat) (Option.some (Jvm.ClassFile.FieldType.object "java/lang/String"))).before args0 about1 = true := code_word (m := ⟨3, 3⟩) (meth := k3m3) (c := k3c3) (by decide +kernel) rfl rfl rfl (by decide +kernel)
set_option maxRecDepth 65536 in
theorem w_c27 : (Jvm.Cond.code ({ cls := "java/lang/String", name := "equals", desc := "(Ljava/lang/Object;)Z" } : Jvm.MethodName) jdk_42_method_66_code (3 : Nat) (Option.some Jvm.ClassFile.FieldType.boolean)).before args0 about1 = true := code_word (m := ⟨9, 1⟩) (meth := k9m1) (c := k9c1) (by decide +kernel) rfl rfl rfl (by decide +kernel)
set_option maxRecDepth 65536 in
theorem w_c28 : (Jvm.Cond.code ({ cls := "java/lang/StringLatin1", name := "equals", desc := "([B[B)Z" } : Jvm.MethodName) jdk_43_method_13_code (3 : Nat) (Option.some Jvm.ClassFile.FieldType.boolean)).before args0 about1 = true := code_word (m := ⟨10, 2⟩) (meth := k10m2) (c := k10c2) (by decide +kernel) rfl rfl rfl (by decide +kernel)
set_option maxRecDepth 65536 in
theorem w_c29 : (Jvm.Cond.code ({ cls := "java/util/ArrayList", name := "get", desc := "(I)Ljava/lang/Object;" } : Jvm.MethodName) jdk_38_method_20_code (2 : Nat) (Option.some (Jvm.ClassFile.FieldType.object "java/lang/Object"))).before args0 about1 = true := code_word (m := ⟨19, 5⟩) (meth := k19m5) (c := k19c5) (by decide +kernel) rfl rfl rfl (by decide +kernel)
set_option maxRecDepth 65536 in
theorem w_c30 : (Jvm.Cond.code ({ cls := "java/util/Objects", name := "checkIndex", desc := "(II)I" } : Jvm.MethodName) jdk_31_method_17_code (2 : Nat) (Option.some Jvm.ClassFile.FieldType.int)).before args0 about1 = true := code_word (m := ⟨23, 1⟩) (meth := k23m1) (c := k23c1) (by decide +kernel) rfl rfl rfl (by decide +kernel)
set_option maxRecDepth 65536 in
theorem w_c31 : (Jvm.Cond.code ({ cls := "jdk/internal/util/Preconditions", name := "checkIndex", desc := "(IILjava/util/function/BiFunction;)I" } : Jvm.MethodName) jdk_41_method_11_code (3 : Nat) (Option.some Jvm.ClassFile.FieldType.int)).before args0 about1 = true := code_word (m := ⟨24, 1⟩) (meth := k24m1) (c := k24c1) (by decide +kernel) rfl rfl rfl (by decide +kernel)
set_option maxRecDepth 65536 in
theorem w_c32 : (Jvm.Cond.code ({ cls := "java/util/ArrayList", name := "elementData", desc := "(I)Ljava/lang/Object;" } : Jvm.MethodName) jdk_38_method_18_code (2 : Nat) (Option.some (Jvm.ClassFile.FieldType.object "java/lang/Object"))).before args0 about1 = true := code_word (m := ⟨19, 4⟩) (meth := k19m4) (c := k19c4) (by decide +kernel) rfl rfl rfl (by decide +kernel)
set_option maxRecDepth 65536 in
theorem w_c33 : (Jvm.Cond.code ({ cls := "com/example/wary_meter/warymeter/ColumnPickPinLaw", name := "last", desc := "(CCCIC)I" } : Jvm.MethodName) method_4_code (5 : Nat) (Option.some Jvm.ClassFile.FieldType.int)).before args0 about1 = true := code_word (m := ⟨1, 3⟩) (meth := k1m3) (c := k1c3) (by decide +kernel) rfl rfl rfl (by decide +kernel)
set_option maxRecDepth 65536 in
theorem w_c34 : (Jvm.Cond.code ({ cls := "com/example/wary_meter/warymeter/ColumnPickPinLaw", name := "colAt", desc := "(Lcom/example/wary_meter/warymeter/Column;Lcom/example/wary_meter/warymeter/Column;Lcom/example/wary_meter/warymeter/Column;I)Lcom/example/wary_meter/warymeter/Column;" } : Jvm.MethodName) method_5_code (4 : Nat) (Option.some (Jvm.ClassFile.FieldType.object "com/example/wary_meter/warymeter/Column"))).before args0 about1 = true := code_word (m := ⟨1, 4⟩) (meth := k1m4) (c := k1c4) (by decide +kernel) rfl rfl rfl (by decide +kernel)
def codes1 : List Jvm.Cond := [Jvm.Cond.code x code maxLocals ret, Jvm.Cond.code ({ cls := "java/lang/String", name := "valueOf", desc := "(C)Ljava/lang/String;" } : Jvm.MethodName) jdk_42_method_139_code (1 : Nat) (Option.some (Jvm.ClassFile.FieldType.object "java/lang/String")), Jvm.Cond.code ({ cls := "java/lang/StringLatin1", name := "canEncode", desc := "(C)Z" } : Jvm.MethodName) jdk_43_method_3_code (1 : Nat) (Option.some Jvm.ClassFile.FieldType.boolean), Jvm.Cond.code ({ cls := "java/lang/StringLatin1", name := "toBytes", desc := "(C)[B" } : Jvm.MethodName) jdk_43_method_46_code (1 : Nat) (Option.some (Jvm.ClassFile.FieldType.array Jvm.ClassFile.FieldType.byte)), Jvm.Cond.code ({ cls := "java/lang/String", name := "<init>", desc := "([BB)V" } : Jvm.MethodName) jdk_42_method_151_code (3 : Nat) (Option.none : Option Jvm.ClassFile.FieldType), Jvm.Cond.code ({ cls := "java/lang/Object", name := "<init>", desc := "()V" } : Jvm.MethodName) object_method_1_code (1 : Nat) (Option.none : Option Jvm.ClassFile.FieldType), Jvm.Cond.code ({ cls := "com/example/wary_meter/warymeter/Column", name := "<init>", desc := "(Ljava/lang/String;Ljava/util/function/Function;)V" } : Jvm.MethodName) prog_3_method_1_code (3 : Nat) (Option.none : Option Jvm.ClassFile.FieldType), Jvm.Cond.code ({ cls := "com/example/wary_meter/warymeter/Column", name := "<init>", desc := "(Ljava/lang/String;Ljava/util/function/Function;Ljava/util/function/Function;Ljava/util/function/Function;)V" } : Jvm.MethodName) prog_3_method_2_code (5 : Nat) (Option.none : Option Jvm.ClassFile.FieldType), Jvm.Cond.code ({ cls := "java/lang/Record", name := "<init>", desc := "()V" } : Jvm.MethodName) jdk_30_method_1_code (1 : Nat) (Option.none : Option Jvm.ClassFile.FieldType), Jvm.Cond.code ({ cls := "java/util/ArrayList", name := "<init>", desc := "()V" } : Jvm.MethodName) jdk_38_method_2_code (1 : Nat) (Option.none : Option Jvm.ClassFile.FieldType), Jvm.Cond.code ({ cls := "java/util/AbstractList", name := "<init>", desc := "()V" } : Jvm.MethodName) jdk_39_method_1_code (1 : Nat) (Option.none : Option Jvm.ClassFile.FieldType), Jvm.Cond.code ({ cls := "java/util/AbstractCollection", name := "<init>", desc := "()V" } : Jvm.MethodName) jdk_22_method_1_code (1 : Nat) (Option.none : Option Jvm.ClassFile.FieldType), Jvm.Cond.code ({ cls := "java/util/ArrayList", name := "add", desc := "(Ljava/lang/Object;)Z" } : Jvm.MethodName) jdk_38_method_25_code (2 : Nat) (Option.some Jvm.ClassFile.FieldType.boolean), Jvm.Cond.code ({ cls := "java/util/ArrayList", name := "add", desc := "(Ljava/lang/Object;[Ljava/lang/Object;I)V" } : Jvm.MethodName) jdk_38_method_24_code (4 : Nat) (Option.none : Option Jvm.ClassFile.FieldType), Jvm.Cond.code ({ cls := "java/util/ArrayList", name := "grow", desc := "()[Ljava/lang/Object;" } : Jvm.MethodName) jdk_38_method_7_code (1 : Nat) (Option.some (Jvm.ClassFile.FieldType.array (Jvm.ClassFile.FieldType.object "java/lang/Object"))), Jvm.Cond.code ({ cls := "java/util/ArrayList", name := "grow", desc := "(I)[Ljava/lang/Object;" } : Jvm.MethodName) jdk_38_method_6_code (4 : Nat) (Option.some (Jvm.ClassFile.FieldType.array (Jvm.ClassFile.FieldType.object "java/lang/Object"))), Jvm.Cond.code ({ cls := "java/lang/Math", name := "max", desc := "(II)I" } : Jvm.MethodName) jdk_29_method_65_code (2 : Nat) (Option.some Jvm.ClassFile.FieldType.int), Jvm.Cond.code ({ cls := "com/example/wary_meter/warymeter/ColumnPickPinLaw", name := "sel", desc := "(II)I" } : Jvm.MethodName) method_2_code (2 : Nat) (Option.some Jvm.ClassFile.FieldType.int), Jvm.Cond.code ({ cls := "com/example/wary_meter/warymeter/ColumnPickPinLaw", name := "charAt", desc := "(CCCI)C" } : Jvm.MethodName) method_3_code (4 : Nat) (Option.some Jvm.ClassFile.FieldType.char), Jvm.Cond.code ({ cls := "com/example/wary_meter/warymeter/Column", name := "pick", desc := "(Ljava/util/List;Ljava/util/List;)Ljava/util/List;" } : Jvm.MethodName) prog_3_method_5_code (8 : Nat) (Option.some (Jvm.ClassFile.FieldType.object "java/util/List")), Jvm.Cond.code ({ cls := "java/util/ArrayList", name := "iterator", desc := "()Ljava/util/Iterator;" } : Jvm.MethodName) jdk_38_method_55_code (1 : Nat) (Option.some (Jvm.ClassFile.FieldType.object "java/util/Iterator")), Jvm.Cond.code ({ cls := "java/util/ArrayList$Itr", name := "<init>", desc := "(Ljava/util/ArrayList;)V" } : Jvm.MethodName) jdk_49_method_1_code (2 : Nat) (Option.none : Option Jvm.ClassFile.FieldType), Jvm.Cond.code ({ cls := "java/util/ArrayList$Itr", name := "hasNext", desc := "()Z" } : Jvm.MethodName) jdk_49_method_2_code (1 : Nat) (Option.some Jvm.ClassFile.FieldType.boolean), Jvm.Cond.code ({ cls := "java/util/ArrayList", name := "size", desc := "()I" } : Jvm.MethodName) jdk_38_method_8_code (1 : Nat) (Option.some Jvm.ClassFile.FieldType.int), Jvm.Cond.code ({ cls := "java/util/ArrayList$Itr", name := "next", desc := "()Ljava/lang/Object;" } : Jvm.MethodName) jdk_49_method_3_code (3 : Nat) (Option.some (Jvm.ClassFile.FieldType.object "java/lang/Object")), Jvm.Cond.code ({ cls := "java/util/ArrayList$Itr", name := "checkForComodification", desc := "()V" } : Jvm.MethodName) jdk_49_method_6_code (1 : Nat) (Option.none : Option Jvm.ClassFile.FieldType), Jvm.Cond.code ({ cls := "com/example/wary_meter/warymeter/Column", name := "name", desc := "()Ljava/lang/String;" } : Jvm.MethodName) prog_3_method_10_code (1 : Nat) (Option.some (Jvm.ClassFile.FieldType.object "java/lang/String")), Jvm.Cond.code ({ cls := "java/lang/String", name := "equals", desc := "(Ljava/lang/Object;)Z" } : Jvm.MethodName) jdk_42_method_66_code (3 : Nat) (Option.some Jvm.ClassFile.FieldType.boolean), Jvm.Cond.code ({ cls := "java/lang/StringLatin1", name := "equals", desc := "([B[B)Z" } : Jvm.MethodName) jdk_43_method_13_code (3 : Nat) (Option.some Jvm.ClassFile.FieldType.boolean), Jvm.Cond.code ({ cls := "java/util/ArrayList", name := "get", desc := "(I)Ljava/lang/Object;" } : Jvm.MethodName) jdk_38_method_20_code (2 : Nat) (Option.some (Jvm.ClassFile.FieldType.object "java/lang/Object")), Jvm.Cond.code ({ cls := "java/util/Objects", name := "checkIndex", desc := "(II)I" } : Jvm.MethodName) jdk_31_method_17_code (2 : Nat) (Option.some Jvm.ClassFile.FieldType.int), Jvm.Cond.code ({ cls := "jdk/internal/util/Preconditions", name := "checkIndex", desc := "(IILjava/util/function/BiFunction;)I" } : Jvm.MethodName) jdk_41_method_11_code (3 : Nat) (Option.some Jvm.ClassFile.FieldType.int), Jvm.Cond.code ({ cls := "java/util/ArrayList", name := "elementData", desc := "(I)Ljava/lang/Object;" } : Jvm.MethodName) jdk_38_method_18_code (2 : Nat) (Option.some (Jvm.ClassFile.FieldType.object "java/lang/Object")), Jvm.Cond.code ({ cls := "com/example/wary_meter/warymeter/ColumnPickPinLaw", name := "last", desc := "(CCCIC)I" } : Jvm.MethodName) method_4_code (5 : Nat) (Option.some Jvm.ClassFile.FieldType.int), Jvm.Cond.code ({ cls := "com/example/wary_meter/warymeter/ColumnPickPinLaw", name := "colAt", desc := "(Lcom/example/wary_meter/warymeter/Column;Lcom/example/wary_meter/warymeter/Column;Lcom/example/wary_meter/warymeter/Column;I)Lcom/example/wary_meter/warymeter/Column;" } : Jvm.MethodName) method_5_code (4 : Nat) (Option.some (Jvm.ClassFile.FieldType.object "com/example/wary_meter/warymeter/Column"))]
set_option maxRecDepth 65536 in
theorem codes_eq : words1.filter isCode = codes1 := rfl
theorem w_codes : ∀ c ∈ words1.filter isCode, c.before args0 about1 = true := by
  rw [codes_eq]
  intro c hc
  simp only [codes1, List.mem_cons, List.not_mem_nil, or_false] at hc
  rcases hc with rfl | rfl | rfl | rfl | rfl | rfl | rfl | rfl | rfl | rfl | rfl | rfl | rfl | rfl | rfl | rfl | rfl | rfl | rfl | rfl | rfl | rfl | rfl | rfl | rfl | rfl | rfl | rfl | rfl | rfl | rfl | rfl | rfl | rfl | rfl
  · exact w_c0
  · exact w_c1
  · exact w_c2
  · exact w_c3
  · exact w_c4
  · exact w_c5
  · exact w_c6
  · exact w_c7
  · exact w_c8
  · exact w_c9
  · exact w_c10
  · exact w_c11
  · exact w_c12
  · exact w_c13
  · exact w_c14
  · exact w_c15
  · exact w_c16
  · exact w_c17
  · exact w_c18
  · exact w_c19
  · exact w_c20
  · exact w_c21
  · exact w_c22
  · exact w_c23
  · exact w_c24
  · exact w_c25
  · exact w_c26
  · exact w_c27
  · exact w_c28
  · exact w_c29
  · exact w_c30
  · exact w_c31
  · exact w_c32
  · exact w_c33
  · exact w_c34
set_option maxRecDepth 65536 in
theorem w_t1 : (words1.take 24).all (fun c => isCode c || c.before args0 about1) = true := by decide +kernel
set_option maxRecDepth 65536 in
theorem w_t2 : ((words1.drop 24).take 24).all (fun c => isCode c || c.before args0 about1) = true := by decide +kernel
set_option maxRecDepth 65536 in
theorem w_t3 : (((words1.drop 24).drop 24).take 24).all (fun c => isCode c || c.before args0 about1) = true := by decide +kernel
set_option maxRecDepth 65536 in
theorem w_t4 : ((((words1.drop 24).drop 24).drop 24).take 24).all (fun c => isCode c || c.before args0 about1) = true := by decide +kernel
set_option maxRecDepth 65536 in
theorem w_t5 : (((((words1.drop 24).drop 24).drop 24).drop 24).take 24).all (fun c => isCode c || c.before args0 about1) = true := by decide +kernel
set_option maxRecDepth 65536 in
theorem w_t6 : ((((((words1.drop 24).drop 24).drop 24).drop 24).drop 24).take 24).all (fun c => isCode c || c.before args0 about1) = true := by decide +kernel
set_option maxRecDepth 65536 in
theorem w_t7 : (((((((words1.drop 24).drop 24).drop 24).drop 24).drop 24).drop 24).take 24).all (fun c => isCode c || c.before args0 about1) = true := by decide +kernel
set_option maxRecDepth 65536 in
theorem w_t8 : ((((((((words1.drop 24).drop 24).drop 24).drop 24).drop 24).drop 24).drop 24).take 24).all (fun c => isCode c || c.before args0 about1) = true := by decide +kernel
set_option maxRecDepth 65536 in
theorem w_t9 : (((((((((words1.drop 24).drop 24).drop 24).drop 24).drop 24).drop 24).drop 24).drop 24).take 24).all (fun c => isCode c || c.before args0 about1) = true := by decide +kernel
set_option maxRecDepth 65536 in
theorem w_t10 : (((((((((words1.drop 24).drop 24).drop 24).drop 24).drop 24).drop 24).drop 24).drop 24).drop 24).all (fun c => isCode c || c.before args0 about1) = true := by decide +kernel
theorem w_tables : (allAtoms (Jvm.Cond.code x code maxLocals ret :: tables_1)).before args0 about1 = true := by
  rw [allAtoms_all]
  show words1.all (fun c => c.before args0 about1) = true
  refine all_split ?_ w_codes
  rw [← List.take_append_drop 24 words1, List.all_append, w_t1, ← List.take_append_drop 24 (words1.drop 24), List.all_append, w_t2, ← List.take_append_drop 24 ((words1.drop 24).drop 24), List.all_append, w_t3, ← List.take_append_drop 24 (((words1.drop 24).drop 24).drop 24), List.all_append, w_t4, ← List.take_append_drop 24 ((((words1.drop 24).drop 24).drop 24).drop 24), List.all_append, w_t5, ← List.take_append_drop 24 (((((words1.drop 24).drop 24).drop 24).drop 24).drop 24), List.all_append, w_t6, ← List.take_append_drop 24 ((((((words1.drop 24).drop 24).drop 24).drop 24).drop 24).drop 24), List.all_append, w_t7, ← List.take_append_drop 24 (((((((words1.drop 24).drop 24).drop 24).drop 24).drop 24).drop 24).drop 24), List.all_append, w_t8, ← List.take_append_drop 24 ((((((((words1.drop 24).drop 24).drop 24).drop 24).drop 24).drop 24).drop 24).drop 24), List.all_append, w_t9, w_t10]
  rfl
set_option maxRecDepth 65536 in
theorem w_rest : rest_1_c.before args0 about1 = true := by decide +kernel
set_option maxRecDepth 65536 in
theorem w_case : (Jvm.Cond.and given_1 narrow_1).before args0 about1 = true := by decide +kernel
theorem w_applies : (headSpec (Jvm.Cond.code x code maxLocals ret :: tables_1) room_1).applies x e0.platform about1 = true :=
  (Spec.applies_iff w_frames).mpr ⟨w_running, w_runnable, w_alone, w_named, w_hears, w_ripe, w_room, w_tables⟩
theorem atStart : AtStart classFile x code maxLocals ret World_1 tables_1 room_1 Calls_1 rest_1 Pre_1 launch0 p0 e0 about1 theMethod args0 below0 :=
  ⟨lists_1, trivial, launch0.admits_env _ _ _, launch0.least_env, fairChoices_fair.cas, fairChoices_fair.clock, w_frames, w_args, w_heap, w_applies, trivial, w_rest, w_case⟩
end start1
theorem witness_1 : WitnessClaimed_1 := ⟨start1.p0, start1.e0, start1.about1, start1.theMethod, start1.args0, start1.below0, start1.atStart⟩
end Jvm.Pilot.@@N@@
