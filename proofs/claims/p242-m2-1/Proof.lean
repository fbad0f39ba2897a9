import JvmDerived
import JvmDerived.Pilot.@@N@@Statement
import JvmDerived.Pilot.@@N@@Code
set_option linter.unusedVariables false
set_option linter.unusedSimpArgs false
namespace Jvm.OwnKit
open Jvm Jvm.ClassFile Sem Op Lib Jvm.Free Jvm.Stand Jvm.LawKit Jvm.RoadKit
section Walk
variable {p : Program} {l : Launch} {e : Env} {R : Room} {s : State} {m : MethodId} {args : Array Value} {below : List Frame} {meth : Method} {c : Code} {T T' : State} {locs : List Loc} {cells slots k n : Nat} {Q : Option Value → Heap → List Loc → Prop} {P : Option Value → State → List Loc → Prop} {g g' : JFrame}
/-- from T with the frame g on top the run comes home: it returns, and Q says of what it returned, the heap and the places written -/
def Home {p : Program} {e : Env} {below : List Frame} {P : Option Value → State → List Loc → Prop} (T : State) (g : JFrame) : Prop :=
  ∃ U o, Steps p.tables e below (T.setTop g) U ∧ U.status = .running ∧ Ended U below o ∧ ∃ v L, o = .returned v ∧ P v U L
/-- the end of a walk that has booked no text -/
abbrev End (s : State) (Q : Option Value → Heap → List Loc → Prop) (k n : Nat) : Option Value → State → List Loc → Prop := fun v U L => Q v U.heap L ∧ FrameEnd s (.returned v) U L k n
theorem Home.go (st : ∀ t, Steps p.tables e below (T'.setTop g') t → Steps p.tables e below (T.setTop g) t) (H : @Home p e below P T' g') : @Home p e below P T g := by
  obtain ⟨U, o, h1, h2⟩ := H
  exact ⟨U, o, st _ h1, h2⟩
section Cps
variable {S : State → Prop} {S2 : State → Heap → Prop} {W E A D M : Heap → Prop} {A2 : Heap → ClassId → Prop} {O : ClassId → Prop} {h : Heap}
theorem Home.st (q : ∃ T', S T' ∧ T'.heap = h ∧ ∀ t, Steps p.tables e below (T'.setTop g') t → Steps p.tables e below (T.setTop g) t) (H : ∀ T', S T' → T'.heap = h → @Home p e below P T' g') : @Home p e below P T g := by
  obtain ⟨T', x, y, st⟩ := q
  exact Home.go st (H T' x y)
theorem Home.wr (q : ∃ T' h', S T' ∧ T'.heap = h' ∧ W h' ∧ ∀ t, Steps p.tables e below (T'.setTop g') t → Steps p.tables e below (T.setTop g) t) (H : ∀ T' h', S T' → T'.heap = h' → W h' → @Home p e below P T' g') : @Home p e below P T g := by
  obtain ⟨T', h', x, y, z, st⟩ := q
  exact Home.go st (H T' h' x y z)
theorem Home.nw {B : Addr → Prop} {A3 D3 : Heap → Addr → Prop} {ga : Addr → JFrame} (q : ∃ T' h' b, B b ∧ S T' ∧ T'.heap = h' ∧ E h' ∧ A3 h' b ∧ D3 h' b ∧ ∀ t, Steps p.tables e below (T'.setTop (ga b)) t → Steps p.tables e below (T.setTop g) t) (H : ∀ T' h' b, B b → S T' → T'.heap = h' → E h' → A3 h' b → D3 h' b → @Home p e below P T' (ga b)) : @Home p e below P T g := by
  obtain ⟨T', h', b, i, x, y, z, u, v, st⟩ := q
  exact Home.go st (H T' h' b i x y z u v)
theorem Home.na {B : Addr → Prop} {A3 : Heap → ClassId → Addr → Prop} {ga : Addr → JFrame} (q : ∃ T' h' c' b, B b ∧ S T' ∧ T'.heap = h' ∧ E h' ∧ A3 h' c' b ∧ ∀ t, Steps p.tables e below (T'.setTop (ga b)) t → Steps p.tables e below (T.setTop g) t) (H : ∀ T' h' c' b, B b → S T' → T'.heap = h' → E h' → A3 h' c' b → @Home p e below P T' (ga b)) : @Home p e below P T g := by
  obtain ⟨T', h', c', b, i, x, y, z, u, st⟩ := q
  exact Home.go st (H T' h' c' b i x y z u)
theorem Home.nr {B : Addr → Prop} {A3 : Heap → ClassId → Addr → Prop} {ga : Addr → JFrame} (q : ∃ T' h' c' b, B b ∧ S T' ∧ T'.heap = h' ∧ E h' ∧ A3 h' c' b ∧ O c' ∧ ∀ t, Steps p.tables e below (T'.setTop (ga b)) t → Steps p.tables e below (T.setTop g) t) (H : ∀ T' h' c' b, B b → S T' → T'.heap = h' → E h' → A3 h' c' b → O c' → @Home p e below P T' (ga b)) : @Home p e below P T g := by
  obtain ⟨T', h', c', b, i, x, y, z, u, v, st⟩ := q
  exact Home.go st (H T' h' c' b i x y z u v)
theorem Home.call {S3 : State → List Loc → Prop} {Q3 : Option Value → State → List Loc → Prop} {gv : Option Value → JFrame} (q : ∃ v T' L, S3 T' L ∧ Q3 v T' L ∧ ∀ t, Steps p.tables e below (T'.setTop (gv v)) t → Steps p.tables e below (T.setTop g) t) (H : ∀ v T' L, S3 T' L → Q3 v T' L → @Home p e below P T' (gv v)) : @Home p e below P T g := by
  obtain ⟨v, T', L, x, y, st⟩ := q
  exact Home.go st (H v T' L x y)
end Cps
theorem Home.enter (q : g = g') (H : @Home p e below P T g') : @Home p e below P T g := by
  subst q; exact H
theorem Home.retN (X : Stand p l e R s m args below meth c T locs cells slots) (hx : p.tables.exec = Jvm.exec) (hlk : meth.locks = false) {pc : Nat} {Ls : Array Slot} {z : Int32} {t : FieldType} {rest : List Value} (hret : meth.sig.returnType = some t) (ht : t = .boolean ∨ t = .byte ∨ t = .char ∨ t = .short)
    (hd : decode c.code pc = .ok (.ireturn, 1)) (hQ : Q (some (.int (nar t z))) T.heap locs) (hk : cells ≤ k) (hn : slots ≤ n) : @Home p e below (End s Q k n) T (mkF m pc Ls (.int z :: rest)) := by
  obtain ⟨fs, hr, hrun, hended, hW, hsame⟩ := X.leave (v := some (.int (nar t z))) (fun h => by rw [hret] at h; cases h) hlk
  exact ⟨_, _, Jvm.RoadKit.retN X hx hret ht hd hr, hrun, hended, _, _, rfl, hQ, ⟨_, rfl⟩, hW, hsame.mono hk hn⟩
theorem Home.ret (X : Stand p l e R s m args below meth c T locs cells slots) (hx : p.tables.exec = Jvm.exec) (hlk : meth.locks = false) {pc : Nat} {Ls : Array Slot} {w : Value} {t : FieldType} {i : Instr} {rest : List Value} (hret : meth.sig.returnType = some t) (hnn : narrow t w = w)
    (hi : (i = .ireturn ∧ (t = .int ∨ t = .boolean ∨ t = .byte ∨ t = .char ∨ t = .short) ∧ ∃ z, w = .int z) ∨ (i = .lreturn ∧ t = .long ∧ ∃ z, w = .long z) ∨ (i = .dreturn ∧ t = .double ∧ ∃ z, w = .double z) ∨ (i = .freturn ∧ t = .float ∧ ∃ z, w = .float z) ∨ (i = .areturn ∧ t.isReference = true ∧ w.isRef = true))
    (hd : decode c.code pc = .ok (i, 1)) (hQ : Q (some w) T.heap locs) (hk : cells ≤ k) (hn : slots ≤ n) : @Home p e below (End s Q k n) T (mkF m pc Ls (w :: rest)) := by
  obtain ⟨fs, hr, hrun, hended, hW, hsame⟩ := X.leave (v := some w) (fun h => by rw [hret] at h; cases h) hlk
  exact ⟨_, _, retOut X hx hret hnn hi hd hr, hrun, hended, _, _, rfl, hQ, ⟨_, rfl⟩, hW, hsame.mono hk hn⟩
theorem Home.retI (X : Stand p l e R s m args below meth c T locs cells slots) (hx : p.tables.exec = Jvm.exec) (hlk : meth.locks = false) {pc : Nat} {Ls : Array Slot} {z : Int32} {rest : List Value} (hret : meth.sig.returnType = some .int)
    (hd : decode c.code pc = .ok (.ireturn, 1)) (hQ : Q (some (.int z)) T.heap locs) (hk : cells ≤ k) (hn : slots ≤ n) : @Home p e below (End s Q k n) T (mkF m pc Ls (.int z :: rest)) :=
  Home.ret X hx hlk hret rfl (Or.inl ⟨rfl, Or.inl rfl, z, rfl⟩) hd hQ hk hn
theorem Home.retJ (X : Stand p l e R s m args below meth c T locs cells slots) (hx : p.tables.exec = Jvm.exec) (hlk : meth.locks = false) {pc : Nat} {Ls : Array Slot} {z : Int64} {rest : List Value} (hret : meth.sig.returnType = some .long)
    (hd : decode c.code pc = .ok (.lreturn, 1)) (hQ : Q (some (.long z)) T.heap locs) (hk : cells ≤ k) (hn : slots ≤ n) : @Home p e below (End s Q k n) T (mkF m pc Ls (.long z :: rest)) :=
  Home.ret X hx hlk hret rfl (Or.inr (Or.inl ⟨rfl, rfl, z, rfl⟩)) hd hQ hk hn
theorem own_narrow_ref {t : FieldType} {w : Value} (hw : w.isRef = true) : narrow t w = w := by
  rcases ref_cases hw with rfl | ⟨a, rfl⟩ <;> cases t <;> rfl
theorem Home.retR (X : Stand p l e R s m args below meth c T locs cells slots) (hx : p.tables.exec = Jvm.exec) (hlk : meth.locks = false) {pc : Nat} {Ls : Array Slot} {w : Value} {t : FieldType} {rest : List Value} (hret : meth.sig.returnType = some t) (ht : t.isReference = true) (hw : w.isRef = true)
    (hd : decode c.code pc = .ok (.areturn, 1)) (hQ : Q (some w) T.heap locs) (hk : cells ≤ k) (hn : slots ≤ n) : @Home p e below (End s Q k n) T (mkF m pc Ls (w :: rest)) :=
  Home.ret X hx hlk hret (own_narrow_ref hw) (Or.inr (Or.inr (Or.inr (Or.inr ⟨rfl, ht, hw⟩)))) hd hQ hk hn
theorem Home.ret0 (X : Stand p l e R s m args below meth c T locs cells slots) (hx : p.tables.exec = Jvm.exec) (hlk : meth.locks = false) {pc : Nat} {Ls : Array Slot} (hret : meth.sig.returnType = none)
    (hd : decode c.code pc = .ok (.return_, 1)) (hQ : Q none T.heap locs) (hk : cells ≤ k) (hn : slots ≤ n) : @Home p e below (End s Q k n) T (mkF m pc Ls []) := by
  obtain ⟨fs, hr, hrun, hended, hW, hsame⟩ := X.leave (v := none) (fun _ => rfl) hlk
  exact ⟨_, _, X.returnOut hx hret hd hr, hrun, hended, _, _, rfl, hQ, ⟨_, rfl⟩, hW, hsame.mono hk hn⟩
end Walk
section New
variable {p : Program} {l : Launch} {e : Env} {R : Room} {s : State} {m : MethodId} {args : Array Value} {below : List Frame} {meth : Method} {c : Code} {T : State} {locs : List Loc} {cells slots : Nat} {Z : State} {a0 : Array Value} {h : Heap}
theorem own_newO (X : Stand p l e R s m args below meth c T locs cells slots) (hx : p.tables.exec = Jvm.exec) (hZ : Z.Warmed39 s.vm) {own C : String} {index n : Nat} (hown : s.vm.findClass own = some m.cls) (w : (Cond.classLink own index C).before a0 Z = true) (wi : (Cond.instantiable C n).before a0 Z = true) (wz : (Cond.initialized C).before a0 Z = true) (eT : T.heap = h)
    {g : JFrame} (hg : g.method = m) (hd : decode c.code g.pc = .ok (.new index, 3)) (hc : cells + 1 ≤ R.cells) (hl : slots + n ≤ R.slots) :
    ∃ T' h' b, b = h.size ∧ Stand p l e R s m args below meth c T' locs (cells + 1) (slots + n) ∧ T'.heap = h' ∧ Ext h h' ∧ Exa Z h' b C ∧ (∀ {O nm d : String} {ty : FieldType}, Laid Z a0 C O nm d → parseFieldDescriptor d = some ty → Fld Z h' b O nm d (defaultValue ty)) ∧
      ∀ target, Steps p.tables e below (T'.setTop { g with pc := g.pc + 3, stack := .ref b :: g.stack }) target → Steps p.tables e below (T.setTop g) target := by
  obtain ⟨T', h', X', e', E', A', D', -, st⟩ := newO X hx hZ hown w wi wz eT hg hd hc hl
  exact ⟨T', h', _, rfl, X', e', E', A', D', st⟩
theorem own_newP (X : Stand p l e R s m args below meth c T locs cells slots) (hx : p.tables.exec = Jvm.exec) (hZ : Z.Warmed39 s.vm) {aty : ArrayType} (w : (Cond.arrayClass (newarray.typeOf aty)).before a0 Z = true) (eT : T.heap = h) {g : JFrame} (hg : g.method = m) (hd : decode c.code g.pc = .ok (.newarray aty, 2)) {n : Int32} {rest : List Value} (hs : g.stack = .int n :: rest)
    (hn : ¬ n < 0) {cap : Nat} (hcap : n.toNatClampNeg ≤ cap) (hb : cap * 8 ≤ 536870912) (hc : cells + 1 ≤ R.cells) (hl : slots + cap ≤ R.slots) :
    ∃ T' h' cA b, b = h.size ∧ Stand p l e R s m args below meth c T' locs (cells + 1) (slots + cap) ∧ T'.heap = h' ∧ Ext h h' ∧ Arr Z h' b (newA cA (newarray.typeOf aty) n) (newarray.typeOf aty) ∧
      ∀ target, Steps p.tables e below (T'.setTop { g with pc := g.pc + 2, stack := .ref b :: rest }) target → Steps p.tables e below (T.setTop g) target := by
  obtain ⟨T', h', cA, X', e', E', A', st⟩ := newP X hx hZ w eT hg hd hs hn hcap hb hc hl
  exact ⟨T', h', cA, _, rfl, X', e', E', A', st⟩
theorem own_newR (X : Stand p l e R s m args below meth c T locs cells slots) (hx : p.tables.exec = Jvm.exec) (hZ : Z.Warmed39 s.vm) {own C : String} {index : Nat} (hown : s.vm.findClass own = some m.cls) (w1 : (Cond.classLink own index C).before a0 Z = true) (w2 : (Cond.arrayOver (.object C)).before a0 Z = true)
    (eT : T.heap = h) {g : JFrame} (hg : g.method = m) (hd : decode c.code g.pc = .ok (.anewarray index, 3)) {n : Int32} {rest : List Value} (hs : g.stack = .int n :: rest) (hn : ¬ n < 0) {cap : Nat} (hcap : n.toNatClampNeg ≤ cap) (hb : cap * 8 ≤ 536870912) (hc : cells + 1 ≤ R.cells) (hl : slots + cap ≤ R.slots) :
    ∃ T' h' cA b, b = h.size ∧ Stand p l e R s m args below meth c T' locs (cells + 1) (slots + cap) ∧ T'.heap = h' ∧ Ext h h' ∧ Arr Z h' b (newA cA (.object C) n) (.object C) ∧ Ovr Z cA C ∧
      ∀ target, Steps p.tables e below (T'.setTop { g with pc := g.pc + 3, stack := .ref b :: rest }) target → Steps p.tables e below (T.setTop g) target := by
  obtain ⟨T', h', cA, X', e', E', A', O', st⟩ := newR X hx hZ hown w1 w2 eT hg hd hs hn hcap hb hc hl
  exact ⟨T', h', cA, _, rfl, X', e', E', A', O', st⟩
end New
section Run
variable {p : Program} {l : Launch} {e : Env} {R : Room} {s : State} {m : MethodId} {args : Array Value} {below : List Frame} {meth : Method} {c : Code} {T : State} {locs : List Loc} {cells slots : Nat} {target : State}
def un32 (f : Int32 → Value) (S : List Value) : Option (List Value) := match S with | .int x :: r => some (f x :: r) | _ => none
def un64 (f : Int64 → Value) (S : List Value) : Option (List Value) := match S with | .long x :: r => some (f x :: r) | _ => none
def bi32 (f : Int32 → Int32 → Int32) (S : List Value) : Option (List Value) := match S with | .int y :: .int x :: r => some (.int (f x y) :: r) | _ => none
def bi64 (f : Int64 → Int64 → Value) (S : List Value) : Option (List Value) := match S with | .long y :: .long x :: r => some (f x y :: r) | _ => none
def sh64 (f : Int64 → Int32 → Int64) (S : List Value) : Option (List Value) := match S with | .int y :: .long x :: r => some (.long (f x y) :: r) | _ => none
/-- the stack behind an instruction that reads and writes the stack alone -/
def stk (i : Instr) (S : List Value) : Option (List Value) := match i with
  | .iconst k => some (.int (Int32.ofInt k) :: S)
  | .bipush k => some (.int (Int8.ofInt k).toInt32 :: S)
  | .sipush k => some (.int (Int16.ofInt k).toInt32 :: S)
  | .lconst k => some (.long (Int64.ofNat k) :: S)
  | .aconst_null => some (.null :: S)
  | .iadd => bi32 (· + ·) S
  | .isub => bi32 (· - ·) S
  | .imul => bi32 (· * ·) S
  | .iand => bi32 (· &&& ·) S
  | .ior => bi32 (· ||| ·) S
  | .ixor => bi32 (· ^^^ ·) S
  | .ishl => bi32 (fun x y => x <<< (y &&& 31)) S
  | .ishr => bi32 (fun x y => x >>> (y &&& 31)) S
  | .iushr => bi32 (fun x y => (x.toUInt32 >>> (y &&& 31).toUInt32).toInt32) S
  | .ladd => bi64 (fun x y => .long (x + y)) S
  | .lsub => bi64 (fun x y => .long (x - y)) S
  | .lmul => bi64 (fun x y => .long (x * y)) S
  | .land => bi64 (fun x y => .long (x &&& y)) S
  | .lor => bi64 (fun x y => .long (x ||| y)) S
  | .lxor => bi64 (fun x y => .long (x ^^^ y)) S
  | .lcmp => bi64 (fun x y => .int (if x > y then 1 else if x = y then 0 else -1)) S
  | .lshl => sh64 (fun x y => x <<< (y &&& 0x3f).toInt64) S
  | .lshr => sh64 (fun x y => x >>> (y &&& 0x3f).toInt64) S
  | .lushr => sh64 (fun x y => (x.toUInt64 >>> (y &&& 0x3f).toInt64.toUInt64).toInt64) S
  | .ineg => un32 (fun x => .int (-x)) S
  | .lneg => un64 (fun x => .long (-x)) S
  | .i2l => un32 (fun x => .long x.toInt64) S
  | .l2i => un64 (fun x => .int x.toInt32) S
  | .i2b => un32 (fun x => .int x.toInt8.toInt32) S
  | .i2c => un32 (fun x => .int x.toUInt32.toUInt16.toUInt32.toInt32) S
  | .i2s => un32 (fun x => .int x.toInt16.toInt32) S
  | .dup => match S with | x :: r => if x.category = 1 then some (x :: x :: r) else none | _ => none
  | .pop => match S with | x :: r => if x.category = 1 then some r else none | _ => none
  | .dup_x1 => match S with | x :: y :: r => if x.category = 1 ∧ y.category = 1 then some (x :: y :: x :: r) else none | _ => none
  | _ => none
theorem un32_s {f : Int32 → Value} {S S' : List Value} (h : un32 f S = some S') : ∃ x r, S = .int x :: r ∧ S' = f x :: r := by
  unfold un32 at h; split at h
  · cases h; exact ⟨_, _, rfl, rfl⟩
  · cases h
theorem un64_s {f : Int64 → Value} {S S' : List Value} (h : un64 f S = some S') : ∃ x r, S = .long x :: r ∧ S' = f x :: r := by
  unfold un64 at h; split at h
  · cases h; exact ⟨_, _, rfl, rfl⟩
  · cases h
theorem bi32_s {f : Int32 → Int32 → Int32} {S S' : List Value} (h : bi32 f S = some S') : ∃ x y r, S = .int y :: .int x :: r ∧ S' = .int (f x y) :: r := by
  unfold bi32 at h; split at h
  · cases h; exact ⟨_, _, _, rfl, rfl⟩
  · cases h
theorem bi64_s {f : Int64 → Int64 → Value} {S S' : List Value} (h : bi64 f S = some S') : ∃ x y r, S = .long y :: .long x :: r ∧ S' = f x y :: r := by
  unfold bi64 at h; split at h
  · cases h; exact ⟨_, _, _, rfl, rfl⟩
  · cases h
theorem sh64_s {f : Int64 → Int32 → Int64} {S S' : List Value} (h : sh64 f S = some S') : ∃ x y r, S = .int y :: .long x :: r ∧ S' = .long (f x y) :: r := by
  unfold sh64 at h; split at h
  · cases h; exact ⟨_, _, _, rfl, rfl⟩
  · cases h
def len1 (i : Instr) : Nat := match i with | .bipush _ => 2 | .sipush _ => 3 | _ => 1
theorem stk_s (X : Stand p l e R s m args below meth c T locs cells slots) (hx : p.tables.exec = Jvm.exec) {i : Instr} {n pc : Nat} {L : Array Slot} {S S' : List Value} (hd : decode c.code pc = .ok (i, n)) (hn : n = len1 i) (h : stk i S = some S')
    (H : Steps p.tables e below (T.setTop (mkF m (pc + n) L S')) target) : Steps p.tables e below (T.setTop (mkF m pc L S)) target := by
  subst hn
  unfold stk at h
  split at h <;> first
    | (cases h; first | exact XS.iconst X.here hx rfl hd H | exact XS.bipush X.here hx rfl hd H | exact XS.sipush X.here hx rfl hd H | exact XS.lconst X.here hx rfl hd H | exact XS.aconstNull X.here hx rfl hd H)
    | (obtain ⟨x, y, r, rfl, rfl⟩ := bi32_s h; first | exact XS.iadd X.here hx rfl hd rfl H | exact XS.isub X.here hx rfl hd rfl H | exact XS.imul X.here hx rfl hd rfl H | exact XS.iand X.here hx rfl hd rfl H | exact XS.ior X.here hx rfl hd rfl H | exact XS.ixor X.here hx rfl hd rfl H | exact XS.ishl X.here hx rfl hd rfl H | exact XS.ishr X.here hx rfl hd rfl H | exact XS.iushr X.here hx rfl hd rfl H)
    | (obtain ⟨x, y, r, rfl, rfl⟩ := bi64_s h; first | exact XS.ladd X.here hx rfl hd rfl H | exact XS.lsub X.here hx rfl hd rfl H | exact XS.lmul X.here hx rfl hd rfl H | exact XS.land X.here hx rfl hd rfl H | exact XS.lor X.here hx rfl hd rfl H | exact XS.lxor X.here hx rfl hd rfl H | exact XS.lcmp X.here hx rfl hd rfl H)
    | (obtain ⟨x, y, r, rfl, rfl⟩ := sh64_s h; first | exact XS.lshl X.here hx rfl hd rfl H | exact XS.lshr X.here hx rfl hd rfl H | exact XS.lushr X.here hx rfl hd rfl H)
    | (obtain ⟨x, r, rfl, rfl⟩ := un32_s h; first | exact XS.ineg X.here hx rfl hd rfl H | exact XS.i2l X.here hx rfl hd rfl H | exact XS.i2b X.here hx rfl hd rfl H | exact XS.i2c X.here hx rfl hd rfl H | exact XS.i2s X.here hx rfl hd rfl H)
    | (obtain ⟨x, r, rfl, rfl⟩ := un64_s h; first | exact XS.lneg X.here hx rfl hd rfl H | exact XS.l2i X.here hx rfl hd rfl H)
    | (split at h <;> (try split at h) <;> first | (cases h; done) | (rename_i q; cases h; first | exact XS.dup X.here hx rfl hd rfl q H | exact XS.pop X.here hx rfl hd rfl q H | exact XS.dupX1 X.here hx rfl hd rfl q.1 q.2 H))
    | cases h
def ldI (L : Array Slot) (S : List Value) (k : Nat) : Option (Array Slot × List Value) := match L[k]? with | some (.val (.int v)) => some (L, .int v :: S) | _ => none
def ldJ (L : Array Slot) (S : List Value) (k : Nat) : Option (Array Slot × List Value) := match L[k]? with | some (.val (.long v)) => some (L, .long v :: S) | _ => none
def ldA (L : Array Slot) (S : List Value) (k : Nat) : Option (Array Slot × List Value) := match L[k]? with | some (.val v) => if v.isRef = true then some (L, v :: S) else none | _ => none
def stI1 (L : Array Slot) (S : List Value) (k : Nat) : Option (Array Slot × List Value) := match S with | .int x :: r => (storeLocals L k (.int x)).map fun l' => (l', r) | _ => none
def stJ1 (L : Array Slot) (S : List Value) (k : Nat) : Option (Array Slot × List Value) := match S with | .long x :: r => (storeLocals L k (.long x)).map fun l' => (l', r) | _ => none
def stA1 (L : Array Slot) (S : List Value) (k : Nat) : Option (Array Slot × List Value) := match S with | x :: r => if x.isRef = true then (storeLocals L k x).map fun l' => (l', r) else none | _ => none
/-- what an instruction does to pc, locals and stack; nothing else is touched -/
def run1 (i : Instr) (n pc : Nat) (L : Array Slot) (S : List Value) : Option (Nat × Array Slot × List Value) := match i with
  | .iload_n k => if n = 1 then (ldI L S k.val).map (pc + n, ·) else none
  | .iload k => if n = 2 then (ldI L S k).map (pc + n, ·) else none
  | .lload_n k => if n = 1 then (ldJ L S k.val).map (pc + n, ·) else none
  | .lload k => if n = 2 then (ldJ L S k).map (pc + n, ·) else none
  | .aload_n k => if n = 1 then (ldA L S k.val).map (pc + n, ·) else none
  | .aload k => if n = 2 then (ldA L S k).map (pc + n, ·) else none
  | .istore_n k => if n = 1 then (stI1 L S k.val).map (pc + n, ·) else none
  | .istore k => if n = 2 then (stI1 L S k).map (pc + n, ·) else none
  | .lstore_n k => if n = 1 then (stJ1 L S k.val).map (pc + n, ·) else none
  | .lstore k => if n = 2 then (stJ1 L S k).map (pc + n, ·) else none
  | .astore_n k => if n = 1 then (stA1 L S k.val).map (pc + n, ·) else none
  | .astore k => if n = 2 then (stA1 L S k).map (pc + n, ·) else none
  | .iinc k cst => if n = 3 then (match L[k]? with | some (.val (.int x)) => (storeLocals L k (.int (x + Int32.ofInt cst))).map fun l' => (pc + n, l', S) | _ => none) else none
  | .goto o => if n = 3 then (if 0 ≤ (pc : Int) + o then some (((pc : Int) + o).toNat, L, S) else none) else none
  | i => if n = len1 i then (stk i S).map fun S' => (pc + n, L, S') else none
theorem ldI_s {L L' : Array Slot} {S S' : List Value} {k : Nat} (h : ldI L S k = some (L', S')) : ∃ v, L[k]? = some (.val (.int v)) ∧ L' = L ∧ S' = .int v :: S := by
  unfold ldI at h; split at h
  · cases h; exact ⟨_, by assumption, rfl, rfl⟩
  · cases h
theorem ldJ_s {L L' : Array Slot} {S S' : List Value} {k : Nat} (h : ldJ L S k = some (L', S')) : ∃ v, L[k]? = some (.val (.long v)) ∧ L' = L ∧ S' = .long v :: S := by
  unfold ldJ at h; split at h
  · cases h; exact ⟨_, by assumption, rfl, rfl⟩
  · cases h
theorem ldA_s {L L' : Array Slot} {S S' : List Value} {k : Nat} (h : ldA L S k = some (L', S')) : ∃ v, L[k]? = some (.val v) ∧ v.isRef = true ∧ L' = L ∧ S' = v :: S := by
  unfold ldA at h; split at h
  · split at h
    · cases h; exact ⟨_, by assumption, by assumption, rfl, rfl⟩
    · cases h
  · cases h
theorem stI1_s {L L' : Array Slot} {S S' : List Value} {k : Nat} (h : stI1 L S k = some (L', S')) : ∃ x, S = .int x :: S' ∧ storeLocals L k (.int x) = some L' := by
  unfold stI1 at h; split at h
  · rw [Option.map_eq_some_iff] at h; obtain ⟨l', h1, h2⟩ := h; cases h2; exact ⟨_, rfl, h1⟩
  · cases h
theorem stJ1_s {L L' : Array Slot} {S S' : List Value} {k : Nat} (h : stJ1 L S k = some (L', S')) : ∃ x, S = .long x :: S' ∧ storeLocals L k (.long x) = some L' := by
  unfold stJ1 at h; split at h
  · rw [Option.map_eq_some_iff] at h; obtain ⟨l', h1, h2⟩ := h; cases h2; exact ⟨_, rfl, h1⟩
  · cases h
theorem stA1_s {L L' : Array Slot} {S S' : List Value} {k : Nat} (h : stA1 L S k = some (L', S')) : ∃ x, S = x :: S' ∧ x.isRef = true ∧ storeLocals L k x = some L' := by
  unfold stA1 at h; split at h
  · split at h
    · rw [Option.map_eq_some_iff] at h; obtain ⟨l', h1, h2⟩ := h; cases h2; exact ⟨_, rfl, by assumption, h1⟩
    · cases h
  · cases h
theorem map_s {α β : Type} {o : Option α} {f : α → β} {y : β} (h : o.map f = some y) : ∃ x, o = some x ∧ f x = y := Option.map_eq_some_iff.mp h
theorem run1_s (X : Stand p l e R s m args below meth c T locs cells slots) (hx : p.tables.exec = Jvm.exec) {i : Instr} {n pc pc' : Nat} {L L' : Array Slot} {S S' : List Value} (hd : decode c.code pc = .ok (i, n)) (h : run1 i n pc L S = some (pc', L', S'))
    (H : Steps p.tables e below (T.setTop (mkF m pc' L' S')) target) : Steps p.tables e below (T.setTop (mkF m pc L S)) target := by
  unfold run1 at h
  split at h <;> split at h <;> first
    | (cases h; done)
    | (rename_i hn; subst hn; obtain ⟨⟨L1, S1⟩, h1, h2⟩ := map_s h; cases h2; first
        | (obtain ⟨v, q1, rfl, rfl⟩ := ldI_s h1; first | exact XS.iloadN X.here hx rfl hd q1 H | exact XS.iload X.here hx rfl hd q1 H)
        | (obtain ⟨v, q1, rfl, rfl⟩ := ldJ_s h1; first | exact XS.lloadN X.here hx rfl hd q1 H | exact XS.lload X.here hx rfl hd q1 H)
        | (obtain ⟨v, q1, q2, rfl, rfl⟩ := ldA_s h1; first | exact XS.aloadN X.here hx rfl hd q1 q2 H | exact XS.aload X.here hx rfl hd q1 q2 H)
        | (obtain ⟨x, rfl, q⟩ := stI1_s h1; first | exact XS.istoreN X.here hx rfl hd rfl q H | exact XS.istore X.here hx rfl hd rfl q H)
        | (obtain ⟨x, rfl, q⟩ := stJ1_s h1; first | exact XS.lstoreN X.here hx rfl hd rfl q H | exact XS.lstore X.here hx rfl hd rfl q H)
        | (obtain ⟨x, rfl, q1, q⟩ := stA1_s h1; first | exact XS.astoreN X.here hx rfl hd rfl q1 q H | exact XS.astore X.here hx rfl hd rfl q1 q H))
    | (rename_i hn; subst hn; split at h <;> first
        | (cases h; done)
        | (rename_i q; obtain ⟨l', h1, h2⟩ := map_s h; cases h2; exact XS.iinc X.here hx rfl hd q h1 H)
        | (rename_i q; cases h; exact XS.goto X.here hx rfl (pc0 := pc) rfl hd q rfl H))
    | (rename_i hn; obtain ⟨S1, h1, h2⟩ := map_s h; cases h2; exact stk_s X hx hd hn h1 H)
def runs : List (Nat × Instr × Nat) → Nat → Array Slot → List Value → Option (Nat × Array Slot × List Value)
  | [], pc, L, S => some (pc, L, S)
  | (q, i, n) :: is, pc, L, S => if q = pc then (match run1 i n pc L S with | some (pc', L', S') => runs is pc' L' S' | none => none) else none
def decs (code : ByteArray) : List (Nat × Instr × Nat) → Prop
  | [] => True
  | (q, i, n) :: is => decode code q = .ok (i, n) ∧ decs code is
theorem runs_s (X : Stand p l e R s m args below meth c T locs cells slots) (hx : p.tables.exec = Jvm.exec) {pc' : Nat} {L' : Array Slot} {S' : List Value} (H : Steps p.tables e below (T.setTop (mkF m pc' L' S')) target) :
    ∀ (is : List (Nat × Instr × Nat)) (pc : Nat) (L : Array Slot) (S : List Value), decs c.code is → runs is pc L S = some (pc', L', S') → Steps p.tables e below (T.setTop (mkF m pc L S)) target
  | [], pc, L, S, _, h => by cases h; exact H
  | (q, i, n) :: is, pc, L, S, hd, h => by
    unfold runs at h
    split at h
    · rename_i e1; subst e1
      split at h
      · rename_i pc1 L1 S1 h1
        exact run1_s X hx hd.1 h1 (runs_s X hx H is pc1 L1 S1 hd.2 h)
      · cases h
    · cases h
variable {P : Option Value → State → List Loc → Prop}
theorem Home.run (X : Stand p l e R s m args below meth c T locs cells slots) (hx : p.tables.exec = Jvm.exec) {bytes : ByteArray} (hby : c.code = bytes) {is : List (Nat × Instr × Nat)} (hd : decs bytes is) {pc pc' : Nat} {L L' : Array Slot} {S S' : List Value} (h : runs is pc L S = some (pc', L', S'))
    (H : @Home p e below P T (mkF m pc' L' S')) : @Home p e below P T (mkF m pc L S) :=
  Home.go (fun _ kt => runs_s X hx kt is pc L S (by rw [hby]; exact hd) h) H
end Run
section Calls
variable {p : Program} {l : Launch} {e : Env} {R : Room} {s : State} {m : MethodId} {args : Array Value} {below : List Frame} {meth : Method} {c : Code} {T : State} {locs : List Loc} {cells slots : Nat} {Z : State} {a0 : Array Value} {h : Heap} {y z : MethodName} {bytes : ByteArray} {maxL : Nat} {ret : Option FieldType} {rm : Room} {W : Nat} {as' : Array Value} {Q : Option Value → Heap → List Loc → Prop} {own C : String} {index : Nat}
/-- a body's contract, at one heap and one list of arguments -/
abbrev Con (l : Launch) (Z : State) (y : MethodName) (bytes : ByteArray) (maxL : Nat) (ret : Option FieldType) (ws : List Jvm.Cond) (rm : Room) (as' : Array Value) (h : Heap) (Q : Option Value → Heap → List Loc → Prop) : Prop :=
  MetFree l y (head1 (Jvm.Cond.code y bytes maxL ret :: ws) rm) (fun a U => a = as' ∧ Z.Warmed39 U.vm ∧ U.heap = h) (fun _ _ _ _ _ => True) (fun _ U o U' => ∃ v L, o = .returned v ∧ Q v U'.heap L ∧ FrameEnd U o U' L rm.cells rm.slots)
/-- it leaves the heap as it was -/
abbrev Pur (w : Option Value) (h0 : Heap) : Option Value → Heap → List Loc → Prop := fun v h L => v = w ∧ L = [] ∧ h = h0
/-- from a walk that comes home to the contract -/
theorem own_body {ws : List Jvm.Cond} {L0 : Array Slot} (pn : plainFor y = true) (ef : ∀ m, entryFrame m as' maxL = mkF m 0 L0 [])
    (body : ∀ (p : Program) (e : Env) (s : State) (m : MethodId) (below : List Frame) (meth : Method) (c : Code) (s₁ : State), p.tables.exec = Jvm.exec → c.code = bytes → meth.locks = false → c.maxLocals = maxL → meth.sig.returnType = ret → Z.Warmed39 s.vm → s.vm.findClass y.cls = some m.cls → meth.name = y.name →
      Stand p l e rm s m as' below meth c s₁ [] 0 0 → s₁.heap = h → @Home p e below (End s Q rm.cells rm.slots) s₁ (mkF m 0 L0 [])) : Con l Z y bytes maxL ret ws rm as' h Q := by
  refine MetFree.of_bodySF pn hisR ?_
  intro p e s m args below meth c s₁ Bd hml0 hP hK
  obtain ⟨rfl, hZ, hh⟩ := hP
  have H : @Home p e below (End s Q rm.cells rm.slots) s₁ (entryFrame m args maxL) := Home.enter (ef m) (body p e s m below meth c s₁ Bd.exec Bd.bytes (BodyLoose.notSynchronized Bd) hml0 Bd.returns hZ (findClass_of_methodNamed Bd.named) (name_of_methodNamed Bd.named Bd.method).1 (Stand.of_body Bd) (by rw [← hh, Bd.state]; rfl))
  obtain ⟨U, o, h1, h2, h3, v, L, rfl, h4, h5⟩ := H
  exact ⟨U, _, h1, h2, h3, v, L, rfl, h4, h5⟩
theorem own_static (X : Stand p l e R s m args below meth c T locs cells slots) (hx : p.tables.exec = Jvm.exec) (hZ : Z.Warmed39 s.vm) (hown : s.vm.findClass own = some m.cls)
    (w1 : (Cond.methodLink own index y).before a0 Z = true) (w2 : (Cond.static y).before a0 Z = true) (w3 : (Cond.initialized y.cls).before a0 Z = true) (w4 : (Cond.code y bytes maxL ret).before a0 Z = true)
    (hy : y.cls ≠ "java/lang/invoke/MethodHandle" ∧ y.cls ≠ "java/lang/invoke/VarHandle") (hM : Con l Z y bytes maxL ret [] rm as' h Q) (eT : T.heap = h)
    {g : JFrame} (hg : g.method = m) (hsize : g.locals.size = c.maxLocals) {argsL rest : List Value} (hlen : ∀ sig, parseMethodDescriptor y.desc = some sig → argsL.length = sig.parameters.length) (hstack : g.stack = argsL.reverse ++ rest) (ha : argsL.toArray = as')
    (hW : 2 * g.monitorRoom + (rest.map fun v => v.category).sum ≤ W) (hf : rm.frames + 1 ≤ R.frames) (hl : W + (maxL + 11) + rm.locals ≤ R.locals)
    (hdg : decode c.code g.pc = .ok (.invokestatic index, 3)) (hc : cells + rm.cells ≤ R.cells) (hs : slots + rm.slots ≤ R.slots) :
    ∃ v T' L, Stand p l e R s m args below meth c T' (locs ++ L) (cells + rm.cells) (slots + rm.slots) ∧ Q v T'.heap L ∧
      ∀ t, Steps p.tables e below (T'.setTop { g with pc := g.pc + 3, stack := v.toList ++ rest }) t → Steps p.tables e below (T.setTop g) t := by
  obtain ⟨v, _, ⟨T', L', k', n'⟩, -, X', ⟨L, hQ, l', y', z'⟩, st⟩ := Jvm.LawKit.callS X hx (y := y) hown (mvT hZ w1) (mvT hZ w2) (mvT hZ w3) (mvT hZ w4) hy (backOf (W := W) hM hZ w4 w3 hf hl) hg hsize hlen hstack hW hdg (fun _ _ => ⟨ha, eT, hc, hs⟩)
  dsimp only [Pt.U, Pt.locs, Pt.cells, Pt.slots] at X' l' y' z' st hQ
  subst l' y' z'
  exact ⟨v, T', L, X', hQ, st⟩
theorem own_special (X : Stand p l e R s m args below meth c T locs cells slots) (hx : p.tables.exec = Jvm.exec) (hZ : Z.Warmed39 s.vm) (hown : s.vm.findClass own = some m.cls) (hy1 : y.name = "<init>")
    (w1 : (Cond.methodLink own index y).before a0 Z = true) (w2 : (Cond.instanceMethod y).before a0 Z = true) (w3 : (Cond.initialized y.cls).before a0 Z = true) (w4 : (Cond.code y bytes maxL none).before a0 Z = true)
    (hy : y.cls ≠ "java/lang/invoke/MethodHandle" ∧ y.cls ≠ "java/lang/invoke/VarHandle") (hM : Con l Z y bytes maxL none [] rm as' h Q) (eT : T.heap = h)
    {g : JFrame} (hg : g.method = m) (hsize : g.locals.size = c.maxLocals) {a : Addr} {argsL rest : List Value} (hlen : ∀ sig, parseMethodDescriptor y.desc = some sig → argsL.length = sig.parameters.length) (hstack : g.stack = argsL.reverse ++ .ref a :: rest) (ha : (.ref a :: argsL).toArray = as')
    (hW : 2 * g.monitorRoom + (rest.map fun v => v.category).sum ≤ W) (hf : rm.frames + 1 ≤ R.frames) (hl : W + (maxL + 11) + rm.locals ≤ R.locals)
    (hdg : decode c.code g.pc = .ok (.invokespecial index, 3)) (hc : cells + rm.cells ≤ R.cells) (hs : slots + rm.slots ≤ R.slots) :
    ∃ v T' L, Stand p l e R s m args below meth c T' (locs ++ L) (cells + rm.cells) (slots + rm.slots) ∧ Q v T'.heap L ∧
      ∀ t, Steps p.tables e below (T'.setTop { g with pc := g.pc + 3, stack := v.toList ++ rest }) t → Steps p.tables e below (T.setTop g) t := by
  obtain ⟨v, _, ⟨T', L', k', n'⟩, -, X', ⟨L, hQ, l', y', z'⟩, st⟩ := X.specialBack hx (y := y) hy1 hown (mvT hZ w1) (mvT hZ w2) (mvT hZ w4) hy (backOf (W := W) hM hZ w4 w3 hf hl) hg hsize (Steps.refl _) (a := a) hlen hstack hW hdg (fun _ _ => ⟨ha, eT, hc, hs⟩)
  dsimp only [Pt.U, Pt.locs, Pt.cells, Pt.slots] at X' l' y' z' st hQ
  subst l' y' z'
  exact ⟨v, T', L, X', hQ, fun t k => st.trans k⟩
theorem own_virtual (X : Stand p l e R s m args below meth c T locs cells slots) (hx : p.tables.exec = Jvm.exec) (hZ : Z.Warmed39 s.vm) (hown : s.vm.findClass own = some m.cls)
    (w1 : (Cond.methodLink own index y).before a0 Z = true) (w2 : (Cond.declares y).before a0 Z = true) (hnf : NotFace s y) (w3 : (Cond.selects C y z).before a0 Z = true) (w4 : (Cond.instanceMethod z).before a0 Z = true) (w5 : (Cond.initialized z.cls).before a0 Z = true) (w6 : (Cond.code z bytes maxL ret).before a0 Z = true)
    (hy : y.cls ≠ "java/lang/invoke/MethodHandle" ∧ y.cls ≠ "java/lang/invoke/VarHandle") (hM : Con l Z z bytes maxL ret [] rm as' h Q) (eT : T.heap = h) {a : Addr} (E : Exa Z h a C)
    {g : JFrame} (hg : g.method = m) (hsize : g.locals.size = c.maxLocals) {argsL rest : List Value} (hlen : ∀ sig, parseMethodDescriptor y.desc = some sig → argsL.length = sig.parameters.length) (hstack : g.stack = argsL.reverse ++ .ref a :: rest) (ha : (.ref a :: argsL).toArray = as')
    (hW : 2 * g.monitorRoom + (rest.map fun v => v.category).sum ≤ W) (hf : rm.frames + 1 ≤ R.frames) (hl : W + (maxL + 11) + rm.locals ≤ R.locals)
    (hdg : decode c.code g.pc = .ok (.invokevirtual index, 3)) (hc : cells + rm.cells ≤ R.cells) (hs : slots + rm.slots ≤ R.slots) :
    ∃ v T' L, Stand p l e R s m args below meth c T' (locs ++ L) (cells + rm.cells) (slots + rm.slots) ∧ Q v T'.heap L ∧
      ∀ t, Steps p.tables e below (T'.setTop { g with pc := g.pc + 3, stack := v.toList ++ rest }) t → Steps p.tables e below (T.setTop g) t := by
  obtain ⟨cB, kB, q1, q2, q3⟩ := isOf hZ eT E
  obtain ⟨v, _, ⟨T', L', k', n'⟩, -, X', ⟨L, hQ, l', y', z'⟩, st⟩ := X.virtualBack hx (y := y) (z := z) hown (mvT hZ w1) (mvT hZ w2) hnf (mvT hZ w3) (mvT hZ w4) hy (backOf (W := W) hM hZ w6 w5 hf hl) q1 q3 hg hsize (Steps.refl _) hlen hstack hW hdg (fun _ _ => ⟨ha, eT, hc, hs⟩)
  dsimp only [Pt.U, Pt.locs, Pt.cells, Pt.slots] at X' l' y' z' st hQ
  subst l' y' z'
  exact ⟨v, T', L, X', hQ, fun t k => st.trans k⟩
theorem own_face (X : Stand p l e R s m args below meth c T locs cells slots) (hx : p.tables.exec = Jvm.exec) (hZ : Z.Warmed39 s.vm) (hown : s.vm.findClass own = some m.cls) {count : Nat}
    (w1 : (Cond.methodLink own index y).before a0 Z = true) (w2 : (Cond.declares y).before a0 Z = true) (w3 : (Cond.interfaceMethod y.cls y.cls y.name y.desc).before args s = true) (w4 : (Cond.selects C y z).before a0 Z = true) (w5 : (Cond.instanceMethod z).before a0 Z = true)
    (w6 : (Cond.publicMethod z).before a0 Z = true) (w7 : (Cond.unhidden C y.name y.desc).before a0 Z = true) (w8 : (Cond.castable C y.cls).before a0 Z = true) (w9 : (Cond.initialized z.cls).before a0 Z = true) (w10 : (Cond.code z bytes maxL ret).before a0 Z = true)
    (hy : y.cls ≠ "java/lang/invoke/MethodHandle" ∧ y.cls ≠ "java/lang/invoke/VarHandle") (hM : Con l Z z bytes maxL ret [] rm as' h Q) (eT : T.heap = h) {a : Addr} (E : Exa Z h a C)
    {g : JFrame} (hg : g.method = m) (hsize : g.locals.size = c.maxLocals) {argsL rest : List Value} (hlen : ∀ sig, parseMethodDescriptor y.desc = some sig → argsL.length = sig.parameters.length) (hstack : g.stack = argsL.reverse ++ .ref a :: rest) (ha : (.ref a :: argsL).toArray = as')
    (hW : 2 * g.monitorRoom + (rest.map fun v => v.category).sum ≤ W) (hf : rm.frames + 1 ≤ R.frames) (hl : W + (maxL + 11) + rm.locals ≤ R.locals)
    (hdg : decode c.code g.pc = .ok (.invokeinterface index count, 5)) (hc : cells + rm.cells ≤ R.cells) (hs : slots + rm.slots ≤ R.slots) :
    ∃ v T' L, Stand p l e R s m args below meth c T' (locs ++ L) (cells + rm.cells) (slots + rm.slots) ∧ Q v T'.heap L ∧
      ∀ t, Steps p.tables e below (T'.setTop { g with pc := g.pc + 5, stack := v.toList ++ rest }) t → Steps p.tables e below (T.setTop g) t := by
  obtain ⟨cB, kB, q1, q2, q3⟩ := isOf hZ eT E
  obtain ⟨v, _, ⟨T', L', k', n'⟩, -, X', ⟨L, hQ, l', y', z'⟩, st⟩ := X.interfaceBack hx (xi := y) (y := z) hown (mvT hZ w1) (mvT hZ w2) w3 (mvT hZ w4) (mvT hZ w5) (mvT hZ w6) (mvT hZ w7) (mvT hZ w8) hy (backOf (W := W) hM hZ w10 w9 hf hl) q1 q2 q3 hg hsize (Steps.refl _) hlen hstack hW hdg (fun _ _ => ⟨ha, eT, hc, hs⟩)
  dsimp only [Pt.U, Pt.locs, Pt.cells, Pt.slots] at X' l' y' z' st hQ
  subst l' y' z'
  exact ⟨v, T', L, X', hQ, fun t k => st.trans k⟩
theorem own_private (X : Stand p l e R s m args below meth c T locs cells slots) (hx : p.tables.exec = Jvm.exec) (hZ : Z.Warmed39 s.vm) (hown : s.vm.findClass own = some m.cls)
    (w1 : (Cond.methodLink own index y).before a0 Z = true) (w2 : (Cond.instanceMethod y).before a0 Z = true) (w3 : (Cond.selects y.cls y y).before a0 Z = true) (hp : s.PrivateAt y) (w5 : (Cond.initialized y.cls).before a0 Z = true) (w6 : (Cond.code y bytes maxL ret).before a0 Z = true)
    (hy : y.cls ≠ "java/lang/invoke/MethodHandle" ∧ y.cls ≠ "java/lang/invoke/VarHandle") (hM : Con l Z y bytes maxL ret [] rm as' h Q) (eT : T.heap = h) {a : Addr} (E : Exa Z h a C)
    {g : JFrame} (hg : g.method = m) (hsize : g.locals.size = c.maxLocals) {argsL rest : List Value} (hlen : ∀ sig, parseMethodDescriptor y.desc = some sig → argsL.length = sig.parameters.length) (hstack : g.stack = argsL.reverse ++ .ref a :: rest) (ha : (.ref a :: argsL).toArray = as')
    (hW : 2 * g.monitorRoom + (rest.map fun v => v.category).sum ≤ W) (hf : rm.frames + 1 ≤ R.frames) (hl : W + (maxL + 11) + rm.locals ≤ R.locals)
    (hdg : decode c.code g.pc = .ok (.invokevirtual index, 3)) (hc : cells + rm.cells ≤ R.cells) (hs : slots + rm.slots ≤ R.slots) :
    ∃ v T' L, Stand p l e R s m args below meth c T' (locs ++ L) (cells + rm.cells) (slots + rm.slots) ∧ Q v T'.heap L ∧
      ∀ t, Steps p.tables e below (T'.setTop { g with pc := g.pc + 3, stack := v.toList ++ rest }) t → Steps p.tables e below (T.setTop g) t := by
  obtain ⟨cq, q1, q2⟩ := E.cell
  obtain ⟨v, _, ⟨T', L', k', n'⟩, -, X', ⟨L, hQ, l', y', z'⟩, st⟩ := X.privateBack hx (y := y) hown (mvT hZ w1) (mvT hZ w2) (mvT hZ w3) hp (mvT hZ w6) hy (backOf (W := W) hM hZ w6 w5 hf hl) hg hsize (Steps.refl _) (a := a) (by rw [eT]; exact q1) q2 hlen hstack hW hdg (fun _ _ => ⟨ha, eT, hc, hs⟩)
  dsimp only [Pt.U, Pt.locs, Pt.cells, Pt.slots] at X' l' y' z' st hQ
  subst l' y' z'
  exact ⟨v, T', L, X', hQ, fun t k => st.trans k⟩
/-- a call that left the heap as it was -/
theorem own_pure {w : Option Value} {g : JFrame} {g' : Option Value → JFrame} (q : ∃ v T' L, Stand p l e R s m args below meth c T' (locs ++ L) (cells + rm.cells) (slots + rm.slots) ∧ Pur w h v T'.heap L ∧ ∀ t, Steps p.tables e below (T'.setTop (g' v)) t → Steps p.tables e below (T.setTop g) t)
    (hc : rm.cells = 0 := by rfl) (hs : rm.slots = 0 := by rfl) : ∃ T', Stand p l e R s m args below meth c T' locs cells slots ∧ T'.heap = h ∧ ∀ t, Steps p.tables e below (T'.setTop (g' w)) t → Steps p.tables e below (T.setTop g) t := by
  obtain ⟨v, T', L, X', ⟨rfl, rfl, hh⟩, st⟩ := q
  rw [List.append_nil, hc, hs] at X'
  exact ⟨T', X', hh, st⟩
end Calls
section Facts
variable {Z : State} {h h' : Heap} {a b : Addr} {C n d : String} {v : Value} {n0 : Nat}
theorem Old.le (O : Old Z n0 h) : n0 ≤ h.size := O.1 ▸ O.2.1
end Facts
end Jvm.OwnKit
namespace Jvm.OwnKit
open Jvm Jvm.ClassFile Sem Op Lib Jvm.Free Jvm.Stand Jvm.LawKit Jvm.RoadKit
section Arrays
variable {p : Program} {l : Launch} {e : Env} {R : Room} {s : State} {m : MethodId} {args : Array Value} {below : List Frame} {meth : Method} {c : Code} {T : State} {locs : List Loc} {cells slots : Nat} {Z : State} {h : Heap}
theorem own_alen (X : Stand p l e R s m args below meth c T locs cells slots) (hx : p.tables.exec = Jvm.exec) (hZ : Z.Warmed39 s.vm) (eT : T.heap = h) {a : Addr} {cl : Cell} {ty : FieldType} {z : Int32} (A : Arr Z h a cl ty) (S : cl.slots.size = z.toNatClampNeg) (M : ¬ z < 0)
    {g : JFrame} (hg : g.method = m) {rest : List Value} (hs : g.stack = .ref a :: rest) (hd : decode c.code g.pc = .ok (.arraylength, 1)) :
    ∀ t, Steps p.tables e below (T.setTop { g with pc := g.pc + 1, stack := .int z :: rest }) t → Steps p.tables e below (T.setTop g) t := fun t k =>
  X.arraylength hx (by rw [eT]; exact A.1) (State.isArrayOf_alike hZ.alike A.2.1) hg hs hd _ (by rw [len_of S M]; exact k)
end Arrays
end Jvm.OwnKit
namespace Jvm.OwnKit
open Jvm Jvm.ClassFile Sem Op Lib Jvm.Free Jvm.Stand Jvm.LawKit Jvm.RoadKit
theorem Ins.keep {Z : State} {h h' : Heap} {a : Addr} {C : String} {b : Bool} {ws : List Addr} (F : Ins Z h a C b) (K : Keep h h' ws) : Ins Z h' a C b := by
  obtain ⟨cell, cT, h1, h2, h3⟩ := F
  obtain ⟨c', e1, e2, e3, -⟩ := K.2.2 _ _ h1
  exact ⟨c', cT, e1, h2, by rw [e2, e3]; exact h3⟩
theorem cat1_of {v : Value} (h : v.isRef = true) : v.category = 1 := by
  rcases ref_cases h with rfl | ⟨a, rfl⟩ <;> rfl
theorem fits_refv {t : FieldType} {v : Value} (h : v.isRef = true) (ht : t.isReference = true) : fits t v = true := by
  rcases ref_cases h with rfl | ⟨a, rfl⟩ <;> cases t <;> first | rfl | cases ht
section Bounds
variable {x y a b c d : Int32}
theorem bnd_ite {c : Prop} [Decidable c] {a b lo hi : Int32} (ha : ¬ a < lo ∧ ¬ hi < a) (hb : ¬ b < lo ∧ ¬ hi < b) : ¬ (if c then a else b) < lo ∧ ¬ hi < (if c then a else b) := by
  split
  · exact ha
  · exact hb
theorem bnd_and (x m : Int32) (h : 0 ≤ m.toInt) : ¬ (x &&& m) < (0 : Int32) ∧ ¬ m < (x &&& m) := by
  have q := c_and x m h
  have e : (0 : Int32).toInt = 0 := rfl
  rw [Int32.lt_iff_toInt_lt, Int32.lt_iff_toInt_lt, e]; omega
theorem bnd_and' (x m : Int32) (h : 0 ≤ m.toInt) : ¬ (m &&& x) < (0 : Int32) ∧ ¬ m < (m &&& x) := by
  have q := c_and' m x h
  have e : (0 : Int32).toInt = 0 := rfl
  rw [Int32.lt_iff_toInt_lt, Int32.lt_iff_toInt_lt, e]; omega
theorem bnd_mono (h : ¬ x < a ∧ ¬ b < x) (h1 : c.toInt ≤ a.toInt) (h2 : b.toInt ≤ d.toInt) : ¬ x < c ∧ ¬ d < x := by
  simp only [Int32.lt_iff_toInt_lt] at *; omega
theorem bnd_lt (h : ¬ x < a ∧ ¬ b < x) (k : ¬ y < c ∧ ¬ d < y) (q : b.toInt < c.toInt) : x < y := by
  simp only [Int32.lt_iff_toInt_lt] at *; omega
theorem bnd_nlt (h : ¬ x < a ∧ ¬ b < x) (k : ¬ y < c ∧ ¬ d < y) (q : d.toInt ≤ a.toInt) : ¬ x < y := by
  simp only [Int32.lt_iff_toInt_lt] at *; omega
theorem bnd_ne (h : ¬ x < a ∧ ¬ b < x) (k : ¬ y < c ∧ ¬ d < y) (q : b.toInt < c.toInt ∨ d.toInt < a.toInt) : ¬ x = y := by
  intro e; subst e
  simp only [Int32.lt_iff_toInt_lt] at *; omega
theorem bnd_rem (h : ¬ x < a ∧ ¬ b < x) (h1 : 0 ≤ a.toInt) (h2 : 0 < y.toInt) : ¬ (x % y) < (0 : Int32) ∧ ¬ (y - 1) < (x % y) := by
  have q := (c_iremV x y).1
  have e : (0 : Int32).toInt = 0 := rfl
  have e1 := c_isub y 1
  have e2 : (1 : Int32).toInt = 1 := rfl
  have r := rng32 y
  have r2 := rng32 (y - 1)
  simp only [Int32.lt_iff_toInt_lt, e] at *
  have h0 : 0 ≤ x.toInt := by omega
  have q := q h0 h2
  omega
theorem bnd_add {lo hi : Int32} (h : ¬ x < a ∧ ¬ b < x) (k : ¬ y < c ∧ ¬ d < y) (q1 : lo.toInt = a.toInt + c.toInt) (q2 : hi.toInt = b.toInt + d.toInt) (q3 : -2147483648 ≤ a.toInt + c.toInt) (q4 : b.toInt + d.toInt < 2147483648) : ¬ (x + y) < lo ∧ ¬ hi < (x + y) := by
  have e := c_iadd x y
  have r := rng32 (x + y)
  simp only [Int32.lt_iff_toInt_lt] at *
  omega
theorem bnd_sub {lo hi : Int32} (h : ¬ x < a ∧ ¬ b < x) (k : ¬ y < c ∧ ¬ d < y) (q1 : lo.toInt = a.toInt - d.toInt) (q2 : hi.toInt = b.toInt - c.toInt) (q3 : -2147483648 ≤ a.toInt - d.toInt) (q4 : b.toInt - c.toInt < 2147483648) : ¬ (x - y) < lo ∧ ¬ hi < (x - y) := by
  have e := c_isub x y
  have r := rng32 (x - y)
  simp only [Int32.lt_iff_toInt_lt] at *
  omega
theorem bnd_ushr (x : Int32) {q hi : Int32} {k : Nat} (hk : q.toBitVec.toNat % 32 = k ∧ 0 < k) (hh : hi.toInt = 4294967296 / (2 ^ k : Nat) - 1) : ¬ ((x.toUInt32 >>> (q &&& 31).toUInt32).toInt32) < (0 : Int32) ∧ ¬ hi < ((x.toUInt32 >>> (q &&& 31).toUInt32).toInt32) := by
  have e := c_iushr x q k hk.1 hk.2
  have e0 : (0 : Int32).toInt = 0 := rfl
  simp only [Int32.lt_iff_toInt_lt, e, hh, e0]
  have p : (0 : Int) < (2 ^ k : Nat) := by exact_mod_cast Nat.two_pow_pos k
  have m0 := Int.emod_nonneg x.toInt (show (4294967296 : Int) ≠ 0 by decide)
  have m1 := Int.emod_lt_of_pos x.toInt (show (0 : Int) < 4294967296 by decide)
  have d0 := Int.ediv_nonneg m0 (Int.le_of_lt p)
  have hk32 : k < 32 := by rw [← hk.1]; exact Nat.mod_lt _ (by decide)
  have dd : (4294967296 : Int) = (2 ^ (32 - k) : Nat) * (2 ^ k : Nat) := by
    rw [← Int.natCast_mul, ← Nat.pow_add, Nat.sub_add_cancel (Nat.le_of_lt hk32)]; rfl
  have d1 : x.toInt % 4294967296 / (2 ^ k : Nat) < (2 ^ (32 - k) : Nat) := by
    apply Int.ediv_lt_of_lt_mul p; rw [← dd]; exact m1
  have d2 : (4294967296 : Int) / (2 ^ k : Nat) = (2 ^ (32 - k) : Nat) := by
    rw [dd]; exact Int.mul_ediv_cancel _ (by omega)
  omega
theorem bnd_i2c (x : Int32) : ¬ (x.toUInt32.toUInt16.toUInt32.toInt32) < (0 : Int32) ∧ ¬ (65535 : Int32) < (x.toUInt32.toUInt16.toUInt32.toInt32) := by
  have q := c_i2c x
  have e : (0 : Int32).toInt = 0 := rfl
  have e1 : (65535 : Int32).toInt = 65535 := rfl
  simp only [Int32.lt_iff_toInt_lt, e, e1]; omega
theorem bnd_i2b (x : Int32) : ¬ (x.toInt8.toInt32) < (-128 : Int32) ∧ ¬ (127 : Int32) < (x.toInt8.toInt32) := by
  have q := c_i2b x
  have e : (-128 : Int32).toInt = -128 := rfl
  have e1 : (127 : Int32).toInt = 127 := rfl
  simp only [Int32.lt_iff_toInt_lt, e, e1]; omega
theorem i2c_id (h : ¬ x < a ∧ ¬ b < x) (h1 : 0 ≤ a.toInt) (h2 : b.toInt ≤ 65535) : x.toUInt32.toUInt16.toUInt32.toInt32 = x := by
  have q := c_i2c x
  simp only [Int32.lt_iff_toInt_lt] at h
  apply Int32.toInt_inj.mp; omega
theorem i2b_id (h : ¬ x < a ∧ ¬ b < x) (h1 : -128 ≤ a.toInt) (h2 : b.toInt ≤ 127) : x.toInt8.toInt32 = x := by
  have q := c_i2b x
  simp only [Int32.lt_iff_toInt_lt] at h
  apply Int32.toInt_inj.mp; omega
theorem bnd_lit (k : Int32) : ¬ k < k ∧ ¬ k < k := by
  simp only [Int32.lt_iff_toInt_lt]; omega
theorem bnd_all (x : Int32) : ¬ x < (-2147483648 : Int32) ∧ ¬ (2147483647 : Int32) < x := by
  have r := rng32 x
  have e1 : (-2147483648 : Int32).toInt = -2147483648 := rfl
  have e2 : (2147483647 : Int32).toInt = 2147483647 := rfl
  simp only [Int32.lt_iff_toInt_lt, e1, e2]; omega
theorem bnd_up (h : c < x) (q : d.toInt = c.toInt + 1) : ¬ x < d := by
  simp only [Int32.lt_iff_toInt_lt] at *; omega
theorem bnd_dn (h : x < c) (q : d.toInt = c.toInt - 1) : ¬ d < x := by
  simp only [Int32.lt_iff_toInt_lt] at *; omega
theorem bnd_eql (h : x = c) : ¬ x < c := by
  subst h; simp only [Int32.lt_iff_toInt_lt]; omega
theorem bnd_eqr (h : x = c) : ¬ c < x := by
  subst h; simp only [Int32.lt_iff_toInt_lt]; omega
theorem bnd_nel (h : ¬ x < c) (k : ¬ x = c) (q : d.toInt = c.toInt + 1) : ¬ x < d := by
  rw [← Int32.toInt_inj] at k; simp only [Int32.lt_iff_toInt_lt] at *; omega
theorem bnd_ner (h : ¬ c < x) (k : ¬ x = c) (q : d.toInt = c.toInt - 1) : ¬ d < x := by
  rw [← Int32.toInt_inj] at k; simp only [Int32.lt_iff_toInt_lt] at *; omega
theorem bnd_fix (h : ¬ x < c ∧ ¬ c < x) : x = c := by
  rw [← Int32.toInt_inj]; simp only [Int32.lt_iff_toInt_lt] at *; omega
theorem nar_char_id (h : ¬ x < a ∧ ¬ b < x) (h1 : 0 ≤ a.toInt) (h2 : b.toInt ≤ 65535) : nar .char x = x := i2c_id h h1 h2
theorem nar_byte_id (h : ¬ x < a ∧ ¬ b < x) (h1 : -128 ≤ a.toInt) (h2 : b.toInt ≤ 127) : nar .byte x = x := i2b_id h h1 h2
theorem nar_i2c (x : Int32) : nar .char (x.toUInt32.toUInt16.toUInt32.toInt32) = x.toUInt32.toUInt16.toUInt32.toInt32 := nar_char_id (bnd_i2c x) (by decide) (by decide)
theorem nar_i2b (x : Int32) : nar .byte (x.toInt8.toInt32) = x.toInt8.toInt32 := nar_byte_id (bnd_i2b x) (by decide) (by decide)
theorem nar_bool_id (h : ¬ x < a ∧ ¬ b < x) (h1 : 0 ≤ a.toInt) (h2 : b.toInt ≤ 1) : nar .boolean x = x := by
  simp only [Int32.lt_iff_toInt_lt] at h
  have hx : x.toInt = 0 ∨ x.toInt = 1 := by omega
  rcases hx with q | q
  · have : x = 0 := Int32.toInt_inj.mp q
    subst this; rfl
  · have : x = 1 := Int32.toInt_inj.mp q
    subst this; rfl
end Bounds
theorem Wr.to {h h' : Heap} {a : Addr} {sl : Nat} {v w : Value} (W : Wr h h' a sl v) (q : v = w) : Wr h h' a sl w := q ▸ W
theorem fits_char_b {x a b : Int32} (h : ¬ x < a ∧ ¬ b < x) (h1 : 0 ≤ a.toInt) (h2 : b.toInt ≤ 65535) : fits .char (.int x) = true := by
  have q := fits_nar_char x
  rw [nar_char_id h h1 h2] at q; exact q
theorem fits_byte_b {x a b : Int32} (h : ¬ x < a ∧ ¬ b < x) (h1 : -128 ≤ a.toInt) (h2 : b.toInt ≤ 127) : fits .byte (.int x) = true := by
  have q := fits_nar_byte x
  rw [i2b_id h h1 h2] at q; exact q
/-- null, or an object of exactly that class -/
def Nul (Z : State) (h : Heap) (x : Value) (C : String) : Prop := x = .null ∨ ∃ a, x = .ref a ∧ Exa Z h a C
section Nulls
variable {Z : State} {h h' : Heap} {x : Value} {C : String}
theorem Nul.null (Z : State) (h : Heap) (C : String) : Nul Z h .null C := Or.inl rfl
theorem Nul.of {a : Addr} (E : Exa Z h a C) : Nul Z h (.ref a) C := Or.inr ⟨a, rfl, E⟩
theorem Nul.ext (N : Nul Z h x C) (E : Ext h h') : Nul Z h' x C := N.imp id fun ⟨a, e, F⟩ => ⟨a, e, F.ext E⟩
theorem Nul.wr {a : Addr} {sl : Nat} {v : Value} (N : Nul Z h x C) (W : Wr h h' a sl v) : Nul Z h' x C := N.imp id fun ⟨a, e, F⟩ => ⟨a, e, F.wr W⟩
theorem Nul.keep {ws : List Addr} (N : Nul Z h x C) (K : Keep h h' ws) : Nul Z h' x C := N.imp id fun ⟨a, e, F⟩ => ⟨a, e, F.keep K⟩
theorem Nul.isRef (N : Nul Z h x C) : x.isRef = true := by rcases N with rfl | ⟨a, rfl, -⟩ <;> rfl
theorem Sto.ofN {a : Addr} {c : Cell} {ty : FieldType} {k : ClassId} {K : String} (A : Arr Z h a c ty) (q : c.cls = k) (O : Ovr Z k K) (N : Nul Z h x C) (f : ∀ {y : Addr}, Exa Z h y C → Ins Z h y K true) : Sto Z h a x := by
  rcases N with rfl | ⟨y, rfl, E⟩
  · exact Or.inl rfl
  · exact Sto.ofV A q O (f E)
end Nulls
section NotSub
variable {Z : State} {a0 : Array Value} {C S O K : String} {nn : Nat}
theorem own_ns_root (w : (Jvm.Cond.noSuperclass O).before a0 Z = true) (wk : (Jvm.Cond.instantiable K nn).before a0 Z = true) (hn : O ≠ K) : NS Z O K := by
  obtain ⟨c, k, h1, h2, h3, -, -⟩ := Cond.noSuperclass_spec w
  obtain ⟨t, kt, g1, -⟩ := Cond.instantiable_spec wk
  have ne := ids_ne h1 g1 hn
  refine ⟨c, t, h1, g1, fun fuel => ?_⟩
  cases fuel with
  | zero => rfl
  | succ f => simp [Vm.isSubclassAux, ne, h2, h3]
theorem own_ns_no (w : (Jvm.Cond.superclass C S).before a0 Z = true) (wk : (Jvm.Cond.instantiable K nn).before a0 Z = true) (n : NS Z C K) (hn : C ≠ K) : ∃ c t, Z.vm.findClass C = some c ∧ Z.vm.findClass K = some t ∧ Z.vm.assignable c t = false := by
  obtain ⟨c, t, h0, g0, n3⟩ := n
  obtain ⟨p, k, kp, h1, h2, h3, h4, h5, -, h7⟩ := Cond.superclass_spec h0 w
  obtain ⟨t', kt, g1, g2, g3, g4, -⟩ := Cond.instantiable_spec wk
  cases g0.symm.trans g1
  have ne := ids_ne h0 g0 hn
  have g5 : kt.isInterface = false := by simp only [Bool.or_eq_false_iff] at g4; exact g4.1
  refine ⟨c, t, h0, g0, ?_⟩
  show Z.vm.assignableAux (255 + 1) c t = false
  simp [Vm.assignableAux, ne, h2, g2, h5, g3, g5, Vm.isSubclass, n3]
end NotSub
theorem Fld.to {Z : State} {h : Heap} {a : Addr} {C n d : String} {v w : Value} (F : Fld Z h a C n d v) (q : v = w) : Fld Z h a C n d w := q ▸ F
end Jvm.OwnKit
namespace Jvm.OwnKit
open Jvm Jvm.ClassFile Sem Op Lib Bundle Jvm.Free Jvm.Stand Jvm.LawKit Jvm.RoadKit
section Cold
variable {p : Program} {l : Launch} {e : Env} {R : Room} {s : State} {m : MethodId} {args : Array Value} {below : List Frame} {meth : Method} {c : Code} {T : State} {locs : List Loc} {cells slots k n : Nat} {Z : State} {a0 : Array Value} {h h' : Heap} {y z : MethodName} {bytes : ByteArray} {maxL : Nat} {rt : Option FieldType} {rm : Room} {W : Nat} {as' : Array Value} {Q : Option Value → Heap → List Loc → Prop} {own C : String} {index : Nat} {EL : List (String × Nat)} {vm0 vm1 : Vm} {xs : List Addr}
/-- what a walk that may book texts knows of its tables: they came of the start's, what is booked of EL is read, xs are none of the booked cells -/
def Cold (Z : State) (EL : List (String × Nat)) (s : State) (xs : List Addr) (vm0 : Vm) (h : Heap) : Prop := (∃ k0, s.Since vm0 k0 ∧ k0 ≤ h.size) ∧ CHr Z EL s.vm s.heap vm0 h ∧ ∀ x ∈ xs, Safe Z EL vm0 h x ∧ x < h.size
theorem Cold.go (H : Cold Z EL s xs vm0 h) (hs : ∃ k0, s.Since vm1 k0 ∧ k0 ≤ h'.size) (q : CHr Z EL vm0 h vm1 h') : Cold Z EL s xs vm1 h' :=
  ⟨hs, H.2.1.trans q, fun x hx => ⟨q.safe (H.2.2 x hx).2 (H.2.2 x hx).1, Nat.lt_of_lt_of_le (H.2.2 x hx).2 q.2.1⟩⟩
theorem Cold.same (H : Cold Z EL s xs vm0 h) (q : CHr Z EL vm0 h vm0 h') : Cold Z EL s xs vm0 h' := H.go (by obtain ⟨⟨k0, a, b⟩, -⟩ := H; exact ⟨k0, a, Nat.le_trans b q.2.1⟩) q
theorem Cold.ext (H : Cold Z EL s xs vm0 h) (E : Ext h h') : Cold Z EL s xs vm0 h' := H.same (CHr.ext E H.2.1.1)
theorem Cold.keep {ws : List Addr} (H : Cold Z EL s xs vm0 h) (K : Keep h h' ws) (hs : ∀ x ∈ ws, Safe Z EL vm0 h x) : Cold Z EL s xs vm0 h' := H.same (CHr.keep K hs H.2.1.1)
theorem Cold.wr {a : Addr} {sl : Nat} {v : Value} (H : Cold Z EL s xs vm0 h) (w : Wr h h' a sl v) (S : Safe Z EL vm0 h a) : Cold Z EL s xs vm0 h' := H.same (CHr.wr w S H.2.1.1)
theorem Cold.add {b : Addr} (H : Cold Z EL s xs vm0 h) (E : Ext h h') (hb : h.size ≤ b) (hb' : b < h'.size) : Cold Z EL s (b :: xs) vm0 h' := by
  have H' := H.ext E
  refine ⟨H'.1, H'.2.1, fun x hx => ?_⟩
  rcases List.mem_cons.mp hx with rfl | hx
  · exact ⟨Safe.ext E H.2.1.1 (Safe.new hb), hb'⟩
  · exact H'.2.2 x hx
theorem Cold.safe {x : Addr} (H : Cold Z EL s xs vm0 h) (hx : x ∈ xs) : Safe Z EL vm0 h x := (H.2.2 x hx).1
theorem Cold.start (H : CHv Z EL s.vm s.heap) : Cold Z EL s [] s.vm s.heap := ⟨⟨_, (State.WarmedH.refl s).since _, Nat.le_refl _⟩, CHr.refl H, fun _ hx => nomatch hx⟩
theorem own_safe0 {vm : Vm} {x : Addr} : Safe Z [] vm h x := fun ⟨_, hp, _⟩ => nomatch hp
theorem own_chv0 {vm : Vm} : CHv Z [] vm h := fun _ hp => nomatch hp
/-- the contract of a body that may book texts -/
abbrev ConW (l : Launch) (Z : State) (EL : List (String × Nat)) (xs : List Addr) (y : MethodName) (bytes : ByteArray) (maxL : Nat) (rt : Option FieldType) (ws : List Jvm.Cond) (rm : Room) (as' : Array Value) (h : Heap) (Q : Option Value → Heap → List Loc → Prop) : Prop :=
  MetFree l y (head1 (Jvm.Cond.code y bytes maxL rt :: ws) rm) (fun a U => a = as' ∧ Z.Warmed39 U.vm ∧ U.heap = h ∧ CHv Z EL U.vm h ∧ ∀ x ∈ xs, Safe Z EL U.vm h x ∧ x < h.size) (fun _ _ _ _ _ => True) (fun _ U o U' => ∃ v L, o = .returned v ∧ Q v U'.heap L ∧ CHr Z EL U.vm U.heap U'.vm U'.heap ∧ ReturnedEndW U o U' L rm.cells rm.slots)
abbrev EndW (s : State) (Z : State) (EL : List (String × Nat)) (Q : Option Value → Heap → List Loc → Prop) (k n : Nat) : Option Value → State → List Loc → Prop := fun v U L => Q v U.heap L ∧ CHr Z EL s.vm s.heap U.vm U.heap ∧ ReturnedEndW s (.returned v) U L k n
theorem retW_mono {o : Outcome} {t : State} {L : List Loc} {k n k' n' : Nat} (h : ReturnedEndW s o t L k n) (hk : k ≤ k') (hn : n ≤ n') : ReturnedEndW s o t L k' n' := ⟨h.1, h.2.1, h.2.2.1, h.2.2.2.mono hk hn⟩
theorem HomeW.retN (X : Stand p l e R (s.setVm vm0) m args below meth c T locs cells slots) (hx : p.tables.exec = Jvm.exec) (hlk : meth.locks = false) (hZ : Z.Warmed39 (s.setVm vm0).vm) (hEL : EW Z a0 EL) (eT : T.heap = h) (H : Cold Z EL s xs vm0 h)
    {pc : Nat} {Ls : Array Slot} {z : Int32} {t : FieldType} {rest : List Value} (hret : meth.sig.returnType = some t) (ht : t = .boolean ∨ t = .byte ∨ t = .char ∨ t = .short)
    (hd : decode c.code pc = .ok (.ireturn, 1)) (hQ : Q (some (.int (nar t z))) T.heap locs) (hk : cells ≤ k) (hn : slots ≤ n) : @Home p e below (EndW s Z EL Q k n) T (mkF m pc Ls (.int z :: rest)) := by
  subst eT
  obtain ⟨⟨k0, hS, hk0⟩, CR, -⟩ := H
  obtain ⟨fs, hr, hrun, hended, hW⟩ := X.leaveW hS hk0 (v := some (.int (nar t z))) (fun h => by rw [hret] at h; cases h) hlk
  have q : CHr Z EL s.vm s.heap T.vm T.heap := CR.trans (CHv.at X hZ hEL CR.1)
  exact ⟨_, _, Jvm.RoadKit.retN X hx hret ht hd hr, hrun, hended, _, _, rfl, hQ, q, retW_mono hW hk hn⟩
theorem HomeW.ret (X : Stand p l e R (s.setVm vm0) m args below meth c T locs cells slots) (hx : p.tables.exec = Jvm.exec) (hlk : meth.locks = false) (hZ : Z.Warmed39 (s.setVm vm0).vm) (hEL : EW Z a0 EL) (eT : T.heap = h) (H : Cold Z EL s xs vm0 h)
    {pc : Nat} {Ls : Array Slot} {w : Value} {t : FieldType} {i : Instr} {rest : List Value} (hret : meth.sig.returnType = some t) (hnn : narrow t w = w)
    (hi : (i = .ireturn ∧ (t = .int ∨ t = .boolean ∨ t = .byte ∨ t = .char ∨ t = .short) ∧ ∃ z, w = .int z) ∨ (i = .lreturn ∧ t = .long ∧ ∃ z, w = .long z) ∨ (i = .dreturn ∧ t = .double ∧ ∃ z, w = .double z) ∨ (i = .freturn ∧ t = .float ∧ ∃ z, w = .float z) ∨ (i = .areturn ∧ t.isReference = true ∧ w.isRef = true))
    (hd : decode c.code pc = .ok (i, 1)) (hQ : Q (some w) T.heap locs) (hk : cells ≤ k) (hn : slots ≤ n) : @Home p e below (EndW s Z EL Q k n) T (mkF m pc Ls (w :: rest)) := by
  subst eT
  obtain ⟨⟨k0, hS, hk0⟩, CR, -⟩ := H
  obtain ⟨fs, hr, hrun, hended, hW⟩ := X.leaveW hS hk0 (v := some w) (fun h => by rw [hret] at h; cases h) hlk
  have q : CHr Z EL s.vm s.heap T.vm T.heap := CR.trans (CHv.at X hZ hEL CR.1)
  exact ⟨_, _, retOut X hx hret hnn hi hd hr, hrun, hended, _, _, rfl, hQ, q, retW_mono hW hk hn⟩
theorem HomeW.retI (X : Stand p l e R (s.setVm vm0) m args below meth c T locs cells slots) (hx : p.tables.exec = Jvm.exec) (hlk : meth.locks = false) (hZ : Z.Warmed39 (s.setVm vm0).vm) (hEL : EW Z a0 EL) (eT : T.heap = h) (H : Cold Z EL s xs vm0 h)
    {pc : Nat} {Ls : Array Slot} {z : Int32} {rest : List Value} (hret : meth.sig.returnType = some .int)
    (hd : decode c.code pc = .ok (.ireturn, 1)) (hQ : Q (some (.int z)) T.heap locs) (hk : cells ≤ k) (hn : slots ≤ n) : @Home p e below (EndW s Z EL Q k n) T (mkF m pc Ls (.int z :: rest)) := HomeW.ret X hx hlk hZ hEL eT H hret rfl (Or.inl ⟨rfl, Or.inl rfl, _, rfl⟩) hd hQ hk hn
theorem HomeW.retJ (X : Stand p l e R (s.setVm vm0) m args below meth c T locs cells slots) (hx : p.tables.exec = Jvm.exec) (hlk : meth.locks = false) (hZ : Z.Warmed39 (s.setVm vm0).vm) (hEL : EW Z a0 EL) (eT : T.heap = h) (H : Cold Z EL s xs vm0 h)
    {pc : Nat} {Ls : Array Slot} {z : Int64} {rest : List Value} (hret : meth.sig.returnType = some .long)
    (hd : decode c.code pc = .ok (.lreturn, 1)) (hQ : Q (some (.long z)) T.heap locs) (hk : cells ≤ k) (hn : slots ≤ n) : @Home p e below (EndW s Z EL Q k n) T (mkF m pc Ls (.long z :: rest)) := HomeW.ret X hx hlk hZ hEL eT H hret rfl (Or.inr (Or.inl ⟨rfl, rfl, _, rfl⟩)) hd hQ hk hn
theorem HomeW.retR (X : Stand p l e R (s.setVm vm0) m args below meth c T locs cells slots) (hx : p.tables.exec = Jvm.exec) (hlk : meth.locks = false) (hZ : Z.Warmed39 (s.setVm vm0).vm) (hEL : EW Z a0 EL) (eT : T.heap = h) (H : Cold Z EL s xs vm0 h)
    {pc : Nat} {Ls : Array Slot} {w : Value} {t : FieldType} {rest : List Value} (hret : meth.sig.returnType = some t) (ht : t.isReference = true) (hw : w.isRef = true)
    (hd : decode c.code pc = .ok (.areturn, 1)) (hQ : Q (some w) T.heap locs) (hk : cells ≤ k) (hn : slots ≤ n) : @Home p e below (EndW s Z EL Q k n) T (mkF m pc Ls (w :: rest)) := HomeW.ret X hx hlk hZ hEL eT H hret (own_narrow_ref hw) (Or.inr (Or.inr (Or.inr (Or.inr ⟨rfl, ht, hw⟩)))) hd hQ hk hn
theorem HomeW.ret0 (X : Stand p l e R (s.setVm vm0) m args below meth c T locs cells slots) (hx : p.tables.exec = Jvm.exec) (hlk : meth.locks = false) (hZ : Z.Warmed39 (s.setVm vm0).vm) (hEL : EW Z a0 EL) (eT : T.heap = h) (H : Cold Z EL s xs vm0 h)
    {pc : Nat} {Ls : Array Slot} (hret : meth.sig.returnType = none)
    (hd : decode c.code pc = .ok (.return_, 1)) (hQ : Q none T.heap locs) (hk : cells ≤ k) (hn : slots ≤ n) : @Home p e below (EndW s Z EL Q k n) T (mkF m pc Ls []) := by
  subst eT
  obtain ⟨⟨k0, hS, hk0⟩, CR, -⟩ := H
  obtain ⟨fs, hr, hrun, hended, hW⟩ := X.leaveW hS hk0 (v := none) (fun _ => rfl) hlk
  have q : CHr Z EL s.vm s.heap T.vm T.heap := CR.trans (CHv.at X hZ hEL CR.1)
  exact ⟨_, _, X.returnOut hx hret hd hr, hrun, hended, _, _, rfl, hQ, q, retW_mono hW hk hn⟩
theorem own_bodyW {ws : List Jvm.Cond} {L0 : Array Slot} (pn : plainFor y = true) (ef : ∀ m, entryFrame m as' maxL = mkF m 0 L0 [])
    (body : ∀ (p : Program) (e : Env) (s : State) (m : MethodId) (below : List Frame) (meth : Method) (c : Code) (s₁ : State), p.tables.exec = Jvm.exec → c.code = bytes → meth.locks = false → c.maxLocals = maxL → meth.sig.returnType = rt → Z.Warmed39 (s.setVm s.vm).vm → (s.setVm s.vm).vm.findClass y.cls = some m.cls → meth.name = y.name →
      Stand p l e rm (s.setVm s.vm) m as' below meth c s₁ [] 0 0 → s₁.heap = h → Cold Z EL s xs s.vm h → @Home p e below (EndW s Z EL Q rm.cells rm.slots) s₁ (mkF m 0 L0 [])) : ConW l Z EL xs y bytes maxL rt ws rm as' h Q := by
  refine MetFree.of_bodySF pn hisR ?_
  intro p e s m args below meth c s₁ Bd hml0 hP hK
  obtain ⟨rfl, hZ, rfl, hH, hxs⟩ := hP
  have hc : Cold Z EL s xs s.vm s.heap := ⟨(Cold.start hH).1, CHr.refl hH, hxs⟩
  have H : @Home p e below (EndW s Z EL Q rm.cells rm.slots) s₁ (entryFrame m args maxL) := Home.enter (ef m) (body p e s m below meth c s₁ Bd.exec Bd.bytes (BodyLoose.notSynchronized Bd) hml0 Bd.returns hZ (findClass_of_methodNamed Bd.named) (name_of_methodNamed Bd.named Bd.method).1 (Stand.of_body Bd) (by rw [Bd.state]; rfl) hc)
  obtain ⟨U, o, h1, h2, h3, v, L, rfl, h4, h5, h6⟩ := H
  exact ⟨U, _, h1, h2, h3, v, L, rfl, h4, h5, h6⟩
theorem own_warmW {U : State} (hZ : Z.Warmed39 (s.setVm vm0).vm) (hS : (s.setVm vm0).Since U.vm n) : Z.Warmed39 (s.setVm U.vm).vm := State.Warmed39.trans (t := s.setVm vm0) hZ hS.1
theorem own_ownW {U : State} (hS : (s.setVm vm0).Since U.vm n) (hown : (s.setVm vm0).vm.findClass own = some m.cls) : (s.setVm U.vm).vm.findClass own = some m.cls := by rw [show (s.setVm U.vm).vm.findClass own = (s.setVm vm0).vm.findClass own from hS.1.alike.findClass _ _]; exact hown
theorem own_backW {len : Nat} (hM : ConW l Z EL xs y bytes maxL rt [] rm as' h Q) (hZ : Z.Warmed39 (s.setVm vm0).vm) (hEL : EW Z a0 EL) (wc : (Cond.code y bytes maxL rt).before a0 Z = true) (wz : (Cond.initialized y.cls).before a0 Z = true) (hf : rm.frames + 1 ≤ R.frames) (hl : W + (maxL + 11) + rm.locals ≤ R.locals) (H : CHv Z EL vm0 h) (hxs : ∀ x ∈ xs, Safe Z EL vm0 h x ∧ x < h.size) :
    BackS l R p e below (s.setVm vm0) args y len W (fun A a => a = as' ∧ A.U.heap = h ∧ A.cells + rm.cells ≤ R.cells ∧ A.slots + rm.slots ≤ R.slots) (fun A _ v B => ∃ L, Q v B.U.heap L ∧ B.locs = A.locs ++ L ∧ B.cells = A.cells + rm.cells ∧ B.slots = A.slots + rm.slots ∧ CHr Z EL vm0 h B.U.vm B.U.heap) := by
  refine BackS.of_freeW (bytes := bytes) (maxL := maxL) (ret := rt) (E := fun _ first o t L k n => k = rm.cells ∧ n = rm.slots ∧ (∃ v, o = .returned v ∧ Q v t.heap L) ∧ CHr Z EL first.vm first.heap t.vm t.heap) hM hf hl ?_ ?_ (fun _ _ _ _ _ _ _ _ _ => trivial) ?_ ?_
  · intro m meth c A a Y hp
    have hU : Z.Warmed39 A.U.vm := wtrans (s := s.setVm vm0) hZ Y.warmed
    exact ⟨by show (Cond.and _ .tt).before a A.U = true; rw [Cond.before_and, mv hU wc]; rfl, mv hU wc, mv hU wz, hp.2.2⟩
  · intro m meth c A a g mk Y hp
    have q := CHv.at Y hZ hEL H
    exact ⟨hp.1, wtrans (s := s.setVm vm0) hZ Y.warmed, hp.2.1, q.1, fun x hx => ⟨q.safe (hxs x hx).2 (hxs x hx).1, (hxs x hx).2⟩⟩
  · rintro _ _ _ _ ⟨v, L, h1, h2, h3, h4⟩
    exact ⟨L, _, _, h4, rfl, rfl, ⟨v, h1, h2⟩, h3⟩
  · intro m meth c A a g mk v t L k n Y hp _ _ hE
    obtain ⟨rfl, rfl, ⟨v', e3, e4⟩, e5⟩ := hE
    cases e3
    have e6 : CHr Z EL A.U.vm h t.vm t.heap := hp.2.1 ▸ e5
    exact ⟨L, e4, rfl, rfl, rfl, (CHv.at Y hZ hEL H).trans e6⟩
theorem own_staticW (X : Stand p l e R (s.setVm vm0) m args below meth c T locs cells slots) (hx : p.tables.exec = Jvm.exec) (hZ : Z.Warmed39 (s.setVm vm0).vm) (hown : (s.setVm vm0).vm.findClass own = some m.cls) (hEL : EW Z a0 EL) {xs0 : List Addr} (H : Cold Z EL s xs0 vm0 h) (hsub : ∀ x ∈ xs, x ∈ xs0)
    (w1 : (Cond.methodLink own index y).before a0 Z = true) (w2 : (Cond.static y).before a0 Z = true) (w3 : (Cond.initialized y.cls).before a0 Z = true) (w4 : (Cond.code y bytes maxL rt).before a0 Z = true)
    (hy : y.cls ≠ "java/lang/invoke/MethodHandle" ∧ y.cls ≠ "java/lang/invoke/VarHandle") (hM : ConW l Z EL xs y bytes maxL rt [] rm as' h Q) (eT : T.heap = h)
    {g : JFrame} (hg : g.method = m) (hsize : g.locals.size = c.maxLocals) {argsL rest : List Value} (hlen : ∀ sig, parseMethodDescriptor y.desc = some sig → argsL.length = sig.parameters.length) (hstack : g.stack = argsL.reverse ++ rest) (ha : argsL.toArray = as')
    (hW : 2 * g.monitorRoom + (rest.map fun v => v.category).sum ≤ W) (hf : rm.frames + 1 ≤ R.frames) (hl : W + (maxL + 11) + rm.locals ≤ R.locals)
    (hdg : decode c.code g.pc = .ok (.invokestatic index, 3)) (hc : cells + rm.cells ≤ R.cells) (hs : slots + rm.slots ≤ R.slots) :
    ∃ v T' L, Stand p l e R (s.setVm T'.vm) m args below meth c T' (locs ++ L) (cells + rm.cells) (slots + rm.slots) ∧ (Q v T'.heap L ∧ Z.Warmed39 (s.setVm T'.vm).vm ∧ (s.setVm T'.vm).vm.findClass own = some m.cls ∧ Cold Z EL s xs0 T'.vm T'.heap) ∧
      ∀ t, Steps p.tables e below (T'.setTop { g with pc := g.pc + 3, stack := v.toList ++ rest }) t → Steps p.tables e below (T.setTop g) t := by
  obtain ⟨v, _, ⟨T', L', k', n'⟩, -, X', hS, hg', ⟨L, hQ, l', y', z', hC⟩, st⟩ := Jvm.RoadKit.callSS X hx (y := y) hown (mvT hZ w1) (mvT hZ w2) (mvT hZ w3) (mvT hZ w4) hy (own_backW (W := W) hM hZ hEL w4 w3 hf hl H.2.1.1 (fun x hx => H.2.2 x (hsub x hx))) hg hsize hlen hstack hW hdg (fun _ _ => ⟨ha, eT, hc, hs⟩)
  dsimp only [Pt.U, Pt.locs, Pt.cells, Pt.slots] at X' l' y' z' st hQ hS hg' hC
  subst l' y' z'
  exact ⟨v, T', L, X', ⟨hQ, own_warmW hZ hS, own_ownW hS hown, H.go (by obtain ⟨⟨k0, a, b⟩, -⟩ := H; exact ⟨_, Jvm.RoadKit.foldS (T := T) a (by rw [eT]; exact b) hS hg', Nat.le_refl _⟩) hC⟩, fun t k => st.trans k⟩
theorem own_specialW (X : Stand p l e R (s.setVm vm0) m args below meth c T locs cells slots) (hx : p.tables.exec = Jvm.exec) (hZ : Z.Warmed39 (s.setVm vm0).vm) (hown : (s.setVm vm0).vm.findClass own = some m.cls) (hEL : EW Z a0 EL) {xs0 : List Addr} (H : Cold Z EL s xs0 vm0 h) (hsub : ∀ x ∈ xs, x ∈ xs0) (hy1 : y.name = "<init>")
    (w1 : (Cond.methodLink own index y).before a0 Z = true) (w2 : (Cond.instanceMethod y).before a0 Z = true) (w3 : (Cond.initialized y.cls).before a0 Z = true) (w4 : (Cond.code y bytes maxL none).before a0 Z = true)
    (hy : y.cls ≠ "java/lang/invoke/MethodHandle" ∧ y.cls ≠ "java/lang/invoke/VarHandle") (hM : ConW l Z EL xs y bytes maxL none [] rm as' h Q) (eT : T.heap = h)
    {g : JFrame} (hg : g.method = m) (hsize : g.locals.size = c.maxLocals) {a : Addr} {argsL rest : List Value} (hlen : ∀ sig, parseMethodDescriptor y.desc = some sig → argsL.length = sig.parameters.length) (hstack : g.stack = argsL.reverse ++ .ref a :: rest) (ha : (.ref a :: argsL).toArray = as')
    (hW : 2 * g.monitorRoom + (rest.map fun v => v.category).sum ≤ W) (hf : rm.frames + 1 ≤ R.frames) (hl : W + (maxL + 11) + rm.locals ≤ R.locals)
    (hdg : decode c.code g.pc = .ok (.invokespecial index, 3)) (hc : cells + rm.cells ≤ R.cells) (hs : slots + rm.slots ≤ R.slots) :
    ∃ v T' L, Stand p l e R (s.setVm T'.vm) m args below meth c T' (locs ++ L) (cells + rm.cells) (slots + rm.slots) ∧ (Q v T'.heap L ∧ Z.Warmed39 (s.setVm T'.vm).vm ∧ (s.setVm T'.vm).vm.findClass own = some m.cls ∧ Cold Z EL s xs0 T'.vm T'.heap) ∧
      ∀ t, Steps p.tables e below (T'.setTop { g with pc := g.pc + 3, stack := v.toList ++ rest }) t → Steps p.tables e below (T.setTop g) t := by
  obtain ⟨v, _, ⟨T', L', k', n'⟩, -, X', hS, hg', ⟨L, hQ, l', y', z', hC⟩, st⟩ := X.specialBackS hx (y := y) hy1 hown (mvT hZ w1) (mvT hZ w2) (mvT hZ w4) hy (own_backW (W := W) hM hZ hEL w4 w3 hf hl H.2.1.1 (fun x hx => H.2.2 x (hsub x hx))) hg hsize (Steps.refl _) (a := a) hlen hstack hW hdg (fun _ _ => ⟨ha, eT, hc, hs⟩)
  dsimp only [Pt.U, Pt.locs, Pt.cells, Pt.slots] at X' l' y' z' st hQ hS hg' hC
  subst l' y' z'
  exact ⟨v, T', L, X', ⟨hQ, own_warmW hZ hS, own_ownW hS hown, H.go (by obtain ⟨⟨k0, a, b⟩, -⟩ := H; exact ⟨_, Jvm.RoadKit.foldS (T := T) a (by rw [eT]; exact b) hS hg', Nat.le_refl _⟩) hC⟩, fun t k => st.trans k⟩
theorem own_virtualW (X : Stand p l e R (s.setVm vm0) m args below meth c T locs cells slots) (hx : p.tables.exec = Jvm.exec) (hZ : Z.Warmed39 (s.setVm vm0).vm) (hown : (s.setVm vm0).vm.findClass own = some m.cls) (hEL : EW Z a0 EL) {xs0 : List Addr} (H : Cold Z EL s xs0 vm0 h) (hsub : ∀ x ∈ xs, x ∈ xs0)
    (w1 : (Cond.methodLink own index y).before a0 Z = true) (w2 : (Cond.declares y).before a0 Z = true) (hnf : NotFace (s.setVm vm0) y) (w3 : (Cond.selects C y z).before a0 Z = true) (w4 : (Cond.instanceMethod z).before a0 Z = true) (w5 : (Cond.initialized z.cls).before a0 Z = true) (w6 : (Cond.code z bytes maxL rt).before a0 Z = true)
    (hy : y.cls ≠ "java/lang/invoke/MethodHandle" ∧ y.cls ≠ "java/lang/invoke/VarHandle") (hM : ConW l Z EL xs z bytes maxL rt [] rm as' h Q) (eT : T.heap = h) {a : Addr} (E : Exa Z h a C)
    {g : JFrame} (hg : g.method = m) (hsize : g.locals.size = c.maxLocals) {argsL rest : List Value} (hlen : ∀ sig, parseMethodDescriptor y.desc = some sig → argsL.length = sig.parameters.length) (hstack : g.stack = argsL.reverse ++ .ref a :: rest) (ha : (.ref a :: argsL).toArray = as')
    (hW : 2 * g.monitorRoom + (rest.map fun v => v.category).sum ≤ W) (hf : rm.frames + 1 ≤ R.frames) (hl : W + (maxL + 11) + rm.locals ≤ R.locals)
    (hdg : decode c.code g.pc = .ok (.invokevirtual index, 3)) (hc : cells + rm.cells ≤ R.cells) (hs : slots + rm.slots ≤ R.slots) :
    ∃ v T' L, Stand p l e R (s.setVm T'.vm) m args below meth c T' (locs ++ L) (cells + rm.cells) (slots + rm.slots) ∧ (Q v T'.heap L ∧ Z.Warmed39 (s.setVm T'.vm).vm ∧ (s.setVm T'.vm).vm.findClass own = some m.cls ∧ Cold Z EL s xs0 T'.vm T'.heap) ∧
      ∀ t, Steps p.tables e below (T'.setTop { g with pc := g.pc + 3, stack := v.toList ++ rest }) t → Steps p.tables e below (T.setTop g) t := by
  obtain ⟨cB, kB, q1, q2, q3⟩ := isOf hZ eT E
  obtain ⟨v, _, ⟨T', L', k', n'⟩, -, X', hS, hg', ⟨L, hQ, l', y', z', hC⟩, st⟩ := X.virtualBackS hx (y := y) (z := z) hown (mvT hZ w1) (mvT hZ w2) hnf (mvT hZ w3) (mvT hZ w4) hy (own_backW (W := W) hM hZ hEL w6 w5 hf hl H.2.1.1 (fun x hx => H.2.2 x (hsub x hx))) q1 q3 hg hsize (Steps.refl _) hlen hstack hW hdg (fun _ _ => ⟨ha, eT, hc, hs⟩)
  dsimp only [Pt.U, Pt.locs, Pt.cells, Pt.slots] at X' l' y' z' st hQ hS hg' hC
  subst l' y' z'
  exact ⟨v, T', L, X', ⟨hQ, own_warmW hZ hS, own_ownW hS hown, H.go (by obtain ⟨⟨k0, a, b⟩, -⟩ := H; exact ⟨_, Jvm.RoadKit.foldS (T := T) a (by rw [eT]; exact b) hS hg', Nat.le_refl _⟩) hC⟩, fun t k => st.trans k⟩
theorem own_faceW (X : Stand p l e R (s.setVm vm0) m args below meth c T locs cells slots) (hx : p.tables.exec = Jvm.exec) (hZ : Z.Warmed39 (s.setVm vm0).vm) (hown : (s.setVm vm0).vm.findClass own = some m.cls) (hEL : EW Z a0 EL) {xs0 : List Addr} (H : Cold Z EL s xs0 vm0 h) (hsub : ∀ x ∈ xs, x ∈ xs0) {count : Nat}
    (w1 : (Cond.methodLink own index y).before a0 Z = true) (w2 : (Cond.declares y).before a0 Z = true) (w3 : (Cond.interfaceMethod y.cls y.cls y.name y.desc).before args (s.setVm vm0) = true) (w4 : (Cond.selects C y z).before a0 Z = true) (w5 : (Cond.instanceMethod z).before a0 Z = true)
    (w6 : (Cond.publicMethod z).before a0 Z = true) (w7 : (Cond.unhidden C y.name y.desc).before a0 Z = true) (w8 : (Cond.castable C y.cls).before a0 Z = true) (w9 : (Cond.initialized z.cls).before a0 Z = true) (w10 : (Cond.code z bytes maxL rt).before a0 Z = true)
    (hy : y.cls ≠ "java/lang/invoke/MethodHandle" ∧ y.cls ≠ "java/lang/invoke/VarHandle") (hM : ConW l Z EL xs z bytes maxL rt [] rm as' h Q) (eT : T.heap = h) {a : Addr} (E : Exa Z h a C)
    {g : JFrame} (hg : g.method = m) (hsize : g.locals.size = c.maxLocals) {argsL rest : List Value} (hlen : ∀ sig, parseMethodDescriptor y.desc = some sig → argsL.length = sig.parameters.length) (hstack : g.stack = argsL.reverse ++ .ref a :: rest) (ha : (.ref a :: argsL).toArray = as')
    (hW : 2 * g.monitorRoom + (rest.map fun v => v.category).sum ≤ W) (hf : rm.frames + 1 ≤ R.frames) (hl : W + (maxL + 11) + rm.locals ≤ R.locals)
    (hdg : decode c.code g.pc = .ok (.invokeinterface index count, 5)) (hc : cells + rm.cells ≤ R.cells) (hs : slots + rm.slots ≤ R.slots) :
    ∃ v T' L, Stand p l e R (s.setVm T'.vm) m args below meth c T' (locs ++ L) (cells + rm.cells) (slots + rm.slots) ∧ (Q v T'.heap L ∧ Z.Warmed39 (s.setVm T'.vm).vm ∧ (s.setVm T'.vm).vm.findClass own = some m.cls ∧ Cold Z EL s xs0 T'.vm T'.heap) ∧
      ∀ t, Steps p.tables e below (T'.setTop { g with pc := g.pc + 5, stack := v.toList ++ rest }) t → Steps p.tables e below (T.setTop g) t := by
  obtain ⟨cB, kB, q1, q2, q3⟩ := isOf hZ eT E
  obtain ⟨v, _, ⟨T', L', k', n'⟩, -, X', hS, hg', ⟨L, hQ, l', y', z', hC⟩, st⟩ := X.interfaceBackS hx (xi := y) (y := z) hown (mvT hZ w1) (mvT hZ w2) w3 (mvT hZ w4) (mvT hZ w5) (mvT hZ w6) (mvT hZ w7) (mvT hZ w8) hy (own_backW (W := W) hM hZ hEL w10 w9 hf hl H.2.1.1 (fun x hx => H.2.2 x (hsub x hx))) q1 q2 q3 hg hsize (Steps.refl _) hlen hstack hW hdg (fun _ _ => ⟨ha, eT, hc, hs⟩)
  dsimp only [Pt.U, Pt.locs, Pt.cells, Pt.slots] at X' l' y' z' st hQ hS hg' hC
  subst l' y' z'
  exact ⟨v, T', L, X', ⟨hQ, own_warmW hZ hS, own_ownW hS hown, H.go (by obtain ⟨⟨k0, a, b⟩, -⟩ := H; exact ⟨_, Jvm.RoadKit.foldS (T := T) a (by rw [eT]; exact b) hS hg', Nat.le_refl _⟩) hC⟩, fun t k => st.trans k⟩
theorem own_privateW (X : Stand p l e R (s.setVm vm0) m args below meth c T locs cells slots) (hx : p.tables.exec = Jvm.exec) (hZ : Z.Warmed39 (s.setVm vm0).vm) (hown : (s.setVm vm0).vm.findClass own = some m.cls) (hEL : EW Z a0 EL) {xs0 : List Addr} (H : Cold Z EL s xs0 vm0 h) (hsub : ∀ x ∈ xs, x ∈ xs0)
    (w1 : (Cond.methodLink own index y).before a0 Z = true) (w2 : (Cond.instanceMethod y).before a0 Z = true) (w3 : (Cond.selects y.cls y y).before a0 Z = true) (hp : (s.setVm vm0).PrivateAt y) (w5 : (Cond.initialized y.cls).before a0 Z = true) (w6 : (Cond.code y bytes maxL rt).before a0 Z = true)
    (hy : y.cls ≠ "java/lang/invoke/MethodHandle" ∧ y.cls ≠ "java/lang/invoke/VarHandle") (hM : ConW l Z EL xs y bytes maxL rt [] rm as' h Q) (eT : T.heap = h) {a : Addr} (E : Exa Z h a C)
    {g : JFrame} (hg : g.method = m) (hsize : g.locals.size = c.maxLocals) {argsL rest : List Value} (hlen : ∀ sig, parseMethodDescriptor y.desc = some sig → argsL.length = sig.parameters.length) (hstack : g.stack = argsL.reverse ++ .ref a :: rest) (ha : (.ref a :: argsL).toArray = as')
    (hW : 2 * g.monitorRoom + (rest.map fun v => v.category).sum ≤ W) (hf : rm.frames + 1 ≤ R.frames) (hl : W + (maxL + 11) + rm.locals ≤ R.locals)
    (hdg : decode c.code g.pc = .ok (.invokevirtual index, 3)) (hc : cells + rm.cells ≤ R.cells) (hs : slots + rm.slots ≤ R.slots) :
    ∃ v T' L, Stand p l e R (s.setVm T'.vm) m args below meth c T' (locs ++ L) (cells + rm.cells) (slots + rm.slots) ∧ (Q v T'.heap L ∧ Z.Warmed39 (s.setVm T'.vm).vm ∧ (s.setVm T'.vm).vm.findClass own = some m.cls ∧ Cold Z EL s xs0 T'.vm T'.heap) ∧
      ∀ t, Steps p.tables e below (T'.setTop { g with pc := g.pc + 3, stack := v.toList ++ rest }) t → Steps p.tables e below (T.setTop g) t := by
  obtain ⟨cq, q1, q2⟩ := E.cell
  obtain ⟨v, _, ⟨T', L', k', n'⟩, -, X', hS, hg', ⟨L, hQ, l', y', z', hC⟩, st⟩ := X.privateBackS hx (y := y) hown (mvT hZ w1) (mvT hZ w2) (mvT hZ w3) hp (mvT hZ w6) hy (own_backW (W := W) hM hZ hEL w6 w5 hf hl H.2.1.1 (fun x hx => H.2.2 x (hsub x hx))) hg hsize (Steps.refl _) (a := a) (by rw [eT]; exact q1) q2 hlen hstack hW hdg (fun _ _ => ⟨ha, eT, hc, hs⟩)
  dsimp only [Pt.U, Pt.locs, Pt.cells, Pt.slots] at X' l' y' z' st hQ hS hg' hC
  subst l' y' z'
  exact ⟨v, T', L, X', ⟨hQ, own_warmW hZ hS, own_ownW hS hown, H.go (by obtain ⟨⟨k0, a, b⟩, -⟩ := H; exact ⟨_, Jvm.RoadKit.foldS (T := T) a (by rw [eT]; exact b) hS hg', Nat.le_refl _⟩) hC⟩, fun t k => st.trans k⟩
/-- ldc of a text of EL: its cells are there -/
theorem own_ldcW {text : String} (X : Stand p l e R (s.setVm vm0) m args below meth c T locs cells slots) (hx : p.tables.exec = Jvm.exec) (hZ : Z.Warmed39 (s.setVm vm0).vm) (hown : (s.setVm vm0).vm.findClass own = some m.cls) (hEL : EW Z a0 EL) (H : Cold Z EL s xs vm0 h) (w : (Cond.stringLink own index text).before a0 Z = true) (wS : ∀ a ∈ Bundle.stringAtoms, a.before a0 Z = true)
    (eT : T.heap = h) (hmem : (own, index) ∈ EL) {vs : List Value} {z : Int32} (ht : (∀ c ∈ text.toList, c.toNat < 256) ∧ text.toList.map (fun c => Value.int (Jvm.Lit.byteI c.toNat.toUInt16)) = vs) (hz : ¬ z < 0) (hl : z.toNatClampNeg = vs.length)
    {g : JFrame} (hg : g.method = m) (hd : decode c.code g.pc = .ok (.ldc index, 2)) {n : Nat} (hn : 4 * text.toList.length ≤ n) (hbig : n ≤ 536870912) (hc : cells + 2 ≤ R.cells) (hl' : slots + (n + 4) ≤ R.slots) :
    ∃ (a b : Addr) (k : ClassId) (T' : State) (h' : Heap), Stand p l e R (s.setVm T'.vm) m args below meth c T' locs (cells + 2) (slots + (n + 4)) ∧ T'.heap = h' ∧ Ext h h' ∧ Z.Warmed39 (s.setVm T'.vm).vm ∧ (s.setVm T'.vm).vm.findClass own = some m.cls ∧ Cold Z EL s xs T'.vm h' ∧
      Exa Z h' a "java/lang/String" ∧ Fld Z h' a "java/lang/String" "coder" "B" (.int 0) ∧ Fld Z h' a "java/lang/String" "value" "[B" (.ref b) ∧ Arv Z h' b k .byte z vs (.int 0) ∧ a < h'.size ∧ b < h'.size ∧ (∀ x ∈ xs, x ≠ a ∧ x ≠ b) ∧
      ∀ t, Steps p.tables e below (T'.setTop { g with pc := g.pc + 2, stack := .ref a :: g.stack }) t → Steps p.tables e below (T.setTop g) t := by
  obtain ⟨k0, hS, hk⟩ := H.1
  obtain ⟨a, T', h', k1, b, k, X', e1, E, hS', hk', hZ', ho', f1, f2, f3, f4, f5, f6, hC, -, hne, st⟩ := ldcCH X hx hZ hown w wS eT hS hk hEL hmem H.2.1.1 ht hz hl hg hd hn hbig hc hl'
  have H' := H.go ⟨k1, hS', hk'⟩ hC
  exact ⟨a, b, k, T', h', X', e1, E, hZ', ho', H', f1, f2, f3, f4, f5, f6, fun x hx => hne x (H'.safe hx), st⟩
/-- ldc of a text that nobody reads -/
theorem own_ldcO {text : String} (X : Stand p l e R (s.setVm vm0) m args below meth c T locs cells slots) (hx : p.tables.exec = Jvm.exec) (hZ : Z.Warmed39 (s.setVm vm0).vm) (hown : (s.setVm vm0).vm.findClass own = some m.cls) (hEL : EW Z a0 EL) (H : Cold Z EL s xs vm0 h) (w : (Cond.stringLink own index text).before a0 Z = true) (wS : ∀ a ∈ Bundle.stringAtoms, a.before a0 Z = true)
    (eT : T.heap = h)
    {g : JFrame} (hg : g.method = m) (hd : decode c.code g.pc = .ok (.ldc index, 2)) {n : Nat} (hn : 4 * text.toList.length ≤ n) (hbig : n ≤ 536870912) (hc : cells + 2 ≤ R.cells) (hl' : slots + (n + 4) ≤ R.slots) :
    ∃ (a : Addr) (T' : State) (h' : Heap), Stand p l e R (s.setVm T'.vm) m args below meth c T' locs (cells + 2) (slots + (n + 4)) ∧ T'.heap = h' ∧ Ext h h' ∧ Z.Warmed39 (s.setVm T'.vm).vm ∧ (s.setVm T'.vm).vm.findClass own = some m.cls ∧ Cold Z EL s xs T'.vm h' ∧
      ∀ t, Steps p.tables e below (T'.setTop { g with pc := g.pc + 2, stack := .ref a :: g.stack }) t → Steps p.tables e below (T.setTop g) t := by
  obtain ⟨k0, hS, hk⟩ := H.1
  obtain ⟨a, T', h', k1, X', e1, E, hS', hk', hZ', ho', hC, -, st⟩ := ldcOH X hx hZ hown w wS eT hS hk hEL H.2.1.1 hg hd hn hbig hc hl'
  exact ⟨a, T', h', X', e1, E, hZ', ho', H.go ⟨k1, hS', hk'⟩ hC, st⟩
end Cold
end Jvm.OwnKit
namespace Jvm.OwnKit
theorem own_b2 {a b : Int32} (ha : ¬ a < (0 : Int32) ∧ ¬ (255 : Int32) < a) (hb : ¬ b < (0 : Int32) ∧ ¬ (255 : Int32) < b) : (a.toInt8.toInt32 = b.toInt8.toInt32) ↔ a = b := by
  rw [← Int32.toInt_inj, ← Int32.toInt_inj, Int8.toInt_toInt32, Int8.toInt_toInt32, Int32.toInt_toInt8, Int32.toInt_toInt8]
  simp only [Int32.lt_iff_toInt_lt] at ha hb
  have e0 : (0 : Int32).toInt = 0 := rfl
  have e1 : (255 : Int32).toInt = 255 := rfl
  rw [e0, e1] at ha hb
  simp only [Int.bmod]
  constructor
  · intro h; split at h <;> split at h <;> omega
  · intro h; rw [h]
end Jvm.OwnKit
namespace Jvm.Pilot.@@N@@
open Jvm Jvm.ClassFile Sem Op Lib Jvm.Free Jvm.Stand Jvm.LawKit Jvm.RoadKit Jvm.OwnKit Bundle Jvm.Pilot.@@N@@.Jvm.D
abbrev own_EL : List (String × Nat) := []
theorem own_hEL {Z : State} {a0 : Array Value} (hw : ∀ d ∈ tables_1, d.before a0 Z = true) : EW Z a0 own_EL := EW.nil
theorem own_wS0 : ∀ a ∈ Bundle.stringAtoms, a ∈ tables_1 := by decide +kernel
theorem own_wS {Z : State} {a0 : Array Value} (hw : ∀ d ∈ tables_1, d.before a0 Z = true) : ∀ a ∈ Bundle.stringAtoms, a.before a0 Z = true := fun a ha => hw a (own_wS0 a ha)
theorem own_lenk {Z : State} {args : Array Value} {t : Term} {a : Addr} {c : Cell} {ty : FieldType} {k : Int32} (ev : t.eval args Z none [] Z = some (.ref a)) (A : Arr Z Z.heap a c ty) (h : (Jvm.Cond.eq (Jvm.Term.length t) (Jvm.Term.int k)).value args Z none Z [] = some true) : c.slots.size < 2 ^ 31 ∧ c.slots.size.toInt32 = k := by
  have e := eqv_i (Term.int_eval k) h
  have ha := A.fin (U := Z) (Vm.Alike.refl _)
  by_cases q : c.slots.size < 2 ^ 31
  · have e2 := len_f (first := Z) (o := none) (idx := []) (args := args) ev ha q
    rw [e] at e2
    exact ⟨q, by injection e2 with e3; injection e3 with e4; exact e4.symm⟩
  · exfalso
    simp [Term.eval, ev, ha, q] at e
theorem sg0_0_4 : decs code [(0, .iload_n 3, 1), (1, .sipush 255, 3), (4, .iand, 1), (5, .i2c, 1)] := ⟨at_0, at_1, at_4, at_5, trivial⟩
theorem sg0_6_1 : decs code [(6, .istore 6, 2)] := ⟨at_6, trivial⟩
theorem sg0_8_6 : decs code [(8, .iload_n 3, 1), (9, .bipush 8, 2), (11, .iushr, 1), (12, .sipush 255, 3), (15, .iand, 1), (16, .i2c, 1)] := ⟨at_8, at_9, at_11, at_12, at_15, at_16, trivial⟩
theorem sg0_17_1 : decs code [(17, .istore 7, 2)] := ⟨at_17, trivial⟩
theorem sg0_19_3 : decs code [(19, .iload 5, 2), (21, .bipush 8, 2), (23, .iand, 1)] := ⟨at_19, at_21, at_23, trivial⟩
theorem sg0_32_6 : decs code [(32, .iload_n 3, 1), (33, .bipush 16, 2), (35, .iushr, 1), (36, .sipush 255, 3), (39, .iand, 1), (40, .i2c, 1)] := ⟨at_32, at_33, at_35, at_36, at_39, at_40, trivial⟩
theorem sg0_27_2 : decs code [(27, .iload 6, 2), (29, .goto 12, 3)] := ⟨at_27, at_29, trivial⟩
theorem sg0_41_4 : decs code [(41, .istore 8, 2), (43, .iload 5, 2), (45, .bipush 8, 2), (47, .iand, 1)] := ⟨at_41, at_43, at_45, at_47, trivial⟩
theorem sg0_56_6 : decs code [(56, .iload_n 3, 1), (57, .bipush 24, 2), (59, .iushr, 1), (60, .sipush 255, 3), (63, .iand, 1), (64, .i2c, 1)] := ⟨at_56, at_57, at_59, at_60, at_63, at_64, trivial⟩
theorem sg0_51_2 : decs code [(51, .iload 7, 2), (53, .goto 12, 3)] := ⟨at_51, at_53, trivial⟩
theorem sg0_65_4 : decs code [(65, .istore 9, 2), (67, .iload 5, 2), (69, .iconst 1, 1), (70, .iand, 1)] := ⟨at_65, at_67, at_69, at_70, trivial⟩
theorem sg0_78_3 : decs code [(78, .iload_n 0, 1), (79, .iload 4, 2), (81, .iadd, 1)] := ⟨at_78, at_79, at_81, trivial⟩
theorem sg0_74_2 : decs code [(74, .iload_n 0, 1), (75, .goto 7, 3)] := ⟨at_74, at_75, trivial⟩
theorem sg0_82_4 : decs code [(82, .istore 10, 2), (84, .iload 5, 2), (86, .iconst 2, 1), (87, .iand, 1)] := ⟨at_82, at_84, at_86, at_87, trivial⟩
theorem sg0_95_3 : decs code [(95, .iload_n 1, 1), (96, .iload 4, 2), (98, .ixor, 1)] := ⟨at_95, at_96, at_98, trivial⟩
theorem sg0_91_2 : decs code [(91, .iload_n 1, 1), (92, .goto 7, 3)] := ⟨at_91, at_92, trivial⟩
theorem sg0_99_4 : decs code [(99, .istore 11, 2), (101, .iload 5, 2), (103, .iconst 4, 1), (104, .iand, 1)] := ⟨at_99, at_101, at_103, at_104, trivial⟩
theorem sg0_112_3 : decs code [(112, .iload_n 2, 1), (113, .iload 4, 2), (115, .isub, 1)] := ⟨at_112, at_113, at_115, trivial⟩
theorem sg0_108_2 : decs code [(108, .iload_n 2, 1), (109, .goto 7, 3)] := ⟨at_108, at_109, trivial⟩
theorem sg0_116_1 : decs code [(116, .istore 12, 2)] := ⟨at_116, trivial⟩
theorem own_w0 {Z : State} {a0 : Array Value} (hw : ∀ d ∈ tables_1, d.before a0 Z = true) : (Jvm.Cond.classLink "com/example/token_relay/tokenrelay/MemberEqualsPinLaw" (7 : Nat) "java/lang/String").before a0 Z = true := hw _ (List.mem_of_getElem? (i := 0) rfl)
theorem own_w1 {Z : State} {a0 : Array Value} (hw : ∀ d ∈ tables_1, d.before a0 Z = true) : (Jvm.Cond.instantiable "java/lang/String" (4 : Nat)).before a0 Z = true := hw _ (List.mem_of_getElem? (i := 1) rfl)
theorem own_w2 {Z : State} {a0 : Array Value} (hw : ∀ d ∈ tables_1, d.before a0 Z = true) : (Jvm.Cond.initialized "java/lang/String").before a0 Z = true := hw _ (List.mem_of_getElem? (i := 2) rfl)
theorem own_w27 {Z : State} {a0 : Array Value} (hw : ∀ d ∈ tables_1, d.before a0 Z = true) : (Jvm.Cond.laysFinal "java/lang/String" "java/lang/String" "coder" "B").before a0 Z = true := hw _ (List.mem_of_getElem? (i := 27) rfl)
theorem own_w29 {Z : State} {a0 : Array Value} (hw : ∀ d ∈ tables_1, d.before a0 Z = true) : (Jvm.Cond.laysFinal "java/lang/String" "java/lang/String" "value" "[B").before a0 Z = true := hw _ (List.mem_of_getElem? (i := 29) rfl)
theorem sg0_121_2 : decs code [(121, .dup, 1), (122, .iconst 2, 1)] := ⟨at_121, at_122, trivial⟩
theorem own_w3 {Z : State} {a0 : Array Value} (hw : ∀ d ∈ tables_1, d.before a0 Z = true) : (Jvm.Cond.arrayClass Jvm.ClassFile.FieldType.char).before a0 Z = true := hw _ (List.mem_of_getElem? (i := 3) rfl)
theorem sg0_125_3 : decs code [(125, .dup, 1), (126, .iconst 0, 1), (127, .iload 6, 2)] := ⟨at_125, at_126, at_127, trivial⟩
theorem sg0_130_3 : decs code [(130, .dup, 1), (131, .iconst 1, 1), (132, .iload 7, 2)] := ⟨at_130, at_131, at_132, trivial⟩
theorem own_w4 {Z : State} {a0 : Array Value} (hw : ∀ d ∈ tables_1, d.before a0 Z = true) : (Jvm.Cond.methodLink "com/example/token_relay/tokenrelay/MemberEqualsPinLaw" (9 : Nat) ({ cls := "java/lang/String", name := "<init>", desc := "([C)V" } : Jvm.MethodName)).before a0 Z = true := hw _ (List.mem_of_getElem? (i := 4) rfl)
theorem d1_0 : decode jdk_42_method_3_code 0 = .ok (.aload_n 0, 1) := by decide +kernel
theorem d1_1 : decode jdk_42_method_3_code 1 = .ok (.aload_n 1, 1) := by decide +kernel
theorem d1_2 : decode jdk_42_method_3_code 2 = .ok (.iconst 0, 1) := by decide +kernel
theorem d1_3 : decode jdk_42_method_3_code 3 = .ok (.aload_n 1, 1) := by decide +kernel
theorem sg1_0_4 : decs jdk_42_method_3_code [(0, .aload_n 0, 1), (1, .aload_n 1, 1), (2, .iconst 0, 1), (3, .aload_n 1, 1)] := ⟨d1_0, d1_1, d1_2, d1_3, trivial⟩
theorem d1_4 : decode jdk_42_method_3_code 4 = .ok (.arraylength, 1) := by decide +kernel
theorem d1_5 : decode jdk_42_method_3_code 5 = .ok (.aconst_null, 1) := by decide +kernel
theorem sg1_5_1 : decs jdk_42_method_3_code [(5, .aconst_null, 1)] := ⟨d1_5, trivial⟩
theorem d1_6 : decode jdk_42_method_3_code 6 = .ok (.invokespecial 27, 3) := by decide +kernel
theorem own_w7 {Z : State} {a0 : Array Value} (hw : ∀ d ∈ tables_1, d.before a0 Z = true) : (Jvm.Cond.methodLink "java/lang/String" (27 : Nat) ({ cls := "java/lang/String", name := "<init>", desc := "([CIILjava/lang/Void;)V" } : Jvm.MethodName)).before a0 Z = true := hw _ (List.mem_of_getElem? (i := 7) rfl)
theorem d2_0 : decode jdk_42_method_149_code 0 = .ok (.aload_n 0, 1) := by decide +kernel
theorem sg2_0_1 : decs jdk_42_method_149_code [(0, .aload_n 0, 1)] := ⟨d2_0, trivial⟩
theorem d2_1 : decode jdk_42_method_149_code 1 = .ok (.invokespecial 1, 3) := by decide +kernel
theorem own_w11 {Z : State} {a0 : Array Value} (hw : ∀ d ∈ tables_1, d.before a0 Z = true) : (Jvm.Cond.methodLink "java/lang/String" (1 : Nat) ({ cls := "java/lang/Object", name := "<init>", desc := "()V" } : Jvm.MethodName)).before a0 Z = true := hw _ (List.mem_of_getElem? (i := 11) rfl)
theorem own_w13 {Z : State} {a0 : Array Value} (hw : ∀ d ∈ tables_1, d.before a0 Z = true) : (Jvm.Cond.code ({ cls := "java/lang/Object", name := "<init>", desc := "()V" } : Jvm.MethodName) object_method_1_code (1 : Nat) (Option.none : Option Jvm.ClassFile.FieldType)).before a0 Z = true := hw _ (List.mem_of_getElem? (i := 13) rfl)
theorem own_w12 {Z : State} {a0 : Array Value} (hw : ∀ d ∈ tables_1, d.before a0 Z = true) : (Jvm.Cond.instanceMethod ({ cls := "java/lang/Object", name := "<init>", desc := "()V" } : Jvm.MethodName)).before a0 Z = true := hw _ (List.mem_of_getElem? (i := 12) rfl)
theorem d2_4 : decode jdk_42_method_149_code 4 = .ok (.iload_n 3, 1) := by decide +kernel
theorem sg2_4_1 : decs jdk_42_method_149_code [(4, .iload_n 3, 1)] := ⟨d2_4, trivial⟩
theorem d2_5 : decode jdk_42_method_149_code 5 = .ok (.ifCond .ne 22, 3) := by decide +kernel
theorem d2_27 : decode jdk_42_method_149_code 27 = .ok (.getstatic 38, 3) := by decide +kernel
theorem own_w14 {Z : State} {a0 : Array Value} (hw : ∀ d ∈ tables_1, d.before a0 Z = true) : (Jvm.Cond.fieldLink "java/lang/String" (38 : Nat) "java/lang/String" "COMPACT_STRINGS" "Z").before a0 Z = true := hw _ (List.mem_of_getElem? (i := 14) rfl)
theorem d2_30 : decode jdk_42_method_149_code 30 = .ok (.ifCond .eq 28, 3) := by decide +kernel
theorem d2_33 : decode jdk_42_method_149_code 33 = .ok (.aload_n 1, 1) := by decide +kernel
theorem d2_34 : decode jdk_42_method_149_code 34 = .ok (.iload_n 2, 1) := by decide +kernel
theorem d2_35 : decode jdk_42_method_149_code 35 = .ok (.iload_n 3, 1) := by decide +kernel
theorem sg2_33_3 : decs jdk_42_method_149_code [(33, .aload_n 1, 1), (34, .iload_n 2, 1), (35, .iload_n 3, 1)] := ⟨d2_33, d2_34, d2_35, trivial⟩
theorem d2_36 : decode jdk_42_method_149_code 36 = .ok (.invokestatic 177, 3) := by decide +kernel
theorem own_w15 {Z : State} {a0 : Array Value} (hw : ∀ d ∈ tables_1, d.before a0 Z = true) : (Jvm.Cond.methodLink "java/lang/String" (177 : Nat) ({ cls := "java/lang/StringUTF16", name := "compress", desc := "([CII)[B" } : Jvm.MethodName)).before a0 Z = true := hw _ (List.mem_of_getElem? (i := 15) rfl)
theorem d4_0 : decode jdk_52_method_16_code 0 = .ok (.iload_n 2, 1) := by decide +kernel
theorem sg4_0_1 : decs jdk_52_method_16_code [(0, .iload_n 2, 1)] := ⟨d4_0, trivial⟩
theorem d4_1 : decode jdk_52_method_16_code 1 = .ok (.newarray .byte, 2) := by decide +kernel
theorem own_w19 {Z : State} {a0 : Array Value} (hw : ∀ d ∈ tables_1, d.before a0 Z = true) : (Jvm.Cond.arrayClass Jvm.ClassFile.FieldType.byte).before a0 Z = true := hw _ (List.mem_of_getElem? (i := 19) rfl)
theorem d4_3 : decode jdk_52_method_16_code 3 = .ok (.astore_n 3, 1) := by decide +kernel
theorem d4_4 : decode jdk_52_method_16_code 4 = .ok (.aload_n 0, 1) := by decide +kernel
theorem d4_5 : decode jdk_52_method_16_code 5 = .ok (.iload_n 1, 1) := by decide +kernel
theorem d4_6 : decode jdk_52_method_16_code 6 = .ok (.aload_n 3, 1) := by decide +kernel
theorem d4_7 : decode jdk_52_method_16_code 7 = .ok (.iconst 0, 1) := by decide +kernel
theorem d4_8 : decode jdk_52_method_16_code 8 = .ok (.iload_n 2, 1) := by decide +kernel
theorem sg4_3_6 : decs jdk_52_method_16_code [(3, .astore_n 3, 1), (4, .aload_n 0, 1), (5, .iload_n 1, 1), (6, .aload_n 3, 1), (7, .iconst 0, 1), (8, .iload_n 2, 1)] := ⟨d4_3, d4_4, d4_5, d4_6, d4_7, d4_8, trivial⟩
theorem d4_9 : decode jdk_52_method_16_code 9 = .ok (.invokestatic 115, 3) := by decide +kernel
theorem own_w20 {Z : State} {a0 : Array Value} (hw : ∀ d ∈ tables_1, d.before a0 Z = true) : (Jvm.Cond.methodLink "java/lang/StringUTF16" (115 : Nat) ({ cls := "java/lang/StringUTF16", name := "compress", desc := "([CI[BII)I" } : Jvm.MethodName)).before a0 Z = true := hw _ (List.mem_of_getElem? (i := 20) rfl)
theorem d5_0 : decode jdk_52_method_21_code 0 = .ok (.iconst 0, 1) := by decide +kernel
theorem d5_1 : decode jdk_52_method_21_code 1 = .ok (.istore 5, 2) := by decide +kernel
theorem d5_3 : decode jdk_52_method_21_code 3 = .ok (.iload 5, 2) := by decide +kernel
theorem d5_5 : decode jdk_52_method_21_code 5 = .ok (.iload 4, 2) := by decide +kernel
theorem sg5_0_4 : decs jdk_52_method_21_code [(0, .iconst 0, 1), (1, .istore 5, 2), (3, .iload 5, 2), (5, .iload 4, 2)] := ⟨d5_0, d5_1, d5_3, d5_5, trivial⟩
theorem d5_7 : decode jdk_52_method_21_code 7 = .ok (.if_icmp .ge 37, 3) := by decide +kernel
theorem d5_10 : decode jdk_52_method_21_code 10 = .ok (.aload_n 0, 1) := by decide +kernel
theorem d5_11 : decode jdk_52_method_21_code 11 = .ok (.iload_n 1, 1) := by decide +kernel
theorem sg5_10_2 : decs jdk_52_method_21_code [(10, .aload_n 0, 1), (11, .iload_n 1, 1)] := ⟨d5_10, d5_11, trivial⟩
theorem d5_12 : decode jdk_52_method_21_code 12 = .ok (.caload, 1) := by decide +kernel
theorem d5_13 : decode jdk_52_method_21_code 13 = .ok (.istore 6, 2) := by decide +kernel
theorem d5_15 : decode jdk_52_method_21_code 15 = .ok (.iload 6, 2) := by decide +kernel
theorem d5_17 : decode jdk_52_method_21_code 17 = .ok (.sipush 255, 3) := by decide +kernel
theorem sg5_13_3 : decs jdk_52_method_21_code [(13, .istore 6, 2), (15, .iload 6, 2), (17, .sipush 255, 3)] := ⟨d5_13, d5_15, d5_17, trivial⟩
theorem d5_20 : decode jdk_52_method_21_code 20 = .ok (.if_icmp .le 6, 3) := by decide +kernel
theorem d5_26 : decode jdk_52_method_21_code 26 = .ok (.aload_n 2, 1) := by decide +kernel
theorem d5_27 : decode jdk_52_method_21_code 27 = .ok (.iload_n 3, 1) := by decide +kernel
theorem d5_28 : decode jdk_52_method_21_code 28 = .ok (.iload 6, 2) := by decide +kernel
theorem d5_30 : decode jdk_52_method_21_code 30 = .ok (.i2b, 1) := by decide +kernel
theorem sg5_26_4 : decs jdk_52_method_21_code [(26, .aload_n 2, 1), (27, .iload_n 3, 1), (28, .iload 6, 2), (30, .i2b, 1)] := ⟨d5_26, d5_27, d5_28, d5_30, trivial⟩
theorem d5_31 : decode jdk_52_method_21_code 31 = .ok (.bastore, 1) := by decide +kernel
theorem d5_32 : decode jdk_52_method_21_code 32 = .ok (.iinc 1 1, 3) := by decide +kernel
theorem d5_35 : decode jdk_52_method_21_code 35 = .ok (.iinc 3 1, 3) := by decide +kernel
theorem d5_38 : decode jdk_52_method_21_code 38 = .ok (.iinc 5 1, 3) := by decide +kernel
theorem d5_41 : decode jdk_52_method_21_code 41 = .ok (.goto (-38), 3) := by decide +kernel
theorem sg5_32_6 : decs jdk_52_method_21_code [(32, .iinc 1 1, 3), (35, .iinc 3 1, 3), (38, .iinc 5 1, 3), (41, .goto (-38), 3), (3, .iload 5, 2), (5, .iload 4, 2)] := ⟨d5_32, d5_35, d5_38, d5_41, d5_3, d5_5, trivial⟩
theorem d5_44 : decode jdk_52_method_21_code 44 = .ok (.iload 4, 2) := by decide +kernel
theorem sg5_44_1 : decs jdk_52_method_21_code [(44, .iload 4, 2)] := ⟨d5_44, trivial⟩
theorem d5_46 : decode jdk_52_method_21_code 46 = .ok (.ireturn, 1) := by decide +kernel
theorem ef_rm5_0 (m : MethodId) (x0 : Addr) (x1 : Int32) (x2 : Addr) (x4 : Int32) : entryFrame m #[(.ref x0), (.int x1), (.ref x2), (.int x1), (.int x4)] 7 = mkF m 0 #[.val (.ref x0), .val (.int x1), .val (.ref x2), .val (.int x1), .val (.int x4), .unset, .unset] [] := by first | (simp [entryFrame, mkF, argsToLocals, Value.category]; done) | rfl
theorem own_pn0 : plainName "java/lang/StringUTF16" = true := by first | (simp [plainName, overriddenIn]; done) | decide +kernel
theorem own_w22 {Z : State} {a0 : Array Value} (hw : ∀ d ∈ tables_1, d.before a0 Z = true) : (Jvm.Cond.code ({ cls := "java/lang/StringUTF16", name := "compress", desc := "([CI[BII)I" } : Jvm.MethodName) jdk_52_method_21_code (7 : Nat) (Option.some Jvm.ClassFile.FieldType.int)).before a0 Z = true := hw _ (List.mem_of_getElem? (i := 22) rfl)
theorem own_w17 {Z : State} {a0 : Array Value} (hw : ∀ d ∈ tables_1, d.before a0 Z = true) : (Jvm.Cond.initialized "java/lang/StringUTF16").before a0 Z = true := hw _ (List.mem_of_getElem? (i := 17) rfl)
theorem own_pd0 : parseMethodDescriptor "([CI[BII)I" = some ⟨[(.array .char), .int, (.array .byte), .int, .int], some .int⟩ := by decide +kernel
theorem own_w21 {Z : State} {a0 : Array Value} (hw : ∀ d ∈ tables_1, d.before a0 Z = true) : (Jvm.Cond.static ({ cls := "java/lang/StringUTF16", name := "compress", desc := "([CI[BII)I" } : Jvm.MethodName)).before a0 Z = true := hw _ (List.mem_of_getElem? (i := 21) rfl)
theorem d4_12 : decode jdk_52_method_16_code 12 = .ok (.istore 4, 2) := by decide +kernel
theorem d4_14 : decode jdk_52_method_16_code 14 = .ok (.iload 4, 2) := by decide +kernel
theorem d4_16 : decode jdk_52_method_16_code 16 = .ok (.iload_n 2, 1) := by decide +kernel
theorem sg4_12_3 : decs jdk_52_method_16_code [(12, .istore 4, 2), (14, .iload 4, 2), (16, .iload_n 2, 1)] := ⟨d4_12, d4_14, d4_16, trivial⟩
theorem d4_17 : decode jdk_52_method_16_code 17 = .ok (.if_icmp .eq 40, 3) := by decide +kernel
theorem d4_57 : decode jdk_52_method_16_code 57 = .ok (.aload_n 3, 1) := by decide +kernel
theorem sg4_57_1 : decs jdk_52_method_16_code [(57, .aload_n 3, 1)] := ⟨d4_57, trivial⟩
theorem d4_58 : decode jdk_52_method_16_code 58 = .ok (.areturn, 1) := by decide +kernel
theorem ef_rm4_0 (m : MethodId) (x0 : Addr) (x1 : Int32) (x2 : Int32) : entryFrame m #[(.ref x0), (.int x1), (.int x2)] 6 = mkF m 0 #[.val (.ref x0), .val (.int x1), .val (.int x2), .unset, .unset, .unset] [] := by first | (simp [entryFrame, mkF, argsToLocals, Value.category]; done) | rfl
theorem own_w18 {Z : State} {a0 : Array Value} (hw : ∀ d ∈ tables_1, d.before a0 Z = true) : (Jvm.Cond.code ({ cls := "java/lang/StringUTF16", name := "compress", desc := "([CII)[B" } : Jvm.MethodName) jdk_52_method_16_code (6 : Nat) (Option.some (Jvm.ClassFile.FieldType.array Jvm.ClassFile.FieldType.byte))).before a0 Z = true := hw _ (List.mem_of_getElem? (i := 18) rfl)
theorem own_pd1 : parseMethodDescriptor "([CII)[B" = some ⟨[(.array .char), .int, .int], some (.array .byte)⟩ := by decide +kernel
theorem own_w16 {Z : State} {a0 : Array Value} (hw : ∀ d ∈ tables_1, d.before a0 Z = true) : (Jvm.Cond.static ({ cls := "java/lang/StringUTF16", name := "compress", desc := "([CII)[B" } : Jvm.MethodName)).before a0 Z = true := hw _ (List.mem_of_getElem? (i := 16) rfl)
theorem d2_39 : decode jdk_42_method_149_code 39 = .ok (.astore 5, 2) := by decide +kernel
theorem d2_41 : decode jdk_42_method_149_code 41 = .ok (.aload_n 0, 1) := by decide +kernel
theorem d2_42 : decode jdk_42_method_149_code 42 = .ok (.aload 5, 2) := by decide +kernel
theorem d2_44 : decode jdk_42_method_149_code 44 = .ok (.iload_n 3, 1) := by decide +kernel
theorem sg2_39_4 : decs jdk_42_method_149_code [(39, .astore 5, 2), (41, .aload_n 0, 1), (42, .aload 5, 2), (44, .iload_n 3, 1)] := ⟨d2_39, d2_41, d2_42, d2_44, trivial⟩
theorem d2_45 : decode jdk_42_method_149_code 45 = .ok (.invokestatic 47, 3) := by decide +kernel
theorem own_w23 {Z : State} {a0 : Array Value} (hw : ∀ d ∈ tables_1, d.before a0 Z = true) : (Jvm.Cond.methodLink "java/lang/String" (47 : Nat) ({ cls := "java/lang/StringUTF16", name := "coderFromArrayLen", desc := "([BI)B" } : Jvm.MethodName)).before a0 Z = true := hw _ (List.mem_of_getElem? (i := 23) rfl)
theorem d6_0 : decode jdk_52_method_15_code 0 = .ok (.iload_n 1, 1) := by decide +kernel
theorem d6_1 : decode jdk_52_method_15_code 1 = .ok (.aload_n 0, 1) := by decide +kernel
theorem sg6_0_2 : decs jdk_52_method_15_code [(0, .iload_n 1, 1), (1, .aload_n 0, 1)] := ⟨d6_0, d6_1, trivial⟩
theorem d6_2 : decode jdk_52_method_15_code 2 = .ok (.arraylength, 1) := by decide +kernel
theorem d6_3 : decode jdk_52_method_15_code 3 = .ok (.isub, 1) := by decide +kernel
theorem d6_4 : decode jdk_52_method_15_code 4 = .ok (.bipush 31, 2) := by decide +kernel
theorem d6_6 : decode jdk_52_method_15_code 6 = .ok (.iushr, 1) := by decide +kernel
theorem d6_7 : decode jdk_52_method_15_code 7 = .ok (.i2b, 1) := by decide +kernel
theorem sg6_3_4 : decs jdk_52_method_15_code [(3, .isub, 1), (4, .bipush 31, 2), (6, .iushr, 1), (7, .i2b, 1)] := ⟨d6_3, d6_4, d6_6, d6_7, trivial⟩
theorem d6_8 : decode jdk_52_method_15_code 8 = .ok (.ireturn, 1) := by decide +kernel
theorem ef_rm6_0 (m : MethodId) (x0 : Addr) (x1 : Int32) : entryFrame m #[(.ref x0), (.int x1)] 2 = mkF m 0 #[.val (.ref x0), .val (.int x1)] [] := by first | (simp [entryFrame, mkF, argsToLocals, Value.category]; done) | rfl
theorem own_w25 {Z : State} {a0 : Array Value} (hw : ∀ d ∈ tables_1, d.before a0 Z = true) : (Jvm.Cond.code ({ cls := "java/lang/StringUTF16", name := "coderFromArrayLen", desc := "([BI)B" } : Jvm.MethodName) jdk_52_method_15_code (2 : Nat) (Option.some Jvm.ClassFile.FieldType.byte)).before a0 Z = true := hw _ (List.mem_of_getElem? (i := 25) rfl)
theorem own_pd2 : parseMethodDescriptor "([BI)B" = some ⟨[(.array .byte), .int], some .byte⟩ := by decide +kernel
theorem own_w24 {Z : State} {a0 : Array Value} (hw : ∀ d ∈ tables_1, d.before a0 Z = true) : (Jvm.Cond.static ({ cls := "java/lang/StringUTF16", name := "coderFromArrayLen", desc := "([BI)B" } : Jvm.MethodName)).before a0 Z = true := hw _ (List.mem_of_getElem? (i := 24) rfl)
theorem d2_48 : decode jdk_42_method_149_code 48 = .ok (.putfield 15, 3) := by decide +kernel
theorem own_w26 {Z : State} {a0 : Array Value} (hw : ∀ d ∈ tables_1, d.before a0 Z = true) : (Jvm.Cond.fieldLink "java/lang/String" (15 : Nat) "java/lang/String" "coder" "B").before a0 Z = true := hw _ (List.mem_of_getElem? (i := 26) rfl)
theorem d2_51 : decode jdk_42_method_149_code 51 = .ok (.aload_n 0, 1) := by decide +kernel
theorem d2_52 : decode jdk_42_method_149_code 52 = .ok (.aload 5, 2) := by decide +kernel
theorem sg2_51_2 : decs jdk_42_method_149_code [(51, .aload_n 0, 1), (52, .aload 5, 2)] := ⟨d2_51, d2_52, trivial⟩
theorem d2_54 : decode jdk_42_method_149_code 54 = .ok (.putfield 9, 3) := by decide +kernel
theorem own_w28 {Z : State} {a0 : Array Value} (hw : ∀ d ∈ tables_1, d.before a0 Z = true) : (Jvm.Cond.fieldLink "java/lang/String" (9 : Nat) "java/lang/String" "value" "[B").before a0 Z = true := hw _ (List.mem_of_getElem? (i := 28) rfl)
theorem d2_57 : decode jdk_42_method_149_code 57 = .ok (.return_, 1) := by decide +kernel
theorem ef_rm2_0 (m : MethodId) (x0 : Addr) (x1 : Addr) (x2 : Int32) (x3 : Int32) : entryFrame m #[(.ref x0), (.ref x1), (.int x2), (.int x3), .null] 6 = mkF m 0 #[.val (.ref x0), .val (.ref x1), .val (.int x2), .val (.int x3), .val .null, .unset] [] := by first | (simp [entryFrame, mkF, argsToLocals, Value.category]; done) | rfl
theorem own_pn1 : plainName "java/lang/String" = true := by first | (simp [plainName, overriddenIn]; done) | decide +kernel
theorem own_w10 {Z : State} {a0 : Array Value} (hw : ∀ d ∈ tables_1, d.before a0 Z = true) : (Jvm.Cond.code ({ cls := "java/lang/String", name := "<init>", desc := "([CIILjava/lang/Void;)V" } : Jvm.MethodName) jdk_42_method_149_code (6 : Nat) (Option.none : Option Jvm.ClassFile.FieldType)).before a0 Z = true := hw _ (List.mem_of_getElem? (i := 10) rfl)
theorem own_pd3 : parseMethodDescriptor "([CIILjava/lang/Void;)V" = some ⟨[(.array .char), .int, .int, (.object "java/lang/Void")], none⟩ := by decide +kernel
theorem own_w8 {Z : State} {a0 : Array Value} (hw : ∀ d ∈ tables_1, d.before a0 Z = true) : (Jvm.Cond.instanceMethod ({ cls := "java/lang/String", name := "<init>", desc := "([CIILjava/lang/Void;)V" } : Jvm.MethodName)).before a0 Z = true := hw _ (List.mem_of_getElem? (i := 8) rfl)
theorem d1_9 : decode jdk_42_method_3_code 9 = .ok (.return_, 1) := by decide +kernel
theorem ef_rm1_0 (m : MethodId) (x0 : Addr) (x1 : Addr) : entryFrame m #[(.ref x0), (.ref x1)] 2 = mkF m 0 #[.val (.ref x0), .val (.ref x1)] [] := by first | (simp [entryFrame, mkF, argsToLocals, Value.category]; done) | rfl
theorem own_w6 {Z : State} {a0 : Array Value} (hw : ∀ d ∈ tables_1, d.before a0 Z = true) : (Jvm.Cond.code ({ cls := "java/lang/String", name := "<init>", desc := "([C)V" } : Jvm.MethodName) jdk_42_method_3_code (2 : Nat) (Option.none : Option Jvm.ClassFile.FieldType)).before a0 Z = true := hw _ (List.mem_of_getElem? (i := 6) rfl)
theorem own_pd4 : parseMethodDescriptor "([C)V" = some ⟨[(.array .char)], none⟩ := by decide +kernel
theorem own_w5 {Z : State} {a0 : Array Value} (hw : ∀ d ∈ tables_1, d.before a0 Z = true) : (Jvm.Cond.instanceMethod ({ cls := "java/lang/String", name := "<init>", desc := "([C)V" } : Jvm.MethodName)).before a0 Z = true := hw _ (List.mem_of_getElem? (i := 5) rfl)
theorem sg0_138_1 : decs code [(138, .astore 13, 2)] := ⟨at_138, trivial⟩
theorem sg0_143_2 : decs code [(143, .dup, 1), (144, .iconst 2, 1)] := ⟨at_143, at_144, trivial⟩
theorem sg0_147_3 : decs code [(147, .dup, 1), (148, .iconst 0, 1), (149, .iload 8, 2)] := ⟨at_147, at_148, at_149, trivial⟩
theorem sg0_152_3 : decs code [(152, .dup, 1), (153, .iconst 1, 1), (154, .iload 9, 2)] := ⟨at_152, at_153, at_154, trivial⟩
theorem sg0_160_1 : decs code [(160, .astore 14, 2)] := ⟨at_160, trivial⟩
theorem own_w30 {Z : State} {a0 : Array Value} (hw : ∀ d ∈ tables_1, d.before a0 Z = true) : (Jvm.Cond.classLink "com/example/token_relay/tokenrelay/MemberEqualsPinLaw" (12 : Nat) "com/example/token_relay/tokenrelay/Member").before a0 Z = true := hw _ (List.mem_of_getElem? (i := 30) rfl)
theorem own_w31 {Z : State} {a0 : Array Value} (hw : ∀ d ∈ tables_1, d.before a0 Z = true) : (Jvm.Cond.instantiable "com/example/token_relay/tokenrelay/Member" (4 : Nat)).before a0 Z = true := hw _ (List.mem_of_getElem? (i := 31) rfl)
theorem own_w32 {Z : State} {a0 : Array Value} (hw : ∀ d ∈ tables_1, d.before a0 Z = true) : (Jvm.Cond.initialized "com/example/token_relay/tokenrelay/Member").before a0 Z = true := hw _ (List.mem_of_getElem? (i := 32) rfl)
theorem own_w38 {Z : State} {a0 : Array Value} (hw : ∀ d ∈ tables_1, d.before a0 Z = true) : (Jvm.Cond.laysFinal "com/example/token_relay/tokenrelay/Member" "com/example/token_relay/tokenrelay/Member" "id" "I").before a0 Z = true := hw _ (List.mem_of_getElem? (i := 38) rfl)
theorem own_w48 {Z : State} {a0 : Array Value} (hw : ∀ d ∈ tables_1, d.before a0 Z = true) : (Jvm.Cond.laysFinal "com/example/token_relay/tokenrelay/Member" "com/example/token_relay/tokenrelay/Member" "host" "Ljava/lang/String;").before a0 Z = true := hw _ (List.mem_of_getElem? (i := 48) rfl)
theorem own_w50 {Z : State} {a0 : Array Value} (hw : ∀ d ∈ tables_1, d.before a0 Z = true) : (Jvm.Cond.laysFinal "com/example/token_relay/tokenrelay/Member" "com/example/token_relay/tokenrelay/Member" "peerPort" "I").before a0 Z = true := hw _ (List.mem_of_getElem? (i := 50) rfl)
theorem own_w52 {Z : State} {a0 : Array Value} (hw : ∀ d ∈ tables_1, d.before a0 Z = true) : (Jvm.Cond.laysFinal "com/example/token_relay/tokenrelay/Member" "com/example/token_relay/tokenrelay/Member" "clientPort" "I").before a0 Z = true := hw _ (List.mem_of_getElem? (i := 52) rfl)
theorem sg0_165_5 : decs code [(165, .dup, 1), (166, .iload_n 0, 1), (167, .aload 13, 2), (169, .iload_n 1, 1), (170, .iload_n 2, 1)] := ⟨at_165, at_166, at_167, at_169, at_170, trivial⟩
theorem own_w33 {Z : State} {a0 : Array Value} (hw : ∀ d ∈ tables_1, d.before a0 Z = true) : (Jvm.Cond.methodLink "com/example/token_relay/tokenrelay/MemberEqualsPinLaw" (14 : Nat) ({ cls := "com/example/token_relay/tokenrelay/Member", name := "<init>", desc := "(ILjava/lang/String;II)V" } : Jvm.MethodName)).before a0 Z = true := hw _ (List.mem_of_getElem? (i := 33) rfl)
theorem d7_0 : decode prog_8_method_1_code 0 = .ok (.aload_n 0, 1) := by decide +kernel
theorem sg7_0_1 : decs prog_8_method_1_code [(0, .aload_n 0, 1)] := ⟨d7_0, trivial⟩
theorem d7_1 : decode prog_8_method_1_code 1 = .ok (.invokespecial 1, 3) := by decide +kernel
theorem own_w36 {Z : State} {a0 : Array Value} (hw : ∀ d ∈ tables_1, d.before a0 Z = true) : (Jvm.Cond.methodLink "com/example/token_relay/tokenrelay/Member" (1 : Nat) ({ cls := "java/lang/Object", name := "<init>", desc := "()V" } : Jvm.MethodName)).before a0 Z = true := hw _ (List.mem_of_getElem? (i := 36) rfl)
theorem d7_4 : decode prog_8_method_1_code 4 = .ok (.aload_n 0, 1) := by decide +kernel
theorem d7_5 : decode prog_8_method_1_code 5 = .ok (.iload_n 1, 1) := by decide +kernel
theorem sg7_4_2 : decs prog_8_method_1_code [(4, .aload_n 0, 1), (5, .iload_n 1, 1)] := ⟨d7_4, d7_5, trivial⟩
theorem d7_6 : decode prog_8_method_1_code 6 = .ok (.putfield 7, 3) := by decide +kernel
theorem own_w37 {Z : State} {a0 : Array Value} (hw : ∀ d ∈ tables_1, d.before a0 Z = true) : (Jvm.Cond.fieldLink "com/example/token_relay/tokenrelay/Member" (7 : Nat) "com/example/token_relay/tokenrelay/Member" "id" "I").before a0 Z = true := hw _ (List.mem_of_getElem? (i := 37) rfl)
theorem d7_9 : decode prog_8_method_1_code 9 = .ok (.aload_n 0, 1) := by decide +kernel
theorem d7_10 : decode prog_8_method_1_code 10 = .ok (.aload_n 2, 1) := by decide +kernel
theorem sg7_9_2 : decs prog_8_method_1_code [(9, .aload_n 0, 1), (10, .aload_n 2, 1)] := ⟨d7_9, d7_10, trivial⟩
theorem d7_11 : decode prog_8_method_1_code 11 = .ok (.ldc 13, 2) := by decide +kernel
theorem own_w39 {Z : State} {a0 : Array Value} (hw : ∀ d ∈ tables_1, d.before a0 Z = true) : (Jvm.Cond.stringLink "com/example/token_relay/tokenrelay/Member" (13 : Nat) "host").before a0 Z = true := hw _ (List.mem_of_getElem? (i := 39) rfl)
theorem d7_13 : decode prog_8_method_1_code 13 = .ok (.invokestatic 15, 3) := by decide +kernel
theorem own_w42 {Z : State} {a0 : Array Value} (hw : ∀ d ∈ tables_1, d.before a0 Z = true) : (Jvm.Cond.methodLink "com/example/token_relay/tokenrelay/Member" (15 : Nat) ({ cls := "java/util/Objects", name := "requireNonNull", desc := "(Ljava/lang/Object;Ljava/lang/String;)Ljava/lang/Object;" } : Jvm.MethodName)).before a0 Z = true := hw _ (List.mem_of_getElem? (i := 42) rfl)
theorem d8_0 : decode jdk_31_method_11_code 0 = .ok (.aload_n 0, 1) := by decide +kernel
theorem sg8_0_1 : decs jdk_31_method_11_code [(0, .aload_n 0, 1)] := ⟨d8_0, trivial⟩
theorem d8_1 : decode jdk_31_method_11_code 1 = .ok (.ifnonnull 12, 3) := by decide +kernel
theorem d8_13 : decode jdk_31_method_11_code 13 = .ok (.aload_n 0, 1) := by decide +kernel
theorem sg8_13_1 : decs jdk_31_method_11_code [(13, .aload_n 0, 1)] := ⟨d8_13, trivial⟩
theorem d8_14 : decode jdk_31_method_11_code 14 = .ok (.areturn, 1) := by decide +kernel
theorem ef_rm8_0 (m : MethodId) (x0 : Addr) (x1 : Addr) : entryFrame m #[(.ref x0), (.ref x1)] 2 = mkF m 0 #[.val (.ref x0), .val (.ref x1)] [] := by first | (simp [entryFrame, mkF, argsToLocals, Value.category]; done) | rfl
theorem own_pn2 : plainName "java/util/Objects" = true := by first | (simp [plainName, overriddenIn]; done) | decide +kernel
theorem own_w45 {Z : State} {a0 : Array Value} (hw : ∀ d ∈ tables_1, d.before a0 Z = true) : (Jvm.Cond.code ({ cls := "java/util/Objects", name := "requireNonNull", desc := "(Ljava/lang/Object;Ljava/lang/String;)Ljava/lang/Object;" } : Jvm.MethodName) jdk_31_method_11_code (2 : Nat) (Option.some (Jvm.ClassFile.FieldType.object "java/lang/Object"))).before a0 Z = true := hw _ (List.mem_of_getElem? (i := 45) rfl)
theorem own_w44 {Z : State} {a0 : Array Value} (hw : ∀ d ∈ tables_1, d.before a0 Z = true) : (Jvm.Cond.initialized "java/util/Objects").before a0 Z = true := hw _ (List.mem_of_getElem? (i := 44) rfl)
theorem own_pd5 : parseMethodDescriptor "(Ljava/lang/Object;Ljava/lang/String;)Ljava/lang/Object;" = some ⟨[(.object "java/lang/Object"), (.object "java/lang/String")], some (.object "java/lang/Object")⟩ := by decide +kernel
theorem own_w43 {Z : State} {a0 : Array Value} (hw : ∀ d ∈ tables_1, d.before a0 Z = true) : (Jvm.Cond.static ({ cls := "java/util/Objects", name := "requireNonNull", desc := "(Ljava/lang/Object;Ljava/lang/String;)Ljava/lang/Object;" } : Jvm.MethodName)).before a0 Z = true := hw _ (List.mem_of_getElem? (i := 43) rfl)
theorem d7_16 : decode prog_8_method_1_code 16 = .ok (.checkcast 21, 3) := by decide +kernel
theorem own_w46 {Z : State} {a0 : Array Value} (hw : ∀ d ∈ tables_1, d.before a0 Z = true) : (Jvm.Cond.classLink "com/example/token_relay/tokenrelay/Member" (21 : Nat) "java/lang/String").before a0 Z = true := hw _ (List.mem_of_getElem? (i := 46) rfl)
theorem d7_19 : decode prog_8_method_1_code 19 = .ok (.putfield 23, 3) := by decide +kernel
theorem own_w47 {Z : State} {a0 : Array Value} (hw : ∀ d ∈ tables_1, d.before a0 Z = true) : (Jvm.Cond.fieldLink "com/example/token_relay/tokenrelay/Member" (23 : Nat) "com/example/token_relay/tokenrelay/Member" "host" "Ljava/lang/String;").before a0 Z = true := hw _ (List.mem_of_getElem? (i := 47) rfl)
theorem d7_22 : decode prog_8_method_1_code 22 = .ok (.aload_n 0, 1) := by decide +kernel
theorem d7_23 : decode prog_8_method_1_code 23 = .ok (.iload_n 3, 1) := by decide +kernel
theorem sg7_22_2 : decs prog_8_method_1_code [(22, .aload_n 0, 1), (23, .iload_n 3, 1)] := ⟨d7_22, d7_23, trivial⟩
theorem d7_24 : decode prog_8_method_1_code 24 = .ok (.putfield 26, 3) := by decide +kernel
theorem own_w49 {Z : State} {a0 : Array Value} (hw : ∀ d ∈ tables_1, d.before a0 Z = true) : (Jvm.Cond.fieldLink "com/example/token_relay/tokenrelay/Member" (26 : Nat) "com/example/token_relay/tokenrelay/Member" "peerPort" "I").before a0 Z = true := hw _ (List.mem_of_getElem? (i := 49) rfl)
theorem d7_27 : decode prog_8_method_1_code 27 = .ok (.aload_n 0, 1) := by decide +kernel
theorem d7_28 : decode prog_8_method_1_code 28 = .ok (.iload 4, 2) := by decide +kernel
theorem sg7_27_2 : decs prog_8_method_1_code [(27, .aload_n 0, 1), (28, .iload 4, 2)] := ⟨d7_27, d7_28, trivial⟩
theorem d7_30 : decode prog_8_method_1_code 30 = .ok (.putfield 29, 3) := by decide +kernel
theorem own_w51 {Z : State} {a0 : Array Value} (hw : ∀ d ∈ tables_1, d.before a0 Z = true) : (Jvm.Cond.fieldLink "com/example/token_relay/tokenrelay/Member" (29 : Nat) "com/example/token_relay/tokenrelay/Member" "clientPort" "I").before a0 Z = true := hw _ (List.mem_of_getElem? (i := 51) rfl)
theorem d7_33 : decode prog_8_method_1_code 33 = .ok (.return_, 1) := by decide +kernel
theorem ef_rm7_0 (m : MethodId) (x0 : Addr) (x1 : Int32) (x2 : Addr) (x3 : Int32) (x4 : Int32) : entryFrame m #[(.ref x0), (.int x1), (.ref x2), (.int x3), (.int x4)] 5 = mkF m 0 #[.val (.ref x0), .val (.int x1), .val (.ref x2), .val (.int x3), .val (.int x4)] [] := by first | (simp [entryFrame, mkF, argsToLocals, Value.category]; done) | rfl
theorem own_pn3 : plainName "com/example/token_relay/tokenrelay/Member" = true := by first | (simp [plainName, overriddenIn]; done) | decide +kernel
theorem own_w35 {Z : State} {a0 : Array Value} (hw : ∀ d ∈ tables_1, d.before a0 Z = true) : (Jvm.Cond.code ({ cls := "com/example/token_relay/tokenrelay/Member", name := "<init>", desc := "(ILjava/lang/String;II)V" } : Jvm.MethodName) prog_8_method_1_code (5 : Nat) (Option.none : Option Jvm.ClassFile.FieldType)).before a0 Z = true := hw _ (List.mem_of_getElem? (i := 35) rfl)
theorem own_pd6 : parseMethodDescriptor "(ILjava/lang/String;II)V" = some ⟨[.int, (.object "java/lang/String"), .int, .int], none⟩ := by decide +kernel
theorem own_w34 {Z : State} {a0 : Array Value} (hw : ∀ d ∈ tables_1, d.before a0 Z = true) : (Jvm.Cond.instanceMethod ({ cls := "com/example/token_relay/tokenrelay/Member", name := "<init>", desc := "(ILjava/lang/String;II)V" } : Jvm.MethodName)).before a0 Z = true := hw _ (List.mem_of_getElem? (i := 34) rfl)
theorem sg0_174_1 : decs code [(174, .astore 15, 2)] := ⟨at_174, trivial⟩
theorem sg0_179_5 : decs code [(179, .dup, 1), (180, .iload 10, 2), (182, .aload 14, 2), (184, .iload 11, 2), (186, .iload 12, 2)] := ⟨at_179, at_180, at_182, at_184, at_186, trivial⟩
theorem sg0_191_7 : decs code [(191, .astore 16, 2), (193, .iload 5, 2), (195, .iconst 4, 1), (196, .iushr, 1), (197, .iconst 3, 1), (198, .iand, 1), (199, .istore 17, 2)] := ⟨at_191, at_193, at_195, at_196, at_197, at_198, at_199, trivial⟩
theorem sg0_201_2 : decs code [(201, .iload 17, 2), (203, .iconst 1, 1)] := ⟨at_201, at_203, trivial⟩
theorem sg0_207_2 : decs code [(207, .aload 15, 2), (209, .aload 15, 2)] := ⟨at_207, at_209, trivial⟩
theorem own_w53 {Z : State} {a0 : Array Value} (hw : ∀ d ∈ tables_1, d.before a0 Z = true) : (Jvm.Cond.methodLink "com/example/token_relay/tokenrelay/MemberEqualsPinLaw" (17 : Nat) ({ cls := "com/example/token_relay/tokenrelay/Member", name := "equals", desc := "(Ljava/lang/Object;)Z" } : Jvm.MethodName)).before a0 Z = true := hw _ (List.mem_of_getElem? (i := 53) rfl)
theorem d9_0 : decode prog_8_method_8_code 0 = .ok (.aload_n 0, 1) := by decide +kernel
theorem d9_1 : decode prog_8_method_8_code 1 = .ok (.aload_n 1, 1) := by decide +kernel
theorem sg9_0_2 : decs prog_8_method_8_code [(0, .aload_n 0, 1), (1, .aload_n 1, 1)] := ⟨d9_0, d9_1, trivial⟩
theorem d9_2 : decode prog_8_method_8_code 2 = .ok (.if_acmp .ne 5, 3) := by decide +kernel
theorem d9_5 : decode prog_8_method_8_code 5 = .ok (.iconst 1, 1) := by decide +kernel
theorem sg9_5_1 : decs prog_8_method_8_code [(5, .iconst 1, 1)] := ⟨d9_5, trivial⟩
theorem d9_6 : decode prog_8_method_8_code 6 = .ok (.ireturn, 1) := by decide +kernel
theorem ef_rm9_0 (m : MethodId) (x0 : Addr) : entryFrame m #[(.ref x0), (.ref x0)] 3 = mkF m 0 #[.val (.ref x0), .val (.ref x0), .unset] [] := by first | (simp [entryFrame, mkF, argsToLocals, Value.category]; done) | rfl
theorem own_w57 {Z : State} {a0 : Array Value} (hw : ∀ d ∈ tables_1, d.before a0 Z = true) : (Jvm.Cond.code ({ cls := "com/example/token_relay/tokenrelay/Member", name := "equals", desc := "(Ljava/lang/Object;)Z" } : Jvm.MethodName) prog_8_method_8_code (3 : Nat) (Option.some Jvm.ClassFile.FieldType.boolean)).before a0 Z = true := hw _ (List.mem_of_getElem? (i := 57) rfl)
theorem own_pd7 : parseMethodDescriptor "(Ljava/lang/Object;)Z" = some ⟨[(.object "java/lang/Object")], some .boolean⟩ := by decide +kernel
theorem own_w56 {Z : State} {a0 : Array Value} (hw : ∀ d ∈ tables_1, d.before a0 Z = true) : (Jvm.Cond.selects "com/example/token_relay/tokenrelay/Member" ({ cls := "com/example/token_relay/tokenrelay/Member", name := "equals", desc := "(Ljava/lang/Object;)Z" } : Jvm.MethodName) ({ cls := "com/example/token_relay/tokenrelay/Member", name := "equals", desc := "(Ljava/lang/Object;)Z" } : Jvm.MethodName)).before a0 Z = true := hw _ (List.mem_of_getElem? (i := 56) rfl)
theorem own_w54 {Z : State} {a0 : Array Value} (hw : ∀ d ∈ tables_1, d.before a0 Z = true) : (Jvm.Cond.declares ({ cls := "com/example/token_relay/tokenrelay/Member", name := "equals", desc := "(Ljava/lang/Object;)Z" } : Jvm.MethodName)).before a0 Z = true := hw _ (List.mem_of_getElem? (i := 54) rfl)
theorem own_w55 {Z : State} {a0 : Array Value} (hw : ∀ d ∈ tables_1, d.before a0 Z = true) : (Jvm.Cond.instanceMethod ({ cls := "com/example/token_relay/tokenrelay/Member", name := "equals", desc := "(Ljava/lang/Object;)Z" } : Jvm.MethodName)).before a0 Z = true := hw _ (List.mem_of_getElem? (i := 55) rfl)
theorem sg0_215_2 : decs code [(215, .iload 17, 2), (217, .iconst 2, 1)] := ⟨at_215, at_217, trivial⟩
theorem sg0_221_2 : decs code [(221, .aload 15, 2), (223, .aload 13, 2)] := ⟨at_221, at_223, trivial⟩
theorem d9_7 : decode prog_8_method_8_code 7 = .ok (.aload_n 1, 1) := by decide +kernel
theorem sg9_7_1 : decs prog_8_method_8_code [(7, .aload_n 1, 1)] := ⟨d9_7, trivial⟩
theorem d9_8 : decode prog_8_method_8_code 8 = .ok (.instanceof 8, 3) := by decide +kernel
theorem own_w58 {Z : State} {a0 : Array Value} (hw : ∀ d ∈ tables_1, d.before a0 Z = true) : (Jvm.Cond.classLink "com/example/token_relay/tokenrelay/Member" (8 : Nat) "com/example/token_relay/tokenrelay/Member").before a0 Z = true := hw _ (List.mem_of_getElem? (i := 58) rfl)
theorem own_w70 {Z : State} {a0 : Array Value} (hw : ∀ d ∈ tables_1, d.before a0 Z = true) : (Jvm.Cond.superclass "java/lang/String" "java/lang/Object").before a0 Z = true := hw _ (List.mem_of_getElem? (i := 70) rfl)
theorem own_w71 {Z : State} {a0 : Array Value} (hw : ∀ d ∈ tables_1, d.before a0 Z = true) : (Jvm.Cond.noSuperclass "java/lang/Object").before a0 Z = true := hw _ (List.mem_of_getElem? (i := 71) rfl)
theorem d9_11 : decode prog_8_method_8_code 11 = .ok (.ifCond .ne 5, 3) := by decide +kernel
theorem d9_14 : decode prog_8_method_8_code 14 = .ok (.iconst 0, 1) := by decide +kernel
theorem sg9_14_1 : decs prog_8_method_8_code [(14, .iconst 0, 1)] := ⟨d9_14, trivial⟩
theorem d9_15 : decode prog_8_method_8_code 15 = .ok (.ireturn, 1) := by decide +kernel
theorem ef_rm9_1 (m : MethodId) (x0 : Addr) (x1 : Addr) : entryFrame m #[(.ref x0), (.ref x1)] 3 = mkF m 0 #[.val (.ref x0), .val (.ref x1), .unset] [] := by first | (simp [entryFrame, mkF, argsToLocals, Value.category]; done) | rfl
theorem sg0_231_2 : decs code [(231, .iconst 1, 1), (232, .goto 4, 3)] := ⟨at_231, at_232, trivial⟩
theorem sg0_237_2 : decs code [(237, .iload 17, 2), (239, .iconst 3, 1)] := ⟨at_237, at_239, trivial⟩
theorem sg0_243_2 : decs code [(243, .aload 15, 2), (245, .aconst_null, 1)] := ⟨at_243, at_245, trivial⟩
theorem ef_rm9_2 (m : MethodId) (x0 : Addr) : entryFrame m #[(.ref x0), .null] 3 = mkF m 0 #[.val (.ref x0), .val .null, .unset] [] := by first | (simp [entryFrame, mkF, argsToLocals, Value.category]; done) | rfl
theorem sg0_252_2 : decs code [(252, .iconst 1, 1), (253, .goto 4, 3)] := ⟨at_252, at_253, trivial⟩
theorem sg0_258_2 : decs code [(258, .iload_n 0, 1), (259, .iload 10, 2)] := ⟨at_258, at_259, trivial⟩
theorem sg0_264_2 : decs code [(264, .iload_n 1, 1), (265, .iload 11, 2)] := ⟨at_264, at_265, trivial⟩
theorem sg0_270_2 : decs code [(270, .iload_n 2, 1), (271, .iload 12, 2)] := ⟨at_270, at_271, trivial⟩
theorem sg0_276_2 : decs code [(276, .iload 6, 2), (278, .iload 8, 2)] := ⟨at_276, at_278, trivial⟩
theorem sg0_283_2 : decs code [(283, .iload 7, 2), (285, .iload 9, 2)] := ⟨at_283, at_285, trivial⟩
theorem sg0_290_2 : decs code [(290, .iconst 1, 1), (291, .goto 4, 3)] := ⟨at_290, at_291, trivial⟩
theorem sg0_294_1 : decs code [(294, .iconst 0, 1)] := ⟨at_294, trivial⟩
theorem sg0_295_3 : decs code [(295, .istore 18, 2), (297, .aload 15, 2), (299, .aload 16, 2)] := ⟨at_295, at_297, at_299, trivial⟩
theorem d9_16 : decode prog_8_method_8_code 16 = .ok (.aload_n 1, 1) := by decide +kernel
theorem sg9_16_1 : decs prog_8_method_8_code [(16, .aload_n 1, 1)] := ⟨d9_16, trivial⟩
theorem d9_17 : decode prog_8_method_8_code 17 = .ok (.checkcast 8, 3) := by decide +kernel
theorem d9_20 : decode prog_8_method_8_code 20 = .ok (.astore_n 2, 1) := by decide +kernel
theorem d9_21 : decode prog_8_method_8_code 21 = .ok (.aload_n 0, 1) := by decide +kernel
theorem sg9_20_2 : decs prog_8_method_8_code [(20, .astore_n 2, 1), (21, .aload_n 0, 1)] := ⟨d9_20, d9_21, trivial⟩
theorem d9_22 : decode prog_8_method_8_code 22 = .ok (.getfield 7, 3) := by decide +kernel
theorem d9_25 : decode prog_8_method_8_code 25 = .ok (.aload_n 2, 1) := by decide +kernel
theorem sg9_25_1 : decs prog_8_method_8_code [(25, .aload_n 2, 1)] := ⟨d9_25, trivial⟩
theorem d9_26 : decode prog_8_method_8_code 26 = .ok (.getfield 7, 3) := by decide +kernel
theorem d9_29 : decode prog_8_method_8_code 29 = .ok (.if_icmp .ne 43, 3) := by decide +kernel
theorem d9_32 : decode prog_8_method_8_code 32 = .ok (.aload_n 0, 1) := by decide +kernel
theorem sg9_32_1 : decs prog_8_method_8_code [(32, .aload_n 0, 1)] := ⟨d9_32, trivial⟩
theorem d9_33 : decode prog_8_method_8_code 33 = .ok (.getfield 26, 3) := by decide +kernel
theorem d9_36 : decode prog_8_method_8_code 36 = .ok (.aload_n 2, 1) := by decide +kernel
theorem sg9_36_1 : decs prog_8_method_8_code [(36, .aload_n 2, 1)] := ⟨d9_36, trivial⟩
theorem d9_37 : decode prog_8_method_8_code 37 = .ok (.getfield 26, 3) := by decide +kernel
theorem d9_40 : decode prog_8_method_8_code 40 = .ok (.if_icmp .ne 32, 3) := by decide +kernel
theorem d9_43 : decode prog_8_method_8_code 43 = .ok (.aload_n 0, 1) := by decide +kernel
theorem sg9_43_1 : decs prog_8_method_8_code [(43, .aload_n 0, 1)] := ⟨d9_43, trivial⟩
theorem d9_44 : decode prog_8_method_8_code 44 = .ok (.getfield 29, 3) := by decide +kernel
theorem d9_47 : decode prog_8_method_8_code 47 = .ok (.aload_n 2, 1) := by decide +kernel
theorem sg9_47_1 : decs prog_8_method_8_code [(47, .aload_n 2, 1)] := ⟨d9_47, trivial⟩
theorem d9_48 : decode prog_8_method_8_code 48 = .ok (.getfield 29, 3) := by decide +kernel
theorem d9_51 : decode prog_8_method_8_code 51 = .ok (.if_icmp .ne 21, 3) := by decide +kernel
theorem d9_54 : decode prog_8_method_8_code 54 = .ok (.aload_n 0, 1) := by decide +kernel
theorem sg9_54_1 : decs prog_8_method_8_code [(54, .aload_n 0, 1)] := ⟨d9_54, trivial⟩
theorem d9_55 : decode prog_8_method_8_code 55 = .ok (.getfield 23, 3) := by decide +kernel
theorem d9_58 : decode prog_8_method_8_code 58 = .ok (.aload_n 2, 1) := by decide +kernel
theorem sg9_58_1 : decs prog_8_method_8_code [(58, .aload_n 2, 1)] := ⟨d9_58, trivial⟩
theorem d9_59 : decode prog_8_method_8_code 59 = .ok (.getfield 23, 3) := by decide +kernel
theorem d9_62 : decode prog_8_method_8_code 62 = .ok (.invokevirtual 39, 3) := by decide +kernel
theorem own_w60 {Z : State} {a0 : Array Value} (hw : ∀ d ∈ tables_1, d.before a0 Z = true) : (Jvm.Cond.methodLink "com/example/token_relay/tokenrelay/Member" (39 : Nat) ({ cls := "java/lang/String", name := "equals", desc := "(Ljava/lang/Object;)Z" } : Jvm.MethodName)).before a0 Z = true := hw _ (List.mem_of_getElem? (i := 60) rfl)
theorem d10_0 : decode jdk_42_method_66_code 0 = .ok (.aload_n 0, 1) := by decide +kernel
theorem d10_1 : decode jdk_42_method_66_code 1 = .ok (.aload_n 1, 1) := by decide +kernel
theorem sg10_0_2 : decs jdk_42_method_66_code [(0, .aload_n 0, 1), (1, .aload_n 1, 1)] := ⟨d10_0, d10_1, trivial⟩
theorem d10_2 : decode jdk_42_method_66_code 2 = .ok (.if_acmp .ne 5, 3) := by decide +kernel
theorem d10_7 : decode jdk_42_method_66_code 7 = .ok (.aload_n 1, 1) := by decide +kernel
theorem sg10_7_1 : decs jdk_42_method_66_code [(7, .aload_n 1, 1)] := ⟨d10_7, trivial⟩
theorem d10_8 : decode jdk_42_method_66_code 8 = .ok (.instanceof 10, 3) := by decide +kernel
theorem own_w65 {Z : State} {a0 : Array Value} (hw : ∀ d ∈ tables_1, d.before a0 Z = true) : (Jvm.Cond.classLink "java/lang/String" (10 : Nat) "java/lang/String").before a0 Z = true := hw _ (List.mem_of_getElem? (i := 65) rfl)
theorem d10_11 : decode jdk_42_method_66_code 11 = .ok (.ifCond .eq 43, 3) := by decide +kernel
theorem d10_14 : decode jdk_42_method_66_code 14 = .ok (.aload_n 1, 1) := by decide +kernel
theorem sg10_14_1 : decs jdk_42_method_66_code [(14, .aload_n 1, 1)] := ⟨d10_14, trivial⟩
theorem d10_15 : decode jdk_42_method_66_code 15 = .ok (.checkcast 10, 3) := by decide +kernel
theorem d10_18 : decode jdk_42_method_66_code 18 = .ok (.astore_n 2, 1) := by decide +kernel
theorem sg10_18_1 : decs jdk_42_method_66_code [(18, .astore_n 2, 1)] := ⟨d10_18, trivial⟩
theorem d10_19 : decode jdk_42_method_66_code 19 = .ok (.getstatic 38, 3) := by decide +kernel
theorem d10_22 : decode jdk_42_method_66_code 22 = .ok (.ifCond .eq 14, 3) := by decide +kernel
theorem d10_25 : decode jdk_42_method_66_code 25 = .ok (.aload_n 0, 1) := by decide +kernel
theorem sg10_25_1 : decs jdk_42_method_66_code [(25, .aload_n 0, 1)] := ⟨d10_25, trivial⟩
theorem d10_26 : decode jdk_42_method_66_code 26 = .ok (.getfield 15, 3) := by decide +kernel
theorem d10_29 : decode jdk_42_method_66_code 29 = .ok (.aload_n 2, 1) := by decide +kernel
theorem sg10_29_1 : decs jdk_42_method_66_code [(29, .aload_n 2, 1)] := ⟨d10_29, trivial⟩
theorem d10_30 : decode jdk_42_method_66_code 30 = .ok (.getfield 15, 3) := by decide +kernel
theorem d10_33 : decode jdk_42_method_66_code 33 = .ok (.if_icmp .ne 21, 3) := by decide +kernel
theorem d10_36 : decode jdk_42_method_66_code 36 = .ok (.aload_n 0, 1) := by decide +kernel
theorem sg10_36_1 : decs jdk_42_method_66_code [(36, .aload_n 0, 1)] := ⟨d10_36, trivial⟩
theorem d10_37 : decode jdk_42_method_66_code 37 = .ok (.getfield 9, 3) := by decide +kernel
theorem d10_40 : decode jdk_42_method_66_code 40 = .ok (.aload_n 2, 1) := by decide +kernel
theorem sg10_40_1 : decs jdk_42_method_66_code [(40, .aload_n 2, 1)] := ⟨d10_40, trivial⟩
theorem d10_41 : decode jdk_42_method_66_code 41 = .ok (.getfield 9, 3) := by decide +kernel
theorem d10_44 : decode jdk_42_method_66_code 44 = .ok (.invokestatic 541, 3) := by decide +kernel
theorem own_w66 {Z : State} {a0 : Array Value} (hw : ∀ d ∈ tables_1, d.before a0 Z = true) : (Jvm.Cond.methodLink "java/lang/String" (541 : Nat) ({ cls := "java/lang/StringLatin1", name := "equals", desc := "([B[B)Z" } : Jvm.MethodName)).before a0 Z = true := hw _ (List.mem_of_getElem? (i := 66) rfl)
theorem d11_0 : decode jdk_43_method_13_code 0 = .ok (.aload_n 0, 1) := by decide +kernel
theorem sg11_0_1 : decs jdk_43_method_13_code [(0, .aload_n 0, 1)] := ⟨d11_0, trivial⟩
theorem d11_1 : decode jdk_43_method_13_code 1 = .ok (.arraylength, 1) := by decide +kernel
theorem d11_2 : decode jdk_43_method_13_code 2 = .ok (.aload_n 1, 1) := by decide +kernel
theorem sg11_2_1 : decs jdk_43_method_13_code [(2, .aload_n 1, 1)] := ⟨d11_2, trivial⟩
theorem d11_3 : decode jdk_43_method_13_code 3 = .ok (.arraylength, 1) := by decide +kernel
theorem d11_4 : decode jdk_43_method_13_code 4 = .ok (.if_icmp .ne 30, 3) := by decide +kernel
theorem d11_7 : decode jdk_43_method_13_code 7 = .ok (.iconst 0, 1) := by decide +kernel
theorem d11_8 : decode jdk_43_method_13_code 8 = .ok (.istore_n 2, 1) := by decide +kernel
theorem d11_9 : decode jdk_43_method_13_code 9 = .ok (.iload_n 2, 1) := by decide +kernel
theorem d11_10 : decode jdk_43_method_13_code 10 = .ok (.aload_n 0, 1) := by decide +kernel
theorem sg11_7_4 : decs jdk_43_method_13_code [(7, .iconst 0, 1), (8, .istore_n 2, 1), (9, .iload_n 2, 1), (10, .aload_n 0, 1)] := ⟨d11_7, d11_8, d11_9, d11_10, trivial⟩
theorem d11_11 : decode jdk_43_method_13_code 11 = .ok (.arraylength, 1) := by decide +kernel
theorem d11_12 : decode jdk_43_method_13_code 12 = .ok (.if_icmp .ge 20, 3) := by decide +kernel
theorem d11_15 : decode jdk_43_method_13_code 15 = .ok (.aload_n 0, 1) := by decide +kernel
theorem d11_16 : decode jdk_43_method_13_code 16 = .ok (.iload_n 2, 1) := by decide +kernel
theorem sg11_15_2 : decs jdk_43_method_13_code [(15, .aload_n 0, 1), (16, .iload_n 2, 1)] := ⟨d11_15, d11_16, trivial⟩
theorem d11_17 : decode jdk_43_method_13_code 17 = .ok (.baload, 1) := by decide +kernel
theorem d11_18 : decode jdk_43_method_13_code 18 = .ok (.aload_n 1, 1) := by decide +kernel
theorem d11_19 : decode jdk_43_method_13_code 19 = .ok (.iload_n 2, 1) := by decide +kernel
theorem sg11_18_2 : decs jdk_43_method_13_code [(18, .aload_n 1, 1), (19, .iload_n 2, 1)] := ⟨d11_18, d11_19, trivial⟩
theorem d11_20 : decode jdk_43_method_13_code 20 = .ok (.baload, 1) := by decide +kernel
theorem d11_21 : decode jdk_43_method_13_code 21 = .ok (.if_icmp .eq 5, 3) := by decide +kernel
theorem d11_26 : decode jdk_43_method_13_code 26 = .ok (.iinc 2 1, 3) := by decide +kernel
theorem d11_29 : decode jdk_43_method_13_code 29 = .ok (.goto (-20), 3) := by decide +kernel
theorem sg11_26_4 : decs jdk_43_method_13_code [(26, .iinc 2 1, 3), (29, .goto (-20), 3), (9, .iload_n 2, 1), (10, .aload_n 0, 1)] := ⟨d11_26, d11_29, d11_9, d11_10, trivial⟩
theorem d11_32 : decode jdk_43_method_13_code 32 = .ok (.iconst 1, 1) := by decide +kernel
theorem sg11_32_1 : decs jdk_43_method_13_code [(32, .iconst 1, 1)] := ⟨d11_32, trivial⟩
theorem d11_33 : decode jdk_43_method_13_code 33 = .ok (.ireturn, 1) := by decide +kernel
theorem d11_24 : decode jdk_43_method_13_code 24 = .ok (.iconst 0, 1) := by decide +kernel
theorem sg11_24_1 : decs jdk_43_method_13_code [(24, .iconst 0, 1)] := ⟨d11_24, trivial⟩
theorem d11_25 : decode jdk_43_method_13_code 25 = .ok (.ireturn, 1) := by decide +kernel
def f_rm11_0 (u1 : Int32) (u2 : Int32) (u3 : Int32) (u4 : Int32) : Int32 := (if u1 = u3 then (if u2 = u4 then (1 : Int32) else (0 : Int32)) else (0 : Int32))
theorem ef_rm11_0 (m : MethodId) (x0 : Addr) (x1 : Addr) : entryFrame m #[(.ref x0), (.ref x1)] 3 = mkF m 0 #[.val (.ref x0), .val (.ref x1), .unset] [] := by first | (simp [entryFrame, mkF, argsToLocals, Value.category]; done) | rfl
theorem own_pn4 : plainName "java/lang/StringLatin1" = true := by first | (simp [plainName, overriddenIn]; done) | decide +kernel
theorem own_w69 {Z : State} {a0 : Array Value} (hw : ∀ d ∈ tables_1, d.before a0 Z = true) : (Jvm.Cond.code ({ cls := "java/lang/StringLatin1", name := "equals", desc := "([B[B)Z" } : Jvm.MethodName) jdk_43_method_13_code (3 : Nat) (Option.some Jvm.ClassFile.FieldType.boolean)).before a0 Z = true := hw _ (List.mem_of_getElem? (i := 69) rfl)
theorem own_w68 {Z : State} {a0 : Array Value} (hw : ∀ d ∈ tables_1, d.before a0 Z = true) : (Jvm.Cond.initialized "java/lang/StringLatin1").before a0 Z = true := hw _ (List.mem_of_getElem? (i := 68) rfl)
theorem own_pd8 : parseMethodDescriptor "([B[B)Z" = some ⟨[(.array .byte), (.array .byte)], some .boolean⟩ := by decide +kernel
theorem own_w67 {Z : State} {a0 : Array Value} (hw : ∀ d ∈ tables_1, d.before a0 Z = true) : (Jvm.Cond.static ({ cls := "java/lang/StringLatin1", name := "equals", desc := "([B[B)Z" } : Jvm.MethodName)).before a0 Z = true := hw _ (List.mem_of_getElem? (i := 67) rfl)
theorem d10_47 : decode jdk_42_method_66_code 47 = .ok (.ifCond .eq 7, 3) := by decide +kernel
theorem d10_54 : decode jdk_42_method_66_code 54 = .ok (.iconst 0, 1) := by decide +kernel
theorem sg10_54_1 : decs jdk_42_method_66_code [(54, .iconst 0, 1)] := ⟨d10_54, trivial⟩
theorem d10_50 : decode jdk_42_method_66_code 50 = .ok (.iconst 1, 1) := by decide +kernel
theorem d10_51 : decode jdk_42_method_66_code 51 = .ok (.goto 4, 3) := by decide +kernel
theorem sg10_50_2 : decs jdk_42_method_66_code [(50, .iconst 1, 1), (51, .goto 4, 3)] := ⟨d10_50, d10_51, trivial⟩
theorem d10_55 : decode jdk_42_method_66_code 55 = .ok (.ireturn, 1) := by decide +kernel
def f_rm10_0 (u1 : Int32) (u2 : Int32) (u3 : Int32) (u4 : Int32) : Int32 := (if (f_rm11_0 u1 u2 u3 u4) = (0 : Int32) then (0 : Int32) else (1 : Int32))
theorem ef_rm10_0 (m : MethodId) (x0 : Addr) (x1 : Addr) : entryFrame m #[(.ref x0), (.ref x1)] 3 = mkF m 0 #[.val (.ref x0), .val (.ref x1), .unset] [] := by first | (simp [entryFrame, mkF, argsToLocals, Value.category]; done) | rfl
theorem own_w64 {Z : State} {a0 : Array Value} (hw : ∀ d ∈ tables_1, d.before a0 Z = true) : (Jvm.Cond.code ({ cls := "java/lang/String", name := "equals", desc := "(Ljava/lang/Object;)Z" } : Jvm.MethodName) jdk_42_method_66_code (3 : Nat) (Option.some Jvm.ClassFile.FieldType.boolean)).before a0 Z = true := hw _ (List.mem_of_getElem? (i := 64) rfl)
theorem own_w63 {Z : State} {a0 : Array Value} (hw : ∀ d ∈ tables_1, d.before a0 Z = true) : (Jvm.Cond.selects "java/lang/String" ({ cls := "java/lang/String", name := "equals", desc := "(Ljava/lang/Object;)Z" } : Jvm.MethodName) ({ cls := "java/lang/String", name := "equals", desc := "(Ljava/lang/Object;)Z" } : Jvm.MethodName)).before a0 Z = true := hw _ (List.mem_of_getElem? (i := 63) rfl)
theorem own_w61 {Z : State} {a0 : Array Value} (hw : ∀ d ∈ tables_1, d.before a0 Z = true) : (Jvm.Cond.declares ({ cls := "java/lang/String", name := "equals", desc := "(Ljava/lang/Object;)Z" } : Jvm.MethodName)).before a0 Z = true := hw _ (List.mem_of_getElem? (i := 61) rfl)
theorem own_w62 {Z : State} {a0 : Array Value} (hw : ∀ d ∈ tables_1, d.before a0 Z = true) : (Jvm.Cond.instanceMethod ({ cls := "java/lang/String", name := "equals", desc := "(Ljava/lang/Object;)Z" } : Jvm.MethodName)).before a0 Z = true := hw _ (List.mem_of_getElem? (i := 62) rfl)
theorem d9_65 : decode prog_8_method_8_code 65 = .ok (.ifCond .eq 7, 3) := by decide +kernel
theorem d9_72 : decode prog_8_method_8_code 72 = .ok (.iconst 0, 1) := by decide +kernel
theorem sg9_72_1 : decs prog_8_method_8_code [(72, .iconst 0, 1)] := ⟨d9_72, trivial⟩
theorem d9_68 : decode prog_8_method_8_code 68 = .ok (.iconst 1, 1) := by decide +kernel
theorem d9_69 : decode prog_8_method_8_code 69 = .ok (.goto 4, 3) := by decide +kernel
theorem sg9_68_2 : decs prog_8_method_8_code [(68, .iconst 1, 1), (69, .goto 4, 3)] := ⟨d9_68, d9_69, trivial⟩
theorem d9_73 : decode prog_8_method_8_code 73 = .ok (.ireturn, 1) := by decide +kernel
def f_rm9_3 (u1 : Int32) (u4 : Int32) (u2 : Int32) (u5 : Int32) (u3 : Int32) (u6 : Int32) (u7 : Int32) (u8 : Int32) (u9 : Int32) (u10 : Int32) : Int32 := (if u1 = u4 then (if u2 = u5 then (if u3 = u6 then (if (f_rm10_0 u7 u8 u9 u10) = (0 : Int32) then (0 : Int32) else (1 : Int32)) else (0 : Int32)) else (0 : Int32)) else (0 : Int32))
theorem ef_rm9_3 (m : MethodId) (x0 : Addr) (x1 : Addr) : entryFrame m #[(.ref x0), (.ref x1)] 3 = mkF m 0 #[.val (.ref x0), .val (.ref x1), .unset] [] := by first | (simp [entryFrame, mkF, argsToLocals, Value.category]; done) | rfl
theorem sg0_304_1 : decs code [(304, .iload 18, 2)] := ⟨at_304, trivial⟩
theorem sg0_309_2 : decs code [(309, .aload 16, 2), (311, .aload 15, 2)] := ⟨at_309, at_311, trivial⟩
theorem sg0_316_1 : decs code [(316, .iload 18, 2)] := ⟨at_316, trivial⟩
theorem sg0_321_2 : decs code [(321, .iconst 1, 1), (322, .goto 4, 3)] := ⟨at_321, at_322, trivial⟩
theorem sg0_325_1 : decs code [(325, .iconst 0, 1)] := ⟨at_325, trivial⟩
theorem ef_rm0 (m : MethodId) (x0 : Int32) (x1 : Int32) (x2 : Int32) (x3 : Int32) (x4 : Int32) (x5 : Int32) : entryFrame m #[(.int x0), (.int x1), (.int x2), (.int x3), (.int x4), (.int x5)] maxLocals = mkF m 0 #[.val (.int x0), .val (.int x1), .val (.int x2), .val (.int x3), .val (.int x4), .val (.int x5), .unset, .unset, .unset, .unset, .unset, .unset, .unset, .unset, .unset, .unset, .unset, .unset, .unset] [] := by first | (simp [entryFrame, mkF, argsToLocals, Value.category, maxLocals]; done) | rfl
theorem own_pn5 : plainName "com/example/token_relay/tokenrelay/MemberEqualsPinLaw" = true := by first | (simp [plainName, overriddenIn]; done) | decide +kernel
set_option maxRecDepth 65536 in
set_option maxHeartbeats 40000000 in
theorem rm5_0 (l : Launch) (Z : State) (a0 : Array Value) (hw : ∀ d ∈ tables_1, d.before a0 Z = true) (ws : List Jvm.Cond) (o0 : Addr) (o2 : Addr) (k_o0 : ClassId) (u1 : Int32) (u2 : Int32) (k_o2 : ClassId) (h0 : Heap) (n0 : Nat) (O0 : Old Z n0 h0) (V_o0 : Arv Z h0 o0 k_o0 .char (2 : Int32) [(.int u1), (.int u2)] (.int (0 : Int32))) (bnd_u1 : ¬ u1 < (0 : Int32) ∧ ¬ (255 : Int32) < u1) (V_o2 : Arv Z h0 o2 k_o2 .byte (2 : Int32) [(.int (0 : Int32)), (.int (0 : Int32))] (.int (0 : Int32))) (g_o2 : n0 ≤ o2) (ne_o0_o2 : o0 ≠ o2) (bnd_u2 : ¬ u2 < (0 : Int32) ∧ ¬ (255 : Int32) < u2) :
    Con l Z (⟨"java/lang/StringUTF16", "compress", "([CI[BII)I"⟩ : MethodName) jdk_52_method_21_code 7 (some .int) ws ({ frames := 0, cells := 0, slots := 0, locals := 0 } : Room) #[(.ref o0), (.int (0 : Int32)), (.ref o2), (.int (0 : Int32)), (.int (2 : Int32))] h0 (fun v h L => v = some (.int (2 : Int32)) ∧ Fr n0 L ∧ Keep h0 h [o2] ∧ Arv Z h o2 k_o2 .byte (2 : Int32) [(.int (u1.toInt8.toInt32)), (.int (u2.toInt8.toInt32))] (.int (0 : Int32))) := by
  refine own_body (plainFor_of_name own_pn0) (fun m => ef_rm5_0 m o0 (0 : Int32) o2 (2 : Int32)) ?_
  intro p e s m below meth c s₁ hx hby hlk hml hret hZ hown hnm X0 e0
  have N0 := Fr.nil n0
  refine Home.run X0 hx hby sg5_0_4 (pc' := 7) (L' := #[.val (.ref o0), .val (.int (0 : Int32)), .val (.ref o2), .val (.int (0 : Int32)), .val (.int (2 : Int32)), .val (.int (0 : Int32)), .unset]) (S' := [(.int (2 : Int32)), (.int (0 : Int32))]) rfl ?_
  refine Home.go (fun _ => XS.icmpNo X0.here hx rfl (hb hby d5_7) rfl (tlt (by decide)).2.1) ?_
  refine Home.run X0 hx hby sg5_10_2 (pc' := 12) (L' := #[.val (.ref o0), .val (.int (0 : Int32)), .val (.ref o2), .val (.int (0 : Int32)), .val (.int (2 : Int32)), .val (.int (0 : Int32)), .unset]) (S' := [(.int (0 : Int32)), (.ref o0)]) rfl ?_
  obtain ⟨cl1, Ar1, q1, S1, M1, H1, G1⟩ := id V_o0
  have i1 : ¬ ((0 : Int32) < 0 ∨ cl1.slots.size ≤ ((0 : Int32)).toNatClampNeg) := inb_of S1 ⟨by decide, by decide⟩
  refine Home.go (X0.caload hx (j := (0 : Int32)) (v := (.int u1)) (by rw [e0]; exact Ar1.1) (State.isArrayOf_alike hZ.alike Ar1.2.1) Ar1.2.2 i1 (Has.at H1 i1 rfl) rfl rfl (hb hby d5_12)) ?_
  refine Home.run X0 hx hby sg5_13_3 (pc' := 20) (L' := #[.val (.ref o0), .val (.int (0 : Int32)), .val (.ref o2), .val (.int (0 : Int32)), .val (.int (2 : Int32)), .val (.int (0 : Int32)), .val (.int u1)]) (S' := [(.int (255 : Int32)), (.int u1)]) rfl ?_
  refine Home.go (fun _ => XS.icmpYes X0.here hx rfl (pc0 := 20) (pc' := 26) rfl (hb hby d5_20) rfl (flt (bnd_nlt (bnd_lit (255 : Int32)) bnd_u1 (by decide +kernel))).2.2.2 (by decide) (by decide)) ?_
  refine Home.run X0 hx hby sg5_26_4 (pc' := 31) (L' := #[.val (.ref o0), .val (.int (0 : Int32)), .val (.ref o2), .val (.int (0 : Int32)), .val (.int (2 : Int32)), .val (.int (0 : Int32)), .val (.int u1)]) (S' := [(.int (u1.toInt8.toInt32)), (.int (0 : Int32)), (.ref o2)]) rfl ?_
  obtain ⟨cl2, Ar2, q2, S2, M2, H2, G2⟩ := id V_o2
  refine Home.wr (stB X0 hx hZ e0 Ar2 (j := (0 : Int32)) (inb_of S2 ⟨by decide, by decide⟩) rfl rfl (hb hby d5_31)) fun T2 h2 X2 e2 W2 => ?_
  have W2' := Wr.to W2 (congrArg Value.int (nar_byte_id (bnd_i2b u1) (by decide +kernel) (by decide +kernel)))
  have V2 : Arv Z h2 o2 k_o2 .byte (2 : Int32) [(.int (u1.toInt8.toInt32)), (.int (0 : Int32))] (.int (0 : Int32)) := Arv.set Ar2 q2 S2 M2 H2 G2 (fits_byte_b (bnd_i2b u1) (by decide +kernel) (by decide +kernel)) W2' 0 rfl (Nat.le_of_ble_eq_true rfl)
  have O2 := O0.wr W2 g_o2
  have K2 : Keep h0 h2 ([o2] : List Addr) := Keep.wr (Keep.refl h0 ([o2] : List Addr)) W2 (Or.inl (List.mem_of_getElem? (i := 0) rfl))
  have N2 := Fr.snoc X2 N0 g_o2
  show Home T2 (mkF m 32 #[.val (.ref o0), .val (.int (0 : Int32)), .val (.ref o2), .val (.int (0 : Int32)), .val (.int (2 : Int32)), .val (.int (0 : Int32)), .val (.int u1)] [])
  refine Home.run X2 hx hby sg5_32_6 (pc' := 7) (L' := #[.val (.ref o0), .val (.int (1 : Int32)), .val (.ref o2), .val (.int (1 : Int32)), .val (.int (2 : Int32)), .val (.int (1 : Int32)), .val (.int u1)]) (S' := [(.int (2 : Int32)), (.int (1 : Int32))]) rfl ?_
  refine Home.go (fun _ => XS.icmpNo X2.here hx rfl (hb hby d5_7) rfl (tlt (by decide)).2.1) ?_
  refine Home.run X2 hx hby sg5_10_2 (pc' := 12) (L' := #[.val (.ref o0), .val (.int (1 : Int32)), .val (.ref o2), .val (.int (1 : Int32)), .val (.int (2 : Int32)), .val (.int (1 : Int32)), .val (.int u1)]) (S' := [(.int (1 : Int32)), (.ref o0)]) rfl ?_
  have q3 := (V_o0.other W2 ne_o0_o2)
  obtain ⟨cl4, Ar4, q4, S4, M4, H4, G4⟩ := id q3
  have i4 : ¬ ((1 : Int32) < 0 ∨ cl4.slots.size ≤ ((1 : Int32)).toNatClampNeg) := inb_of S4 ⟨by decide, by decide⟩
  refine Home.go (X2.caload hx (j := (1 : Int32)) (v := (.int u2)) (by rw [e2]; exact Ar4.1) (State.isArrayOf_alike hZ.alike Ar4.2.1) Ar4.2.2 i4 (Has.at H4 i4 rfl) rfl rfl (hb hby d5_12)) ?_
  refine Home.run X2 hx hby sg5_13_3 (pc' := 20) (L' := #[.val (.ref o0), .val (.int (1 : Int32)), .val (.ref o2), .val (.int (1 : Int32)), .val (.int (2 : Int32)), .val (.int (1 : Int32)), .val (.int u2)]) (S' := [(.int (255 : Int32)), (.int u2)]) rfl ?_
  refine Home.go (fun _ => XS.icmpYes X2.here hx rfl (pc0 := 20) (pc' := 26) rfl (hb hby d5_20) rfl (flt (bnd_nlt (bnd_lit (255 : Int32)) bnd_u2 (by decide +kernel))).2.2.2 (by decide) (by decide)) ?_
  refine Home.run X2 hx hby sg5_26_4 (pc' := 31) (L' := #[.val (.ref o0), .val (.int (1 : Int32)), .val (.ref o2), .val (.int (1 : Int32)), .val (.int (2 : Int32)), .val (.int (1 : Int32)), .val (.int u2)]) (S' := [(.int (u2.toInt8.toInt32)), (.int (1 : Int32)), (.ref o2)]) rfl ?_
  obtain ⟨cl5, Ar5, q5, S5, M5, H5, G5⟩ := id V2
  refine Home.wr (stB X2 hx hZ e2 Ar5 (j := (1 : Int32)) (inb_of S5 ⟨by decide, by decide⟩) rfl rfl (hb hby d5_31)) fun T5 h5 X5 e5 W5 => ?_
  have W5' := Wr.to W5 (congrArg Value.int (nar_byte_id (bnd_i2b u2) (by decide +kernel) (by decide +kernel)))
  have V5 : Arv Z h5 o2 k_o2 .byte (2 : Int32) [(.int (u1.toInt8.toInt32)), (.int (u2.toInt8.toInt32))] (.int (0 : Int32)) := Arv.set Ar5 q5 S5 M5 H5 G5 (fits_byte_b (bnd_i2b u2) (by decide +kernel) (by decide +kernel)) W5' 1 rfl (Nat.le_of_ble_eq_true rfl)
  have O5 := O2.wr W5 g_o2
  have K5 : Keep h0 h5 ([o2] : List Addr) := Keep.wr K2 W5 (Or.inl (List.mem_of_getElem? (i := 0) rfl))
  have N5 := Fr.snoc X5 N2 g_o2
  show Home T5 (mkF m 32 #[.val (.ref o0), .val (.int (1 : Int32)), .val (.ref o2), .val (.int (1 : Int32)), .val (.int (2 : Int32)), .val (.int (1 : Int32)), .val (.int u2)] [])
  refine Home.run X5 hx hby sg5_32_6 (pc' := 7) (L' := #[.val (.ref o0), .val (.int (2 : Int32)), .val (.ref o2), .val (.int (2 : Int32)), .val (.int (2 : Int32)), .val (.int (2 : Int32)), .val (.int u2)]) (S' := [(.int (2 : Int32)), (.int (2 : Int32))]) rfl ?_
  refine Home.go (fun _ => XS.icmpYes X5.here hx rfl (pc0 := 7) (pc' := 44) rfl (hb hby d5_7) rfl (flt (by decide)).2.1 (by decide) (by decide)) ?_
  refine Home.run X5 hx hby sg5_44_1 (pc' := 46) (L' := #[.val (.ref o0), .val (.int (2 : Int32)), .val (.ref o2), .val (.int (2 : Int32)), .val (.int (2 : Int32)), .val (.int (2 : Int32)), .val (.int u2)]) (S' := [(.int (2 : Int32))]) rfl ?_
  exact Home.retI X5 hx hlk hret (hb hby d5_46) (by rw [show T5.heap = h5 from e5]; exact ⟨rfl, N5, K5, V5⟩) (by decide) (by decide)
set_option maxRecDepth 65536 in
set_option maxHeartbeats 40000000 in
theorem rm4_0 (l : Launch) (Z : State) (a0 : Array Value) (hw : ∀ d ∈ tables_1, d.before a0 Z = true) (ws : List Jvm.Cond) (o0 : Addr) (k_o0 : ClassId) (u1 : Int32) (u2 : Int32) (h0 : Heap) (n0 : Nat) (O0 : Old Z n0 h0) (V_o0 : Arv Z h0 o0 k_o0 .char (2 : Int32) [(.int u1), (.int u2)] (.int (0 : Int32))) (bnd_u1 : ¬ u1 < (0 : Int32) ∧ ¬ (255 : Int32) < u1) (bnd_u2 : ¬ u2 < (0 : Int32) ∧ ¬ (255 : Int32) < u2) :
    Con l Z (⟨"java/lang/StringUTF16", "compress", "([CII)[B"⟩ : MethodName) jdk_52_method_16_code 6 (some (.array .byte)) ws ({ frames := 1, cells := 1, slots := 2, locals := 18 } : Room) #[(.ref o0), (.int (0 : Int32)), (.int (2 : Int32))] h0 (fun v h L => ∃ (b1 : Addr), ∃ (k1 : ClassId), v = some (.ref b1) ∧ Fr n0 L ∧ h0.size ≤ b1 ∧ Keep h0 h [] ∧ Arv Z h b1 k1 .byte (2 : Int32) [(.int (u1.toInt8.toInt32)), (.int (u2.toInt8.toInt32))] (.int (0 : Int32))) := by
  refine own_body (plainFor_of_name own_pn0) (fun m => ef_rm4_0 m o0 (0 : Int32) (2 : Int32)) ?_
  intro p e s m below meth c s₁ hx hby hlk hml hret hZ hown hnm X0 e0
  have N0 := Fr.nil n0
  refine Home.run X0 hx hby sg4_0_1 (pc' := 1) (L' := #[.val (.ref o0), .val (.int (0 : Int32)), .val (.int (2 : Int32)), .unset, .unset, .unset]) (S' := [(.int (2 : Int32))]) rfl ?_
  refine Home.na (own_newP (aty := .byte) X0 hx hZ (own_w19 hw) e0 (g := (mkF m 1 #[.val (.ref o0), .val (.int (0 : Int32)), .val (.int (2 : Int32)), .unset, .unset, .unset] [(.int (2 : Int32))])) rfl (hb hby d4_1) rfl (by decide) (cap := 2) (by decide) (by decide) (by decide) (by decide)) fun T1 h1 k1 b1 g1 X1 e1 E1 A1 => ?_
  have g_b1 : n0 ≤ b1 := Nat.le_trans (Old.le O0) (Nat.le_of_eq g1.symm)
  have V1 : Arv Z h1 b1 k1 .byte (2 : Int32) [(.int (0 : Int32)), (.int (0 : Int32))] (.int (0 : Int32)) := (Arv.new A1 (by decide)).pad (pad_rep [] (.int (0 : Int32)) 2)
  have O1 := O0.ext E1
  have K1 : Keep h0 h1 ([] : List Addr) := Keep.ext (Keep.refl h0 ([] : List Addr)) E1
  refine Home.run X1 hx hby sg4_3_6 (pc' := 9) (L' := #[.val (.ref o0), .val (.int (0 : Int32)), .val (.int (2 : Int32)), .val (.ref b1), .unset, .unset]) (S' := [(.int (2 : Int32)), (.int (0 : Int32)), (.ref b1), (.int (0 : Int32)), (.ref o0)]) rfl ?_
  have ne2 : o0 ≠ b1 := (Nat.ne_of_lt (Nat.lt_of_lt_of_le V_o0.lt (Nat.le_trans (Nat.le_refl _) (Nat.le_of_eq g1.symm))))
  have q3 := (V_o0.ext E1)
  refine Home.call (own_static X1 hx hZ hown (own_w20 hw) (own_w21 hw) (own_w17 hw) (own_w22 hw) (by decide) (rm5_0 l Z a0 hw [] o0 b1 k_o0 u1 u2 k1 h1 n0 O1 q3 bnd_u1 V1 g_b1 ne2 bnd_u2) e1 rfl (by rw [hml]; rfl) (argsL := [(.ref o0), (.int (0 : Int32)), (.ref b1), (.int (0 : Int32)), (.int (2 : Int32))]) (rest := []) (lenOf own_pd0 rfl) rfl rfl (W := 0) (by show 2 * 0 + _ ≤ _; exact Nat.le_of_eq rfl) (by decide) (by decide) (hb hby d4_9) (by decide) (by decide)) ?_
  rintro _ T4 L4 X4 ⟨rfl, N4q, K4q, P4_0⟩
  have O4 := Old.keep O1 K4q (allS g_b1 all0)
  have K4 : Keep h0 T4.heap ([] : List Addr) := Keep.trans K1 K4q (allS (Or.inr (Nat.le_trans (Nat.le_refl _) (Nat.le_of_eq g1.symm))) all0)
  have N4 := Fr.app N0 N4q
  show Home T4 (mkF m 12 #[.val (.ref o0), .val (.int (0 : Int32)), .val (.int (2 : Int32)), .val (.ref b1), .unset, .unset] [(.int (2 : Int32))])
  refine Home.run X4 hx hby sg4_12_3 (pc' := 17) (L' := #[.val (.ref o0), .val (.int (0 : Int32)), .val (.int (2 : Int32)), .val (.ref b1), .val (.int (2 : Int32)), .unset]) (S' := [(.int (2 : Int32)), (.int (2 : Int32))]) rfl ?_
  refine Home.go (fun _ => XS.icmpYes X4.here hx rfl (pc0 := 17) (pc' := 57) rfl (hb hby d4_17) rfl (teq (by decide)).1 (by decide) (by decide)) ?_
  refine Home.run X4 hx hby sg4_57_1 (pc' := 58) (L' := #[.val (.ref o0), .val (.int (0 : Int32)), .val (.int (2 : Int32)), .val (.ref b1), .val (.int (2 : Int32)), .unset]) (S' := [(.ref b1)]) rfl ?_
  exact Home.retR X4 hx hlk hret rfl rfl (hb hby d4_58) ⟨b1, k1, rfl, N4, (Nat.le_trans (Nat.le_refl _) (Nat.le_of_eq g1.symm)), K4, P4_0⟩ (by decide) (by decide)
set_option maxRecDepth 65536 in
set_option maxHeartbeats 40000000 in
theorem rm6_0 (l : Launch) (Z : State) (a0 : Array Value) (hw : ∀ d ∈ tables_1, d.before a0 Z = true) (ws : List Jvm.Cond) (o0 : Addr) (k_o0 : ClassId) (u1 : Int32) (u2 : Int32) (h0 : Heap) (n0 : Nat) (O0 : Old Z n0 h0) (V_o0 : Arv Z h0 o0 k_o0 .byte (2 : Int32) [(.int u1), (.int u2)] (.int (0 : Int32))) :
    Con l Z (⟨"java/lang/StringUTF16", "coderFromArrayLen", "([BI)B"⟩ : MethodName) jdk_52_method_15_code 2 (some .byte) ws ({ frames := 0, cells := 0, slots := 0, locals := 0 } : Room) #[(.ref o0), (.int (2 : Int32))] h0 (Pur (some (.int (0 : Int32))) h0) := by
  refine own_body (plainFor_of_name own_pn0) (fun m => ef_rm6_0 m o0 (2 : Int32)) ?_
  intro p e s m below meth c s₁ hx hby hlk hml hret hZ hown hnm X0 e0
  have N0 := Fr.nil n0
  refine Home.run X0 hx hby sg6_0_2 (pc' := 2) (L' := #[.val (.ref o0), .val (.int (2 : Int32))]) (S' := [(.ref o0), (.int (2 : Int32))]) rfl ?_
  obtain ⟨cl1, Ar1, q1, S1, M1, H1, G1⟩ := id V_o0
  refine Home.go (own_alen X0 hx hZ e0 Ar1 S1 M1 rfl rfl (hb hby d6_2)) ?_
  refine Home.run X0 hx hby sg6_3_4 (pc' := 8) (L' := #[.val (.ref o0), .val (.int (2 : Int32))]) (S' := [(.int (0 : Int32))]) rfl ?_
  exact Home.retN X0 hx hlk (t := .byte) hret (by simp) (hb hby d6_8) ⟨congrArg some (congrArg Value.int (by first | rfl | exact nar_i2c _ | exact nar_i2b _)), rfl, e0⟩ (by decide) (by decide)
set_option maxRecDepth 65536 in
set_option maxHeartbeats 40000000 in
theorem rm2_0 (l : Launch) (Z : State) (a0 : Array Value) (hw : ∀ d ∈ tables_1, d.before a0 Z = true) (ws : List Jvm.Cond) (o0 : Addr) (o1 : Addr) (sv_COMPACT_STRINGS : Int32) (k_o1 : ClassId) (u1 : Int32) (u2 : Int32) (h0 : Heap) (n0 : Nat) (O0 : Old Z n0 h0) (S_COMPACT_STRINGS : Sta Z Z.heap "java/lang/String" "COMPACT_STRINGS" "Z" (.int sv_COMPACT_STRINGS)) (hCS : ¬ (sv_COMPACT_STRINGS = (0 : Int32))) (V_o1 : Arv Z h0 o1 k_o1 .char (2 : Int32) [(.int u1), (.int u2)] (.int (0 : Int32))) (bnd_u1 : ¬ u1 < (0 : Int32) ∧ ¬ (255 : Int32) < u1) (bnd_u2 : ¬ u2 < (0 : Int32) ∧ ¬ (255 : Int32) < u2) (E_o0 : Exa Z h0 o0 "java/lang/String") (F_coder_o0 : Fld Z h0 o0 "java/lang/String" "coder" "B" (.int (0 : Int32))) (g_o0 : n0 ≤ o0) (F_value_o0 : Fld Z h0 o0 "java/lang/String" "value" "[B" .null) :
    Con l Z (⟨"java/lang/String", "<init>", "([CIILjava/lang/Void;)V"⟩ : MethodName) jdk_42_method_149_code 6 none ws ({ frames := 2, cells := 1, slots := 2, locals := 35 } : Room) #[(.ref o0), (.ref o1), (.int (0 : Int32)), (.int (2 : Int32)), .null] h0 (fun v h L => ∃ (b1_3 : Addr), ∃ (k1_3 : ClassId), v = none ∧ Fr n0 L ∧ h0.size ≤ b1_3 ∧ Keep h0 h [o0] ∧ Exa Z h o0 "java/lang/String" ∧ Fld Z h o0 "java/lang/String" "coder" "B" (.int (0 : Int32)) ∧ Fld Z h o0 "java/lang/String" "value" "[B" (.ref b1_3) ∧ Arv Z h b1_3 k1_3 .byte (2 : Int32) [(.int (u1.toInt8.toInt32)), (.int (u2.toInt8.toInt32))] (.int (0 : Int32))) := by
  refine own_body (plainFor_of_name own_pn1) (fun m => ef_rm2_0 m o0 o1 (0 : Int32) (2 : Int32)) ?_
  intro p e s m below meth c s₁ hx hby hlk hml hret hZ hown hnm X0 e0
  have N0 := Fr.nil n0
  refine Home.run X0 hx hby sg2_0_1 (pc' := 1) (L' := #[.val (.ref o0), .val (.ref o1), .val (.int (0 : Int32)), .val (.int (2 : Int32)), .val .null, .unset]) (S' := [(.ref o0)]) rfl ?_
  refine Home.st (initO X0 hx hZ hown (own_w11 hw) (own_w12 hw) (own_w13 hw) e0 rfl (by rw [hml]; rfl) rfl (hb hby d2_1) (by decide) (W := 0) (by show 2 * 0 + _ ≤ _; exact Nat.le_of_eq rfl) (by decide)) fun T1 X1 e1 => ?_
  refine Home.run X1 hx hby sg2_4_1 (pc' := 5) (L' := #[.val (.ref o0), .val (.ref o1), .val (.int (0 : Int32)), .val (.int (2 : Int32)), .val .null, .unset]) (S' := [(.int (2 : Int32))]) rfl ?_
  refine Home.go (fun _ => XS.ifYes X1.here hx rfl (pc0 := 5) (pc' := 27) rfl (hb hby d2_5) rfl ((if0 _ _).trans (feq (by decide)).2) (by decide) (by decide)) ?_
  refine Home.st (getS2 X1 hx hZ hown (host := "") (Or.inl (own_w14 hw)) Via.refl e1 (S_COMPACT_STRINGS.ext O0.2) rfl (hb hby d2_27)) fun T2 X2 e2 => ?_
  refine Home.go (fun _ => XS.ifNo X2.here hx rfl (hb hby d2_30) rfl ((if0 _ _).trans (feq hCS).1)) ?_
  refine Home.run X2 hx hby sg2_33_3 (pc' := 36) (L' := #[.val (.ref o0), .val (.ref o1), .val (.int (0 : Int32)), .val (.int (2 : Int32)), .val .null, .unset]) (S' := [(.int (2 : Int32)), (.int (0 : Int32)), (.ref o1)]) rfl ?_
  refine Home.call (own_static X2 hx hZ hown (own_w15 hw) (own_w16 hw) (own_w17 hw) (own_w18 hw) (by decide) (rm4_0 l Z a0 hw [] o1 k_o1 u1 u2 h0 n0 O0 V_o1 bnd_u1 bnd_u2) e2 rfl (by rw [hml]; rfl) (argsL := [(.ref o1), (.int (0 : Int32)), (.int (2 : Int32))]) (rest := []) (lenOf own_pd1 rfl) rfl rfl (W := 0) (by show 2 * 0 + _ ≤ _; exact Nat.le_of_eq rfl) (by decide) (by decide) (hb hby d2_36) (by decide) (by decide)) ?_
  rintro _ T3 L3 X3 ⟨b1_3, k1_3, rfl, N3q, sz_b1_3, K3q, P3_0⟩
  have g_b1_3 : n0 ≤ b1_3 := Nat.le_trans (Old.le O0) sz_b1_3
  have O3 := Old.keep O0 K3q all0
  have K3 : Keep h0 T3.heap ([o0] : List Addr) := Keep.trans (Keep.refl h0 ([o0] : List Addr)) K3q all0
  have N3 := Fr.app N0 N3q
  show Home T3 (mkF m 39 #[.val (.ref o0), .val (.ref o1), .val (.int (0 : Int32)), .val (.int (2 : Int32)), .val .null, .unset] [(.ref b1_3)])
  refine Home.run X3 hx hby sg2_39_4 (pc' := 45) (L' := #[.val (.ref o0), .val (.ref o1), .val (.int (0 : Int32)), .val (.int (2 : Int32)), .val .null, .val (.ref b1_3)]) (S' := [(.int (2 : Int32)), (.ref b1_3), (.ref o0)]) rfl ?_
  refine Home.st (own_pure (own_static X3 hx hZ hown (own_w23 hw) (own_w24 hw) (own_w17 hw) (own_w25 hw) (by decide) (rm6_0 l Z a0 hw [] b1_3 k1_3 (u1.toInt8.toInt32) (u2.toInt8.toInt32) T3.heap n0 O3 P3_0) rfl rfl (by rw [hml]; rfl) (argsL := [(.ref b1_3), (.int (2 : Int32))]) (rest := [(.ref o0)]) (lenOf own_pd2 rfl) rfl rfl (W := 1) (by show 2 * 0 + _ ≤ _; exact Nat.le_of_eq rfl) (by decide) (by decide) (hb hby d2_45) (by decide) (by decide))) fun T4 X4 e4 => ?_
  have q5 := (E_o0.keep K3q)
  have q6 := (F_coder_o0.keep K3q nin0)
  refine Home.wr (putFN X4 hx hZ hown (own_w26 hw) Via.refl e4 q6 q5 (Or.inr ⟨(own_w27 hw), rfl, hnm⟩) (own_w1 hw) (ty := .byte) (v := (.int (0 : Int32))) (v' := (.int (0 : Int32))) (by decide) rfl rfl rfl rfl (hb hby d2_48)) fun T7 h7 X7 e7 W7 => ?_
  have Fw7 := q6.same W7
  have O7 := O3.wr W7 g_o0
  have K7 : Keep h0 h7 ([o0] : List Addr) := Keep.wr K3 W7 (Or.inl (List.mem_of_getElem? (i := 0) rfl))
  have N7 := Fr.snoc X7 N3 g_o0
  show Home T7 (mkF m 51 #[.val (.ref o0), .val (.ref o1), .val (.int (0 : Int32)), .val (.int (2 : Int32)), .val .null, .val (.ref b1_3)] [])
  refine Home.run X7 hx hby sg2_51_2 (pc' := 54) (L' := #[.val (.ref o0), .val (.ref o1), .val (.int (0 : Int32)), .val (.int (2 : Int32)), .val .null, .val (.ref b1_3)]) (S' := [(.ref b1_3), (.ref o0)]) rfl ?_
  have q8 := (q5.wr W7)
  have q9 := ((F_value_o0.keep K3q nin0).other W7 (Or.inr (slot_ne (Or.inr (own_w29 hw)) (Or.inr (own_w27 hw)) (by decide) (t := (.array .byte)) (t' := .byte) (by decide) (by decide))))
  refine Home.wr (putF X7 hx hZ hown (host := "") (Or.inl (own_w28 hw)) Via.refl e7 q9 q8 (Or.inr ⟨(own_w29 hw), rfl, hnm⟩) (own_w1 hw) (ty := (.array .byte)) (by decide) rfl rfl rfl rfl (hb hby d2_54)) fun T10 h10 X10 e10 W10 => ?_
  have Fw10 := q9.same W10
  have O10 := O7.wr W10 g_o0
  have K10 : Keep h0 h10 ([o0] : List Addr) := Keep.wr K7 W10 (Or.inl (List.mem_of_getElem? (i := 0) rfl))
  have N10 := Fr.snoc X10 N7 g_o0
  show Home T10 (mkF m 57 #[.val (.ref o0), .val (.ref o1), .val (.int (0 : Int32)), .val (.int (2 : Int32)), .val .null, .val (.ref b1_3)] [])
  have q11 := (q8.wr W10)
  have q12 := (Fw7.other W10 (Or.inr (slot_ne (Or.inr (own_w27 hw)) (Or.inr (own_w29 hw)) (by decide) (t := .byte) (t' := (.array .byte)) (by decide) (by decide))))
  have ne13 : b1_3 ≠ o0 := (Ne.symm (Nat.ne_of_lt (Nat.lt_of_lt_of_le E_o0.lt (Nat.le_trans (Nat.le_refl _) sz_b1_3))))
  have q14 := ((P3_0.other W7 ne13).other W10 ne13)
  exact Home.ret0 X10 hx hlk hret (hb hby d2_57) (by rw [show T10.heap = h10 from e10]; exact ⟨b1_3, k1_3, rfl, N10, (Nat.le_trans (Nat.le_refl _) sz_b1_3), K10, q11, q12, Fw10, q14⟩) (by decide) (by decide)
set_option maxRecDepth 65536 in
set_option maxHeartbeats 40000000 in
theorem rm1_0 (l : Launch) (Z : State) (a0 : Array Value) (hw : ∀ d ∈ tables_1, d.before a0 Z = true) (ws : List Jvm.Cond) (o0 : Addr) (o1 : Addr) (k_o1 : ClassId) (u1 : Int32) (u2 : Int32) (sv_COMPACT_STRINGS : Int32) (h0 : Heap) (n0 : Nat) (O0 : Old Z n0 h0) (V_o1 : Arv Z h0 o1 k_o1 .char (2 : Int32) [(.int u1), (.int u2)] (.int (0 : Int32))) (S_COMPACT_STRINGS : Sta Z Z.heap "java/lang/String" "COMPACT_STRINGS" "Z" (.int sv_COMPACT_STRINGS)) (E_o0 : Exa Z h0 o0 "java/lang/String") (F_coder_o0 : Fld Z h0 o0 "java/lang/String" "coder" "B" (.int (0 : Int32))) (F_value_o0 : Fld Z h0 o0 "java/lang/String" "value" "[B" .null) (bnd_u1 : ¬ u1 < (0 : Int32) ∧ ¬ (255 : Int32) < u1) (bnd_u2 : ¬ u2 < (0 : Int32) ∧ ¬ (255 : Int32) < u2) (g_o0 : n0 ≤ o0) (hCS : ¬ (sv_COMPACT_STRINGS = (0 : Int32))) :
    Con l Z (⟨"java/lang/String", "<init>", "([C)V"⟩ : MethodName) jdk_42_method_3_code 2 none ws ({ frames := 3, cells := 1, slots := 2, locals := 52 } : Room) #[(.ref o0), (.ref o1)] h0 (fun v h L => ∃ (b1_3_2 : Addr), ∃ (k1_3_2 : ClassId), v = none ∧ Fr n0 L ∧ h0.size ≤ b1_3_2 ∧ Keep h0 h [o0] ∧ Exa Z h o0 "java/lang/String" ∧ Fld Z h o0 "java/lang/String" "coder" "B" (.int (0 : Int32)) ∧ Fld Z h o0 "java/lang/String" "value" "[B" (.ref b1_3_2) ∧ Arv Z h b1_3_2 k1_3_2 .byte (2 : Int32) [(.int (u1.toInt8.toInt32)), (.int (u2.toInt8.toInt32))] (.int (0 : Int32))) := by
  refine own_body (plainFor_of_name own_pn1) (fun m => ef_rm1_0 m o0 o1) ?_
  intro p e s m below meth c s₁ hx hby hlk hml hret hZ hown hnm X0 e0
  have N0 := Fr.nil n0
  refine Home.run X0 hx hby sg1_0_4 (pc' := 4) (L' := #[.val (.ref o0), .val (.ref o1)]) (S' := [(.ref o1), (.int (0 : Int32)), (.ref o1), (.ref o0)]) rfl ?_
  obtain ⟨cl1, Ar1, q1, S1, M1, H1, G1⟩ := id V_o1
  refine Home.go (own_alen X0 hx hZ e0 Ar1 S1 M1 rfl rfl (hb hby d1_4)) ?_
  refine Home.run X0 hx hby sg1_5_1 (pc' := 6) (L' := #[.val (.ref o0), .val (.ref o1)]) (S' := [.null, (.int (2 : Int32)), (.int (0 : Int32)), (.ref o1), (.ref o0)]) rfl ?_
  refine Home.call (own_special X0 hx hZ hown rfl (own_w7 hw) (own_w8 hw) (own_w2 hw) (own_w10 hw) (by decide) (rm2_0 l Z a0 hw [] o0 o1 sv_COMPACT_STRINGS k_o1 u1 u2 h0 n0 O0 S_COMPACT_STRINGS hCS V_o1 bnd_u1 bnd_u2 E_o0 F_coder_o0 g_o0 F_value_o0) e0 rfl (by rw [hml]; rfl) (a := o0) (argsL := [(.ref o1), (.int (0 : Int32)), (.int (2 : Int32)), .null]) (rest := []) (lenOf own_pd3 rfl) rfl rfl (W := 0) (by show 2 * 0 + _ ≤ _; exact Nat.le_of_eq rfl) (by decide) (by decide) (hb hby d1_6) (by decide) (by decide)) ?_
  rintro _ T2 L2 X2 ⟨b1_3_2, k1_3_2, rfl, N2q, sz_b1_3_2, K2q, P2_0, P2_1, P2_2, P2_3⟩
  have g_b1_3_2 : n0 ≤ b1_3_2 := Nat.le_trans (Old.le O0) sz_b1_3_2
  have O2 := Old.keep O0 K2q (allS g_o0 all0)
  have K2 : Keep h0 T2.heap ([o0] : List Addr) := Keep.trans (Keep.refl h0 ([o0] : List Addr)) K2q (allS (Or.inl (List.mem_of_getElem? (i := 0) rfl)) all0)
  have N2 := Fr.app N0 N2q
  show Home T2 (mkF m 9 #[.val (.ref o0), .val (.ref o1)] [])
  exact Home.ret0 X2 hx hlk hret (hb hby d1_9) ⟨b1_3_2, k1_3_2, rfl, N2, (Nat.le_trans (Nat.le_refl _) sz_b1_3_2), K2, P2_0, P2_1, P2_2, P2_3⟩ (by decide) (by decide)
set_option maxRecDepth 65536 in
set_option maxHeartbeats 40000000 in
theorem rm8_0 (l : Launch) (Z : State) (a0 : Array Value) (hw : ∀ d ∈ tables_1, d.before a0 Z = true) (ws : List Jvm.Cond) (o0 : Addr) (o1 : Addr) (h0 : Heap) (n0 : Nat) (O0 : Old Z n0 h0) :
    Con l Z (⟨"java/util/Objects", "requireNonNull", "(Ljava/lang/Object;Ljava/lang/String;)Ljava/lang/Object;"⟩ : MethodName) jdk_31_method_11_code 2 (some (.object "java/lang/Object")) ws ({ frames := 0, cells := 0, slots := 0, locals := 0 } : Room) #[(.ref o0), (.ref o1)] h0 (Pur (some (.ref o0)) h0) := by
  refine own_body (plainFor_of_name own_pn2) (fun m => ef_rm8_0 m o0 o1) ?_
  intro p e s m below meth c s₁ hx hby hlk hml hret hZ hown hnm X0 e0
  have N0 := Fr.nil n0
  refine Home.run X0 hx hby sg8_0_1 (pc' := 1) (L' := #[.val (.ref o0), .val (.ref o1)]) (S' := [(.ref o0)]) rfl ?_
  refine Home.go (fun _ => XS.ifnonnullYes X0.here hx rfl (pc0 := 1) (pc' := 13) rfl (hb hby d8_1) rfl (by decide) (by decide)) ?_
  show Home s₁ (mkF m 13 #[.val (.ref o0), .val (.ref o1)] [])
  refine Home.run X0 hx hby sg8_13_1 (pc' := 14) (L' := #[.val (.ref o0), .val (.ref o1)]) (S' := [(.ref o0)]) rfl ?_
  exact Home.retR X0 hx hlk hret rfl rfl (hb hby d8_14) ⟨rfl, rfl, e0⟩ (by decide) (by decide)
set_option maxRecDepth 65536 in
set_option maxHeartbeats 40000000 in
theorem rm7_0 (l : Launch) (Z : State) (a0 : Array Value) (hw : ∀ d ∈ tables_1, d.before a0 Z = true) (ws : List Jvm.Cond) (o0 : Addr) (i1 : Int32) (o2 : Addr) (i3 : Int32) (i4 : Int32) (h0 : Heap) (n0 : Nat) (O0 : Old Z n0 h0) (E_o0 : Exa Z h0 o0 "com/example/token_relay/tokenrelay/Member") (F_id_o0 : Fld Z h0 o0 "com/example/token_relay/tokenrelay/Member" "id" "I" (.int (0 : Int32))) (g_o0 : n0 ≤ o0) (E_o2 : Exa Z h0 o2 "java/lang/String") (F_host_o0 : Fld Z h0 o0 "com/example/token_relay/tokenrelay/Member" "host" "Ljava/lang/String;" .null) (F_peerPort_o0 : Fld Z h0 o0 "com/example/token_relay/tokenrelay/Member" "peerPort" "I" (.int (0 : Int32))) (F_clientPort_o0 : Fld Z h0 o0 "com/example/token_relay/tokenrelay/Member" "clientPort" "I" (.int (0 : Int32))) :
    ConW l Z own_EL ([] : List Addr) (⟨"com/example/token_relay/tokenrelay/Member", "<init>", "(ILjava/lang/String;II)V"⟩ : MethodName) prog_8_method_1_code 5 none ws ({ frames := 1, cells := 2, slots := 20, locals := 14 } : Room) #[(.ref o0), (.int i1), (.ref o2), (.int i3), (.int i4)] h0 (fun v h L => v = none ∧ Fr n0 L ∧ Keep h0 h [o0] ∧ Exa Z h o0 "com/example/token_relay/tokenrelay/Member" ∧ Fld Z h o0 "com/example/token_relay/tokenrelay/Member" "id" "I" (.int i1) ∧ Fld Z h o0 "com/example/token_relay/tokenrelay/Member" "host" "Ljava/lang/String;" (.ref o2) ∧ Fld Z h o0 "com/example/token_relay/tokenrelay/Member" "peerPort" "I" (.int i3) ∧ Fld Z h o0 "com/example/token_relay/tokenrelay/Member" "clientPort" "I" (.int i4)) := by
  refine own_bodyW (plainFor_of_name own_pn3) (fun m => ef_rm7_0 m o0 i1 o2 i3 i4) ?_
  intro p e s m below meth c s₁ hx hby hlk hml hret hZ hown hnm X0 e0 Cd0
  have N0 := Fr.nil n0
  refine Home.run X0 hx hby sg7_0_1 (pc' := 1) (L' := #[.val (.ref o0), .val (.int i1), .val (.ref o2), .val (.int i3), .val (.int i4)]) (S' := [(.ref o0)]) rfl ?_
  refine Home.st (initO X0 hx hZ hown (own_w36 hw) (own_w12 hw) (own_w13 hw) e0 rfl (by rw [hml]; rfl) rfl (hb hby d7_1) (by decide) (W := 0) (by show 2 * 0 + _ ≤ _; exact Nat.le_of_eq rfl) (by decide)) fun T1 X1 e1 => ?_
  refine Home.run X1 hx hby sg7_4_2 (pc' := 6) (L' := #[.val (.ref o0), .val (.int i1), .val (.ref o2), .val (.int i3), .val (.int i4)]) (S' := [(.int i1), (.ref o0)]) rfl ?_
  refine Home.wr (putF X1 hx hZ hown (host := "") (Or.inl (own_w37 hw)) Via.refl e1 F_id_o0 E_o0 (Or.inr ⟨(own_w38 hw), rfl, hnm⟩) (own_w31 hw) (ty := .int) (by decide) rfl rfl rfl rfl (hb hby d7_6)) fun T2 h2 X2 e2 W2 => ?_
  have Fw2 := F_id_o0.same W2
  have O2 := O0.wr W2 g_o0
  have K2 : Keep h0 h2 ([o0] : List Addr) := Keep.wr (Keep.refl h0 ([o0] : List Addr)) W2 (Or.inl (List.mem_of_getElem? (i := 0) rfl))
  have Cd2 := Cold.wr Cd0 W2 own_safe0
  have N2 := Fr.snoc X2 N0 g_o0
  show Home T2 (mkF m 9 #[.val (.ref o0), .val (.int i1), .val (.ref o2), .val (.int i3), .val (.int i4)] [])
  refine Home.run X2 hx hby sg7_9_2 (pc' := 11) (L' := #[.val (.ref o0), .val (.int i1), .val (.ref o2), .val (.int i3), .val (.int i4)]) (S' := [(.ref o2), (.ref o0)]) rfl ?_
  obtain ⟨ad3, T3, h3, X3, e3, E3, hZ, hown, Cd3, st3⟩ := own_ldcO X2 hx hZ hown (own_hEL hw) Cd2 (own_w39 hw) (own_wS hw) e2 (g := (mkF m 11 #[.val (.ref o0), .val (.int i1), .val (.ref o2), .val (.int i3), .val (.int i4)] [(.ref o2), (.ref o0)])) rfl (hb hby d7_11) (n := 16) (by decide) (by decide) (by decide) (by decide)
  refine Home.go st3 ?_
  have O3 := O2.ext E3
  have K3 : Keep h0 h3 ([o0] : List Addr) := Keep.ext K2 E3
  refine Home.st (own_pure (own_static X3 hx hZ hown (own_w42 hw) (own_w43 hw) (own_w44 hw) (own_w45 hw) (by decide) (rm8_0 l Z a0 hw [] o2 ad3 h3 n0 O3) e3 rfl (by rw [hml]; rfl) (argsL := [(.ref o2), (.ref ad3)]) (rest := [(.ref o0)]) (lenOf own_pd5 rfl) rfl rfl (W := 1) (by show 2 * 0 + _ ≤ _; exact Nat.le_of_eq rfl) (by decide) (by decide) (hb hby d7_13) (by decide) (by decide))) fun T4 X4 e4 => ?_
  have q5 := (E_o2.keep K3)
  refine Home.st (castY X4 hx hZ hown (own_w46 hw) e4 (Ins.self q5) rfl rfl (hb hby d7_16)) fun T6 X6 e6 => ?_
  show Home T6 (mkF m 19 #[.val (.ref o0), .val (.int i1), .val (.ref o2), .val (.int i3), .val (.int i4)] [(.ref o2), (.ref o0)])
  have q7 := (E_o0.keep K3)
  have q8 := ((F_host_o0.other W2 (Or.inr (slot_ne (Or.inr (own_w48 hw)) (Or.inr (own_w38 hw)) (by decide) (t := (.object "java/lang/String")) (t' := .int) (by decide) (by decide)))).ext E3)
  refine Home.wr (putF X6 hx hZ hown (host := "") (Or.inl (own_w47 hw)) Via.refl e6 q8 q7 (Or.inr ⟨(own_w48 hw), rfl, hnm⟩) (own_w31 hw) (ty := (.object "java/lang/String")) (by decide) rfl rfl rfl rfl (hb hby d7_19)) fun T9 h9 X9 e9 W9 => ?_
  have Fw9 := q8.same W9
  have O9 := O3.wr W9 g_o0
  have K9 : Keep h0 h9 ([o0] : List Addr) := Keep.wr K3 W9 (Or.inl (List.mem_of_getElem? (i := 0) rfl))
  have Cd9 := Cold.wr Cd3 W9 own_safe0
  have N9 := Fr.snoc X9 N2 g_o0
  show Home T9 (mkF m 22 #[.val (.ref o0), .val (.int i1), .val (.ref o2), .val (.int i3), .val (.int i4)] [])
  refine Home.run X9 hx hby sg7_22_2 (pc' := 24) (L' := #[.val (.ref o0), .val (.int i1), .val (.ref o2), .val (.int i3), .val (.int i4)]) (S' := [(.int i3), (.ref o0)]) rfl ?_
  have q10 := (q7.wr W9)
  have q11 := (((F_peerPort_o0.other W2 (Or.inr (slot_ne (Or.inr (own_w50 hw)) (Or.inr (own_w38 hw)) (by decide) (t := .int) (t' := .int) (by decide) (by decide)))).ext E3).other W9 (Or.inr (slot_ne (Or.inr (own_w50 hw)) (Or.inr (own_w48 hw)) (by decide) (t := .int) (t' := (.object "java/lang/String")) (by decide) (by decide))))
  refine Home.wr (putF X9 hx hZ hown (host := "") (Or.inl (own_w49 hw)) Via.refl e9 q11 q10 (Or.inr ⟨(own_w50 hw), rfl, hnm⟩) (own_w31 hw) (ty := .int) (by decide) rfl rfl rfl rfl (hb hby d7_24)) fun T12 h12 X12 e12 W12 => ?_
  have Fw12 := q11.same W12
  have O12 := O9.wr W12 g_o0
  have K12 : Keep h0 h12 ([o0] : List Addr) := Keep.wr K9 W12 (Or.inl (List.mem_of_getElem? (i := 0) rfl))
  have Cd12 := Cold.wr Cd9 W12 own_safe0
  have N12 := Fr.snoc X12 N9 g_o0
  show Home T12 (mkF m 27 #[.val (.ref o0), .val (.int i1), .val (.ref o2), .val (.int i3), .val (.int i4)] [])
  refine Home.run X12 hx hby sg7_27_2 (pc' := 30) (L' := #[.val (.ref o0), .val (.int i1), .val (.ref o2), .val (.int i3), .val (.int i4)]) (S' := [(.int i4), (.ref o0)]) rfl ?_
  have q13 := (q10.wr W12)
  have q14 := ((((F_clientPort_o0.other W2 (Or.inr (slot_ne (Or.inr (own_w52 hw)) (Or.inr (own_w38 hw)) (by decide) (t := .int) (t' := .int) (by decide) (by decide)))).ext E3).other W9 (Or.inr (slot_ne (Or.inr (own_w52 hw)) (Or.inr (own_w48 hw)) (by decide) (t := .int) (t' := (.object "java/lang/String")) (by decide) (by decide)))).other W12 (Or.inr (slot_ne (Or.inr (own_w52 hw)) (Or.inr (own_w50 hw)) (by decide) (t := .int) (t' := .int) (by decide) (by decide))))
  refine Home.wr (putF X12 hx hZ hown (host := "") (Or.inl (own_w51 hw)) Via.refl e12 q14 q13 (Or.inr ⟨(own_w52 hw), rfl, hnm⟩) (own_w31 hw) (ty := .int) (by decide) rfl rfl rfl rfl (hb hby d7_30)) fun T15 h15 X15 e15 W15 => ?_
  have Fw15 := q14.same W15
  have O15 := O12.wr W15 g_o0
  have K15 : Keep h0 h15 ([o0] : List Addr) := Keep.wr K12 W15 (Or.inl (List.mem_of_getElem? (i := 0) rfl))
  have Cd15 := Cold.wr Cd12 W15 own_safe0
  have N15 := Fr.snoc X15 N12 g_o0
  show Home T15 (mkF m 33 #[.val (.ref o0), .val (.int i1), .val (.ref o2), .val (.int i3), .val (.int i4)] [])
  have q16 := (q13.wr W15)
  have q17 := ((((Fw2.ext E3).other W9 (Or.inr (slot_ne (Or.inr (own_w38 hw)) (Or.inr (own_w48 hw)) (by decide) (t := .int) (t' := (.object "java/lang/String")) (by decide) (by decide)))).other W12 (Or.inr (slot_ne (Or.inr (own_w38 hw)) (Or.inr (own_w50 hw)) (by decide) (t := .int) (t' := .int) (by decide) (by decide)))).other W15 (Or.inr (slot_ne (Or.inr (own_w38 hw)) (Or.inr (own_w52 hw)) (by decide) (t := .int) (t' := .int) (by decide) (by decide))))
  have q18 := ((Fw9.other W12 (Or.inr (slot_ne (Or.inr (own_w48 hw)) (Or.inr (own_w50 hw)) (by decide) (t := (.object "java/lang/String")) (t' := .int) (by decide) (by decide)))).other W15 (Or.inr (slot_ne (Or.inr (own_w48 hw)) (Or.inr (own_w52 hw)) (by decide) (t := (.object "java/lang/String")) (t' := .int) (by decide) (by decide))))
  have q19 := (Fw12.other W15 (Or.inr (slot_ne (Or.inr (own_w50 hw)) (Or.inr (own_w52 hw)) (by decide) (t := .int) (t' := .int) (by decide) (by decide))))
  exact HomeW.ret0 X15 hx hlk hZ (own_hEL hw) e15 Cd15 hret (hb hby d7_33) (by rw [show T15.heap = h15 from e15]; exact ⟨rfl, N15, K15, q16, q17, q18, q19, Fw15⟩) (by decide) (by decide)
set_option maxRecDepth 65536 in
set_option maxHeartbeats 40000000 in
theorem rm9_0 (l : Launch) (Z : State) (a0 : Array Value) (hw : ∀ d ∈ tables_1, d.before a0 Z = true) (ws : List Jvm.Cond) (o0 : Addr) (h0 : Heap) (n0 : Nat) (O0 : Old Z n0 h0) :
    Con l Z (⟨"com/example/token_relay/tokenrelay/Member", "equals", "(Ljava/lang/Object;)Z"⟩ : MethodName) prog_8_method_8_code 3 (some .boolean) ws ({ frames := 0, cells := 0, slots := 0, locals := 0 } : Room) #[(.ref o0), (.ref o0)] h0 (Pur (some (.int (1 : Int32))) h0) := by
  refine own_body (plainFor_of_name own_pn3) (fun m => ef_rm9_0 m o0) ?_
  intro p e s m below meth c s₁ hx hby hlk hml hret hZ hown hnm X0 e0
  have N0 := Fr.nil n0
  refine Home.run X0 hx hby sg9_0_2 (pc' := 2) (L' := #[.val (.ref o0), .val (.ref o0), .unset]) (S' := [(.ref o0), (.ref o0)]) rfl ?_
  refine Home.go (fun _ => Jvm.RoadKit.acmp X0 hx rfl rfl rfl (pc0 := 2) (pc' := 5) (same := true) rfl (hb hby d9_2) rfl (decide_eq_true rfl) (by decide) (by decide)) ?_
  show Home s₁ (mkF m 5 #[.val (.ref o0), .val (.ref o0), .unset] [])
  refine Home.run X0 hx hby sg9_5_1 (pc' := 6) (L' := #[.val (.ref o0), .val (.ref o0), .unset]) (S' := [(.int (1 : Int32))]) rfl ?_
  exact Home.retN X0 hx hlk (t := .boolean) hret (by simp) (hb hby d9_6) ⟨congrArg some (congrArg Value.int (by first | rfl | exact nar_i2c _ | exact nar_i2b _)), rfl, e0⟩ (by decide) (by decide)
set_option maxRecDepth 65536 in
set_option maxHeartbeats 40000000 in
theorem rm9_1 (l : Launch) (Z : State) (a0 : Array Value) (hw : ∀ d ∈ tables_1, d.before a0 Z = true) (ws : List Jvm.Cond) (o0 : Addr) (o1 : Addr) (h0 : Heap) (n0 : Nat) (O0 : Old Z n0 h0) (E_o0 : Exa Z h0 o0 "com/example/token_relay/tokenrelay/Member") (E_o1 : Exa Z h0 o1 "java/lang/String") :
    Con l Z (⟨"com/example/token_relay/tokenrelay/Member", "equals", "(Ljava/lang/Object;)Z"⟩ : MethodName) prog_8_method_8_code 3 (some .boolean) ws ({ frames := 0, cells := 0, slots := 0, locals := 0 } : Room) #[(.ref o0), (.ref o1)] h0 (Pur (some (.int (0 : Int32))) h0) := by
  refine own_body (plainFor_of_name own_pn3) (fun m => ef_rm9_1 m o0 o1) ?_
  intro p e s m below meth c s₁ hx hby hlk hml hret hZ hown hnm X0 e0
  have N0 := Fr.nil n0
  refine Home.run X0 hx hby sg9_0_2 (pc' := 2) (L' := #[.val (.ref o0), .val (.ref o1), .unset]) (S' := [(.ref o1), (.ref o0)]) rfl ?_
  have ne1 : o0 ≠ o1 := (ne_exa E_o0 E_o1 (by decide))
  refine Home.go (fun _ => Jvm.RoadKit.acmp X0 hx rfl rfl rfl (pc0 := 2) (pc' := 7) (same := false) rfl (hb hby d9_2) rfl (decide_eq_false fun q => ne1 (Value.ref.inj q)) (by decide) (by decide)) ?_
  show Home s₁ (mkF m 7 #[.val (.ref o0), .val (.ref o1), .unset] [])
  refine Home.run X0 hx hby sg9_7_1 (pc' := 8) (L' := #[.val (.ref o0), .val (.ref o1), .unset]) (S' := [(.ref o1)]) rfl ?_
  refine Home.st (instNo X0 hx hZ hown (own_w58 hw) e0 E_o1 (own_ns_no (own_w70 hw) (own_w31 hw) (NS.step (own_w70 hw) (own_ns_root (own_w71 hw) (own_w31 hw) (by decide)) (by decide)) (by decide)) rfl rfl (hb hby d9_8)) fun T2 X2 e2 => ?_
  refine Home.go (fun _ => XS.ifNo X2.here hx rfl (hb hby d9_11) rfl ((if0 _ _).trans (teq (by decide)).2)) ?_
  refine Home.run X2 hx hby sg9_14_1 (pc' := 15) (L' := #[.val (.ref o0), .val (.ref o1), .unset]) (S' := [(.int (0 : Int32))]) rfl ?_
  exact Home.retN X2 hx hlk (t := .boolean) hret (by simp) (hb hby d9_15) ⟨congrArg some (congrArg Value.int (by first | rfl | exact nar_i2c _ | exact nar_i2b _)), rfl, e2⟩ (by decide) (by decide)
set_option maxRecDepth 65536 in
set_option maxHeartbeats 40000000 in
theorem rm9_2 (l : Launch) (Z : State) (a0 : Array Value) (hw : ∀ d ∈ tables_1, d.before a0 Z = true) (ws : List Jvm.Cond) (o0 : Addr) (h0 : Heap) (n0 : Nat) (O0 : Old Z n0 h0) :
    Con l Z (⟨"com/example/token_relay/tokenrelay/Member", "equals", "(Ljava/lang/Object;)Z"⟩ : MethodName) prog_8_method_8_code 3 (some .boolean) ws ({ frames := 0, cells := 0, slots := 0, locals := 0 } : Room) #[(.ref o0), .null] h0 (Pur (some (.int (0 : Int32))) h0) := by
  refine own_body (plainFor_of_name own_pn3) (fun m => ef_rm9_2 m o0) ?_
  intro p e s m below meth c s₁ hx hby hlk hml hret hZ hown hnm X0 e0
  have N0 := Fr.nil n0
  refine Home.run X0 hx hby sg9_0_2 (pc' := 2) (L' := #[.val (.ref o0), .val .null, .unset]) (S' := [.null, (.ref o0)]) rfl ?_
  refine Home.go (fun _ => Jvm.RoadKit.acmp X0 hx rfl rfl rfl (pc0 := 2) (pc' := 7) (same := false) rfl (hb hby d9_2) rfl (decide_eq_false nofun) (by decide) (by decide)) ?_
  show Home s₁ (mkF m 7 #[.val (.ref o0), .val .null, .unset] [])
  refine Home.run X0 hx hby sg9_7_1 (pc' := 8) (L' := #[.val (.ref o0), .val .null, .unset]) (S' := [.null]) rfl ?_
  refine Home.go (X0.instanceofNull hx rfl rfl (hb hby d9_8)) ?_
  refine Home.go (fun _ => XS.ifNo X0.here hx rfl (hb hby d9_11) rfl ((if0 _ _).trans (teq (by decide)).2)) ?_
  refine Home.run X0 hx hby sg9_14_1 (pc' := 15) (L' := #[.val (.ref o0), .val .null, .unset]) (S' := [(.int (0 : Int32))]) rfl ?_
  exact Home.retN X0 hx hlk (t := .boolean) hret (by simp) (hb hby d9_15) ⟨congrArg some (congrArg Value.int (by first | rfl | exact nar_i2c _ | exact nar_i2b _)), rfl, e0⟩ (by decide) (by decide)
set_option maxRecDepth 65536 in
set_option maxHeartbeats 40000000 in
theorem rm11_0 (l : Launch) (Z : State) (a0 : Array Value) (hw : ∀ d ∈ tables_1, d.before a0 Z = true) (ws : List Jvm.Cond) (o0 : Addr) (o1 : Addr) (k_o0 : ClassId) (u1 : Int32) (u2 : Int32) (k_o1 : ClassId) (u3 : Int32) (u4 : Int32) (h0 : Heap) (n0 : Nat) (O0 : Old Z n0 h0) (V_o0 : Arv Z h0 o0 k_o0 .byte (2 : Int32) [(.int u1), (.int u2)] (.int (0 : Int32))) (V_o1 : Arv Z h0 o1 k_o1 .byte (2 : Int32) [(.int u3), (.int u4)] (.int (0 : Int32))) :
    Con l Z (⟨"java/lang/StringLatin1", "equals", "([B[B)Z"⟩ : MethodName) jdk_43_method_13_code 3 (some .boolean) ws ({ frames := 0, cells := 0, slots := 0, locals := 0 } : Room) #[(.ref o0), (.ref o1)] h0 (Pur (some (.int (f_rm11_0 u1 u2 u3 u4))) h0) := by
  refine own_body (plainFor_of_name own_pn4) (fun m => ef_rm11_0 m o0 o1) ?_
  intro p e s m below meth c s₁ hx hby hlk hml hret hZ hown hnm X0 e0
  have N0 := Fr.nil n0
  refine Home.run X0 hx hby sg11_0_1 (pc' := 1) (L' := #[.val (.ref o0), .val (.ref o1), .unset]) (S' := [(.ref o0)]) rfl ?_
  obtain ⟨cl1, Ar1, q1, S1, M1, H1, G1⟩ := id V_o0
  refine Home.go (own_alen X0 hx hZ e0 Ar1 S1 M1 rfl rfl (hb hby d11_1)) ?_
  refine Home.run X0 hx hby sg11_2_1 (pc' := 3) (L' := #[.val (.ref o0), .val (.ref o1), .unset]) (S' := [(.ref o1), (.int (2 : Int32))]) rfl ?_
  obtain ⟨cl2, Ar2, q2, S2, M2, H2, G2⟩ := id V_o1
  refine Home.go (own_alen X0 hx hZ e0 Ar2 S2 M2 rfl rfl (hb hby d11_3)) ?_
  refine Home.go (fun _ => XS.icmpNo X0.here hx rfl (hb hby d11_4) rfl (teq (by decide)).2) ?_
  refine Home.run X0 hx hby sg11_7_4 (pc' := 11) (L' := #[.val (.ref o0), .val (.ref o1), .val (.int (0 : Int32))]) (S' := [(.ref o0), (.int (0 : Int32))]) rfl ?_
  obtain ⟨cl3, Ar3, q3, S3, M3, H3, G3⟩ := id V_o0
  refine Home.go (own_alen X0 hx hZ e0 Ar3 S3 M3 rfl rfl (hb hby d11_11)) ?_
  show Home s₁ (mkF m 12 #[.val (.ref o0), .val (.ref o1), .val (.int (0 : Int32))] [(.int (2 : Int32)), (.int (0 : Int32))])
  refine Home.go (fun _ => XS.icmpNo X0.here hx rfl (hb hby d11_12) rfl (tlt (by decide)).2.1) ?_
  refine Home.run X0 hx hby sg11_15_2 (pc' := 17) (L' := #[.val (.ref o0), .val (.ref o1), .val (.int (0 : Int32))]) (S' := [(.int (0 : Int32)), (.ref o0)]) rfl ?_
  obtain ⟨cl4, Ar4, q4, S4, M4, H4, G4⟩ := id V_o0
  have i4 : ¬ ((0 : Int32) < 0 ∨ cl4.slots.size ≤ ((0 : Int32)).toNatClampNeg) := inb_of S4 ⟨by decide, by decide⟩
  refine Home.go (X0.baloadBytes hx (j := (0 : Int32)) (v := (.int u1)) (by rw [e0]; exact Ar4.1) (State.isArrayOf_alike hZ.alike Ar4.2.1) Ar4.2.2 i4 (Has.at H4 i4 rfl) rfl rfl (hb hby d11_17)) ?_
  refine Home.run X0 hx hby sg11_18_2 (pc' := 20) (L' := #[.val (.ref o0), .val (.ref o1), .val (.int (0 : Int32))]) (S' := [(.int (0 : Int32)), (.ref o1), (.int u1)]) rfl ?_
  obtain ⟨cl5, Ar5, q5, S5, M5, H5, G5⟩ := id V_o1
  have i5 : ¬ ((0 : Int32) < 0 ∨ cl5.slots.size ≤ ((0 : Int32)).toNatClampNeg) := inb_of S5 ⟨by decide, by decide⟩
  refine Home.go (X0.baloadBytes hx (j := (0 : Int32)) (v := (.int u3)) (by rw [e0]; exact Ar5.1) (State.isArrayOf_alike hZ.alike Ar5.2.1) Ar5.2.2 i5 (Has.at H5 i5 rfl) rfl rfl (hb hby d11_20)) ?_
  show Home s₁ (mkF m 21 #[.val (.ref o0), .val (.ref o1), .val (.int (0 : Int32))] [(.int u3), (.int u1)])
  by_cases c6 : u1 = u3
  · skip
    refine Home.go (fun _ => XS.icmpYes X0.here hx rfl (pc0 := 21) (pc' := 26) rfl (hb hby d11_21) rfl (teq c6).1 (by decide) (by decide)) ?_
    refine Home.run X0 hx hby sg11_26_4 (pc' := 11) (L' := #[.val (.ref o0), .val (.ref o1), .val (.int (1 : Int32))]) (S' := [(.ref o0), (.int (1 : Int32))]) rfl ?_
    obtain ⟨cl7, Ar7, q7, S7, M7, H7, G7⟩ := id V_o0
    refine Home.go (own_alen X0 hx hZ e0 Ar7 S7 M7 rfl rfl (hb hby d11_11)) ?_
    refine Home.go (fun _ => XS.icmpNo X0.here hx rfl (hb hby d11_12) rfl (tlt (by decide)).2.1) ?_
    refine Home.run X0 hx hby sg11_15_2 (pc' := 17) (L' := #[.val (.ref o0), .val (.ref o1), .val (.int (1 : Int32))]) (S' := [(.int (1 : Int32)), (.ref o0)]) rfl ?_
    obtain ⟨cl8, Ar8, q8, S8, M8, H8, G8⟩ := id V_o0
    have i8 : ¬ ((1 : Int32) < 0 ∨ cl8.slots.size ≤ ((1 : Int32)).toNatClampNeg) := inb_of S8 ⟨by decide, by decide⟩
    refine Home.go (X0.baloadBytes hx (j := (1 : Int32)) (v := (.int u2)) (by rw [e0]; exact Ar8.1) (State.isArrayOf_alike hZ.alike Ar8.2.1) Ar8.2.2 i8 (Has.at H8 i8 rfl) rfl rfl (hb hby d11_17)) ?_
    show Home s₁ (mkF m 18 #[.val (.ref o0), .val (.ref o1), .val (.int (1 : Int32))] [(.int u2)])
    refine Home.run X0 hx hby sg11_18_2 (pc' := 20) (L' := #[.val (.ref o0), .val (.ref o1), .val (.int (1 : Int32))]) (S' := [(.int (1 : Int32)), (.ref o1), (.int u2)]) rfl ?_
    obtain ⟨cl9, Ar9, q9, S9, M9, H9, G9⟩ := id V_o1
    have i9 : ¬ ((1 : Int32) < 0 ∨ cl9.slots.size ≤ ((1 : Int32)).toNatClampNeg) := inb_of S9 ⟨by decide, by decide⟩
    refine Home.go (X0.baloadBytes hx (j := (1 : Int32)) (v := (.int u4)) (by rw [e0]; exact Ar9.1) (State.isArrayOf_alike hZ.alike Ar9.2.1) Ar9.2.2 i9 (Has.at H9 i9 rfl) rfl rfl (hb hby d11_20)) ?_
    by_cases c10 : u2 = u4
    · skip
      refine Home.go (fun _ => XS.icmpYes X0.here hx rfl (pc0 := 21) (pc' := 26) rfl (hb hby d11_21) rfl (teq c10).1 (by decide) (by decide)) ?_
      refine Home.run X0 hx hby sg11_26_4 (pc' := 11) (L' := #[.val (.ref o0), .val (.ref o1), .val (.int (2 : Int32))]) (S' := [(.ref o0), (.int (2 : Int32))]) rfl ?_
      obtain ⟨cl11, Ar11, q11, S11, M11, H11, G11⟩ := id V_o0
      refine Home.go (own_alen X0 hx hZ e0 Ar11 S11 M11 rfl rfl (hb hby d11_11)) ?_
      refine Home.go (fun _ => XS.icmpYes X0.here hx rfl (pc0 := 12) (pc' := 32) rfl (hb hby d11_12) rfl (flt (by decide)).2.1 (by decide) (by decide)) ?_
      refine Home.run X0 hx hby sg11_32_1 (pc' := 33) (L' := #[.val (.ref o0), .val (.ref o1), .val (.int (2 : Int32))]) (S' := [(.int (1 : Int32))]) rfl ?_
      exact Home.retN X0 hx hlk (t := .boolean) hret (by simp) (hb hby d11_33) ⟨congrArg some (congrArg Value.int (by first | rfl | (simp only [f_rm11_0, if_pos c6, if_pos c10, nar_i2c, nar_i2b]; done) | (simp only [f_rm11_0, if_pos c6, if_pos c10, nar_i2c, nar_i2b]; rfl) | (simp [f_rm11_0, if_pos c6, if_pos c10]; done))), rfl, e0⟩ (by decide) (by decide)
    · skip
      refine Home.go (fun _ => XS.icmpNo X0.here hx rfl (hb hby d11_21) rfl (feq c10).1) ?_
      refine Home.run X0 hx hby sg11_24_1 (pc' := 25) (L' := #[.val (.ref o0), .val (.ref o1), .val (.int (1 : Int32))]) (S' := [(.int (0 : Int32))]) rfl ?_
      exact Home.retN X0 hx hlk (t := .boolean) hret (by simp) (hb hby d11_25) ⟨congrArg some (congrArg Value.int (by first | rfl | (simp only [f_rm11_0, if_pos c6, if_neg c10, nar_i2c, nar_i2b]; done) | (simp only [f_rm11_0, if_pos c6, if_neg c10, nar_i2c, nar_i2b]; rfl) | (simp [f_rm11_0, if_pos c6, if_neg c10]; done))), rfl, e0⟩ (by decide) (by decide)
  · skip
    refine Home.go (fun _ => XS.icmpNo X0.here hx rfl (hb hby d11_21) rfl (feq c6).1) ?_
    refine Home.run X0 hx hby sg11_24_1 (pc' := 25) (L' := #[.val (.ref o0), .val (.ref o1), .val (.int (0 : Int32))]) (S' := [(.int (0 : Int32))]) rfl ?_
    exact Home.retN X0 hx hlk (t := .boolean) hret (by simp) (hb hby d11_25) ⟨congrArg some (congrArg Value.int (by first | rfl | (simp only [f_rm11_0, if_neg c6, nar_i2c, nar_i2b]; done) | (simp only [f_rm11_0, if_neg c6, nar_i2c, nar_i2b]; rfl) | (simp [f_rm11_0, if_neg c6]; done))), rfl, e0⟩ (by decide) (by decide)
theorem f_rm11_0_bnd (u1 : Int32) (u2 : Int32) (u3 : Int32) (u4 : Int32) : ¬ (f_rm11_0 u1 u2 u3 u4) < (0 : Int32) ∧ ¬ (1 : Int32) < (f_rm11_0 u1 u2 u3 u4) := by unfold f_rm11_0; (repeat' split) <;> first | exact bnd_mono (bnd_lit (1 : Int32)) (by decide +kernel) (by decide +kernel) | exact bnd_mono (bnd_lit (0 : Int32)) (by decide +kernel) (by decide +kernel)
set_option maxRecDepth 65536 in
set_option maxHeartbeats 40000000 in
theorem rm10_0 (l : Launch) (Z : State) (a0 : Array Value) (hw : ∀ d ∈ tables_1, d.before a0 Z = true) (ws : List Jvm.Cond) (o0 : Addr) (o1 : Addr) (sv_COMPACT_STRINGS : Int32) (p3 : Addr) (p4 : Addr) (k_p3 : ClassId) (u1 : Int32) (u2 : Int32) (k_p4 : ClassId) (u3 : Int32) (u4 : Int32) (h0 : Heap) (n0 : Nat) (O0 : Old Z n0 h0) (E_o0 : Exa Z h0 o0 "java/lang/String") (E_o1 : Exa Z h0 o1 "java/lang/String") (ne_o0_o1 : o0 ≠ o1) (S_COMPACT_STRINGS : Sta Z Z.heap "java/lang/String" "COMPACT_STRINGS" "Z" (.int sv_COMPACT_STRINGS)) (hCS : ¬ (sv_COMPACT_STRINGS = (0 : Int32))) (F_coder_o0 : Fld Z h0 o0 "java/lang/String" "coder" "B" (.int (0 : Int32))) (F_coder_o1 : Fld Z h0 o1 "java/lang/String" "coder" "B" (.int (0 : Int32))) (F_value_o0 : Fld Z h0 o0 "java/lang/String" "value" "[B" (.ref p3)) (F_value_o1 : Fld Z h0 o1 "java/lang/String" "value" "[B" (.ref p4)) (V_p3 : Arv Z h0 p3 k_p3 .byte (2 : Int32) [(.int u1), (.int u2)] (.int (0 : Int32))) (V_p4 : Arv Z h0 p4 k_p4 .byte (2 : Int32) [(.int u3), (.int u4)] (.int (0 : Int32))) :
    Con l Z (⟨"java/lang/String", "equals", "(Ljava/lang/Object;)Z"⟩ : MethodName) jdk_42_method_66_code 3 (some .boolean) ws ({ frames := 1, cells := 0, slots := 0, locals := 14 } : Room) #[(.ref o0), (.ref o1)] h0 (Pur (some (.int (f_rm10_0 u1 u2 u3 u4))) h0) := by
  refine own_body (plainFor_of_name own_pn1) (fun m => ef_rm10_0 m o0 o1) ?_
  intro p e s m below meth c s₁ hx hby hlk hml hret hZ hown hnm X0 e0
  have N0 := Fr.nil n0
  refine Home.run X0 hx hby sg10_0_2 (pc' := 2) (L' := #[.val (.ref o0), .val (.ref o1), .unset]) (S' := [(.ref o1), (.ref o0)]) rfl ?_
  refine Home.go (fun _ => Jvm.RoadKit.acmp X0 hx rfl rfl rfl (pc0 := 2) (pc' := 7) (same := false) rfl (hb hby d10_2) rfl (decide_eq_false fun q => ne_o0_o1 (Value.ref.inj q)) (by decide) (by decide)) ?_
  show Home s₁ (mkF m 7 #[.val (.ref o0), .val (.ref o1), .unset] [])
  refine Home.run X0 hx hby sg10_7_1 (pc' := 8) (L' := #[.val (.ref o0), .val (.ref o1), .unset]) (S' := [(.ref o1)]) rfl ?_
  refine Home.st (instY X0 hx hZ hown (own_w65 hw) e0 (Ins.self E_o1) rfl rfl (hb hby d10_8)) fun T1 X1 e1 => ?_
  refine Home.go (fun _ => XS.ifNo X1.here hx rfl (hb hby d10_11) rfl ((if0 _ _).trans (feq (by decide)).1)) ?_
  refine Home.run X1 hx hby sg10_14_1 (pc' := 15) (L' := #[.val (.ref o0), .val (.ref o1), .unset]) (S' := [(.ref o1)]) rfl ?_
  refine Home.st (castY X1 hx hZ hown (own_w65 hw) e1 (Ins.self E_o1) rfl rfl (hb hby d10_15)) fun T2 X2 e2 => ?_
  refine Home.run X2 hx hby sg10_18_1 (pc' := 19) (L' := #[.val (.ref o0), .val (.ref o1), .val (.ref o1)]) (S' := []) rfl ?_
  refine Home.st (getS2 X2 hx hZ hown (host := "") (Or.inl (own_w14 hw)) Via.refl e2 (S_COMPACT_STRINGS.ext O0.2) rfl (hb hby d10_19)) fun T3 X3 e3 => ?_
  refine Home.go (fun _ => XS.ifNo X3.here hx rfl (hb hby d10_22) rfl ((if0 _ _).trans (feq hCS).1)) ?_
  refine Home.run X3 hx hby sg10_25_1 (pc' := 26) (L' := #[.val (.ref o0), .val (.ref o1), .val (.ref o1)]) (S' := [(.ref o0)]) rfl ?_
  refine Home.st (getF X3 hx hZ hown (host := "") (Or.inl (own_w26 hw)) Via.refl e3 F_coder_o0 rfl rfl (hb hby d10_26)) fun T4 X4 e4 => ?_
  show Home T4 (mkF m 29 #[.val (.ref o0), .val (.ref o1), .val (.ref o1)] [(.int (0 : Int32))])
  refine Home.run X4 hx hby sg10_29_1 (pc' := 30) (L' := #[.val (.ref o0), .val (.ref o1), .val (.ref o1)]) (S' := [(.ref o1), (.int (0 : Int32))]) rfl ?_
  refine Home.st (getF X4 hx hZ hown (host := "") (Or.inl (own_w26 hw)) Via.refl e4 F_coder_o1 rfl rfl (hb hby d10_30)) fun T5 X5 e5 => ?_
  refine Home.go (fun _ => XS.icmpNo X5.here hx rfl (hb hby d10_33) rfl (teq (by decide)).2) ?_
  refine Home.run X5 hx hby sg10_36_1 (pc' := 37) (L' := #[.val (.ref o0), .val (.ref o1), .val (.ref o1)]) (S' := [(.ref o0)]) rfl ?_
  refine Home.st (getF X5 hx hZ hown (host := "") (Or.inl (own_w28 hw)) Via.refl e5 F_value_o0 rfl rfl (hb hby d10_37)) fun T6 X6 e6 => ?_
  refine Home.run X6 hx hby sg10_40_1 (pc' := 41) (L' := #[.val (.ref o0), .val (.ref o1), .val (.ref o1)]) (S' := [(.ref o1), (.ref p3)]) rfl ?_
  refine Home.st (getF X6 hx hZ hown (host := "") (Or.inl (own_w28 hw)) Via.refl e6 F_value_o1 rfl rfl (hb hby d10_41)) fun T7 X7 e7 => ?_
  refine Home.st (own_pure (own_static X7 hx hZ hown (own_w66 hw) (own_w67 hw) (own_w68 hw) (own_w69 hw) (by decide) (rm11_0 l Z a0 hw [] p3 p4 k_p3 u1 u2 k_p4 u3 u4 h0 n0 O0 V_p3 V_p4) e7 rfl (by rw [hml]; rfl) (argsL := [(.ref p3), (.ref p4)]) (rest := []) (lenOf own_pd8 rfl) rfl rfl (W := 0) (by show 2 * 0 + _ ≤ _; exact Nat.le_of_eq rfl) (by decide) (by decide) (hb hby d10_44) (by decide) (by decide))) fun T8 X8 e8 => ?_
  show Home T8 (mkF m 47 #[.val (.ref o0), .val (.ref o1), .val (.ref o1)] [(.int (f_rm11_0 u1 u2 u3 u4))])
  obtain ⟨r9, hr9⟩ : ∃ z, z = (f_rm11_0 u1 u2 u3 u4) := ⟨_, rfl⟩
  rw [← hr9]
  have br9 : ¬ r9 < (0 : Int32) ∧ ¬ (1 : Int32) < r9 := by rw [hr9]; exact f_rm11_0_bnd u1 u2 u3 u4
  suffices J13 : ∀ {T : State} (X : Stand p l e ({ frames := 1, cells := 0, slots := 0, locals := 14 } : Room) s m #[(.ref o0), (.ref o1)] below meth c T [] 0 0) (eT : T.heap = h0) (v14 : Int32) (hv14 : v14 = (if r9 = (0 : Int32) then (0 : Int32) else (1 : Int32))), @Home p e below _ T (mkF m 55 #[.val (.ref o0), .val (.ref o1), .val (.ref o1)] [(.int v14)]) by
    by_cases c10 : r9 = (0 : Int32)
    · skip
      refine Home.go (fun _ => XS.ifYes X8.here hx rfl (pc0 := 47) (pc' := 54) rfl (hb hby d10_47) rfl ((if0 _ _).trans (teq c10).1) (by decide) (by decide)) ?_
      have bd11 : ¬ r9 < (0 : Int32) ∧ ¬ (0 : Int32) < r9 := ⟨(bnd_eql c10), (bnd_eqr c10)⟩
      refine Home.run X8 hx hby sg10_54_1 (pc' := 55) (L' := #[.val (.ref o0), .val (.ref o1), .val (.ref o1)]) (S' := [(.int (0 : Int32))]) rfl ?_
      exact J13 X8 e8 _ (by simp only [if_pos c10])
    · skip
      refine Home.go (fun _ => XS.ifNo X8.here hx rfl (hb hby d10_47) rfl ((if0 _ _).trans (feq c10).1)) ?_
      have bd12 : ¬ r9 < (1 : Int32) ∧ ¬ (1 : Int32) < r9 := ⟨(bnd_nel br9.1 c10 (by decide +kernel)), br9.2⟩
      refine Home.run X8 hx hby sg10_50_2 (pc' := 55) (L' := #[.val (.ref o0), .val (.ref o1), .val (.ref o1)]) (S' := [(.int (1 : Int32))]) rfl ?_
      exact J13 X8 e8 _ (by simp only [if_neg c10])
  intro TJ13 XJ13 eJ13 v14 hv14
  have bv14 : ¬ v14 < (0 : Int32) ∧ ¬ (1 : Int32) < v14 := by rw [hv14]; exact (bnd_ite (bnd_mono (bnd_lit (0 : Int32)) (by decide +kernel) (by decide +kernel)) (bnd_mono (bnd_lit (1 : Int32)) (by decide +kernel) (by decide +kernel)))
  show Home TJ13 (mkF m 55 #[.val (.ref o0), .val (.ref o1), .val (.ref o1)] [(.int v14)])
  exact Home.retN XJ13 hx hlk (t := .boolean) hret (by simp) (hb hby d10_55) ⟨congrArg some (congrArg Value.int (by subst hv14; subst hr9; first | rfl | (simp only [f_rm10_0, nar_bool_id bv14 (by decide +kernel) (by decide +kernel), nar_i2c, nar_i2b]; done) | (simp only [f_rm10_0, nar_bool_id bv14 (by decide +kernel) (by decide +kernel), nar_i2c, nar_i2b]; rfl) | (simp [f_rm10_0, nar_bool_id bv14 (by decide +kernel) (by decide +kernel)]; done))), rfl, eJ13⟩ (by decide) (by decide)
theorem f_rm10_0_bnd (u1 : Int32) (u2 : Int32) (u3 : Int32) (u4 : Int32) : ¬ (f_rm10_0 u1 u2 u3 u4) < (0 : Int32) ∧ ¬ (1 : Int32) < (f_rm10_0 u1 u2 u3 u4) := by unfold f_rm10_0; (repeat' split) <;> first | exact bnd_mono (bnd_lit (0 : Int32)) (by decide +kernel) (by decide +kernel) | exact bnd_mono (bnd_lit (1 : Int32)) (by decide +kernel) (by decide +kernel)
set_option maxRecDepth 65536 in
set_option maxHeartbeats 40000000 in
theorem rm9_3 (l : Launch) (Z : State) (a0 : Array Value) (hw : ∀ d ∈ tables_1, d.before a0 Z = true) (ws : List Jvm.Cond) (o0 : Addr) (o1 : Addr) (u1 : Int32) (u4 : Int32) (u2 : Int32) (u5 : Int32) (u3 : Int32) (u6 : Int32) (p3 : Addr) (p4 : Addr) (sv_COMPACT_STRINGS : Int32) (p5 : Addr) (p6 : Addr) (k_p5 : ClassId) (u7 : Int32) (u8 : Int32) (k_p6 : ClassId) (u9 : Int32) (u10 : Int32) (h0 : Heap) (n0 : Nat) (O0 : Old Z n0 h0) (E_o0 : Exa Z h0 o0 "com/example/token_relay/tokenrelay/Member") (E_o1 : Exa Z h0 o1 "com/example/token_relay/tokenrelay/Member") (ne_o0_o1 : o0 ≠ o1) (F_id_o0 : Fld Z h0 o0 "com/example/token_relay/tokenrelay/Member" "id" "I" (.int u1)) (F_id_o1 : Fld Z h0 o1 "com/example/token_relay/tokenrelay/Member" "id" "I" (.int u4)) (F_peerPort_o0 : Fld Z h0 o0 "com/example/token_relay/tokenrelay/Member" "peerPort" "I" (.int u2)) (F_peerPort_o1 : Fld Z h0 o1 "com/example/token_relay/tokenrelay/Member" "peerPort" "I" (.int u5)) (F_clientPort_o0 : Fld Z h0 o0 "com/example/token_relay/tokenrelay/Member" "clientPort" "I" (.int u3)) (F_clientPort_o1 : Fld Z h0 o1 "com/example/token_relay/tokenrelay/Member" "clientPort" "I" (.int u6)) (F_host_o0 : Fld Z h0 o0 "com/example/token_relay/tokenrelay/Member" "host" "Ljava/lang/String;" (.ref p3)) (F_host_o1 : Fld Z h0 o1 "com/example/token_relay/tokenrelay/Member" "host" "Ljava/lang/String;" (.ref p4)) (E_p3 : Exa Z h0 p3 "java/lang/String") (E_p4 : Exa Z h0 p4 "java/lang/String") (ne_p3_p4 : p3 ≠ p4) (S_COMPACT_STRINGS : Sta Z Z.heap "java/lang/String" "COMPACT_STRINGS" "Z" (.int sv_COMPACT_STRINGS)) (F_coder_p3 : Fld Z h0 p3 "java/lang/String" "coder" "B" (.int (0 : Int32))) (F_coder_p4 : Fld Z h0 p4 "java/lang/String" "coder" "B" (.int (0 : Int32))) (F_value_p3 : Fld Z h0 p3 "java/lang/String" "value" "[B" (.ref p5)) (F_value_p4 : Fld Z h0 p4 "java/lang/String" "value" "[B" (.ref p6)) (V_p5 : Arv Z h0 p5 k_p5 .byte (2 : Int32) [(.int u7), (.int u8)] (.int (0 : Int32))) (V_p6 : Arv Z h0 p6 k_p6 .byte (2 : Int32) [(.int u9), (.int u10)] (.int (0 : Int32))) (hCS : ¬ (sv_COMPACT_STRINGS = (0 : Int32))) :
    Con l Z (⟨"com/example/token_relay/tokenrelay/Member", "equals", "(Ljava/lang/Object;)Z"⟩ : MethodName) prog_8_method_8_code 3 (some .boolean) ws ({ frames := 2, cells := 0, slots := 0, locals := 28 } : Room) #[(.ref o0), (.ref o1)] h0 (Pur (some (.int (f_rm9_3 u1 u4 u2 u5 u3 u6 u7 u8 u9 u10))) h0) := by
  refine own_body (plainFor_of_name own_pn3) (fun m => ef_rm9_3 m o0 o1) ?_
  intro p e s m below meth c s₁ hx hby hlk hml hret hZ hown hnm X0 e0
  have N0 := Fr.nil n0
  refine Home.run X0 hx hby sg9_0_2 (pc' := 2) (L' := #[.val (.ref o0), .val (.ref o1), .unset]) (S' := [(.ref o1), (.ref o0)]) rfl ?_
  refine Home.go (fun _ => Jvm.RoadKit.acmp X0 hx rfl rfl rfl (pc0 := 2) (pc' := 7) (same := false) rfl (hb hby d9_2) rfl (decide_eq_false fun q => ne_o0_o1 (Value.ref.inj q)) (by decide) (by decide)) ?_
  show Home s₁ (mkF m 7 #[.val (.ref o0), .val (.ref o1), .unset] [])
  refine Home.run X0 hx hby sg9_7_1 (pc' := 8) (L' := #[.val (.ref o0), .val (.ref o1), .unset]) (S' := [(.ref o1)]) rfl ?_
  refine Home.st (instY X0 hx hZ hown (own_w58 hw) e0 (Ins.self E_o1) rfl rfl (hb hby d9_8)) fun T1 X1 e1 => ?_
  refine Home.go (fun _ => XS.ifYes X1.here hx rfl (pc0 := 11) (pc' := 16) rfl (hb hby d9_11) rfl ((if0 _ _).trans (feq (by decide)).2) (by decide) (by decide)) ?_
  refine Home.run X1 hx hby sg9_16_1 (pc' := 17) (L' := #[.val (.ref o0), .val (.ref o1), .unset]) (S' := [(.ref o1)]) rfl ?_
  refine Home.st (castY X1 hx hZ hown (own_w58 hw) e1 (Ins.self E_o1) rfl rfl (hb hby d9_17)) fun T2 X2 e2 => ?_
  refine Home.run X2 hx hby sg9_20_2 (pc' := 22) (L' := #[.val (.ref o0), .val (.ref o1), .val (.ref o1)]) (S' := [(.ref o0)]) rfl ?_
  refine Home.st (getF X2 hx hZ hown (host := "") (Or.inl (own_w37 hw)) Via.refl e2 F_id_o0 rfl rfl (hb hby d9_22)) fun T3 X3 e3 => ?_
  refine Home.run X3 hx hby sg9_25_1 (pc' := 26) (L' := #[.val (.ref o0), .val (.ref o1), .val (.ref o1)]) (S' := [(.ref o1), (.int u1)]) rfl ?_
  refine Home.st (getF X3 hx hZ hown (host := "") (Or.inl (own_w37 hw)) Via.refl e3 F_id_o1 rfl rfl (hb hby d9_26)) fun T4 X4 e4 => ?_
  show Home T4 (mkF m 29 #[.val (.ref o0), .val (.ref o1), .val (.ref o1)] [(.int u4), (.int u1)])
  suffices J18 : ∀ {T : State} (X : Stand p l e ({ frames := 2, cells := 0, slots := 0, locals := 28 } : Room) s m #[(.ref o0), (.ref o1)] below meth c T [] 0 0) (eT : T.heap = h0) (v19 : Int32) (hv19 : v19 = (if u1 = u4 then (if u2 = u5 then (if u3 = u6 then (if (f_rm10_0 u7 u8 u9 u10) = (0 : Int32) then (0 : Int32) else (1 : Int32)) else (0 : Int32)) else (0 : Int32)) else (0 : Int32))), @Home p e below _ T (mkF m 73 #[.val (.ref o0), .val (.ref o1), .val (.ref o1)] [(.int v19)]) by
    by_cases c5 : u1 = u4
    · skip
      refine Home.go (fun _ => XS.icmpNo X4.here hx rfl (hb hby d9_29) rfl (teq c5).2) ?_
      refine Home.run X4 hx hby sg9_32_1 (pc' := 33) (L' := #[.val (.ref o0), .val (.ref o1), .val (.ref o1)]) (S' := [(.ref o0)]) rfl ?_
      refine Home.st (getF X4 hx hZ hown (host := "") (Or.inl (own_w49 hw)) Via.refl e4 F_peerPort_o0 rfl rfl (hb hby d9_33)) fun T6 X6 e6 => ?_
      refine Home.run X6 hx hby sg9_36_1 (pc' := 37) (L' := #[.val (.ref o0), .val (.ref o1), .val (.ref o1)]) (S' := [(.ref o1), (.int u2)]) rfl ?_
      refine Home.st (getF X6 hx hZ hown (host := "") (Or.inl (own_w49 hw)) Via.refl e6 F_peerPort_o1 rfl rfl (hb hby d9_37)) fun T7 X7 e7 => ?_
      by_cases c8 : u2 = u5
      · skip
        refine Home.go (fun _ => XS.icmpNo X7.here hx rfl (hb hby d9_40) rfl (teq c8).2) ?_
        refine Home.run X7 hx hby sg9_43_1 (pc' := 44) (L' := #[.val (.ref o0), .val (.ref o1), .val (.ref o1)]) (S' := [(.ref o0)]) rfl ?_
        refine Home.st (getF X7 hx hZ hown (host := "") (Or.inl (own_w51 hw)) Via.refl e7 F_clientPort_o0 rfl rfl (hb hby d9_44)) fun T9 X9 e9 => ?_
        refine Home.run X9 hx hby sg9_47_1 (pc' := 48) (L' := #[.val (.ref o0), .val (.ref o1), .val (.ref o1)]) (S' := [(.ref o1), (.int u3)]) rfl ?_
        refine Home.st (getF X9 hx hZ hown (host := "") (Or.inl (own_w51 hw)) Via.refl e9 F_clientPort_o1 rfl rfl (hb hby d9_48)) fun T10 X10 e10 => ?_
        by_cases c11 : u3 = u6
        · skip
          refine Home.go (fun _ => XS.icmpNo X10.here hx rfl (hb hby d9_51) rfl (teq c11).2) ?_
          refine Home.run X10 hx hby sg9_54_1 (pc' := 55) (L' := #[.val (.ref o0), .val (.ref o1), .val (.ref o1)]) (S' := [(.ref o0)]) rfl ?_
          refine Home.st (getF X10 hx hZ hown (host := "") (Or.inl (own_w47 hw)) Via.refl e10 F_host_o0 rfl rfl (hb hby d9_55)) fun T12 X12 e12 => ?_
          refine Home.run X12 hx hby sg9_58_1 (pc' := 59) (L' := #[.val (.ref o0), .val (.ref o1), .val (.ref o1)]) (S' := [(.ref o1), (.ref p3)]) rfl ?_
          refine Home.st (getF X12 hx hZ hown (host := "") (Or.inl (own_w47 hw)) Via.refl e12 F_host_o1 rfl rfl (hb hby d9_59)) fun T13 X13 e13 => ?_
          refine Home.st (own_pure (own_virtual X13 hx hZ hown (own_w60 hw) (own_w61 hw) (notFace_of_selects (args := #[]) (mvT hZ (own_w63 hw))) (own_w63 hw) (own_w62 hw) (own_w2 hw) (own_w64 hw) (by decide) (rm10_0 l Z a0 hw [] p3 p4 sv_COMPACT_STRINGS p5 p6 k_p5 u7 u8 k_p6 u9 u10 h0 n0 O0 E_p3 E_p4 ne_p3_p4 S_COMPACT_STRINGS hCS F_coder_p3 F_coder_p4 F_value_p3 F_value_p4 V_p5 V_p6) e13 E_p3 rfl (by rw [hml]; rfl) (argsL := [(.ref p4)]) (rest := []) (lenOf own_pd7 rfl) rfl rfl (W := 0) (by show 2 * 0 + _ ≤ _; exact Nat.le_of_eq rfl) (by decide) (by decide) (hb hby d9_62) (by decide) (by decide))) fun T14 X14 e14 => ?_
          by_cases c15 : (f_rm10_0 u7 u8 u9 u10) = (0 : Int32)
          · skip
            refine Home.go (fun _ => XS.ifYes X14.here hx rfl (pc0 := 65) (pc' := 72) rfl (hb hby d9_65) rfl ((if0 _ _).trans (teq c15).1) (by decide) (by decide)) ?_
            have bd16 : ¬ (f_rm10_0 u7 u8 u9 u10) < (0 : Int32) ∧ ¬ (0 : Int32) < (f_rm10_0 u7 u8 u9 u10) := ⟨(bnd_eql c15), (bnd_eqr c15)⟩
            refine Home.run X14 hx hby sg9_72_1 (pc' := 73) (L' := #[.val (.ref o0), .val (.ref o1), .val (.ref o1)]) (S' := [(.int (0 : Int32))]) rfl ?_
            exact J18 X14 e14 _ (by simp only [if_pos c5, if_pos c8, if_pos c11, if_pos c15])
          · skip
            refine Home.go (fun _ => XS.ifNo X14.here hx rfl (hb hby d9_65) rfl ((if0 _ _).trans (feq c15).1)) ?_
            have bd17 : ¬ (f_rm10_0 u7 u8 u9 u10) < (1 : Int32) ∧ ¬ (1 : Int32) < (f_rm10_0 u7 u8 u9 u10) := ⟨(bnd_nel (f_rm10_0_bnd u7 u8 u9 u10).1 c15 (by decide +kernel)), (f_rm10_0_bnd u7 u8 u9 u10).2⟩
            refine Home.run X14 hx hby sg9_68_2 (pc' := 73) (L' := #[.val (.ref o0), .val (.ref o1), .val (.ref o1)]) (S' := [(.int (1 : Int32))]) rfl ?_
            exact J18 X14 e14 _ (by simp only [if_pos c5, if_pos c8, if_pos c11, if_neg c15])
        · skip
          refine Home.go (fun _ => XS.icmpYes X10.here hx rfl (pc0 := 51) (pc' := 72) rfl (hb hby d9_51) rfl (feq c11).2 (by decide) (by decide)) ?_
          refine Home.run X10 hx hby sg9_72_1 (pc' := 73) (L' := #[.val (.ref o0), .val (.ref o1), .val (.ref o1)]) (S' := [(.int (0 : Int32))]) rfl ?_
          exact J18 X10 e10 _ (by simp only [if_pos c5, if_pos c8, if_neg c11])
      · skip
        refine Home.go (fun _ => XS.icmpYes X7.here hx rfl (pc0 := 40) (pc' := 72) rfl (hb hby d9_40) rfl (feq c8).2 (by decide) (by decide)) ?_
        refine Home.run X7 hx hby sg9_72_1 (pc' := 73) (L' := #[.val (.ref o0), .val (.ref o1), .val (.ref o1)]) (S' := [(.int (0 : Int32))]) rfl ?_
        exact J18 X7 e7 _ (by simp only [if_pos c5, if_neg c8])
    · skip
      refine Home.go (fun _ => XS.icmpYes X4.here hx rfl (pc0 := 29) (pc' := 72) rfl (hb hby d9_29) rfl (feq c5).2 (by decide) (by decide)) ?_
      refine Home.run X4 hx hby sg9_72_1 (pc' := 73) (L' := #[.val (.ref o0), .val (.ref o1), .val (.ref o1)]) (S' := [(.int (0 : Int32))]) rfl ?_
      exact J18 X4 e4 _ (by simp only [if_neg c5])
  intro TJ18 XJ18 eJ18 v19 hv19
  have bv19 : ¬ v19 < (0 : Int32) ∧ ¬ (1 : Int32) < v19 := by rw [hv19]; exact (bnd_ite (bnd_ite (bnd_ite (bnd_ite (bnd_mono (bnd_lit (0 : Int32)) (by decide +kernel) (by decide +kernel)) (bnd_mono (bnd_lit (1 : Int32)) (by decide +kernel) (by decide +kernel))) (bnd_mono (bnd_lit (0 : Int32)) (by decide +kernel) (by decide +kernel))) (bnd_mono (bnd_lit (0 : Int32)) (by decide +kernel) (by decide +kernel))) (bnd_mono (bnd_lit (0 : Int32)) (by decide +kernel) (by decide +kernel)))
  show Home TJ18 (mkF m 73 #[.val (.ref o0), .val (.ref o1), .val (.ref o1)] [(.int v19)])
  exact Home.retN XJ18 hx hlk (t := .boolean) hret (by simp) (hb hby d9_73) ⟨congrArg some (congrArg Value.int (by subst hv19; first | rfl | (simp only [f_rm9_3, nar_bool_id bv19 (by decide +kernel) (by decide +kernel), nar_i2c, nar_i2b]; done) | (simp only [f_rm9_3, nar_bool_id bv19 (by decide +kernel) (by decide +kernel), nar_i2c, nar_i2b]; rfl) | (simp [f_rm9_3, nar_bool_id bv19 (by decide +kernel) (by decide +kernel)]; done))), rfl, eJ18⟩ (by decide) (by decide)
theorem f_rm9_3_bnd (u1 : Int32) (u4 : Int32) (u2 : Int32) (u5 : Int32) (u3 : Int32) (u6 : Int32) (u7 : Int32) (u8 : Int32) (u9 : Int32) (u10 : Int32) : ¬ (f_rm9_3 u1 u4 u2 u5 u3 u6 u7 u8 u9 u10) < (0 : Int32) ∧ ¬ (1 : Int32) < (f_rm9_3 u1 u4 u2 u5 u3 u6 u7 u8 u9 u10) := by unfold f_rm9_3; (repeat' split) <;> first | exact bnd_mono (bnd_lit (0 : Int32)) (by decide +kernel) (by decide +kernel) | exact bnd_mono (bnd_lit (1 : Int32)) (by decide +kernel) (by decide +kernel)
theorem own_end0 (i0 : Int32) (i1 : Int32) (i2 : Int32) (i3 : Int32) (i4 : Int32) (i5 : Int32) (sv_COMPACT_STRINGS : Int32) (v1 : Int32) (hv1 : v1 = (i3 &&& (255 : Int32))) (v2 : Int32) (hv2 : v2 = (((i3.toUInt32 >>> ((8 : Int32) &&& 31).toUInt32).toInt32) &&& (255 : Int32))) (v7 : Int32) (hv7 : v7 = (if (i5 &&& (8 : Int32)) = (0 : Int32) then (((i3.toUInt32 >>> ((16 : Int32) &&& 31).toUInt32).toInt32) &&& (255 : Int32)) else v1)) (v12 : Int32) (hv12 : v12 = (if (i5 &&& (8 : Int32)) = (0 : Int32) then (((i3.toUInt32 >>> ((24 : Int32) &&& 31).toUInt32).toInt32) &&& (255 : Int32)) else v2)) (v17 : Int32) (hv17 : v17 = (if (i5 &&& (1 : Int32)) = (0 : Int32) then (i0 + i4) else i0)) (v22 : Int32) (hv22 : v22 = (if (i5 &&& (2 : Int32)) = (0 : Int32) then (i1 ^^^ i4) else i1)) (v27 : Int32) (hv27 : v27 = (if (i5 &&& (4 : Int32)) = (0 : Int32) then (i2 - i4) else i2)) (v63 : Int32) (hv63 : v63 = (((i5.toUInt32 >>> ((4 : Int32) &&& 31).toUInt32).toInt32) &&& (3 : Int32))) (v87 : Int32) (hv87 : v87 = (if i0 = v17 then (if i1 = v22 then (if i2 = v27 then (if v1 = v7 then (if v2 = v12 then (1 : Int32) else (0 : Int32)) else (0 : Int32)) else (0 : Int32)) else (0 : Int32)) else (0 : Int32))) (r137 : Int32) (hr137 : r137 = (f_rm9_3 i0 v17 i1 v22 i2 v27 (v1.toInt8.toInt32) (v2.toInt8.toInt32) (v7.toInt8.toInt32) (v12.toInt8.toInt32))) (v144 : Int32) (hv144 : v144 = (if r137 = v87 then (if (f_rm9_3 v17 i0 v22 i1 v27 i2 (v7.toInt8.toInt32) (v12.toInt8.toInt32) (v1.toInt8.toInt32) (v2.toInt8.toInt32)) = v87 then (1 : Int32) else (0 : Int32)) else (0 : Int32))) (c64 : ¬ (v63 = (1 : Int32))) (c69 : ¬ (v63 = (2 : Int32))) (c75 : ¬ (v63 = (3 : Int32))) : nar .boolean v144 = (1 : Int32) := by
  have b1 : ¬ v1 < (0 : Int32) ∧ ¬ (255 : Int32) < v1 := by rw [hv1]; exact bnd_and _ _ (by decide)
  have b2 : ¬ v2 < (0 : Int32) ∧ ¬ (255 : Int32) < v2 := by rw [hv2]; exact bnd_and _ _ (by decide)
  have b7 : ¬ v7 < (0 : Int32) ∧ ¬ (255 : Int32) < v7 := by
    rw [hv7]; split
    · exact bnd_and _ _ (by decide)
    · exact b1
  have b12 : ¬ v12 < (0 : Int32) ∧ ¬ (255 : Int32) < v12 := by
    rw [hv12]; split
    · exact bnd_and _ _ (by decide)
    · exact b2
  clear hv1 hv2 hv7 hv12 hv17 hv22 hv27
  rw [hv144, hr137, hv87]
  simp only [f_rm9_3, f_rm10_0, f_rm11_0, own_b2 b1 b7, own_b2 b2 b12, own_b2 b7 b1, own_b2 b12 b2, eq_comm (a := v17) (b := i0), eq_comm (a := v22) (b := i1), eq_comm (a := v27) (b := i2), eq_comm (a := v7) (b := v1), eq_comm (a := v12) (b := v2)]
  by_cases e1 : i0 = v17 <;> by_cases e2 : i1 = v22 <;> by_cases e3 : i2 = v27 <;> by_cases e4 : v1 = v7 <;> by_cases e5 : v2 = v12 <;> simp only [e1, e2, e3, e4, e5, if_true, if_false] <;> decide
set_option maxRecDepth 65536 in
set_option maxHeartbeats 40000000 in
theorem rm0 (l : Launch) (Z : State) (a0 : Array Value) (hw : ∀ d ∈ tables_1, d.before a0 Z = true) (ws : List Jvm.Cond) (i0 : Int32) (i1 : Int32) (i2 : Int32) (i3 : Int32) (i4 : Int32) (i5 : Int32) (sv_COMPACT_STRINGS : Int32) (h0 : Heap) (n0 : Nat) (O0 : Old Z n0 h0) (S_COMPACT_STRINGS : Sta Z Z.heap "java/lang/String" "COMPACT_STRINGS" "Z" (.int sv_COMPACT_STRINGS)) (hCS : ¬ (sv_COMPACT_STRINGS = (0 : Int32))) :
    ConW l Z own_EL ([] : List Addr) x code maxLocals ret ws room_1 #[(.int i0), (.int i1), (.int i2), (.int i3), (.int i4), (.int i5)] h0 (fun v h L => v = some (.int (1 : Int32)) ∧ Fr n0 L) := by
  refine own_bodyW (plainFor_of_name own_pn5) (fun m => ef_rm0 m i0 i1 i2 i3 i4 i5) ?_
  intro p e s m below meth c s₁ hx hby hlk hml hret hZ hown hnm X0 e0 Cd0
  have N0 := Fr.nil n0
  refine Home.run X0 hx hby sg0_0_4 (pc' := 6) (L' := #[.val (.int i0), .val (.int i1), .val (.int i2), .val (.int i3), .val (.int i4), .val (.int i5), .unset, .unset, .unset, .unset, .unset, .unset, .unset, .unset, .unset, .unset, .unset, .unset, .unset]) (S' := [(.int ((i3 &&& (255 : Int32)).toUInt32.toUInt16.toUInt32.toInt32))]) rfl ?_
  rw [i2c_id (bnd_and i3 (255 : Int32) (by decide)) (by decide +kernel) (by decide +kernel)]
  refine Home.run X0 hx hby sg0_6_1 (pc' := 8) (L' := #[.val (.int i0), .val (.int i1), .val (.int i2), .val (.int i3), .val (.int i4), .val (.int i5), .val (.int (i3 &&& (255 : Int32))), .unset, .unset, .unset, .unset, .unset, .unset, .unset, .unset, .unset, .unset, .unset, .unset]) (S' := []) rfl ?_
  obtain ⟨v1, hv1⟩ : ∃ z, z = (i3 &&& (255 : Int32)) := ⟨_, rfl⟩
  rw [← hv1]
  have bv1 : ¬ v1 < (0 : Int32) ∧ ¬ (255 : Int32) < v1 := by rw [hv1]; exact (bnd_and i3 (255 : Int32) (by decide))
  refine Home.run X0 hx hby sg0_8_6 (pc' := 17) (L' := #[.val (.int i0), .val (.int i1), .val (.int i2), .val (.int i3), .val (.int i4), .val (.int i5), .val (.int v1), .unset, .unset, .unset, .unset, .unset, .unset, .unset, .unset, .unset, .unset, .unset, .unset]) (S' := [(.int ((((i3.toUInt32 >>> ((8 : Int32) &&& 31).toUInt32).toInt32) &&& (255 : Int32)).toUInt32.toUInt16.toUInt32.toInt32))]) rfl ?_
  rw [i2c_id (bnd_and ((i3.toUInt32 >>> ((8 : Int32) &&& 31).toUInt32).toInt32) (255 : Int32) (by decide)) (by decide +kernel) (by decide +kernel)]
  refine Home.run X0 hx hby sg0_17_1 (pc' := 19) (L' := #[.val (.int i0), .val (.int i1), .val (.int i2), .val (.int i3), .val (.int i4), .val (.int i5), .val (.int v1), .val (.int (((i3.toUInt32 >>> ((8 : Int32) &&& 31).toUInt32).toInt32) &&& (255 : Int32))), .unset, .unset, .unset, .unset, .unset, .unset, .unset, .unset, .unset, .unset, .unset]) (S' := []) rfl ?_
  obtain ⟨v2, hv2⟩ : ∃ z, z = (((i3.toUInt32 >>> ((8 : Int32) &&& 31).toUInt32).toInt32) &&& (255 : Int32)) := ⟨_, rfl⟩
  rw [← hv2]
  have bv2 : ¬ v2 < (0 : Int32) ∧ ¬ (255 : Int32) < v2 := by rw [hv2]; exact (bnd_and ((i3.toUInt32 >>> ((8 : Int32) &&& 31).toUInt32).toInt32) (255 : Int32) (by decide))
  refine Home.run X0 hx hby sg0_19_3 (pc' := 24) (L' := #[.val (.int i0), .val (.int i1), .val (.int i2), .val (.int i3), .val (.int i4), .val (.int i5), .val (.int v1), .val (.int v2), .unset, .unset, .unset, .unset, .unset, .unset, .unset, .unset, .unset, .unset, .unset]) (S' := [(.int (i5 &&& (8 : Int32)))]) rfl ?_
  suffices J6 : ∀ {T : State} (X : Stand p l e room_1 (s.setVm s.vm) m #[(.int i0), (.int i1), (.int i2), (.int i3), (.int i4), (.int i5)] below meth c T [] 0 0) (eT : T.heap = h0) (v7 : Int32) (hv7 : v7 = (if (i5 &&& (8 : Int32)) = (0 : Int32) then (((i3.toUInt32 >>> ((16 : Int32) &&& 31).toUInt32).toInt32) &&& (255 : Int32)) else v1)), @Home p e below _ T (mkF m 41 #[.val (.int i0), .val (.int i1), .val (.int i2), .val (.int i3), .val (.int i4), .val (.int i5), .val (.int v1), .val (.int v2), .unset, .unset, .unset, .unset, .unset, .unset, .unset, .unset, .unset, .unset, .unset] [(.int v7)]) by
    by_cases c3 : (i5 &&& (8 : Int32)) = (0 : Int32)
    · skip
      refine Home.go (fun _ => XS.ifYes X0.here hx rfl (pc0 := 24) (pc' := 32) rfl (hb hby at_24) rfl ((if0 _ _).trans (teq c3).1) (by decide) (by decide)) ?_
      have bd4 : ¬ (i5 &&& (8 : Int32)) < (0 : Int32) ∧ ¬ (0 : Int32) < (i5 &&& (8 : Int32)) := ⟨(bnd_eql c3), (bnd_eqr c3)⟩
      refine Home.run X0 hx hby sg0_32_6 (pc' := 41) (L' := #[.val (.int i0), .val (.int i1), .val (.int i2), .val (.int i3), .val (.int i4), .val (.int i5), .val (.int v1), .val (.int v2), .unset, .unset, .unset, .unset, .unset, .unset, .unset, .unset, .unset, .unset, .unset]) (S' := [(.int ((((i3.toUInt32 >>> ((16 : Int32) &&& 31).toUInt32).toInt32) &&& (255 : Int32)).toUInt32.toUInt16.toUInt32.toInt32))]) rfl ?_
      rw [i2c_id (bnd_and ((i3.toUInt32 >>> ((16 : Int32) &&& 31).toUInt32).toInt32) (255 : Int32) (by decide)) (by decide +kernel) (by decide +kernel)]
      exact J6 X0 e0 _ (by simp only [if_pos c3])
    · skip
      refine Home.go (fun _ => XS.ifNo X0.here hx rfl (hb hby at_24) rfl ((if0 _ _).trans (feq c3).1)) ?_
      have bd5 : ¬ (i5 &&& (8 : Int32)) < (1 : Int32) ∧ ¬ (8 : Int32) < (i5 &&& (8 : Int32)) := ⟨(bnd_nel (bnd_and i5 (8 : Int32) (by decide)).1 c3 (by decide +kernel)), (bnd_and i5 (8 : Int32) (by decide)).2⟩
      refine Home.run X0 hx hby sg0_27_2 (pc' := 41) (L' := #[.val (.int i0), .val (.int i1), .val (.int i2), .val (.int i3), .val (.int i4), .val (.int i5), .val (.int v1), .val (.int v2), .unset, .unset, .unset, .unset, .unset, .unset, .unset, .unset, .unset, .unset, .unset]) (S' := [(.int v1)]) rfl ?_
      exact J6 X0 e0 _ (by simp only [if_neg c3])
  intro TJ6 XJ6 eJ6 v7 hv7
  have bv7 : ¬ v7 < (0 : Int32) ∧ ¬ (255 : Int32) < v7 := by rw [hv7]; exact (bnd_ite (bnd_mono (bnd_and ((i3.toUInt32 >>> ((16 : Int32) &&& 31).toUInt32).toInt32) (255 : Int32) (by decide)) (by decide +kernel) (by decide +kernel)) (bnd_mono bv1 (by decide +kernel) (by decide +kernel)))
  show Home TJ6 (mkF m 41 #[.val (.int i0), .val (.int i1), .val (.int i2), .val (.int i3), .val (.int i4), .val (.int i5), .val (.int v1), .val (.int v2), .unset, .unset, .unset, .unset, .unset, .unset, .unset, .unset, .unset, .unset, .unset] [(.int v7)])
  refine Home.run XJ6 hx hby sg0_41_4 (pc' := 48) (L' := #[.val (.int i0), .val (.int i1), .val (.int i2), .val (.int i3), .val (.int i4), .val (.int i5), .val (.int v1), .val (.int v2), .val (.int v7), .unset, .unset, .unset, .unset, .unset, .unset, .unset, .unset, .unset, .unset]) (S' := [(.int (i5 &&& (8 : Int32)))]) rfl ?_
  suffices J11 : ∀ {T : State} (X : Stand p l e room_1 (s.setVm s.vm) m #[(.int i0), (.int i1), (.int i2), (.int i3), (.int i4), (.int i5)] below meth c T [] 0 0) (eT : T.heap = h0) (v12 : Int32) (hv12 : v12 = (if (i5 &&& (8 : Int32)) = (0 : Int32) then (((i3.toUInt32 >>> ((24 : Int32) &&& 31).toUInt32).toInt32) &&& (255 : Int32)) else v2)), @Home p e below _ T (mkF m 65 #[.val (.int i0), .val (.int i1), .val (.int i2), .val (.int i3), .val (.int i4), .val (.int i5), .val (.int v1), .val (.int v2), .val (.int v7), .unset, .unset, .unset, .unset, .unset, .unset, .unset, .unset, .unset, .unset] [(.int v12)]) by
    by_cases c8 : (i5 &&& (8 : Int32)) = (0 : Int32)
    · skip
      refine Home.go (fun _ => XS.ifYes XJ6.here hx rfl (pc0 := 48) (pc' := 56) rfl (hb hby at_48) rfl ((if0 _ _).trans (teq c8).1) (by decide) (by decide)) ?_
      have bd9 : ¬ (i5 &&& (8 : Int32)) < (0 : Int32) ∧ ¬ (0 : Int32) < (i5 &&& (8 : Int32)) := ⟨(bnd_eql c8), (bnd_eqr c8)⟩
      refine Home.run XJ6 hx hby sg0_56_6 (pc' := 65) (L' := #[.val (.int i0), .val (.int i1), .val (.int i2), .val (.int i3), .val (.int i4), .val (.int i5), .val (.int v1), .val (.int v2), .val (.int v7), .unset, .unset, .unset, .unset, .unset, .unset, .unset, .unset, .unset, .unset]) (S' := [(.int ((((i3.toUInt32 >>> ((24 : Int32) &&& 31).toUInt32).toInt32) &&& (255 : Int32)).toUInt32.toUInt16.toUInt32.toInt32))]) rfl ?_
      rw [i2c_id (bnd_and ((i3.toUInt32 >>> ((24 : Int32) &&& 31).toUInt32).toInt32) (255 : Int32) (by decide)) (by decide +kernel) (by decide +kernel)]
      exact J11 XJ6 eJ6 _ (by simp only [if_pos c8])
    · skip
      refine Home.go (fun _ => XS.ifNo XJ6.here hx rfl (hb hby at_48) rfl ((if0 _ _).trans (feq c8).1)) ?_
      have bd10 : ¬ (i5 &&& (8 : Int32)) < (1 : Int32) ∧ ¬ (8 : Int32) < (i5 &&& (8 : Int32)) := ⟨(bnd_nel (bnd_and i5 (8 : Int32) (by decide)).1 c8 (by decide +kernel)), (bnd_and i5 (8 : Int32) (by decide)).2⟩
      refine Home.run XJ6 hx hby sg0_51_2 (pc' := 65) (L' := #[.val (.int i0), .val (.int i1), .val (.int i2), .val (.int i3), .val (.int i4), .val (.int i5), .val (.int v1), .val (.int v2), .val (.int v7), .unset, .unset, .unset, .unset, .unset, .unset, .unset, .unset, .unset, .unset]) (S' := [(.int v2)]) rfl ?_
      exact J11 XJ6 eJ6 _ (by simp only [if_neg c8])
  intro TJ11 XJ11 eJ11 v12 hv12
  have bv12 : ¬ v12 < (0 : Int32) ∧ ¬ (255 : Int32) < v12 := by rw [hv12]; exact (bnd_ite (bnd_mono (bnd_and ((i3.toUInt32 >>> ((24 : Int32) &&& 31).toUInt32).toInt32) (255 : Int32) (by decide)) (by decide +kernel) (by decide +kernel)) (bnd_mono bv2 (by decide +kernel) (by decide +kernel)))
  show Home TJ11 (mkF m 65 #[.val (.int i0), .val (.int i1), .val (.int i2), .val (.int i3), .val (.int i4), .val (.int i5), .val (.int v1), .val (.int v2), .val (.int v7), .unset, .unset, .unset, .unset, .unset, .unset, .unset, .unset, .unset, .unset] [(.int v12)])
  refine Home.run XJ11 hx hby sg0_65_4 (pc' := 71) (L' := #[.val (.int i0), .val (.int i1), .val (.int i2), .val (.int i3), .val (.int i4), .val (.int i5), .val (.int v1), .val (.int v2), .val (.int v7), .val (.int v12), .unset, .unset, .unset, .unset, .unset, .unset, .unset, .unset, .unset]) (S' := [(.int (i5 &&& (1 : Int32)))]) rfl ?_
  suffices J16 : ∀ {T : State} (X : Stand p l e room_1 (s.setVm s.vm) m #[(.int i0), (.int i1), (.int i2), (.int i3), (.int i4), (.int i5)] below meth c T [] 0 0) (eT : T.heap = h0) (v17 : Int32) (hv17 : v17 = (if (i5 &&& (1 : Int32)) = (0 : Int32) then (i0 + i4) else i0)), @Home p e below _ T (mkF m 82 #[.val (.int i0), .val (.int i1), .val (.int i2), .val (.int i3), .val (.int i4), .val (.int i5), .val (.int v1), .val (.int v2), .val (.int v7), .val (.int v12), .unset, .unset, .unset, .unset, .unset, .unset, .unset, .unset, .unset] [(.int v17)]) by
    by_cases c13 : (i5 &&& (1 : Int32)) = (0 : Int32)
    · skip
      refine Home.go (fun _ => XS.ifYes XJ11.here hx rfl (pc0 := 71) (pc' := 78) rfl (hb hby at_71) rfl ((if0 _ _).trans (teq c13).1) (by decide) (by decide)) ?_
      have bd14 : ¬ (i5 &&& (1 : Int32)) < (0 : Int32) ∧ ¬ (0 : Int32) < (i5 &&& (1 : Int32)) := ⟨(bnd_eql c13), (bnd_eqr c13)⟩
      refine Home.run XJ11 hx hby sg0_78_3 (pc' := 82) (L' := #[.val (.int i0), .val (.int i1), .val (.int i2), .val (.int i3), .val (.int i4), .val (.int i5), .val (.int v1), .val (.int v2), .val (.int v7), .val (.int v12), .unset, .unset, .unset, .unset, .unset, .unset, .unset, .unset, .unset]) (S' := [(.int (i0 + i4))]) rfl ?_
      exact J16 XJ11 eJ11 _ (by simp only [if_pos c13])
    · skip
      refine Home.go (fun _ => XS.ifNo XJ11.here hx rfl (hb hby at_71) rfl ((if0 _ _).trans (feq c13).1)) ?_
      have bd15 : ¬ (i5 &&& (1 : Int32)) < (1 : Int32) ∧ ¬ (1 : Int32) < (i5 &&& (1 : Int32)) := ⟨(bnd_nel (bnd_and i5 (1 : Int32) (by decide)).1 c13 (by decide +kernel)), (bnd_and i5 (1 : Int32) (by decide)).2⟩
      refine Home.run XJ11 hx hby sg0_74_2 (pc' := 82) (L' := #[.val (.int i0), .val (.int i1), .val (.int i2), .val (.int i3), .val (.int i4), .val (.int i5), .val (.int v1), .val (.int v2), .val (.int v7), .val (.int v12), .unset, .unset, .unset, .unset, .unset, .unset, .unset, .unset, .unset]) (S' := [(.int i0)]) rfl ?_
      exact J16 XJ11 eJ11 _ (by simp only [if_neg c13])
  intro TJ16 XJ16 eJ16 v17 hv17
  show Home TJ16 (mkF m 82 #[.val (.int i0), .val (.int i1), .val (.int i2), .val (.int i3), .val (.int i4), .val (.int i5), .val (.int v1), .val (.int v2), .val (.int v7), .val (.int v12), .unset, .unset, .unset, .unset, .unset, .unset, .unset, .unset, .unset] [(.int v17)])
  refine Home.run XJ16 hx hby sg0_82_4 (pc' := 88) (L' := #[.val (.int i0), .val (.int i1), .val (.int i2), .val (.int i3), .val (.int i4), .val (.int i5), .val (.int v1), .val (.int v2), .val (.int v7), .val (.int v12), .val (.int v17), .unset, .unset, .unset, .unset, .unset, .unset, .unset, .unset]) (S' := [(.int (i5 &&& (2 : Int32)))]) rfl ?_
  suffices J21 : ∀ {T : State} (X : Stand p l e room_1 (s.setVm s.vm) m #[(.int i0), (.int i1), (.int i2), (.int i3), (.int i4), (.int i5)] below meth c T [] 0 0) (eT : T.heap = h0) (v22 : Int32) (hv22 : v22 = (if (i5 &&& (2 : Int32)) = (0 : Int32) then (i1 ^^^ i4) else i1)), @Home p e below _ T (mkF m 99 #[.val (.int i0), .val (.int i1), .val (.int i2), .val (.int i3), .val (.int i4), .val (.int i5), .val (.int v1), .val (.int v2), .val (.int v7), .val (.int v12), .val (.int v17), .unset, .unset, .unset, .unset, .unset, .unset, .unset, .unset] [(.int v22)]) by
    by_cases c18 : (i5 &&& (2 : Int32)) = (0 : Int32)
    · skip
      refine Home.go (fun _ => XS.ifYes XJ16.here hx rfl (pc0 := 88) (pc' := 95) rfl (hb hby at_88) rfl ((if0 _ _).trans (teq c18).1) (by decide) (by decide)) ?_
      have bd19 : ¬ (i5 &&& (2 : Int32)) < (0 : Int32) ∧ ¬ (0 : Int32) < (i5 &&& (2 : Int32)) := ⟨(bnd_eql c18), (bnd_eqr c18)⟩
      refine Home.run XJ16 hx hby sg0_95_3 (pc' := 99) (L' := #[.val (.int i0), .val (.int i1), .val (.int i2), .val (.int i3), .val (.int i4), .val (.int i5), .val (.int v1), .val (.int v2), .val (.int v7), .val (.int v12), .val (.int v17), .unset, .unset, .unset, .unset, .unset, .unset, .unset, .unset]) (S' := [(.int (i1 ^^^ i4))]) rfl ?_
      exact J21 XJ16 eJ16 _ (by simp only [if_pos c18])
    · skip
      refine Home.go (fun _ => XS.ifNo XJ16.here hx rfl (hb hby at_88) rfl ((if0 _ _).trans (feq c18).1)) ?_
      have bd20 : ¬ (i5 &&& (2 : Int32)) < (1 : Int32) ∧ ¬ (2 : Int32) < (i5 &&& (2 : Int32)) := ⟨(bnd_nel (bnd_and i5 (2 : Int32) (by decide)).1 c18 (by decide +kernel)), (bnd_and i5 (2 : Int32) (by decide)).2⟩
      refine Home.run XJ16 hx hby sg0_91_2 (pc' := 99) (L' := #[.val (.int i0), .val (.int i1), .val (.int i2), .val (.int i3), .val (.int i4), .val (.int i5), .val (.int v1), .val (.int v2), .val (.int v7), .val (.int v12), .val (.int v17), .unset, .unset, .unset, .unset, .unset, .unset, .unset, .unset]) (S' := [(.int i1)]) rfl ?_
      exact J21 XJ16 eJ16 _ (by simp only [if_neg c18])
  intro TJ21 XJ21 eJ21 v22 hv22
  show Home TJ21 (mkF m 99 #[.val (.int i0), .val (.int i1), .val (.int i2), .val (.int i3), .val (.int i4), .val (.int i5), .val (.int v1), .val (.int v2), .val (.int v7), .val (.int v12), .val (.int v17), .unset, .unset, .unset, .unset, .unset, .unset, .unset, .unset] [(.int v22)])
  refine Home.run XJ21 hx hby sg0_99_4 (pc' := 105) (L' := #[.val (.int i0), .val (.int i1), .val (.int i2), .val (.int i3), .val (.int i4), .val (.int i5), .val (.int v1), .val (.int v2), .val (.int v7), .val (.int v12), .val (.int v17), .val (.int v22), .unset, .unset, .unset, .unset, .unset, .unset, .unset]) (S' := [(.int (i5 &&& (4 : Int32)))]) rfl ?_
  suffices J26 : ∀ {T : State} (X : Stand p l e room_1 (s.setVm s.vm) m #[(.int i0), (.int i1), (.int i2), (.int i3), (.int i4), (.int i5)] below meth c T [] 0 0) (eT : T.heap = h0) (v27 : Int32) (hv27 : v27 = (if (i5 &&& (4 : Int32)) = (0 : Int32) then (i2 - i4) else i2)), @Home p e below _ T (mkF m 116 #[.val (.int i0), .val (.int i1), .val (.int i2), .val (.int i3), .val (.int i4), .val (.int i5), .val (.int v1), .val (.int v2), .val (.int v7), .val (.int v12), .val (.int v17), .val (.int v22), .unset, .unset, .unset, .unset, .unset, .unset, .unset] [(.int v27)]) by
    by_cases c23 : (i5 &&& (4 : Int32)) = (0 : Int32)
    · skip
      refine Home.go (fun _ => XS.ifYes XJ21.here hx rfl (pc0 := 105) (pc' := 112) rfl (hb hby at_105) rfl ((if0 _ _).trans (teq c23).1) (by decide) (by decide)) ?_
      have bd24 : ¬ (i5 &&& (4 : Int32)) < (0 : Int32) ∧ ¬ (0 : Int32) < (i5 &&& (4 : Int32)) := ⟨(bnd_eql c23), (bnd_eqr c23)⟩
      refine Home.run XJ21 hx hby sg0_112_3 (pc' := 116) (L' := #[.val (.int i0), .val (.int i1), .val (.int i2), .val (.int i3), .val (.int i4), .val (.int i5), .val (.int v1), .val (.int v2), .val (.int v7), .val (.int v12), .val (.int v17), .val (.int v22), .unset, .unset, .unset, .unset, .unset, .unset, .unset]) (S' := [(.int (i2 - i4))]) rfl ?_
      exact J26 XJ21 eJ21 _ (by simp only [if_pos c23])
    · skip
      refine Home.go (fun _ => XS.ifNo XJ21.here hx rfl (hb hby at_105) rfl ((if0 _ _).trans (feq c23).1)) ?_
      have bd25 : ¬ (i5 &&& (4 : Int32)) < (1 : Int32) ∧ ¬ (4 : Int32) < (i5 &&& (4 : Int32)) := ⟨(bnd_nel (bnd_and i5 (4 : Int32) (by decide)).1 c23 (by decide +kernel)), (bnd_and i5 (4 : Int32) (by decide)).2⟩
      refine Home.run XJ21 hx hby sg0_108_2 (pc' := 116) (L' := #[.val (.int i0), .val (.int i1), .val (.int i2), .val (.int i3), .val (.int i4), .val (.int i5), .val (.int v1), .val (.int v2), .val (.int v7), .val (.int v12), .val (.int v17), .val (.int v22), .unset, .unset, .unset, .unset, .unset, .unset, .unset]) (S' := [(.int i2)]) rfl ?_
      exact J26 XJ21 eJ21 _ (by simp only [if_neg c23])
  intro TJ26 XJ26 eJ26 v27 hv27
  show Home TJ26 (mkF m 116 #[.val (.int i0), .val (.int i1), .val (.int i2), .val (.int i3), .val (.int i4), .val (.int i5), .val (.int v1), .val (.int v2), .val (.int v7), .val (.int v12), .val (.int v17), .val (.int v22), .unset, .unset, .unset, .unset, .unset, .unset, .unset] [(.int v27)])
  refine Home.run XJ26 hx hby sg0_116_1 (pc' := 118) (L' := #[.val (.int i0), .val (.int i1), .val (.int i2), .val (.int i3), .val (.int i4), .val (.int i5), .val (.int v1), .val (.int v2), .val (.int v7), .val (.int v12), .val (.int v17), .val (.int v22), .val (.int v27), .unset, .unset, .unset, .unset, .unset, .unset]) (S' := []) rfl ?_
  refine Home.nw (own_newO XJ26 hx hZ hown (own_w0 hw) (own_w1 hw) (own_w2 hw) eJ26 rfl (hb hby at_118) (by decide) (by decide)) fun T28 h28 b28 g28 X28 e28 E28 A28 D28 => ?_
  have g_b28 : n0 ≤ b28 := Nat.le_trans (Old.le O0) (Nat.le_of_eq g28.symm)
  have F_coder_b28 : Fld Z h28 b28 "java/lang/String" "coder" "B" (.int (0 : Int32)) := D28 (Or.inr (own_w27 hw)) (ty := .byte) (by decide)
  have F_value_b28 : Fld Z h28 b28 "java/lang/String" "value" "[B" .null := D28 (Or.inr (own_w29 hw)) (ty := (.array .byte)) (by decide)
  have O28 := O0.ext E28
  have K28 : Keep h0 h28 ([] : List Addr) := Keep.ext (Keep.refl h0 ([] : List Addr)) E28
  have Cd28 := Cold.ext Cd0 E28
  show Home T28 (mkF m 121 #[.val (.int i0), .val (.int i1), .val (.int i2), .val (.int i3), .val (.int i4), .val (.int i5), .val (.int v1), .val (.int v2), .val (.int v7), .val (.int v12), .val (.int v17), .val (.int v22), .val (.int v27), .unset, .unset, .unset, .unset, .unset, .unset] [(.ref b28)])
  refine Home.run X28 hx hby sg0_121_2 (pc' := 123) (L' := #[.val (.int i0), .val (.int i1), .val (.int i2), .val (.int i3), .val (.int i4), .val (.int i5), .val (.int v1), .val (.int v2), .val (.int v7), .val (.int v12), .val (.int v17), .val (.int v22), .val (.int v27), .unset, .unset, .unset, .unset, .unset, .unset]) (S' := [(.int (2 : Int32)), (.ref b28), (.ref b28)]) rfl ?_
  refine Home.na (own_newP (aty := .char) X28 hx hZ (own_w3 hw) e28 (g := (mkF m 123 #[.val (.int i0), .val (.int i1), .val (.int i2), .val (.int i3), .val (.int i4), .val (.int i5), .val (.int v1), .val (.int v2), .val (.int v7), .val (.int v12), .val (.int v17), .val (.int v22), .val (.int v27), .unset, .unset, .unset, .unset, .unset, .unset] [(.int (2 : Int32)), (.ref b28), (.ref b28)])) rfl (hb hby at_123) rfl (by decide) (cap := 2) (by decide) (by decide) (by decide) (by decide)) fun T29 h29 k29 b29 g29 X29 e29 E29 A29 => ?_
  have g_b29 : n0 ≤ b29 := Nat.le_trans (Old.le O28) (Nat.le_of_eq g29.symm)
  have V29 : Arv Z h29 b29 k29 .char (2 : Int32) [(.int (0 : Int32)), (.int (0 : Int32))] (.int (0 : Int32)) := (Arv.new A29 (by decide)).pad (pad_rep [] (.int (0 : Int32)) 2)
  have O29 := O28.ext E29
  have K29 : Keep h0 h29 ([] : List Addr) := Keep.ext K28 E29
  have Cd29 := Cold.ext Cd28 E29
  refine Home.run X29 hx hby sg0_125_3 (pc' := 129) (L' := #[.val (.int i0), .val (.int i1), .val (.int i2), .val (.int i3), .val (.int i4), .val (.int i5), .val (.int v1), .val (.int v2), .val (.int v7), .val (.int v12), .val (.int v17), .val (.int v22), .val (.int v27), .unset, .unset, .unset, .unset, .unset, .unset]) (S' := [(.int v1), (.int (0 : Int32)), (.ref b29), (.ref b29), (.ref b28), (.ref b28)]) rfl ?_
  obtain ⟨cl30, Ar30, q30, S30, M30, H30, G30⟩ := id V29
  refine Home.wr (stC X29 hx hZ e29 Ar30 (j := (0 : Int32)) (inb_of S30 ⟨by decide, by decide⟩) rfl rfl (hb hby at_129)) fun T30 h30 X30 e30 W30 => ?_
  have W30' := Wr.to W30 (congrArg Value.int (nar_char_id bv1 (by decide +kernel) (by decide +kernel)))
  have V30 : Arv Z h30 b29 k29 .char (2 : Int32) [(.int v1), (.int (0 : Int32))] (.int (0 : Int32)) := Arv.set Ar30 q30 S30 M30 H30 G30 (fits_char_b bv1 (by decide +kernel) (by decide +kernel)) W30' 0 rfl (Nat.le_of_ble_eq_true rfl)
  have O30 := O29.wr W30 g_b29
  have K30 : Keep h0 h30 ([] : List Addr) := Keep.wr K29 W30 (Or.inr (Nat.le_trans E28.1 (Nat.le_of_eq g29.symm)))
  have Cd30 := Cold.wr Cd29 W30 own_safe0
  have N30 := Fr.snoc X30 N0 g_b29
  show Home T30 (mkF m 130 #[.val (.int i0), .val (.int i1), .val (.int i2), .val (.int i3), .val (.int i4), .val (.int i5), .val (.int v1), .val (.int v2), .val (.int v7), .val (.int v12), .val (.int v17), .val (.int v22), .val (.int v27), .unset, .unset, .unset, .unset, .unset, .unset] [(.ref b29), (.ref b28), (.ref b28)])
  refine Home.run X30 hx hby sg0_130_3 (pc' := 134) (L' := #[.val (.int i0), .val (.int i1), .val (.int i2), .val (.int i3), .val (.int i4), .val (.int i5), .val (.int v1), .val (.int v2), .val (.int v7), .val (.int v12), .val (.int v17), .val (.int v22), .val (.int v27), .unset, .unset, .unset, .unset, .unset, .unset]) (S' := [(.int v2), (.int (1 : Int32)), (.ref b29), (.ref b29), (.ref b28), (.ref b28)]) rfl ?_
  obtain ⟨cl31, Ar31, q31, S31, M31, H31, G31⟩ := id V30
  refine Home.wr (stC X30 hx hZ e30 Ar31 (j := (1 : Int32)) (inb_of S31 ⟨by decide, by decide⟩) rfl rfl (hb hby at_134)) fun T31 h31 X31 e31 W31 => ?_
  have W31' := Wr.to W31 (congrArg Value.int (nar_char_id bv2 (by decide +kernel) (by decide +kernel)))
  have V31 : Arv Z h31 b29 k29 .char (2 : Int32) [(.int v1), (.int v2)] (.int (0 : Int32)) := Arv.set Ar31 q31 S31 M31 H31 G31 (fits_char_b bv2 (by decide +kernel) (by decide +kernel)) W31' 1 rfl (Nat.le_of_ble_eq_true rfl)
  have O31 := O30.wr W31 g_b29
  have K31 : Keep h0 h31 ([] : List Addr) := Keep.wr K30 W31 (Or.inr (Nat.le_trans E28.1 (Nat.le_of_eq g29.symm)))
  have Cd31 := Cold.wr Cd30 W31 own_safe0
  have N31 := Fr.snoc X31 N30 g_b29
  show Home T31 (mkF m 135 #[.val (.int i0), .val (.int i1), .val (.int i2), .val (.int i3), .val (.int i4), .val (.int i5), .val (.int v1), .val (.int v2), .val (.int v7), .val (.int v12), .val (.int v17), .val (.int v22), .val (.int v27), .unset, .unset, .unset, .unset, .unset, .unset] [(.ref b29), (.ref b28), (.ref b28)])
  have q32 := (((A28.ext E29).wr W30).wr W31)
  have ne33 : b28 ≠ b29 := (Nat.ne_of_lt (Nat.lt_of_lt_of_le A28.lt (Nat.le_trans (Nat.le_refl _) (Nat.le_of_eq g29.symm))))
  have q34 := (((F_coder_b28.ext E29).other W30 (Or.inl ne33)).other W31 (Or.inl ne33))
  have q35 := (((F_value_b28.ext E29).other W30 (Or.inl ne33)).other W31 (Or.inl ne33))
  refine Home.call (own_special X31 hx hZ hown rfl (own_w4 hw) (own_w5 hw) (own_w2 hw) (own_w6 hw) (by decide) (rm1_0 l Z a0 hw [] b28 b29 k29 v1 v2 sv_COMPACT_STRINGS h31 n0 O31 V31 S_COMPACT_STRINGS q32 q34 q35 bv1 bv2 g_b28 hCS) e31 rfl (by rw [hml]; rfl) (a := b28) (argsL := [(.ref b29)]) (rest := [(.ref b28)]) (lenOf own_pd4 rfl) rfl rfl (W := 1) (by show 2 * 0 + _ ≤ _; exact Nat.le_of_eq rfl) (by decide) (by decide) (hb hby at_135) (by decide) (by decide)) ?_
  rintro _ T36 L36 X36 ⟨b1_3_2_36, k1_3_2_36, rfl, N36q, sz_b1_3_2_36, K36q, P36_0, P36_1, P36_2, P36_3⟩
  have Cd36 := Cold.keep Cd31 K36q (allS own_safe0 all0)
  have g_b1_3_2_36 : n0 ≤ b1_3_2_36 := Nat.le_trans (Old.le O31) sz_b1_3_2_36
  have O36 := Old.keep O31 K36q (allS g_b28 all0)
  have K36 : Keep h0 T36.heap ([] : List Addr) := Keep.trans K31 K36q (allS (Or.inr (Nat.le_trans (Nat.le_refl _) (Nat.le_of_eq g28.symm))) all0)
  have N36 := Fr.app N31 N36q
  show Home T36 (mkF m 138 #[.val (.int i0), .val (.int i1), .val (.int i2), .val (.int i3), .val (.int i4), .val (.int i5), .val (.int v1), .val (.int v2), .val (.int v7), .val (.int v12), .val (.int v17), .val (.int v22), .val (.int v27), .unset, .unset, .unset, .unset, .unset, .unset] [(.ref b28)])
  refine Home.run X36 hx hby sg0_138_1 (pc' := 140) (L' := #[.val (.int i0), .val (.int i1), .val (.int i2), .val (.int i3), .val (.int i4), .val (.int i5), .val (.int v1), .val (.int v2), .val (.int v7), .val (.int v12), .val (.int v17), .val (.int v22), .val (.int v27), .val (.ref b28), .unset, .unset, .unset, .unset, .unset]) (S' := []) rfl ?_
  refine Home.nw (own_newO X36 hx hZ hown (own_w0 hw) (own_w1 hw) (own_w2 hw) rfl rfl (hb hby at_140) (by decide) (by decide)) fun T37 h37 b37 g37 X37 e37 E37 A37 D37 => ?_
  have g_b37 : n0 ≤ b37 := Nat.le_trans (Old.le O36) (Nat.le_of_eq g37.symm)
  have F_coder_b37 : Fld Z h37 b37 "java/lang/String" "coder" "B" (.int (0 : Int32)) := D37 (Or.inr (own_w27 hw)) (ty := .byte) (by decide)
  have F_value_b37 : Fld Z h37 b37 "java/lang/String" "value" "[B" .null := D37 (Or.inr (own_w29 hw)) (ty := (.array .byte)) (by decide)
  have O37 := O36.ext E37
  have K37 : Keep h0 h37 ([] : List Addr) := Keep.ext K36 E37
  have Cd37 := Cold.ext Cd36 E37
  show Home T37 (mkF m 143 #[.val (.int i0), .val (.int i1), .val (.int i2), .val (.int i3), .val (.int i4), .val (.int i5), .val (.int v1), .val (.int v2), .val (.int v7), .val (.int v12), .val (.int v17), .val (.int v22), .val (.int v27), .val (.ref b28), .unset, .unset, .unset, .unset, .unset] [(.ref b37)])
  refine Home.run X37 hx hby sg0_143_2 (pc' := 145) (L' := #[.val (.int i0), .val (.int i1), .val (.int i2), .val (.int i3), .val (.int i4), .val (.int i5), .val (.int v1), .val (.int v2), .val (.int v7), .val (.int v12), .val (.int v17), .val (.int v22), .val (.int v27), .val (.ref b28), .unset, .unset, .unset, .unset, .unset]) (S' := [(.int (2 : Int32)), (.ref b37), (.ref b37)]) rfl ?_
  refine Home.na (own_newP (aty := .char) X37 hx hZ (own_w3 hw) e37 (g := (mkF m 145 #[.val (.int i0), .val (.int i1), .val (.int i2), .val (.int i3), .val (.int i4), .val (.int i5), .val (.int v1), .val (.int v2), .val (.int v7), .val (.int v12), .val (.int v17), .val (.int v22), .val (.int v27), .val (.ref b28), .unset, .unset, .unset, .unset, .unset] [(.int (2 : Int32)), (.ref b37), (.ref b37)])) rfl (hb hby at_145) rfl (by decide) (cap := 2) (by decide) (by decide) (by decide) (by decide)) fun T38 h38 k38 b38 g38 X38 e38 E38 A38 => ?_
  have g_b38 : n0 ≤ b38 := Nat.le_trans (Old.le O37) (Nat.le_of_eq g38.symm)
  have V38 : Arv Z h38 b38 k38 .char (2 : Int32) [(.int (0 : Int32)), (.int (0 : Int32))] (.int (0 : Int32)) := (Arv.new A38 (by decide)).pad (pad_rep [] (.int (0 : Int32)) 2)
  have O38 := O37.ext E38
  have K38 : Keep h0 h38 ([] : List Addr) := Keep.ext K37 E38
  have Cd38 := Cold.ext Cd37 E38
  refine Home.run X38 hx hby sg0_147_3 (pc' := 151) (L' := #[.val (.int i0), .val (.int i1), .val (.int i2), .val (.int i3), .val (.int i4), .val (.int i5), .val (.int v1), .val (.int v2), .val (.int v7), .val (.int v12), .val (.int v17), .val (.int v22), .val (.int v27), .val (.ref b28), .unset, .unset, .unset, .unset, .unset]) (S' := [(.int v7), (.int (0 : Int32)), (.ref b38), (.ref b38), (.ref b37), (.ref b37)]) rfl ?_
  obtain ⟨cl39, Ar39, q39, S39, M39, H39, G39⟩ := id V38
  refine Home.wr (stC X38 hx hZ e38 Ar39 (j := (0 : Int32)) (inb_of S39 ⟨by decide, by decide⟩) rfl rfl (hb hby at_151)) fun T39 h39 X39 e39 W39 => ?_
  have W39' := Wr.to W39 (congrArg Value.int (nar_char_id bv7 (by decide +kernel) (by decide +kernel)))
  have V39 : Arv Z h39 b38 k38 .char (2 : Int32) [(.int v7), (.int (0 : Int32))] (.int (0 : Int32)) := Arv.set Ar39 q39 S39 M39 H39 G39 (fits_char_b bv7 (by decide +kernel) (by decide +kernel)) W39' 0 rfl (Nat.le_of_ble_eq_true rfl)
  have O39 := O38.wr W39 g_b38
  have le40 : h0.size ≤ h29.size := Nat.le_trans E28.1 E29.1
  have le41 : h0.size ≤ h30.size := Nat.le_trans le40 (Nat.le_of_eq W30.size.symm)
  have le42 : h0.size ≤ h31.size := Nat.le_trans le41 (Nat.le_of_eq W31.size.symm)
  have le43 : h0.size ≤ T36.heap.size := Nat.le_trans le42 K36q.1
  have le44 : h0.size ≤ h37.size := Nat.le_trans le43 E37.1
  have K39 : Keep h0 h39 ([] : List Addr) := Keep.wr K38 W39 (Or.inr (Nat.le_trans le44 (Nat.le_of_eq g38.symm)))
  have Cd39 := Cold.wr Cd38 W39 own_safe0
  have N39 := Fr.snoc X39 N36 g_b38
  show Home T39 (mkF m 152 #[.val (.int i0), .val (.int i1), .val (.int i2), .val (.int i3), .val (.int i4), .val (.int i5), .val (.int v1), .val (.int v2), .val (.int v7), .val (.int v12), .val (.int v17), .val (.int v22), .val (.int v27), .val (.ref b28), .unset, .unset, .unset, .unset, .unset] [(.ref b38), (.ref b37), (.ref b37)])
  refine Home.run X39 hx hby sg0_152_3 (pc' := 156) (L' := #[.val (.int i0), .val (.int i1), .val (.int i2), .val (.int i3), .val (.int i4), .val (.int i5), .val (.int v1), .val (.int v2), .val (.int v7), .val (.int v12), .val (.int v17), .val (.int v22), .val (.int v27), .val (.ref b28), .unset, .unset, .unset, .unset, .unset]) (S' := [(.int v12), (.int (1 : Int32)), (.ref b38), (.ref b38), (.ref b37), (.ref b37)]) rfl ?_
  obtain ⟨cl45, Ar45, q45, S45, M45, H45, G45⟩ := id V39
  refine Home.wr (stC X39 hx hZ e39 Ar45 (j := (1 : Int32)) (inb_of S45 ⟨by decide, by decide⟩) rfl rfl (hb hby at_156)) fun T45 h45 X45 e45 W45 => ?_
  have W45' := Wr.to W45 (congrArg Value.int (nar_char_id bv12 (by decide +kernel) (by decide +kernel)))
  have V45 : Arv Z h45 b38 k38 .char (2 : Int32) [(.int v7), (.int v12)] (.int (0 : Int32)) := Arv.set Ar45 q45 S45 M45 H45 G45 (fits_char_b bv12 (by decide +kernel) (by decide +kernel)) W45' 1 rfl (Nat.le_of_ble_eq_true rfl)
  have O45 := O39.wr W45 g_b38
  have K45 : Keep h0 h45 ([] : List Addr) := Keep.wr K39 W45 (Or.inr (Nat.le_trans le44 (Nat.le_of_eq g38.symm)))
  have Cd45 := Cold.wr Cd39 W45 own_safe0
  have N45 := Fr.snoc X45 N39 g_b38
  show Home T45 (mkF m 157 #[.val (.int i0), .val (.int i1), .val (.int i2), .val (.int i3), .val (.int i4), .val (.int i5), .val (.int v1), .val (.int v2), .val (.int v7), .val (.int v12), .val (.int v17), .val (.int v22), .val (.int v27), .val (.ref b28), .unset, .unset, .unset, .unset, .unset] [(.ref b38), (.ref b37), (.ref b37)])
  have q46 := (((A37.ext E38).wr W39).wr W45)
  have ne47 : b37 ≠ b38 := (Nat.ne_of_lt (Nat.lt_of_lt_of_le A37.lt (Nat.le_trans (Nat.le_refl _) (Nat.le_of_eq g38.symm))))
  have q48 := (((F_coder_b37.ext E38).other W39 (Or.inl ne47)).other W45 (Or.inl ne47))
  have q49 := (((F_value_b37.ext E38).other W39 (Or.inl ne47)).other W45 (Or.inl ne47))
  refine Home.call (own_special X45 hx hZ hown rfl (own_w4 hw) (own_w5 hw) (own_w2 hw) (own_w6 hw) (by decide) (rm1_0 l Z a0 hw [] b37 b38 k38 v7 v12 sv_COMPACT_STRINGS h45 n0 O45 V45 S_COMPACT_STRINGS q46 q48 q49 bv7 bv12 g_b37 hCS) e45 rfl (by rw [hml]; rfl) (a := b37) (argsL := [(.ref b38)]) (rest := [(.ref b37)]) (lenOf own_pd4 rfl) rfl rfl (W := 1) (by show 2 * 0 + _ ≤ _; exact Nat.le_of_eq rfl) (by decide) (by decide) (hb hby at_157) (by decide) (by decide)) ?_
  rintro _ T50 L50 X50 ⟨b1_3_2_50, k1_3_2_50, rfl, N50q, sz_b1_3_2_50, K50q, P50_0, P50_1, P50_2, P50_3⟩
  have Cd50 := Cold.keep Cd45 K50q (allS own_safe0 all0)
  have g_b1_3_2_50 : n0 ≤ b1_3_2_50 := Nat.le_trans (Old.le O45) sz_b1_3_2_50
  have O50 := Old.keep O45 K50q (allS g_b37 all0)
  have K50 : Keep h0 T50.heap ([] : List Addr) := Keep.trans K45 K50q (allS (Or.inr (Nat.le_trans le43 (Nat.le_of_eq g37.symm))) all0)
  have N50 := Fr.app N45 N50q
  show Home T50 (mkF m 160 #[.val (.int i0), .val (.int i1), .val (.int i2), .val (.int i3), .val (.int i4), .val (.int i5), .val (.int v1), .val (.int v2), .val (.int v7), .val (.int v12), .val (.int v17), .val (.int v22), .val (.int v27), .val (.ref b28), .unset, .unset, .unset, .unset, .unset] [(.ref b37)])
  refine Home.run X50 hx hby sg0_160_1 (pc' := 162) (L' := #[.val (.int i0), .val (.int i1), .val (.int i2), .val (.int i3), .val (.int i4), .val (.int i5), .val (.int v1), .val (.int v2), .val (.int v7), .val (.int v12), .val (.int v17), .val (.int v22), .val (.int v27), .val (.ref b28), .val (.ref b37), .unset, .unset, .unset, .unset]) (S' := []) rfl ?_
  refine Home.nw (own_newO X50 hx hZ hown (own_w30 hw) (own_w31 hw) (own_w32 hw) rfl rfl (hb hby at_162) (by decide) (by decide)) fun T51 h51 b51 g51 X51 e51 E51 A51 D51 => ?_
  have g_b51 : n0 ≤ b51 := Nat.le_trans (Old.le O50) (Nat.le_of_eq g51.symm)
  have F_id_b51 : Fld Z h51 b51 "com/example/token_relay/tokenrelay/Member" "id" "I" (.int (0 : Int32)) := D51 (Or.inr (own_w38 hw)) (ty := .int) (by decide)
  have F_host_b51 : Fld Z h51 b51 "com/example/token_relay/tokenrelay/Member" "host" "Ljava/lang/String;" .null := D51 (Or.inr (own_w48 hw)) (ty := (.object "java/lang/String")) (by decide)
  have F_peerPort_b51 : Fld Z h51 b51 "com/example/token_relay/tokenrelay/Member" "peerPort" "I" (.int (0 : Int32)) := D51 (Or.inr (own_w50 hw)) (ty := .int) (by decide)
  have F_clientPort_b51 : Fld Z h51 b51 "com/example/token_relay/tokenrelay/Member" "clientPort" "I" (.int (0 : Int32)) := D51 (Or.inr (own_w52 hw)) (ty := .int) (by decide)
  have O51 := O50.ext E51
  have K51 : Keep h0 h51 ([] : List Addr) := Keep.ext K50 E51
  have Cd51 := Cold.ext Cd50 E51
  show Home T51 (mkF m 165 #[.val (.int i0), .val (.int i1), .val (.int i2), .val (.int i3), .val (.int i4), .val (.int i5), .val (.int v1), .val (.int v2), .val (.int v7), .val (.int v12), .val (.int v17), .val (.int v22), .val (.int v27), .val (.ref b28), .val (.ref b37), .unset, .unset, .unset, .unset] [(.ref b51)])
  refine Home.run X51 hx hby sg0_165_5 (pc' := 171) (L' := #[.val (.int i0), .val (.int i1), .val (.int i2), .val (.int i3), .val (.int i4), .val (.int i5), .val (.int v1), .val (.int v2), .val (.int v7), .val (.int v12), .val (.int v17), .val (.int v22), .val (.int v27), .val (.ref b28), .val (.ref b37), .unset, .unset, .unset, .unset]) (S' := [(.int i2), (.int i1), (.ref b28), (.int i0), (.ref b51), (.ref b51)]) rfl ?_
  have q52 := ((((((P36_0.ext E37).ext E38).wr W39).wr W45).keep K50q).ext E51)
  refine Home.call (own_specialW X51 hx hZ hown (own_hEL hw) Cd51 all0 rfl (own_w33 hw) (own_w34 hw) (own_w32 hw) (own_w35 hw) (by decide) (rm7_0 l Z a0 hw [] b51 i0 b28 i1 i2 h51 n0 O51 A51 F_id_b51 g_b51 q52 F_host_b51 F_peerPort_b51 F_clientPort_b51) e51 rfl (by rw [hml]; rfl) (a := b51) (argsL := [(.int i0), (.ref b28), (.int i1), (.int i2)]) (rest := [(.ref b51)]) (lenOf own_pd6 rfl) rfl rfl (W := 1) (by show 2 * 0 + _ ≤ _; exact Nat.le_of_eq rfl) (by decide) (by decide) (hb hby at_171) (by decide) (by decide)) ?_
  rintro _ T53 L53 X53 ⟨⟨rfl, N53q, K53q, P53_0, P53_1, P53_2, P53_3, P53_4⟩, hZ, hown, Cd53⟩
  have le54 : h0.size ≤ h38.size := Nat.le_trans le44 E38.1
  have le55 : h0.size ≤ h39.size := Nat.le_trans le54 (Nat.le_of_eq W39.size.symm)
  have le56 : h0.size ≤ h45.size := Nat.le_trans le55 (Nat.le_of_eq W45.size.symm)
  have le57 : h0.size ≤ T50.heap.size := Nat.le_trans le56 K50q.1
  have O53 := Old.keep O51 K53q (allS g_b51 all0)
  have K53 : Keep h0 T53.heap ([] : List Addr) := Keep.trans K51 K53q (allS (Or.inr (Nat.le_trans le57 (Nat.le_of_eq g51.symm))) all0)
  have N53 := Fr.app N50 N53q
  show Home T53 (mkF m 174 #[.val (.int i0), .val (.int i1), .val (.int i2), .val (.int i3), .val (.int i4), .val (.int i5), .val (.int v1), .val (.int v2), .val (.int v7), .val (.int v12), .val (.int v17), .val (.int v22), .val (.int v27), .val (.ref b28), .val (.ref b37), .unset, .unset, .unset, .unset] [(.ref b51)])
  refine Home.run X53 hx hby sg0_174_1 (pc' := 176) (L' := #[.val (.int i0), .val (.int i1), .val (.int i2), .val (.int i3), .val (.int i4), .val (.int i5), .val (.int v1), .val (.int v2), .val (.int v7), .val (.int v12), .val (.int v17), .val (.int v22), .val (.int v27), .val (.ref b28), .val (.ref b37), .val (.ref b51), .unset, .unset, .unset]) (S' := []) rfl ?_
  refine Home.nw (own_newO X53 hx hZ hown (own_w30 hw) (own_w31 hw) (own_w32 hw) rfl rfl (hb hby at_176) (by decide) (by decide)) fun T58 h58 b58 g58 X58 e58 E58 A58 D58 => ?_
  have g_b58 : n0 ≤ b58 := Nat.le_trans (Old.le O53) (Nat.le_of_eq g58.symm)
  have F_id_b58 : Fld Z h58 b58 "com/example/token_relay/tokenrelay/Member" "id" "I" (.int (0 : Int32)) := D58 (Or.inr (own_w38 hw)) (ty := .int) (by decide)
  have F_host_b58 : Fld Z h58 b58 "com/example/token_relay/tokenrelay/Member" "host" "Ljava/lang/String;" .null := D58 (Or.inr (own_w48 hw)) (ty := (.object "java/lang/String")) (by decide)
  have F_peerPort_b58 : Fld Z h58 b58 "com/example/token_relay/tokenrelay/Member" "peerPort" "I" (.int (0 : Int32)) := D58 (Or.inr (own_w50 hw)) (ty := .int) (by decide)
  have F_clientPort_b58 : Fld Z h58 b58 "com/example/token_relay/tokenrelay/Member" "clientPort" "I" (.int (0 : Int32)) := D58 (Or.inr (own_w52 hw)) (ty := .int) (by decide)
  have O58 := O53.ext E58
  have K58 : Keep h0 h58 ([] : List Addr) := Keep.ext K53 E58
  have Cd58 := Cold.ext Cd53 E58
  show Home T58 (mkF m 179 #[.val (.int i0), .val (.int i1), .val (.int i2), .val (.int i3), .val (.int i4), .val (.int i5), .val (.int v1), .val (.int v2), .val (.int v7), .val (.int v12), .val (.int v17), .val (.int v22), .val (.int v27), .val (.ref b28), .val (.ref b37), .val (.ref b51), .unset, .unset, .unset] [(.ref b58)])
  refine Home.run X58 hx hby sg0_179_5 (pc' := 188) (L' := #[.val (.int i0), .val (.int i1), .val (.int i2), .val (.int i3), .val (.int i4), .val (.int i5), .val (.int v1), .val (.int v2), .val (.int v7), .val (.int v12), .val (.int v17), .val (.int v22), .val (.int v27), .val (.ref b28), .val (.ref b37), .val (.ref b51), .unset, .unset, .unset]) (S' := [(.int v27), (.int v22), (.ref b37), (.int v17), (.ref b58), (.ref b58)]) rfl ?_
  have q59 := (((P50_0.ext E51).keep K53q).ext E58)
  refine Home.call (own_specialW X58 hx hZ hown (own_hEL hw) Cd58 all0 rfl (own_w33 hw) (own_w34 hw) (own_w32 hw) (own_w35 hw) (by decide) (rm7_0 l Z a0 hw [] b58 v17 b37 v22 v27 h58 n0 O58 A58 F_id_b58 g_b58 q59 F_host_b58 F_peerPort_b58 F_clientPort_b58) e58 rfl (by rw [hml]; rfl) (a := b58) (argsL := [(.int v17), (.ref b37), (.int v22), (.int v27)]) (rest := [(.ref b58)]) (lenOf own_pd6 rfl) rfl rfl (W := 1) (by show 2 * 0 + _ ≤ _; exact Nat.le_of_eq rfl) (by decide) (by decide) (hb hby at_188) (by decide) (by decide)) ?_
  rintro _ T60 L60 X60 ⟨⟨rfl, N60q, K60q, P60_0, P60_1, P60_2, P60_3, P60_4⟩, hZ, hown, Cd60⟩
  have le61 : h0.size ≤ h51.size := Nat.le_trans le57 E51.1
  have le62 : h0.size ≤ T53.heap.size := Nat.le_trans le61 K53q.1
  have O60 := Old.keep O58 K60q (allS g_b58 all0)
  have K60 : Keep h0 T60.heap ([] : List Addr) := Keep.trans K58 K60q (allS (Or.inr (Nat.le_trans le62 (Nat.le_of_eq g58.symm))) all0)
  have N60 := Fr.app N53 N60q
  show Home T60 (mkF m 191 #[.val (.int i0), .val (.int i1), .val (.int i2), .val (.int i3), .val (.int i4), .val (.int i5), .val (.int v1), .val (.int v2), .val (.int v7), .val (.int v12), .val (.int v17), .val (.int v22), .val (.int v27), .val (.ref b28), .val (.ref b37), .val (.ref b51), .unset, .unset, .unset] [(.ref b58)])
  refine Home.run X60 hx hby sg0_191_7 (pc' := 201) (L' := #[.val (.int i0), .val (.int i1), .val (.int i2), .val (.int i3), .val (.int i4), .val (.int i5), .val (.int v1), .val (.int v2), .val (.int v7), .val (.int v12), .val (.int v17), .val (.int v22), .val (.int v27), .val (.ref b28), .val (.ref b37), .val (.ref b51), .val (.ref b58), .val (.int (((i5.toUInt32 >>> ((4 : Int32) &&& 31).toUInt32).toInt32) &&& (3 : Int32))), .unset]) (S' := []) rfl ?_
  obtain ⟨v63, hv63⟩ : ∃ z, z = (((i5.toUInt32 >>> ((4 : Int32) &&& 31).toUInt32).toInt32) &&& (3 : Int32)) := ⟨_, rfl⟩
  rw [← hv63]
  have bv63 : ¬ v63 < (0 : Int32) ∧ ¬ (3 : Int32) < v63 := by rw [hv63]; exact (bnd_and ((i5.toUInt32 >>> ((4 : Int32) &&& 31).toUInt32).toInt32) (3 : Int32) (by decide))
  refine Home.run X60 hx hby sg0_201_2 (pc' := 204) (L' := #[.val (.int i0), .val (.int i1), .val (.int i2), .val (.int i3), .val (.int i4), .val (.int i5), .val (.int v1), .val (.int v2), .val (.int v7), .val (.int v12), .val (.int v17), .val (.int v22), .val (.int v27), .val (.ref b28), .val (.ref b37), .val (.ref b51), .val (.ref b58), .val (.int v63), .unset]) (S' := [(.int (1 : Int32)), (.int v63)]) rfl ?_
  by_cases c64 : v63 = (1 : Int32)
  · skip
    refine Home.go (fun _ => XS.icmpNo X60.here hx rfl (hb hby at_204) rfl (teq c64).2) ?_
    have bd65 : ¬ v63 < (1 : Int32) ∧ ¬ (1 : Int32) < v63 := ⟨(bnd_eql c64), (bnd_eqr c64)⟩
    have fx66 : v63 = (1 : Int32) := bnd_fix bd65
    try rw [fx66]
    show Home T60 (mkF m 207 #[.val (.int i0), .val (.int i1), .val (.int i2), .val (.int i3), .val (.int i4), .val (.int i5), .val (.int v1), .val (.int v2), .val (.int v7), .val (.int v12), .val (.int v17), .val (.int v22), .val (.int v27), .val (.ref b28), .val (.ref b37), .val (.ref b51), .val (.ref b58), .val (.int (1 : Int32)), .unset] [])
    refine Home.run X60 hx hby sg0_207_2 (pc' := 211) (L' := #[.val (.int i0), .val (.int i1), .val (.int i2), .val (.int i3), .val (.int i4), .val (.int i5), .val (.int v1), .val (.int v2), .val (.int v7), .val (.int v12), .val (.int v17), .val (.int v22), .val (.int v27), .val (.ref b28), .val (.ref b37), .val (.ref b51), .val (.ref b58), .val (.int (1 : Int32)), .unset]) (S' := [(.ref b51), (.ref b51)]) rfl ?_
    have q67 := ((P53_0.ext E58).keep K60q)
    refine Home.st (own_pure (own_virtual X60 hx hZ hown (own_w53 hw) (own_w54 hw) (notFace_of_selects (args := #[]) (mvT hZ (own_w56 hw))) (own_w56 hw) (own_w55 hw) (own_w32 hw) (own_w57 hw) (by decide) (rm9_0 l Z a0 hw [] b51 T60.heap n0 O60) rfl q67 rfl (by rw [hml]; rfl) (argsL := [(.ref b51)]) (rest := []) (lenOf own_pd7 rfl) rfl rfl (W := 0) (by show 2 * 0 + _ ≤ _; exact Nat.le_of_eq rfl) (by decide) (by decide) (hb hby at_211) (by decide) (by decide))) fun T68 X68 e68 => ?_
    exact HomeW.retN X68 hx hlk hZ (own_hEL hw) e68 Cd60 (t := .boolean) hret (by simp) (hb hby at_214) ⟨rfl, N60⟩ (by decide) (by decide)
  · skip
    refine Home.go (fun _ => XS.icmpYes X60.here hx rfl (pc0 := 204) (pc' := 215) rfl (hb hby at_204) rfl (feq c64).2 (by decide) (by decide)) ?_
    refine Home.run X60 hx hby sg0_215_2 (pc' := 218) (L' := #[.val (.int i0), .val (.int i1), .val (.int i2), .val (.int i3), .val (.int i4), .val (.int i5), .val (.int v1), .val (.int v2), .val (.int v7), .val (.int v12), .val (.int v17), .val (.int v22), .val (.int v27), .val (.ref b28), .val (.ref b37), .val (.ref b51), .val (.ref b58), .val (.int v63), .unset]) (S' := [(.int (2 : Int32)), (.int v63)]) rfl ?_
    by_cases c69 : v63 = (2 : Int32)
    · skip
      refine Home.go (fun _ => XS.icmpNo X60.here hx rfl (hb hby at_218) rfl (teq c69).2) ?_
      have bd70 : ¬ v63 < (2 : Int32) ∧ ¬ (2 : Int32) < v63 := ⟨(bnd_eql c69), (bnd_eqr c69)⟩
      have fx71 : v63 = (2 : Int32) := bnd_fix bd70
      try rw [fx71]
      show Home T60 (mkF m 221 #[.val (.int i0), .val (.int i1), .val (.int i2), .val (.int i3), .val (.int i4), .val (.int i5), .val (.int v1), .val (.int v2), .val (.int v7), .val (.int v12), .val (.int v17), .val (.int v22), .val (.int v27), .val (.ref b28), .val (.ref b37), .val (.ref b51), .val (.ref b58), .val (.int (2 : Int32)), .unset] [])
      refine Home.run X60 hx hby sg0_221_2 (pc' := 225) (L' := #[.val (.int i0), .val (.int i1), .val (.int i2), .val (.int i3), .val (.int i4), .val (.int i5), .val (.int v1), .val (.int v2), .val (.int v7), .val (.int v12), .val (.int v17), .val (.int v22), .val (.int v27), .val (.ref b28), .val (.ref b37), .val (.ref b51), .val (.ref b58), .val (.int (2 : Int32)), .unset]) (S' := [(.ref b28), (.ref b51)]) rfl ?_
      have q72 := ((P53_0.ext E58).keep K60q)
      have q73 := (((q52.keep K53q).ext E58).keep K60q)
      refine Home.st (own_pure (own_virtual X60 hx hZ hown (own_w53 hw) (own_w54 hw) (notFace_of_selects (args := #[]) (mvT hZ (own_w56 hw))) (own_w56 hw) (own_w55 hw) (own_w32 hw) (own_w57 hw) (by decide) (rm9_1 l Z a0 hw [] b51 b28 T60.heap n0 O60 q72 q73) rfl q72 rfl (by rw [hml]; rfl) (argsL := [(.ref b28)]) (rest := []) (lenOf own_pd7 rfl) rfl rfl (W := 0) (by show 2 * 0 + _ ≤ _; exact Nat.le_of_eq rfl) (by decide) (by decide) (hb hby at_225) (by decide) (by decide))) fun T74 X74 e74 => ?_
      refine Home.go (fun _ => XS.ifNo X74.here hx rfl (hb hby at_228) rfl ((if0 _ _).trans (teq (by decide)).2)) ?_
      refine Home.run X74 hx hby sg0_231_2 (pc' := 236) (L' := #[.val (.int i0), .val (.int i1), .val (.int i2), .val (.int i3), .val (.int i4), .val (.int i5), .val (.int v1), .val (.int v2), .val (.int v7), .val (.int v12), .val (.int v17), .val (.int v22), .val (.int v27), .val (.ref b28), .val (.ref b37), .val (.ref b51), .val (.ref b58), .val (.int (2 : Int32)), .unset]) (S' := [(.int (1 : Int32))]) rfl ?_
      exact HomeW.retN X74 hx hlk hZ (own_hEL hw) e74 Cd60 (t := .boolean) hret (by simp) (hb hby at_236) ⟨rfl, N60⟩ (by decide) (by decide)
    · skip
      refine Home.go (fun _ => XS.icmpYes X60.here hx rfl (pc0 := 218) (pc' := 237) rfl (hb hby at_218) rfl (feq c69).2 (by decide) (by decide)) ?_
      refine Home.run X60 hx hby sg0_237_2 (pc' := 240) (L' := #[.val (.int i0), .val (.int i1), .val (.int i2), .val (.int i3), .val (.int i4), .val (.int i5), .val (.int v1), .val (.int v2), .val (.int v7), .val (.int v12), .val (.int v17), .val (.int v22), .val (.int v27), .val (.ref b28), .val (.ref b37), .val (.ref b51), .val (.ref b58), .val (.int v63), .unset]) (S' := [(.int (3 : Int32)), (.int v63)]) rfl ?_
      by_cases c75 : v63 = (3 : Int32)
      · skip
        refine Home.go (fun _ => XS.icmpNo X60.here hx rfl (hb hby at_240) rfl (teq c75).2) ?_
        have bd76 : ¬ v63 < (3 : Int32) ∧ ¬ (3 : Int32) < v63 := ⟨(bnd_eql c75), (bnd_eqr c75)⟩
        have fx77 : v63 = (3 : Int32) := bnd_fix bd76
        try rw [fx77]
        show Home T60 (mkF m 243 #[.val (.int i0), .val (.int i1), .val (.int i2), .val (.int i3), .val (.int i4), .val (.int i5), .val (.int v1), .val (.int v2), .val (.int v7), .val (.int v12), .val (.int v17), .val (.int v22), .val (.int v27), .val (.ref b28), .val (.ref b37), .val (.ref b51), .val (.ref b58), .val (.int (3 : Int32)), .unset] [])
        refine Home.run X60 hx hby sg0_243_2 (pc' := 246) (L' := #[.val (.int i0), .val (.int i1), .val (.int i2), .val (.int i3), .val (.int i4), .val (.int i5), .val (.int v1), .val (.int v2), .val (.int v7), .val (.int v12), .val (.int v17), .val (.int v22), .val (.int v27), .val (.ref b28), .val (.ref b37), .val (.ref b51), .val (.ref b58), .val (.int (3 : Int32)), .unset]) (S' := [.null, (.ref b51)]) rfl ?_
        have q79 := ((P53_0.ext E58).keep K60q)
        refine Home.st (own_pure (own_virtual X60 hx hZ hown (own_w53 hw) (own_w54 hw) (notFace_of_selects (args := #[]) (mvT hZ (own_w56 hw))) (own_w56 hw) (own_w55 hw) (own_w32 hw) (own_w57 hw) (by decide) (rm9_2 l Z a0 hw [] b51 T60.heap n0 O60) rfl q79 rfl (by rw [hml]; rfl) (argsL := [.null]) (rest := []) (lenOf own_pd7 rfl) rfl rfl (W := 0) (by show 2 * 0 + _ ≤ _; exact Nat.le_of_eq rfl) (by decide) (by decide) (hb hby at_246) (by decide) (by decide))) fun T80 X80 e80 => ?_
        refine Home.go (fun _ => XS.ifNo X80.here hx rfl (hb hby at_249) rfl ((if0 _ _).trans (teq (by decide)).2)) ?_
        refine Home.run X80 hx hby sg0_252_2 (pc' := 257) (L' := #[.val (.int i0), .val (.int i1), .val (.int i2), .val (.int i3), .val (.int i4), .val (.int i5), .val (.int v1), .val (.int v2), .val (.int v7), .val (.int v12), .val (.int v17), .val (.int v22), .val (.int v27), .val (.ref b28), .val (.ref b37), .val (.ref b51), .val (.ref b58), .val (.int (3 : Int32)), .unset]) (S' := [(.int (1 : Int32))]) rfl ?_
        exact HomeW.retN X80 hx hlk hZ (own_hEL hw) e80 Cd60 (t := .boolean) hret (by simp) (hb hby at_257) ⟨rfl, N60⟩ (by decide) (by decide)
      · skip
        refine Home.go (fun _ => XS.icmpYes X60.here hx rfl (pc0 := 240) (pc' := 258) rfl (hb hby at_240) rfl (feq c75).2 (by decide) (by decide)) ?_
        have bd78 : ¬ v63 < (0 : Int32) ∧ ¬ (2 : Int32) < v63 := ⟨bv63.1, (bnd_ner bv63.2 c75 (by decide +kernel))⟩
        refine Home.run X60 hx hby sg0_258_2 (pc' := 261) (L' := #[.val (.int i0), .val (.int i1), .val (.int i2), .val (.int i3), .val (.int i4), .val (.int i5), .val (.int v1), .val (.int v2), .val (.int v7), .val (.int v12), .val (.int v17), .val (.int v22), .val (.int v27), .val (.ref b28), .val (.ref b37), .val (.ref b51), .val (.ref b58), .val (.int v63), .unset]) (S' := [(.int v17), (.int i0)]) rfl ?_
        suffices J86 : ∀ {T : State} {lc : List Loc} (X : Stand p l e room_1 (s.setVm T60.vm) m #[(.int i0), (.int i1), (.int i2), (.int i3), (.int i4), (.int i5)] below meth c T lc 12 64) (N : Fr n0 lc) (eT : T.heap = T60.heap) (v87 : Int32) (hv87 : v87 = (if i0 = v17 then (if i1 = v22 then (if i2 = v27 then (if v1 = v7 then (if v2 = v12 then (1 : Int32) else (0 : Int32)) else (0 : Int32)) else (0 : Int32)) else (0 : Int32)) else (0 : Int32))), @Home p e below _ T (mkF m 295 #[.val (.int i0), .val (.int i1), .val (.int i2), .val (.int i3), .val (.int i4), .val (.int i5), .val (.int v1), .val (.int v2), .val (.int v7), .val (.int v12), .val (.int v17), .val (.int v22), .val (.int v27), .val (.ref b28), .val (.ref b37), .val (.ref b51), .val (.ref b58), .val (.int v63), .unset] [(.int v87)]) by
          by_cases c81 : i0 = v17
          · skip
            refine Home.go (fun _ => XS.icmpNo X60.here hx rfl (hb hby at_261) rfl (teq c81).2) ?_
            refine Home.run X60 hx hby sg0_264_2 (pc' := 267) (L' := #[.val (.int i0), .val (.int i1), .val (.int i2), .val (.int i3), .val (.int i4), .val (.int i5), .val (.int v1), .val (.int v2), .val (.int v7), .val (.int v12), .val (.int v17), .val (.int v22), .val (.int v27), .val (.ref b28), .val (.ref b37), .val (.ref b51), .val (.ref b58), .val (.int v63), .unset]) (S' := [(.int v22), (.int i1)]) rfl ?_
            by_cases c82 : i1 = v22
            · skip
              refine Home.go (fun _ => XS.icmpNo X60.here hx rfl (hb hby at_267) rfl (teq c82).2) ?_
              refine Home.run X60 hx hby sg0_270_2 (pc' := 273) (L' := #[.val (.int i0), .val (.int i1), .val (.int i2), .val (.int i3), .val (.int i4), .val (.int i5), .val (.int v1), .val (.int v2), .val (.int v7), .val (.int v12), .val (.int v17), .val (.int v22), .val (.int v27), .val (.ref b28), .val (.ref b37), .val (.ref b51), .val (.ref b58), .val (.int v63), .unset]) (S' := [(.int v27), (.int i2)]) rfl ?_
              by_cases c83 : i2 = v27
              · skip
                refine Home.go (fun _ => XS.icmpNo X60.here hx rfl (hb hby at_273) rfl (teq c83).2) ?_
                refine Home.run X60 hx hby sg0_276_2 (pc' := 280) (L' := #[.val (.int i0), .val (.int i1), .val (.int i2), .val (.int i3), .val (.int i4), .val (.int i5), .val (.int v1), .val (.int v2), .val (.int v7), .val (.int v12), .val (.int v17), .val (.int v22), .val (.int v27), .val (.ref b28), .val (.ref b37), .val (.ref b51), .val (.ref b58), .val (.int v63), .unset]) (S' := [(.int v7), (.int v1)]) rfl ?_
                by_cases c84 : v1 = v7
                · skip
                  refine Home.go (fun _ => XS.icmpNo X60.here hx rfl (hb hby at_280) rfl (teq c84).2) ?_
                  refine Home.run X60 hx hby sg0_283_2 (pc' := 287) (L' := #[.val (.int i0), .val (.int i1), .val (.int i2), .val (.int i3), .val (.int i4), .val (.int i5), .val (.int v1), .val (.int v2), .val (.int v7), .val (.int v12), .val (.int v17), .val (.int v22), .val (.int v27), .val (.ref b28), .val (.ref b37), .val (.ref b51), .val (.ref b58), .val (.int v63), .unset]) (S' := [(.int v12), (.int v2)]) rfl ?_
                  by_cases c85 : v2 = v12
                  · skip
                    refine Home.go (fun _ => XS.icmpNo X60.here hx rfl (hb hby at_287) rfl (teq c85).2) ?_
                    refine Home.run X60 hx hby sg0_290_2 (pc' := 295) (L' := #[.val (.int i0), .val (.int i1), .val (.int i2), .val (.int i3), .val (.int i4), .val (.int i5), .val (.int v1), .val (.int v2), .val (.int v7), .val (.int v12), .val (.int v17), .val (.int v22), .val (.int v27), .val (.ref b28), .val (.ref b37), .val (.ref b51), .val (.ref b58), .val (.int v63), .unset]) (S' := [(.int (1 : Int32))]) rfl ?_
                    exact J86 X60 N60 rfl _ (by simp only [if_pos c81, if_pos c82, if_pos c83, if_pos c84, if_pos c85])
                  · skip
                    refine Home.go (fun _ => XS.icmpYes X60.here hx rfl (pc0 := 287) (pc' := 294) rfl (hb hby at_287) rfl (feq c85).2 (by decide) (by decide)) ?_
                    refine Home.run X60 hx hby sg0_294_1 (pc' := 295) (L' := #[.val (.int i0), .val (.int i1), .val (.int i2), .val (.int i3), .val (.int i4), .val (.int i5), .val (.int v1), .val (.int v2), .val (.int v7), .val (.int v12), .val (.int v17), .val (.int v22), .val (.int v27), .val (.ref b28), .val (.ref b37), .val (.ref b51), .val (.ref b58), .val (.int v63), .unset]) (S' := [(.int (0 : Int32))]) rfl ?_
                    exact J86 X60 N60 rfl _ (by simp only [if_pos c81, if_pos c82, if_pos c83, if_pos c84, if_neg c85])
                · skip
                  refine Home.go (fun _ => XS.icmpYes X60.here hx rfl (pc0 := 280) (pc' := 294) rfl (hb hby at_280) rfl (feq c84).2 (by decide) (by decide)) ?_
                  refine Home.run X60 hx hby sg0_294_1 (pc' := 295) (L' := #[.val (.int i0), .val (.int i1), .val (.int i2), .val (.int i3), .val (.int i4), .val (.int i5), .val (.int v1), .val (.int v2), .val (.int v7), .val (.int v12), .val (.int v17), .val (.int v22), .val (.int v27), .val (.ref b28), .val (.ref b37), .val (.ref b51), .val (.ref b58), .val (.int v63), .unset]) (S' := [(.int (0 : Int32))]) rfl ?_
                  exact J86 X60 N60 rfl _ (by simp only [if_pos c81, if_pos c82, if_pos c83, if_neg c84])
              · skip
                refine Home.go (fun _ => XS.icmpYes X60.here hx rfl (pc0 := 273) (pc' := 294) rfl (hb hby at_273) rfl (feq c83).2 (by decide) (by decide)) ?_
                refine Home.run X60 hx hby sg0_294_1 (pc' := 295) (L' := #[.val (.int i0), .val (.int i1), .val (.int i2), .val (.int i3), .val (.int i4), .val (.int i5), .val (.int v1), .val (.int v2), .val (.int v7), .val (.int v12), .val (.int v17), .val (.int v22), .val (.int v27), .val (.ref b28), .val (.ref b37), .val (.ref b51), .val (.ref b58), .val (.int v63), .unset]) (S' := [(.int (0 : Int32))]) rfl ?_
                exact J86 X60 N60 rfl _ (by simp only [if_pos c81, if_pos c82, if_neg c83])
            · skip
              refine Home.go (fun _ => XS.icmpYes X60.here hx rfl (pc0 := 267) (pc' := 294) rfl (hb hby at_267) rfl (feq c82).2 (by decide) (by decide)) ?_
              refine Home.run X60 hx hby sg0_294_1 (pc' := 295) (L' := #[.val (.int i0), .val (.int i1), .val (.int i2), .val (.int i3), .val (.int i4), .val (.int i5), .val (.int v1), .val (.int v2), .val (.int v7), .val (.int v12), .val (.int v17), .val (.int v22), .val (.int v27), .val (.ref b28), .val (.ref b37), .val (.ref b51), .val (.ref b58), .val (.int v63), .unset]) (S' := [(.int (0 : Int32))]) rfl ?_
              exact J86 X60 N60 rfl _ (by simp only [if_pos c81, if_neg c82])
          · skip
            refine Home.go (fun _ => XS.icmpYes X60.here hx rfl (pc0 := 261) (pc' := 294) rfl (hb hby at_261) rfl (feq c81).2 (by decide) (by decide)) ?_
            refine Home.run X60 hx hby sg0_294_1 (pc' := 295) (L' := #[.val (.int i0), .val (.int i1), .val (.int i2), .val (.int i3), .val (.int i4), .val (.int i5), .val (.int v1), .val (.int v2), .val (.int v7), .val (.int v12), .val (.int v17), .val (.int v22), .val (.int v27), .val (.ref b28), .val (.ref b37), .val (.ref b51), .val (.ref b58), .val (.int v63), .unset]) (S' := [(.int (0 : Int32))]) rfl ?_
            exact J86 X60 N60 rfl _ (by simp only [if_neg c81])
        intro TJ86 lcJ86 XJ86 NJ86 eJ86 v87 hv87
        have bv87 : ¬ v87 < (0 : Int32) ∧ ¬ (1 : Int32) < v87 := by rw [hv87]; exact (bnd_ite (bnd_ite (bnd_ite (bnd_ite (bnd_ite (bnd_mono (bnd_lit (1 : Int32)) (by decide +kernel) (by decide +kernel)) (bnd_mono (bnd_lit (0 : Int32)) (by decide +kernel) (by decide +kernel))) (bnd_mono (bnd_lit (0 : Int32)) (by decide +kernel) (by decide +kernel))) (bnd_mono (bnd_lit (0 : Int32)) (by decide +kernel) (by decide +kernel))) (bnd_mono (bnd_lit (0 : Int32)) (by decide +kernel) (by decide +kernel))) (bnd_mono (bnd_lit (0 : Int32)) (by decide +kernel) (by decide +kernel)))
        show Home TJ86 (mkF m 295 #[.val (.int i0), .val (.int i1), .val (.int i2), .val (.int i3), .val (.int i4), .val (.int i5), .val (.int v1), .val (.int v2), .val (.int v7), .val (.int v12), .val (.int v17), .val (.int v22), .val (.int v27), .val (.ref b28), .val (.ref b37), .val (.ref b51), .val (.ref b58), .val (.int v63), .unset] [(.int v87)])
        refine Home.run XJ86 hx hby sg0_295_3 (pc' := 301) (L' := #[.val (.int i0), .val (.int i1), .val (.int i2), .val (.int i3), .val (.int i4), .val (.int i5), .val (.int v1), .val (.int v2), .val (.int v7), .val (.int v12), .val (.int v17), .val (.int v22), .val (.int v27), .val (.ref b28), .val (.ref b37), .val (.ref b51), .val (.ref b58), .val (.int v63), .val (.int v87)]) (S' := [(.ref b58), (.ref b51)]) rfl ?_
        have q88 := ((P53_0.ext E58).keep K60q)
        have ne89 : b51 ≠ b58 := (Nat.ne_of_lt (Nat.lt_of_lt_of_le A51.lt (Nat.le_trans K53q.1 (Nat.le_of_eq g58.symm))))
        have q90 := ((P53_1.ext E58).keep K60q (ninS ne89 nin0))
        have q91 := ((P53_3.ext E58).keep K60q (ninS ne89 nin0))
        have q92 := ((P53_4.ext E58).keep K60q (ninS ne89 nin0))
        have q93 := ((P53_2.ext E58).keep K60q (ninS ne89 nin0))
        have q94 := (((q52.keep K53q).ext E58).keep K60q)
        have q95 := (q59.keep K60q)
        have le96 : h28.size ≤ h30.size := Nat.le_trans E29.1 (Nat.le_of_eq W30.size.symm)
        have le97 : h28.size ≤ h31.size := Nat.le_trans le96 (Nat.le_of_eq W31.size.symm)
        have le98 : h28.size ≤ T36.heap.size := Nat.le_trans le97 K36q.1
        have le99 : h28.size ≤ h37.size := Nat.le_trans le98 E37.1
        have ne100 : b28 ≠ b38 := (Nat.ne_of_lt (Nat.lt_of_lt_of_le A28.lt (Nat.le_trans le99 (Nat.le_of_eq g38.symm))))
        have ne101 : b28 ≠ b37 := (Nat.ne_of_lt (Nat.lt_of_lt_of_le A28.lt (Nat.le_trans le98 (Nat.le_of_eq g37.symm))))
        have le102 : h28.size ≤ h38.size := Nat.le_trans le99 E38.1
        have le103 : h28.size ≤ h39.size := Nat.le_trans le102 (Nat.le_of_eq W39.size.symm)
        have le104 : h28.size ≤ h45.size := Nat.le_trans le103 (Nat.le_of_eq W45.size.symm)
        have le105 : h28.size ≤ T50.heap.size := Nat.le_trans le104 K50q.1
        have ne106 : b28 ≠ b51 := (Nat.ne_of_lt (Nat.lt_of_lt_of_le A28.lt (Nat.le_trans le105 (Nat.le_of_eq g51.symm))))
        have le107 : h28.size ≤ h51.size := Nat.le_trans le105 E51.1
        have le108 : h28.size ≤ T53.heap.size := Nat.le_trans le107 K53q.1
        have ne109 : b28 ≠ b58 := (Nat.ne_of_lt (Nat.lt_of_lt_of_le A28.lt (Nat.le_trans le108 (Nat.le_of_eq g58.symm))))
        have q110 := (((((((((P36_1.ext E37).ext E38).other W39 (Or.inl ne100)).other W45 (Or.inl ne100)).keep K50q (ninS ne101 nin0)).ext E51).keep K53q (ninS ne106 nin0)).ext E58).keep K60q (ninS ne109 nin0))
        have le111 : h37.size ≤ h39.size := Nat.le_trans E38.1 (Nat.le_of_eq W39.size.symm)
        have le112 : h37.size ≤ h45.size := Nat.le_trans le111 (Nat.le_of_eq W45.size.symm)
        have le113 : h37.size ≤ T50.heap.size := Nat.le_trans le112 K50q.1
        have ne114 : b37 ≠ b51 := (Nat.ne_of_lt (Nat.lt_of_lt_of_le A37.lt (Nat.le_trans le113 (Nat.le_of_eq g51.symm))))
        have le115 : h37.size ≤ h51.size := Nat.le_trans le113 E51.1
        have le116 : h37.size ≤ T53.heap.size := Nat.le_trans le115 K53q.1
        have ne117 : b37 ≠ b58 := (Nat.ne_of_lt (Nat.lt_of_lt_of_le A37.lt (Nat.le_trans le116 (Nat.le_of_eq g58.symm))))
        have q118 := ((((P50_1.ext E51).keep K53q (ninS ne114 nin0)).ext E58).keep K60q (ninS ne117 nin0))
        have q119 := (((((((((P36_2.ext E37).ext E38).other W39 (Or.inl ne100)).other W45 (Or.inl ne100)).keep K50q (ninS ne101 nin0)).ext E51).keep K53q (ninS ne106 nin0)).ext E58).keep K60q (ninS ne109 nin0))
        have q120 := ((((P50_2.ext E51).keep K53q (ninS ne114 nin0)).ext E58).keep K60q (ninS ne117 nin0))
        have ne121 : b1_3_2_36 ≠ b38 := (Nat.ne_of_lt (Nat.lt_of_lt_of_le P36_3.lt (Nat.le_trans E37.1 (Nat.le_of_eq g38.symm))))
        have ne122 : b1_3_2_36 ≠ b37 := (Nat.ne_of_lt (Nat.lt_of_lt_of_le P36_3.lt (Nat.le_trans (Nat.le_refl _) (Nat.le_of_eq g37.symm))))
        have le123 : T36.heap.size ≤ h38.size := Nat.le_trans E37.1 E38.1
        have le124 : T36.heap.size ≤ h39.size := Nat.le_trans le123 (Nat.le_of_eq W39.size.symm)
        have le125 : T36.heap.size ≤ h45.size := Nat.le_trans le124 (Nat.le_of_eq W45.size.symm)
        have le126 : T36.heap.size ≤ T50.heap.size := Nat.le_trans le125 K50q.1
        have ne127 : b1_3_2_36 ≠ b51 := (Nat.ne_of_lt (Nat.lt_of_lt_of_le P36_3.lt (Nat.le_trans le126 (Nat.le_of_eq g51.symm))))
        have le128 : T36.heap.size ≤ h51.size := Nat.le_trans le126 E51.1
        have le129 : T36.heap.size ≤ T53.heap.size := Nat.le_trans le128 K53q.1
        have ne130 : b1_3_2_36 ≠ b58 := (Nat.ne_of_lt (Nat.lt_of_lt_of_le P36_3.lt (Nat.le_trans le129 (Nat.le_of_eq g58.symm))))
        have q131 := (((((((((P36_3.ext E37).ext E38).other W39 ne121).other W45 ne121).keep K50q (ninS ne122 nin0)).ext E51).keep K53q (ninS ne127 nin0)).ext E58).keep K60q (ninS ne130 nin0))
        have ne132 : b1_3_2_50 ≠ b51 := (Nat.ne_of_lt (Nat.lt_of_lt_of_le P50_3.lt (Nat.le_trans (Nat.le_refl _) (Nat.le_of_eq g51.symm))))
        have le133 : T50.heap.size ≤ T53.heap.size := Nat.le_trans E51.1 K53q.1
        have ne134 : b1_3_2_50 ≠ b58 := (Nat.ne_of_lt (Nat.lt_of_lt_of_le P50_3.lt (Nat.le_trans le133 (Nat.le_of_eq g58.symm))))
        have q135 := ((((P50_3.ext E51).keep K53q (ninS ne132 nin0)).ext E58).keep K60q (ninS ne134 nin0))
        refine Home.st (own_pure (own_virtual XJ86 hx hZ hown (own_w53 hw) (own_w54 hw) (notFace_of_selects (args := #[]) (mvT hZ (own_w56 hw))) (own_w56 hw) (own_w55 hw) (own_w32 hw) (own_w57 hw) (by decide) (rm9_3 l Z a0 hw [] b51 b58 i0 v17 i1 v22 i2 v27 b28 b37 sv_COMPACT_STRINGS b1_3_2_36 b1_3_2_50 k1_3_2_36 (v1.toInt8.toInt32) (v2.toInt8.toInt32) k1_3_2_50 (v7.toInt8.toInt32) (v12.toInt8.toInt32) T60.heap n0 O60 q88 P60_0 ne89 q90 P60_1 q91 P60_3 q92 P60_4 q93 P60_2 q94 q95 ne101 S_COMPACT_STRINGS q110 q118 q119 q120 q131 q135 hCS) eJ86 q88 rfl (by rw [hml]; rfl) (argsL := [(.ref b58)]) (rest := []) (lenOf own_pd7 rfl) rfl rfl (W := 0) (by show 2 * 0 + _ ≤ _; exact Nat.le_of_eq rfl) (by decide) (by decide) (hb hby at_301) (by decide) (by decide))) fun T136 X136 e136 => ?_
        show Home T136 (mkF m 304 #[.val (.int i0), .val (.int i1), .val (.int i2), .val (.int i3), .val (.int i4), .val (.int i5), .val (.int v1), .val (.int v2), .val (.int v7), .val (.int v12), .val (.int v17), .val (.int v22), .val (.int v27), .val (.ref b28), .val (.ref b37), .val (.ref b51), .val (.ref b58), .val (.int v63), .val (.int v87)] [(.int (f_rm9_3 i0 v17 i1 v22 i2 v27 (v1.toInt8.toInt32) (v2.toInt8.toInt32) (v7.toInt8.toInt32) (v12.toInt8.toInt32)))])
        obtain ⟨r137, hr137⟩ : ∃ z, z = (f_rm9_3 i0 v17 i1 v22 i2 v27 (v1.toInt8.toInt32) (v2.toInt8.toInt32) (v7.toInt8.toInt32) (v12.toInt8.toInt32)) := ⟨_, rfl⟩
        rw [← hr137]
        have br137 : ¬ r137 < (0 : Int32) ∧ ¬ (1 : Int32) < r137 := by rw [hr137]; exact f_rm9_3_bnd i0 v17 i1 v22 i2 v27 (v1.toInt8.toInt32) (v2.toInt8.toInt32) (v7.toInt8.toInt32) (v12.toInt8.toInt32)
        refine Home.run X136 hx hby sg0_304_1 (pc' := 306) (L' := #[.val (.int i0), .val (.int i1), .val (.int i2), .val (.int i3), .val (.int i4), .val (.int i5), .val (.int v1), .val (.int v2), .val (.int v7), .val (.int v12), .val (.int v17), .val (.int v22), .val (.int v27), .val (.ref b28), .val (.ref b37), .val (.ref b51), .val (.ref b58), .val (.int v63), .val (.int v87)]) (S' := [(.int v87), (.int r137)]) rfl ?_
        suffices J143 : ∀ {T : State} {lc : List Loc} (X : Stand p l e room_1 (s.setVm T60.vm) m #[(.int i0), (.int i1), (.int i2), (.int i3), (.int i4), (.int i5)] below meth c T lc 12 64) (N : Fr n0 lc) (eT : T.heap = T60.heap) (v144 : Int32) (hv144 : v144 = (if r137 = v87 then (if (f_rm9_3 v17 i0 v22 i1 v27 i2 (v7.toInt8.toInt32) (v12.toInt8.toInt32) (v1.toInt8.toInt32) (v2.toInt8.toInt32)) = v87 then (1 : Int32) else (0 : Int32)) else (0 : Int32))), @Home p e below _ T (mkF m 326 #[.val (.int i0), .val (.int i1), .val (.int i2), .val (.int i3), .val (.int i4), .val (.int i5), .val (.int v1), .val (.int v2), .val (.int v7), .val (.int v12), .val (.int v17), .val (.int v22), .val (.int v27), .val (.ref b28), .val (.ref b37), .val (.ref b51), .val (.ref b58), .val (.int v63), .val (.int v87)] [(.int v144)]) by
          by_cases c138 : r137 = v87
          · skip
            refine Home.go (fun _ => XS.icmpNo X136.here hx rfl (hb hby at_306) rfl (teq c138).2) ?_
            refine Home.run X136 hx hby sg0_309_2 (pc' := 313) (L' := #[.val (.int i0), .val (.int i1), .val (.int i2), .val (.int i3), .val (.int i4), .val (.int i5), .val (.int v1), .val (.int v2), .val (.int v7), .val (.int v12), .val (.int v17), .val (.int v22), .val (.int v27), .val (.ref b28), .val (.ref b37), .val (.ref b51), .val (.ref b58), .val (.int v63), .val (.int v87)]) (S' := [(.ref b51), (.ref b58)]) rfl ?_
            have ne139 : b58 ≠ b51 := (Ne.symm ne89)
            have ne140 : b37 ≠ b28 := (Ne.symm ne101)
            refine Home.st (own_pure (own_virtual X136 hx hZ hown (own_w53 hw) (own_w54 hw) (notFace_of_selects (args := #[]) (mvT hZ (own_w56 hw))) (own_w56 hw) (own_w55 hw) (own_w32 hw) (own_w57 hw) (by decide) (rm9_3 l Z a0 hw [] b58 b51 v17 i0 v22 i1 v27 i2 b37 b28 sv_COMPACT_STRINGS b1_3_2_50 b1_3_2_36 k1_3_2_50 (v7.toInt8.toInt32) (v12.toInt8.toInt32) k1_3_2_36 (v1.toInt8.toInt32) (v2.toInt8.toInt32) T60.heap n0 O60 P60_0 q88 ne139 P60_1 q90 P60_3 q91 P60_4 q92 P60_2 q93 q95 q94 ne140 S_COMPACT_STRINGS q118 q110 q120 q119 q135 q131 hCS) e136 P60_0 rfl (by rw [hml]; rfl) (argsL := [(.ref b51)]) (rest := []) (lenOf own_pd7 rfl) rfl rfl (W := 0) (by show 2 * 0 + _ ≤ _; exact Nat.le_of_eq rfl) (by decide) (by decide) (hb hby at_313) (by decide) (by decide))) fun T141 X141 e141 => ?_
            refine Home.run X141 hx hby sg0_316_1 (pc' := 318) (L' := #[.val (.int i0), .val (.int i1), .val (.int i2), .val (.int i3), .val (.int i4), .val (.int i5), .val (.int v1), .val (.int v2), .val (.int v7), .val (.int v12), .val (.int v17), .val (.int v22), .val (.int v27), .val (.ref b28), .val (.ref b37), .val (.ref b51), .val (.ref b58), .val (.int v63), .val (.int v87)]) (S' := [(.int v87), (.int (f_rm9_3 v17 i0 v22 i1 v27 i2 (v7.toInt8.toInt32) (v12.toInt8.toInt32) (v1.toInt8.toInt32) (v2.toInt8.toInt32)))]) rfl ?_
            by_cases c142 : (f_rm9_3 v17 i0 v22 i1 v27 i2 (v7.toInt8.toInt32) (v12.toInt8.toInt32) (v1.toInt8.toInt32) (v2.toInt8.toInt32)) = v87
            · skip
              refine Home.go (fun _ => XS.icmpNo X141.here hx rfl (hb hby at_318) rfl (teq c142).2) ?_
              refine Home.run X141 hx hby sg0_321_2 (pc' := 326) (L' := #[.val (.int i0), .val (.int i1), .val (.int i2), .val (.int i3), .val (.int i4), .val (.int i5), .val (.int v1), .val (.int v2), .val (.int v7), .val (.int v12), .val (.int v17), .val (.int v22), .val (.int v27), .val (.ref b28), .val (.ref b37), .val (.ref b51), .val (.ref b58), .val (.int v63), .val (.int v87)]) (S' := [(.int (1 : Int32))]) rfl ?_
              exact J143 X141 NJ86 e141 _ (by simp only [if_pos c138, if_pos c142])
            · skip
              refine Home.go (fun _ => XS.icmpYes X141.here hx rfl (pc0 := 318) (pc' := 325) rfl (hb hby at_318) rfl (feq c142).2 (by decide) (by decide)) ?_
              refine Home.run X141 hx hby sg0_325_1 (pc' := 326) (L' := #[.val (.int i0), .val (.int i1), .val (.int i2), .val (.int i3), .val (.int i4), .val (.int i5), .val (.int v1), .val (.int v2), .val (.int v7), .val (.int v12), .val (.int v17), .val (.int v22), .val (.int v27), .val (.ref b28), .val (.ref b37), .val (.ref b51), .val (.ref b58), .val (.int v63), .val (.int v87)]) (S' := [(.int (0 : Int32))]) rfl ?_
              exact J143 X141 NJ86 e141 _ (by simp only [if_pos c138, if_neg c142])
          · skip
            refine Home.go (fun _ => XS.icmpYes X136.here hx rfl (pc0 := 306) (pc' := 325) rfl (hb hby at_306) rfl (feq c138).2 (by decide) (by decide)) ?_
            refine Home.run X136 hx hby sg0_325_1 (pc' := 326) (L' := #[.val (.int i0), .val (.int i1), .val (.int i2), .val (.int i3), .val (.int i4), .val (.int i5), .val (.int v1), .val (.int v2), .val (.int v7), .val (.int v12), .val (.int v17), .val (.int v22), .val (.int v27), .val (.ref b28), .val (.ref b37), .val (.ref b51), .val (.ref b58), .val (.int v63), .val (.int v87)]) (S' := [(.int (0 : Int32))]) rfl ?_
            exact J143 X136 NJ86 e136 _ (by simp only [if_neg c138])
        intro TJ143 lcJ143 XJ143 NJ143 eJ143 v144 hv144
        have bv144 : ¬ v144 < (0 : Int32) ∧ ¬ (1 : Int32) < v144 := by rw [hv144]; exact (bnd_ite (bnd_ite (bnd_mono (bnd_lit (1 : Int32)) (by decide +kernel) (by decide +kernel)) (bnd_mono (bnd_lit (0 : Int32)) (by decide +kernel) (by decide +kernel))) (bnd_mono (bnd_lit (0 : Int32)) (by decide +kernel) (by decide +kernel)))
        show Home TJ143 (mkF m 326 #[.val (.int i0), .val (.int i1), .val (.int i2), .val (.int i3), .val (.int i4), .val (.int i5), .val (.int v1), .val (.int v2), .val (.int v7), .val (.int v12), .val (.int v17), .val (.int v22), .val (.int v27), .val (.ref b28), .val (.ref b37), .val (.ref b51), .val (.ref b58), .val (.int v63), .val (.int v87)] [(.int v144)])
        exact HomeW.retN XJ143 hx hlk hZ (own_hEL hw) eJ143 Cd60 (t := .boolean) hret (by simp) (hb hby at_326) ⟨congrArg some (congrArg Value.int (own_end0 i0 i1 i2 i3 i4 i5 sv_COMPACT_STRINGS v1 hv1 v2 hv2 v7 hv7 v12 hv12 v17 hv17 v22 hv22 v27 hv27 v63 hv63 v87 hv87 r137 hr137 v144 hv144 c64 c69 c75)), NJ143⟩ (by decide) (by decide)
set_option maxRecDepth 65536 in
set_option maxHeartbeats 40000000 in
theorem comes_1 {Post : Tables → Env → Array Value → State → Outcome → State → Prop} (hpost : ∀ tb e args s v u, (limb_1_1.after args s (.returned v) u = true ∧ limb_1_2.after args s (.returned v) u = true ∧ True) → ReturnedEndW s (.returned v) u (Jvm.fieldLocs frame_1_writes args s ++ Jvm.arrayLocs frame_1_arrays args s ++ Jvm.staticLocs frame_1_statics s) 32 1152 → Post tb e args s (.returned v) u) :
    ArmFor flags0 classFile x code maxLocals ret World_1 tables_1 room_1 Calls_1 rest_1 Pre_1 Post := by
  intro l hfl _ _ p e ha hc hk s m args below hf hA hF happ hP
  obtain ⟨hcalls, hrest, hpre⟩ := hP
  obtain ⟨-, -, -, hnamed, -, -, -, hat⟩ := (Spec.applies_iff hf).mp happ
  obtain ⟨hg, hn⟩ := and_e (Cond.before_iff.mp (show (Jvm.Cond.and given_1 narrow_1).before args s = true from hpre))
  obtain ⟨gg1, gg2⟩ := and_e hg
  obtain ⟨gg3, gg4⟩ := and_e gg2
  obtain ⟨gg5, gg6⟩ := and_e gg4
  obtain ⟨gg7, gg8⟩ := and_e gg6
  obtain ⟨gg9, gg10⟩ := and_e gg8
  obtain ⟨gg11, gg12⟩ := and_e gg10
  obtain ⟨w0, w1, w2, w3, w4, w5, rfl⟩ : ∃ w0 w1 w2 w3 w4 w5 : Value, args = #[w0, w1, w2, w3, w4, w5] := by
    have hs : args.size = 6 := by simpa [Cond.value, given_1] using gg1
    obtain ⟨L⟩ := args
    match L, hs with
    | [w0, w1, w2, w3, w4, w5], _ => exact ⟨w0, w1, w2, w3, w4, w5, rfl⟩
  have hw := fun d (hd : d ∈ tables_1) => atoms_spec (ws := Jvm.Cond.code x code maxLocals ret :: tables_1) hat d (List.mem_cons_of_mem _ hd)
  have hfit : Fit s := fun {y c} hc i hi => by
    obtain ⟨ha, rfl⟩ := Array.getElem?_eq_some_iff.mp hc
    have q := List.all_eq_true.mp ((Array.all_eq_true_iff_forall_mem.mp hF) _ (Array.getElem_mem ha)) i (List.mem_range.mpr hi)
    simpa [Array.getElem?_eq_getElem hi] using q
  obtain ⟨hsets, hown0⟩ := atoms_of _ (rest_1_c_eq ▸ (show rest_1_c.before _ s = true from hrest))
  have hr0 := Cond.before_iff.mp hown0
  obtain ⟨i0, ei0⟩ := is_v gg3
  obtain rfl : w0 = (.int i0) := Option.some.inj ei0
  obtain ⟨i1, ei1⟩ := is_v gg5
  obtain rfl : w1 = (.int i1) := Option.some.inj ei1
  obtain ⟨i2, ei2⟩ := is_v gg7
  obtain rfl : w2 = (.int i2) := Option.some.inj ei2
  obtain ⟨i3, ei3⟩ := is_v gg9
  obtain rfl : w3 = (.int i3) := Option.some.inj ei3
  obtain ⟨i4, ei4⟩ := is_v gg11
  obtain rfl : w4 = (.int i4) := Option.some.inj ei4
  obtain ⟨i5, ei5⟩ := is_v gg12
  obtain rfl : w5 = (.int i5) := Option.some.inj ei5
  obtain ⟨sv_COMPACT_STRINGS, v_cs⟩ := is_v (Cond.before_iff.mp (hsets _ (List.mem_of_getElem? (i := 1) rfl)))
  have S_COMPACT_STRINGS := Sta.start v_cs (Or.inl (hsets _ (List.mem_of_getElem? (i := 0) rfl)))
  have hCS : ¬ (sv_COMPACT_STRINGS = (0 : Int32)) := gotF (Cond.eq_ints v_cs (Term.int_eval 0)) (not_v (Cond.before_iff.mp (hsets _ (List.mem_of_getElem? (i := 2) rfl))))
  have hCH : CHv s own_EL s.vm s.heap := own_chv0
  obtain ⟨n, o, h1, h2, h3, _, L, rfl, ⟨rfl, N⟩, -, hq⟩ := rm0 l s _ hw tables_1 i0 i1 i2 i3 i4 i5 sv_COMPACT_STRINGS s.heap s.heap.size (Old.start s) S_COMPACT_STRINGS hCS p e ha hc hk s m _ below hf ((Spec.applies_iff_loose hf).mp happ).1 ⟨rfl, State.Warmed39.refl s, rfl, hCH, fun _ hx => nomatch hx⟩ trivial
  refine ⟨n, _, h1, h2, h3, hpost _ _ _ _ _ _ ⟨Cond.after_iff.mpr rfl, Cond.after_iff.mpr (eq_i res_at (Term.int_eval (1)) rfl), trivial⟩ ⟨hq.1, hq.2.1, hq.2.2.1, (hq.2.2.2.sift fun y hy => Or.inr (N y hy)).mono (by decide) (by decide)⟩⟩
theorem main_1_1 : Claimed_1_1 := comes_1 fun _ _ _ _ _ _ h hF => ⟨h.1, hF⟩
theorem main_1_2 : Claimed_1_2 := comes_1 fun _ _ _ _ _ _ h hF => ⟨h.2.1, hF⟩
end Jvm.Pilot.@@N@@
namespace Jvm.Pilot.@@N@@
open Jvm Jvm.ClassFile Sem Op Lib Jvm.Free Jvm.Stand Jvm.Pilot.@@N@@.Jvm.D
/-! MADE BY PROGRAM (witnessworld.py) out of the Statement's table words and the real class files: 21 classes; the members and pool entries that the words name. The judged class is class 1, her method 1. -/
namespace start1
open Jvm.ClassFile
def u (s : String) : CpInfo := .utf8 (stringToUtf16 s)
/-- a pool by its gaps: so many unusable entries, then the entry; so many at the end -/
def gap : Nat → List CpInfo → List CpInfo
  | 0, r => r
  | n + 1, r => .unusable :: gap n r
def poolList (es : List (Nat × CpInfo)) (last : Nat) : List CpInfo := es.foldr (fun e r => gap e.1 (e.2 :: r)) (gap last [])
def pool (es : List (Nat × CpInfo)) (last : Nat) : Array CpInfo := ⟨poolList es last⟩
def fileOf (pool : Array CpInfo) (this : Nat) (attrs : Array Attribute := #[]) (ms : Array MethodInfo := #[]) (fl : Nat := 33) (sup : Nat := 0) (ifs : Array Nat := #[]) (fds : Array FieldInfo := #[]) : ClassFile where
  minorVersion := 0
  majorVersion := 65
  constantPool := pool
  accessFlags := fl
  thisClass := this
  superClass := sup
  interfaces := ifs
  fields := fds
  methods := ms
  attributes := attrs
def plain (name : String) (sup : Option ClassId) : Class where
  name := name
  kind := .ordinary
  loader := none
  accessFlags := 33
  super := sup
  interfaces := #[]
  cf := none
  fields := #[]
  methods := #[]
  instanceTypes := #[]
  staticTypes := #[]
  resolved := #[]
  callSites := []
  init := .initialized
  statics := none
  mirror := none

def pool0 : Array CpInfo := pool [(5, u "<init>"), (0, u "()V"), (1, .class_ 10), (1, u "java/lang/Object")] 113

def k0c0 : Code := { maxStack := 0, maxLocals := 1, code := object_method_1_code, exceptionTable := #[], attributes := #[] }
def k0m0 : Method := { name := "<init>", desc := "()V", sig := { parameters := [], returnType := none }, accessFlags := 1, code := some k0c0 }
/-- java/lang/Object -/
def k0 : Class := { plain "java/lang/Object" none with
  accessFlags := 33
  interfaces := #[]
  cf := some (fileOf pool0 8 #[] #[{ accessFlags := 1, nameIndex := 5, descriptorIndex := 6, attributes := #[] }] 33 0 #[] #[])
  fields := #[]
  methods := #[k0m0]
  instanceTypes := #[]
  staticTypes := #[]
  resolved := Array.replicate 124 none
  statics := none }

def pool1 : Array CpInfo := pool [(2, .class_ 4), (1, u "java/lang/Object"), (0, u "<init>"), (0, u "()V"), (0, .class_ 8), (0, u "java/lang/String"), (0, .methodref 7 10), (0, .nameAndType 5 11), (0, u "([C)V"), (0, .class_ 13), (0, u "com/example/token_relay/tokenrelay/Member"), (0, .methodref 12 15), (0, .nameAndType 5 16), (0, u "(ILjava/lang/String;II)V"), (0, .methodref 12 18), (0, .nameAndType 19 20), (0, u "equals"), (0, u "(Ljava/lang/Object;)Z"), (0, .class_ 22), (0, u "com/example/token_relay/tokenrelay/MemberEqualsPinLaw"), (2, u "law"), (0, u "(IIIIII)Z")] 3

def k1m0 : Method := { name := "<init>", desc := "()V", sig := { parameters := [], returnType := none }, accessFlags := 1, code := none }
def k1c1 : Code := { maxStack := 6, maxLocals := 19, code := code, exceptionTable := #[], attributes := #[] }
def k1m1 : Method := { name := "law", desc := "(IIIIII)Z", sig := { parameters := [.int, .int, .int, .int, .int, .int], returnType := some .boolean }, accessFlags := 9, code := some k1c1 }
/-- com/example/token_relay/tokenrelay/MemberEqualsPinLaw -/
def k1 : Class := { plain "com/example/token_relay/tokenrelay/MemberEqualsPinLaw" (some 0) with
  accessFlags := 49
  interfaces := #[]
  cf := some (fileOf pool1 21 #[] #[{ accessFlags := 1, nameIndex := 5, descriptorIndex := 6, attributes := #[] }, { accessFlags := 9, nameIndex := 25, descriptorIndex := 26, attributes := #[] }] 49 2 #[] #[])
  fields := #[]
  methods := #[k1m0, k1m1]
  instanceTypes := #[]
  staticTypes := #[]
  resolved := Array.replicate 30 none
  statics := none }

def pool2 : Array CpInfo := pool [(1, .class_ 2), (0, u "java/io/Serializable"), (0, .class_ 4), (0, u "java/lang/Object")] 2

/-- java/io/Serializable -/
def k2 : Class := { plain "java/io/Serializable" (some 0) with
  accessFlags := 1537
  interfaces := #[]
  cf := some (fileOf pool2 1 #[] #[] 1537 3 #[] #[])
  fields := #[]
  methods := #[]
  instanceTypes := #[]
  staticTypes := #[]
  resolved := Array.replicate 7 none
  statics := none }

def pool3 : Array CpInfo := pool [(1, .class_ 2), (0, u "java/lang/Comparable"), (0, .class_ 4), (0, u "java/lang/Object")] 7

/-- java/lang/Comparable -/
def k3 : Class := { plain "java/lang/Comparable" (some 0) with
  accessFlags := 1537
  interfaces := #[]
  cf := some (fileOf pool3 1 #[] #[] 1537 3 #[] #[])
  fields := #[]
  methods := #[]
  instanceTypes := #[]
  staticTypes := #[]
  resolved := Array.replicate 12 none
  statics := none }

def pool4 : Array CpInfo := pool [(2, .class_ 4), (1, u "java/lang/CharSequence"), (42, .class_ 48), (0, u "java/lang/CharSequence$1CodePointIterator"), (10, .class_ 60), (0, u "java/lang/CharSequence$1CharIterator"), (5, .class_ 67), (0, u "java/lang/Object")] 63

/-- java/lang/CharSequence -/
def k4 : Class := { plain "java/lang/CharSequence" (some 0) with
  accessFlags := 1537
  interfaces := #[]
  cf := some (fileOf pool4 2 #[.nestMembers #[47, 59]] #[] 1537 66 #[] #[])
  fields := #[]
  methods := #[]
  instanceTypes := #[]
  staticTypes := #[]
  resolved := Array.replicate 131 none
  statics := none }

def pool5 : Array CpInfo := pool [(1, .class_ 2), (0, u "java/lang/constant/Constable"), (0, .class_ 4), (0, u "java/lang/Object")] 6

/-- java/lang/constant/Constable -/
def k5 : Class := { plain "java/lang/constant/Constable" (some 0) with
  accessFlags := 1537
  interfaces := #[]
  cf := some (fileOf pool5 1 #[] #[] 1537 3 #[] #[])
  fields := #[]
  methods := #[]
  instanceTypes := #[]
  staticTypes := #[]
  resolved := Array.replicate 11 none
  statics := none }

def pool6 : Array CpInfo := pool [(1, .class_ 2), (0, u "java/lang/constant/ConstantDesc"), (0, .class_ 4), (0, u "java/lang/Object")] 32

/-- java/lang/constant/ConstantDesc -/
def k6 : Class := { plain "java/lang/constant/ConstantDesc" (some 0) with
  accessFlags := 1537
  interfaces := #[]
  cf := some (fileOf pool6 1 #[] #[] 1537 3 #[] #[])
  fields := #[]
  methods := #[]
  instanceTypes := #[]
  staticTypes := #[]
  resolved := Array.replicate 37 none
  statics := none }

def pool7 : Array CpInfo := pool [(1, .methodref 2 3), (0, .class_ 4), (0, .nameAndType 5 6), (0, u "java/lang/Object"), (0, u "<init>"), (0, u "()V"), (2, .fieldref 10 11), (0, .class_ 12), (0, .nameAndType 13 14), (0, u "java/lang/String"), (0, u "value"), (0, u "[B"), (0, .fieldref 10 16), (0, .nameAndType 17 18), (0, u "coder"), (0, u "B"), (2, u "hash"), (0, u "I"), (2, u "hashIsZero"), (0, u "Z"), (0, .methodref 10 28), (0, .nameAndType 5 29), (0, u "([CIILjava/lang/Void;)V"), (8, .fieldref 10 39), (0, .nameAndType 40 26), (0, u "COMPACT_STRINGS"), (1, .class_ 44), (1, u "java/lang/StringUTF16"), (0, u "compress"), (1, .methodref 42 48), (0, .nameAndType 49 50), (0, u "coderFromArrayLen"), (0, u "([BI)B"), (56, .class_ 109), (1, u "java/lang/StringLatin1"), (67, .methodref 42 178), (0, .nameAndType 45 179), (0, u "([CII)[B"), (361, .methodref 107 542), (0, .nameAndType 543 544), (0, u "equals"), (0, u "([B[B)Z"), (28, u "(Ljava/lang/Object;)Z"), (1, .class_ 576), (0, u "java/lang/CharSequence"), (22, u "CASE_INSENSITIVE_ORDER"), (0, u "Ljava/util/Comparator;"), (409, u "([C)V"), (90, u "serialPersistentFields"), (0, u "[Ljava/io/ObjectStreamField;"), (0, .class_ 1104), (0, u "java/lang/String$CaseInsensitiveComparator"), (1, .class_ 1107), (0, u "java/io/Serializable"), (0, .class_ 1109), (0, u "java/lang/Comparable"), (0, .class_ 1111), (0, u "java/lang/constant/Constable"), (0, .class_ 1113), (0, u "java/lang/constant/ConstantDesc"), (2, u "serialVersionUID"), (0, u "J"), (3, u "REPL"), (0, u "C"), (2, u "LATIN1"), (1, u "UTF16")] 323

def k7m0 : Method := { name := "<init>", desc := "()V", sig := { parameters := [], returnType := none }, accessFlags := 1, code := none }
def k7c1 : Code := { maxStack := 5, maxLocals := 2, code := jdk_42_method_3_code, exceptionTable := #[], attributes := #[] }
def k7m1 : Method := { name := "<init>", desc := "([C)V", sig := { parameters := [(.array .char)], returnType := none }, accessFlags := 1, code := some k7c1 }
def k7c2 : Code := { maxStack := 2, maxLocals := 3, code := jdk_42_method_66_code, exceptionTable := #[], attributes := #[] }
def k7m2 : Method := { name := "equals", desc := "(Ljava/lang/Object;)Z", sig := { parameters := [(.object "java/lang/Object")], returnType := some .boolean }, accessFlags := 1, code := some k7c2 }
def k7c3 : Code := { maxStack := 4, maxLocals := 6, code := jdk_42_method_149_code, exceptionTable := #[], attributes := #[] }
def k7m3 : Method := { name := "<init>", desc := "([CIILjava/lang/Void;)V", sig := { parameters := [(.array .char), .int, .int, (.object "java/lang/Void")], returnType := none }, accessFlags := 2, code := some k7c3 }
/-- java/lang/String -/
def k7 : Class := { plain "java/lang/String" (some 0) with
  accessFlags := 49
  interfaces := #[2, 3, 4, 5, 6]
  cf := some (fileOf pool7 10 #[.nestMembers #[1103]] #[{ accessFlags := 1, nameIndex := 5, descriptorIndex := 6, attributes := #[] }, { accessFlags := 1, nameIndex := 5, descriptorIndex := 1010, attributes := #[] }, { accessFlags := 1, nameIndex := 543, descriptorIndex := 573, attributes := #[] }, { accessFlags := 2, nameIndex := 5, descriptorIndex := 29, attributes := #[] }] 49 2 #[1106, 1108, 575, 1110, 1112] #[{ accessFlags := 18, nameIndex := 13, descriptorIndex := 14, attributes := #[] }, { accessFlags := 18, nameIndex := 17, descriptorIndex := 18, attributes := #[] }, { accessFlags := 2, nameIndex := 21, descriptorIndex := 22, attributes := #[] }, { accessFlags := 2, nameIndex := 25, descriptorIndex := 26, attributes := #[] }, { accessFlags := 26, nameIndex := 1116, descriptorIndex := 1117, attributes := #[] }, { accessFlags := 24, nameIndex := 40, descriptorIndex := 26, attributes := #[] }, { accessFlags := 26, nameIndex := 1101, descriptorIndex := 1102, attributes := #[] }, { accessFlags := 26, nameIndex := 1121, descriptorIndex := 1122, attributes := #[] }, { accessFlags := 25, nameIndex := 599, descriptorIndex := 600, attributes := #[] }, { accessFlags := 24, nameIndex := 1125, descriptorIndex := 18, attributes := #[] }, { accessFlags := 24, nameIndex := 1127, descriptorIndex := 18, attributes := #[] }])
  fields := #[{ name := "value", type := (.array .byte), accessFlags := 18, slot := 0, constantValue := 0 }, { name := "coder", type := .byte, accessFlags := 18, slot := 1, constantValue := 0 }, { name := "hash", type := .int, accessFlags := 2, slot := 2, constantValue := 0 }, { name := "hashIsZero", type := .boolean, accessFlags := 2, slot := 3, constantValue := 0 }, { name := "serialVersionUID", type := .long, accessFlags := 26, slot := 0, constantValue := 0 }, { name := "COMPACT_STRINGS", type := .boolean, accessFlags := 24, slot := 1, constantValue := 0 }, { name := "serialPersistentFields", type := (.array (.object "java/io/ObjectStreamField")), accessFlags := 26, slot := 2, constantValue := 0 }, { name := "REPL", type := .char, accessFlags := 26, slot := 3, constantValue := 0 }, { name := "CASE_INSENSITIVE_ORDER", type := (.object "java/util/Comparator"), accessFlags := 25, slot := 4, constantValue := 0 }, { name := "LATIN1", type := .byte, accessFlags := 24, slot := 5, constantValue := 0 }, { name := "UTF16", type := .byte, accessFlags := 24, slot := 6, constantValue := 0 }]
  methods := #[k7m0, k7m1, k7m2, k7m3]
  instanceTypes := #[(.array .byte), .byte, .int, .boolean]
  staticTypes := #[.long, .boolean, (.array (.object "java/io/ObjectStreamField")), .char, (.object "java/util/Comparator"), .byte, .byte]
  resolved := Array.replicate 1451 none
  statics := some 0 }

def pool8 : Array CpInfo := pool [(6, .class_ 8), (1, u "java/lang/Object"), (0, u "<init>"), (0, u "()V"), (1, .class_ 14), (1, u "java/lang/StringUTF16"), (31, u "$assertionsDisabled"), (0, u "Z"), (13, u "HI_BYTE_SHIFT"), (0, u "I"), (2, u "LO_BYTE_SHIFT"), (49, .methodref 12 116), (0, .nameAndType 117 118), (0, u "compress"), (0, u "([CI[BII)I"), (3, u "([CII)[B"), (138, u "coderFromArrayLen"), (0, u "([BI)B"), (106, .class_ 371), (1, u "java/lang/StringUTF16$LinesSpliterator"), (58, u "MAX_LENGTH"), (196, .class_ 628), (0, u "java/lang/StringUTF16$CodePointsSpliterator"), (0, .class_ 630), (0, u "java/lang/StringUTF16$CharsSpliterator")] 4

def k8m0 : Method := { name := "<init>", desc := "()V", sig := { parameters := [], returnType := none }, accessFlags := 0, code := none }
def k8c1 : Code := { maxStack := 2, maxLocals := 2, code := jdk_52_method_15_code, exceptionTable := #[], attributes := #[] }
def k8m1 : Method := { name := "coderFromArrayLen", desc := "([BI)B", sig := { parameters := [(.array .byte), .int], returnType := some .byte }, accessFlags := 8, code := some k8c1 }
def k8c2 : Code := { maxStack := 5, maxLocals := 6, code := jdk_52_method_16_code, exceptionTable := #[], attributes := #[] }
def k8m2 : Method := { name := "compress", desc := "([CII)[B", sig := { parameters := [(.array .char), .int, .int], returnType := some (.array .byte) }, accessFlags := 9, code := some k8c2 }
def k8c3 : Code := { maxStack := 3, maxLocals := 7, code := jdk_52_method_21_code, exceptionTable := #[], attributes := #[] }
def k8m3 : Method := { name := "compress", desc := "([CI[BII)I", sig := { parameters := [(.array .char), .int, (.array .byte), .int, .int], returnType := some .int }, accessFlags := 9, code := some k8c3 }
/-- java/lang/StringUTF16 -/
def k8 : Class := { plain "java/lang/StringUTF16" (some 0) with
  accessFlags := 48
  interfaces := #[]
  cf := some (fileOf pool8 12 #[.nestMembers #[627, 629, 369]] #[{ accessFlags := 0, nameIndex := 9, descriptorIndex := 10, attributes := #[] }, { accessFlags := 8, nameIndex := 261, descriptorIndex := 262, attributes := #[] }, { accessFlags := 9, nameIndex := 117, descriptorIndex := 122, attributes := #[] }, { accessFlags := 9, nameIndex := 117, descriptorIndex := 118, attributes := #[] }] 48 6 #[] #[{ accessFlags := 26, nameIndex := 61, descriptorIndex := 62, attributes := #[] }, { accessFlags := 26, nameIndex := 65, descriptorIndex := 62, attributes := #[] }, { accessFlags := 24, nameIndex := 430, descriptorIndex := 62, attributes := #[] }, { accessFlags := 4120, nameIndex := 46, descriptorIndex := 47, attributes := #[] }])
  fields := #[{ name := "HI_BYTE_SHIFT", type := .int, accessFlags := 26, slot := 0, constantValue := 0 }, { name := "LO_BYTE_SHIFT", type := .int, accessFlags := 26, slot := 1, constantValue := 0 }, { name := "MAX_LENGTH", type := .int, accessFlags := 24, slot := 2, constantValue := 0 }, { name := "$assertionsDisabled", type := .boolean, accessFlags := 4120, slot := 3, constantValue := 0 }]
  methods := #[k8m0, k8m1, k8m2, k8m3]
  instanceTypes := #[]
  staticTypes := #[.int, .int, .int, .boolean]
  resolved := Array.replicate 635 none
  statics := none }

def pool9 : Array CpInfo := pool [(1, .methodref 2 3), (0, .class_ 4), (0, .nameAndType 5 6), (0, u "java/lang/Object"), (0, u "<init>"), (0, u "()V"), (0, .fieldref 8 9), (0, .class_ 10), (0, .nameAndType 11 12), (0, u "com/example/token_relay/tokenrelay/Member"), (0, u "id"), (0, u "I"), (0, .string 14), (0, u "host"), (0, .methodref 16 17), (0, .class_ 18), (0, .nameAndType 19 20), (0, u "java/util/Objects"), (0, u "requireNonNull"), (0, u "(Ljava/lang/Object;Ljava/lang/String;)Ljava/lang/Object;"), (0, .class_ 22), (0, u "java/lang/String"), (0, .fieldref 8 24), (0, .nameAndType 14 25), (0, u "Ljava/lang/String;"), (0, .fieldref 8 27), (0, .nameAndType 28 12), (0, u "peerPort"), (0, .fieldref 8 30), (0, .nameAndType 31 12), (0, u "clientPort"), (7, .methodref 21 40), (0, .nameAndType 41 42), (0, u "equals"), (0, u "(Ljava/lang/Object;)Z"), (14, u "CLIENT_HOST"), (1, u "(ILjava/lang/String;II)V")] 31

def k9c0 : Code := { maxStack := 3, maxLocals := 5, code := prog_8_method_1_code, exceptionTable := #[], attributes := #[] }
def k9m0 : Method := { name := "<init>", desc := "(ILjava/lang/String;II)V", sig := { parameters := [.int, (.object "java/lang/String"), .int, .int], returnType := none }, accessFlags := 1, code := some k9c0 }
def k9c1 : Code := { maxStack := 2, maxLocals := 3, code := prog_8_method_8_code, exceptionTable := #[], attributes := #[] }
def k9m1 : Method := { name := "equals", desc := "(Ljava/lang/Object;)Z", sig := { parameters := [(.object "java/lang/Object")], returnType := some .boolean }, accessFlags := 1, code := some k9c1 }
/-- com/example/token_relay/tokenrelay/Member -/
def k9 : Class := { plain "com/example/token_relay/tokenrelay/Member" (some 0) with
  accessFlags := 33
  interfaces := #[]
  cf := some (fileOf pool9 8 #[] #[{ accessFlags := 1, nameIndex := 5, descriptorIndex := 59, attributes := #[] }, { accessFlags := 1, nameIndex := 41, descriptorIndex := 42, attributes := #[] }] 33 2 #[] #[{ accessFlags := 25, nameIndex := 57, descriptorIndex := 25, attributes := #[] }, { accessFlags := 18, nameIndex := 11, descriptorIndex := 12, attributes := #[] }, { accessFlags := 18, nameIndex := 14, descriptorIndex := 25, attributes := #[] }, { accessFlags := 18, nameIndex := 28, descriptorIndex := 12, attributes := #[] }, { accessFlags := 18, nameIndex := 31, descriptorIndex := 12, attributes := #[] }])
  fields := #[{ name := "CLIENT_HOST", type := (.object "java/lang/String"), accessFlags := 25, slot := 0, constantValue := 0 }, { name := "id", type := .int, accessFlags := 18, slot := 0, constantValue := 0 }, { name := "host", type := (.object "java/lang/String"), accessFlags := 18, slot := 1, constantValue := 0 }, { name := "peerPort", type := .int, accessFlags := 18, slot := 2, constantValue := 0 }, { name := "clientPort", type := .int, accessFlags := 18, slot := 3, constantValue := 0 }]
  methods := #[k9m0, k9m1]
  instanceTypes := #[.int, (.object "java/lang/String"), .int, .int]
  staticTypes := #[(.object "java/lang/String")]
  resolved := Array.replicate 91 none
  statics := none }

def pool10 : Array CpInfo := pool [(2, .class_ 4), (1, u "java/lang/Object"), (0, u "<init>"), (0, u "()V"), (35, .class_ 44), (1, u "java/util/Objects"), (0, u "requireNonNull"), (48, u "(Ljava/lang/Object;Ljava/lang/String;)Ljava/lang/Object;")] 89

def k10m0 : Method := { name := "<init>", desc := "()V", sig := { parameters := [], returnType := none }, accessFlags := 2, code := none }
def k10c1 : Code := { maxStack := 3, maxLocals := 2, code := jdk_31_method_11_code, exceptionTable := #[], attributes := #[] }
def k10m1 : Method := { name := "requireNonNull", desc := "(Ljava/lang/Object;Ljava/lang/String;)Ljava/lang/Object;", sig := { parameters := [(.object "java/lang/Object"), (.object "java/lang/String")], returnType := some (.object "java/lang/Object") }, accessFlags := 9, code := some k10c1 }
/-- java/util/Objects -/
def k10 : Class := { plain "java/util/Objects" (some 0) with
  accessFlags := 49
  interfaces := #[]
  cf := some (fileOf pool10 42 #[] #[{ accessFlags := 2, nameIndex := 5, descriptorIndex := 6, attributes := #[] }, { accessFlags := 9, nameIndex := 45, descriptorIndex := 94, attributes := #[] }] 49 2 #[] #[])
  fields := #[]
  methods := #[k10m0, k10m1]
  instanceTypes := #[]
  staticTypes := #[]
  resolved := Array.replicate 184 none
  statics := none }

def pool11 : Array CpInfo := pool [(4, .class_ 6), (1, u "java/lang/Object"), (0, u "<init>"), (0, u "()V"), (5, .class_ 16), (1, u "java/lang/StringLatin1"), (104, u "$assertionsDisabled"), (0, u "Z"), (98, .class_ 223), (1, u "java/lang/StringLatin1$LinesSpliterator"), (57, u "equals"), (0, u "([B[B)Z"), (107, .class_ 391), (0, u "java/lang/StringLatin1$CharsSpliterator")] 3

def k11m0 : Method := { name := "<init>", desc := "()V", sig := { parameters := [], returnType := none }, accessFlags := 0, code := none }
def k11c1 : Code := { maxStack := 3, maxLocals := 3, code := jdk_43_method_13_code, exceptionTable := #[], attributes := #[] }
def k11m1 : Method := { name := "equals", desc := "([B[B)Z", sig := { parameters := [(.array .byte), (.array .byte)], returnType := some .boolean }, accessFlags := 9, code := some k11c1 }
/-- java/lang/StringLatin1 -/
def k11 : Class := { plain "java/lang/StringLatin1" (some 0) with
  accessFlags := 48
  interfaces := #[]
  cf := some (fileOf pool11 14 #[.nestMembers #[390, 221]] #[{ accessFlags := 0, nameIndex := 7, descriptorIndex := 8, attributes := #[] }, { accessFlags := 9, nameIndex := 281, descriptorIndex := 282, attributes := #[] }] 48 4 #[] #[{ accessFlags := 4120, nameIndex := 121, descriptorIndex := 122, attributes := #[] }])
  fields := #[{ name := "$assertionsDisabled", type := .boolean, accessFlags := 4120, slot := 0, constantValue := 0 }]
  methods := #[k11m0, k11m1]
  instanceTypes := #[]
  staticTypes := #[.boolean]
  resolved := Array.replicate 395 none
  statics := none }

def pool12 : Array CpInfo := pool [(2, .class_ 4), (1, u "java/lang/Object"), (0, u "<init>"), (0, u "()V"), (17, .class_ 26), (1, u "jdk/internal/util/Preconditions"), (28, .class_ 56), (0, u "jdk/internal/util/Preconditions$4"), (57, .class_ 115), (0, u "jdk/internal/util/Preconditions$1"), (7, u "SIOOBE_FORMATTER"), (0, u "Ljava/util/function/BiFunction;"), (0, .class_ 126), (0, u "jdk/internal/util/Preconditions$2"), (3, u "AIOOBE_FORMATTER"), (0, .class_ 132), (0, u "jdk/internal/util/Preconditions$3"), (3, u "IOOBE_FORMATTER")] 57

def k12m0 : Method := { name := "<init>", desc := "()V", sig := { parameters := [], returnType := none }, accessFlags := 1, code := none }
/-- jdk/internal/util/Preconditions -/
def k12 : Class := { plain "jdk/internal/util/Preconditions" (some 0) with
  accessFlags := 33
  interfaces := #[]
  cf := some (fileOf pool12 24 #[.nestMembers #[55, 131, 125, 114]] #[{ accessFlags := 1, nameIndex := 5, descriptorIndex := 6, attributes := #[] }] 33 2 #[] #[{ accessFlags := 25, nameIndex := 123, descriptorIndex := 124, attributes := #[] }, { accessFlags := 25, nameIndex := 130, descriptorIndex := 124, attributes := #[] }, { accessFlags := 25, nameIndex := 136, descriptorIndex := 124, attributes := #[] }])
  fields := #[{ name := "SIOOBE_FORMATTER", type := (.object "java/util/function/BiFunction"), accessFlags := 25, slot := 0, constantValue := 0 }, { name := "AIOOBE_FORMATTER", type := (.object "java/util/function/BiFunction"), accessFlags := 25, slot := 1, constantValue := 0 }, { name := "IOOBE_FORMATTER", type := (.object "java/util/function/BiFunction"), accessFlags := 25, slot := 2, constantValue := 0 }]
  methods := #[k12m0]
  instanceTypes := #[]
  staticTypes := #[(.object "java/util/function/BiFunction"), (.object "java/util/function/BiFunction"), (.object "java/util/function/BiFunction")]
  resolved := Array.replicate 194 none
  statics := some 1 }

def pool13 : Array CpInfo := pool [(9, u "<init>"), (6, .class_ 18), (1, u "java/lang/Object"), (0, u "()V"), (1, .class_ 23), (1, u "jdk/internal/util/ArraysSupport"), (0, u "LOG2_ARRAY_LONG_INDEX_SCALE"), (0, u "I"), (2, u "U"), (0, u "Ljdk/internal/misc/Unsafe;"), (8, u "BIG_ENDIAN"), (0, u "Z"), (8, u "LOG2_BYTE_BIT_SIZE"), (4, u "LOG2_ARRAY_INT_INDEX_SCALE"), (54, u "JLA"), (0, u "Ljdk/internal/access/JavaLangAccess;"), (11, u "LOG2_ARRAY_BOOLEAN_INDEX_SCALE"), (9, u "LOG2_ARRAY_BYTE_INDEX_SCALE"), (5, u "LOG2_ARRAY_CHAR_INDEX_SCALE"), (5, u "LOG2_ARRAY_SHORT_INDEX_SCALE"), (18, u "LOG2_ARRAY_FLOAT_INDEX_SCALE"), (24, u "LOG2_ARRAY_DOUBLE_INDEX_SCALE"), (89, u "T_BOOLEAN"), (2, u "T_CHAR"), (1, u "T_FLOAT"), (1, u "T_DOUBLE"), (1, u "T_BYTE"), (1, u "T_SHORT"), (1, u "T_INT"), (1, u "T_LONG"), (1, u "SOFT_MAX_ARRAY_LENGTH")] 83

def k13m0 : Method := { name := "<init>", desc := "()V", sig := { parameters := [], returnType := none }, accessFlags := 2, code := none }
/-- jdk/internal/util/ArraysSupport -/
def k13 : Class := { plain "jdk/internal/util/ArraysSupport" (some 0) with
  accessFlags := 33
  interfaces := #[]
  cf := some (fileOf pool13 21 #[] #[{ accessFlags := 2, nameIndex := 9, descriptorIndex := 19, attributes := #[] }] 33 16 #[] #[{ accessFlags := 24, nameIndex := 28, descriptorIndex := 29, attributes := #[] }, { accessFlags := 26, nameIndex := 38, descriptorIndex := 39, attributes := #[] }, { accessFlags := 25, nameIndex := 121, descriptorIndex := 25, attributes := #[] }, { accessFlags := 25, nameIndex := 131, descriptorIndex := 25, attributes := #[] }, { accessFlags := 25, nameIndex := 137, descriptorIndex := 25, attributes := #[] }, { accessFlags := 25, nameIndex := 143, descriptorIndex := 25, attributes := #[] }, { accessFlags := 25, nameIndex := 53, descriptorIndex := 25, attributes := #[] }, { accessFlags := 25, nameIndex := 24, descriptorIndex := 25, attributes := #[] }, { accessFlags := 25, nameIndex := 162, descriptorIndex := 25, attributes := #[] }, { accessFlags := 25, nameIndex := 187, descriptorIndex := 25, attributes := #[] }, { accessFlags := 26, nameIndex := 48, descriptorIndex := 25, attributes := #[] }, { accessFlags := 25, nameIndex := 277, descriptorIndex := 25, attributes := #[] }, { accessFlags := 25, nameIndex := 280, descriptorIndex := 25, attributes := #[] }, { accessFlags := 25, nameIndex := 282, descriptorIndex := 25, attributes := #[] }, { accessFlags := 25, nameIndex := 284, descriptorIndex := 25, attributes := #[] }, { accessFlags := 25, nameIndex := 286, descriptorIndex := 25, attributes := #[] }, { accessFlags := 25, nameIndex := 288, descriptorIndex := 25, attributes := #[] }, { accessFlags := 25, nameIndex := 290, descriptorIndex := 25, attributes := #[] }, { accessFlags := 25, nameIndex := 292, descriptorIndex := 25, attributes := #[] }, { accessFlags := 26, nameIndex := 108, descriptorIndex := 109, attributes := #[] }, { accessFlags := 25, nameIndex := 294, descriptorIndex := 25, attributes := #[] }])
  fields := #[{ name := "U", type := (.object "jdk/internal/misc/Unsafe"), accessFlags := 24, slot := 0, constantValue := 0 }, { name := "BIG_ENDIAN", type := .boolean, accessFlags := 26, slot := 1, constantValue := 0 }, { name := "LOG2_ARRAY_BOOLEAN_INDEX_SCALE", type := .int, accessFlags := 25, slot := 2, constantValue := 0 }, { name := "LOG2_ARRAY_BYTE_INDEX_SCALE", type := .int, accessFlags := 25, slot := 3, constantValue := 0 }, { name := "LOG2_ARRAY_CHAR_INDEX_SCALE", type := .int, accessFlags := 25, slot := 4, constantValue := 0 }, { name := "LOG2_ARRAY_SHORT_INDEX_SCALE", type := .int, accessFlags := 25, slot := 5, constantValue := 0 }, { name := "LOG2_ARRAY_INT_INDEX_SCALE", type := .int, accessFlags := 25, slot := 6, constantValue := 0 }, { name := "LOG2_ARRAY_LONG_INDEX_SCALE", type := .int, accessFlags := 25, slot := 7, constantValue := 0 }, { name := "LOG2_ARRAY_FLOAT_INDEX_SCALE", type := .int, accessFlags := 25, slot := 8, constantValue := 0 }, { name := "LOG2_ARRAY_DOUBLE_INDEX_SCALE", type := .int, accessFlags := 25, slot := 9, constantValue := 0 }, { name := "LOG2_BYTE_BIT_SIZE", type := .int, accessFlags := 26, slot := 10, constantValue := 0 }, { name := "T_BOOLEAN", type := .int, accessFlags := 25, slot := 11, constantValue := 0 }, { name := "T_CHAR", type := .int, accessFlags := 25, slot := 12, constantValue := 0 }, { name := "T_FLOAT", type := .int, accessFlags := 25, slot := 13, constantValue := 0 }, { name := "T_DOUBLE", type := .int, accessFlags := 25, slot := 14, constantValue := 0 }, { name := "T_BYTE", type := .int, accessFlags := 25, slot := 15, constantValue := 0 }, { name := "T_SHORT", type := .int, accessFlags := 25, slot := 16, constantValue := 0 }, { name := "T_INT", type := .int, accessFlags := 25, slot := 17, constantValue := 0 }, { name := "T_LONG", type := .int, accessFlags := 25, slot := 18, constantValue := 0 }, { name := "JLA", type := (.object "jdk/internal/access/JavaLangAccess"), accessFlags := 26, slot := 19, constantValue := 0 }, { name := "SOFT_MAX_ARRAY_LENGTH", type := .int, accessFlags := 25, slot := 20, constantValue := 0 }]
  methods := #[k13m0]
  instanceTypes := #[]
  staticTypes := #[(.object "jdk/internal/misc/Unsafe"), .boolean, .int, .int, .int, .int, .int, .int, .int, .int, .int, .int, .int, .int, .int, .int, .int, .int, .int, (.object "jdk/internal/access/JavaLangAccess"), .int]
  resolved := Array.replicate 378 none
  statics := none }

def pool14 : Array CpInfo := pool [(1, u "java/lang/Cloneable"), (0, .class_ 1), (0, u "java/lang/Object"), (0, .class_ 3)] 3

/-- java/lang/Cloneable -/
def k14 : Class := { plain "java/lang/Cloneable" (some 0) with
  accessFlags := 1537
  interfaces := #[]
  cf := some (fileOf pool14 2 #[] #[] 1537 4 #[] #[])
  fields := #[]
  methods := #[]
  instanceTypes := #[]
  staticTypes := #[]
  resolved := Array.replicate 8 none
  statics := none }

/-- the primitive byte -/
def k15 : Class := { plain "byte" none with kind := .primitive 'B', accessFlags := 0x411 }
/-- [B -/
def k16 : Class := { plain "[B" (some 0) with kind := .array 15 .byte, interfaces := #[14, 2], accessFlags := 1041 }

/-- the primitive char -/
def k17 : Class := { plain "char" none with kind := .primitive 'C', accessFlags := 0x411 }
/-- [C -/
def k18 : Class := { plain "[C" (some 0) with kind := .array 17 .char, interfaces := #[14, 2], accessFlags := 1041 }

/-- the primitive int -/
def k19 : Class := { plain "int" none with kind := .primitive 'I', accessFlags := 0x411 }
/-- [I -/
def k20 : Class := { plain "[I" (some 0) with kind := .array 19 .int, interfaces := #[14, 2], accessFlags := 1041 }

def heap : Heap := #[{ cls := 7, slots := #[.long 0, .int 1, .null, .int 0, .null, .int 0, .int 0], vm := .statics 7 },
  { cls := 12, slots := #[.null, .null, .null], vm := .statics 12 }]
def classes : Array Class := #[k0, k1, k2, k3, k4, k5, k6, k7, k8, k9, k10, k11, k12, k13, k14, k15, k16, k17, k18, k19, k20]
def interned : List (Array UInt16 × Addr) := []
def slotsUsed : Nat := 10
def theMethod : MethodId := ⟨1, 1⟩
def args0 : Array Value := #[.int 5, .int 6, .int 7, .int 8, .int 9, .int 3]
def aboutOver (below : List Frame) : State where
  vm := { classes := classes, interned := interned.toArray }
  heap := heap
  slotsUsed := slotsUsed
  threads := #[{ frames := .invoking theMethod args0 :: below }]
def below0 : List Frame := [.native { method := ⟨0, 0⟩, args := #[] }]
def about1 : State := aboutOver below0
def p0 : Program := .bare "" "" ""
def e0 : Env := launch0.env 0 0 0
theorem w_frames : about1.frames = Frame.invoking theMethod args0 :: below0 := rfl
set_option maxRecDepth 65536 in
theorem w_args : argsFit about1.vm theMethod args0 = true := by decide +kernel
set_option maxRecDepth 65536 in
theorem w_heap : heapFits about1 = true := by decide +kernel
set_option maxRecDepth 65536 in
theorem w_runnable : about1.curStatus? = some .runnable := by decide +kernel
set_option maxRecDepth 65536 in
theorem w_alone : about1.alone = true := by decide +kernel
set_option maxRecDepth 65536 in
theorem w_named : about1.methodNamed? x = some theMethod := by decide +kernel
set_option maxRecDepth 65536 in
theorem w_hears : about1.hears theMethod below0 = true := by decide +kernel
set_option maxRecDepth 65536 in
theorem w_ripe : about1.ripe theMethod args0 below0 = true := by decide +kernel
theorem w_running : about1.status = .running := rfl
set_option maxRecDepth 65536 in
theorem w_room : about1.hasRoom e0.platform room_1 = true :=
  launch0.hasRoom_least _ room_1 (by decide +kernel) (by decide +kernel) (by decide +kernel) (by decide +kernel) (by decide +kernel) (by decide +kernel)
theorem allAtoms_all (ts : List Jvm.Cond) (a : Array Jvm.Value) (st : Jvm.State) : (allAtoms ts).before a st = ts.all (fun c => c.before a st) := by
  induction ts with
  | nil => rfl
  | cons c t ih =>
    show (Jvm.Cond.and c (allAtoms t)).before a st = _
    rw [Jvm.Cond.before_and, ih, List.all_cons]
def words1 : List Jvm.Cond := Jvm.Cond.code x code maxLocals ret :: tables_1
/-- a 'code' word, met by the world's own term for the bytes: nothing is compared byte by byte -/
theorem code_word {y : MethodName} {bytes : ByteArray} {mx : Nat} {rt : Option FieldType} {a : Array Value} {s : State} {m : MethodId} {meth : Method} {c : Code} (h1 : s.methodNamed? y = some m) (h2 : s.vm.method? m = some meth) (h3 : meth.code = some c) (h4 : c.code = bytes)
    (h5 : (c.maxLocals == mx && c.exceptionTable.isEmpty && decide (c.maxStack ≤ mostOperands) && decide (meth.sig.returnType = rt) && !meth.locks && decide (parseMethodDescriptor y.desc = some meth.sig)) = true) : (Jvm.Cond.code y bytes mx rt).before a s = true := by
  simp only [Bool.and_eq_true, beq_iff_eq, Bool.not_eq_true', decide_eq_true_eq] at h5
  obtain ⟨⟨⟨⟨⟨g1, g2⟩, g3⟩, g4⟩, g5⟩, g6⟩ := h5
  simp [Cond.before, Cond.holds, Cond.value, h1, h2, h3, h4, g1, g2, g3, g4, g5, g6]
def isCode : Jvm.Cond → Bool
  | .code _ _ _ _ => true
  | _ => false
theorem all_split {L : List Jvm.Cond} {P : Jvm.Cond → Bool} (h1 : L.all (fun c => isCode c || P c) = true) (h2 : ∀ c ∈ L.filter isCode, P c = true) : L.all P = true := by
  refine List.all_eq_true.mpr fun c hc => ?_
  have h := List.all_eq_true.mp h1 c hc
  rcases Bool.eq_false_or_eq_true (isCode c) with hi | hi
  · exact h2 c (List.mem_filter.mpr ⟨hc, hi⟩)
  · simpa [hi] using h
set_option maxRecDepth 65536 in
theorem w_c0 : (Jvm.Cond.code x code maxLocals ret).before args0 about1 = true := code_word (m := ⟨1, 1⟩) (meth := k1m1) (c := k1c1) (by decide +kernel) rfl rfl rfl (by decide +kernel)
set_option maxRecDepth 65536 in
theorem w_c1 : (Jvm.Cond.code ({ cls := "java/lang/String", name := "<init>", desc := "([C)V" } : Jvm.MethodName) jdk_42_method_3_code (2 : Nat) (Option.none : Option Jvm.ClassFile.FieldType)).before args0 about1 = true := code_word (m := ⟨7, 1⟩) (meth := k7m1) (c := k7c1) (by decide +kernel) rfl rfl rfl (by decide +kernel)
set_option maxRecDepth 65536 in
theorem w_c2 : (Jvm.Cond.code ({ cls := "java/lang/String", name := "<init>", desc := "([CIILjava/lang/Void;)V" } : Jvm.MethodName) jdk_42_method_149_code (6 : Nat) (Option.none : Option Jvm.ClassFile.FieldType)).before args0 about1 = true := code_word (m := ⟨7, 3⟩) (meth := k7m3) (c := k7c3) (by decide +kernel) rfl rfl rfl (by decide +kernel)
set_option maxRecDepth 65536 in
theorem w_c3 : (Jvm.Cond.code ({ cls := "java/lang/Object", name := "<init>", desc := "()V" } : Jvm.MethodName) object_method_1_code (1 : Nat) (Option.none : Option Jvm.ClassFile.FieldType)).before args0 about1 = true := code_word (m := ⟨0, 0⟩) (meth := k0m0) (c := k0c0) (by decide +kernel) rfl rfl rfl (by decide +kernel)
set_option maxRecDepth 65536 in
theorem w_c4 : (Jvm.Cond.code ({ cls := "java/lang/StringUTF16", name := "compress", desc := "([CII)[B" } : Jvm.MethodName) jdk_52_method_16_code (6 : Nat) (Option.some (Jvm.ClassFile.FieldType.array Jvm.ClassFile.FieldType.byte))).before args0 about1 = true := code_word (m := ⟨8, 2⟩) (meth := k8m2) (c := k8c2) (by decide +kernel) rfl rfl rfl (by decide +kernel)
set_option maxRecDepth 65536 in
theorem w_c5 : (Jvm.Cond.code ({ cls := "java/lang/StringUTF16", name := "compress", desc := "([CI[BII)I" } : Jvm.MethodName) jdk_52_method_21_code (7 : Nat) (Option.some Jvm.ClassFile.FieldType.int)).before args0 about1 = true := code_word (m := ⟨8, 3⟩) (meth := k8m3) (c := k8c3) (by decide +kernel) rfl rfl rfl (by decide +kernel)
set_option maxRecDepth 65536 in
theorem w_c6 : (Jvm.Cond.code ({ cls := "java/lang/StringUTF16", name := "coderFromArrayLen", desc := "([BI)B" } : Jvm.MethodName) jdk_52_method_15_code (2 : Nat) (Option.some Jvm.ClassFile.FieldType.byte)).before args0 about1 = true := code_word (m := ⟨8, 1⟩) (meth := k8m1) (c := k8c1) (by decide +kernel) rfl rfl rfl (by decide +kernel)
set_option maxRecDepth 65536 in
theorem w_c7 : (Jvm.Cond.code ({ cls := "com/example/token_relay/tokenrelay/Member", name := "<init>", desc := "(ILjava/lang/String;II)V" } : Jvm.MethodName) prog_8_method_1_code (5 : Nat) (Option.none : Option Jvm.ClassFile.FieldType)).before args0 about1 = true := code_word (m := ⟨9, 0⟩) (meth := k9m0) (c := k9c0) (by decide +kernel) rfl rfl rfl (by decide +kernel)
set_option maxRecDepth 65536 in
theorem w_c8 : (Jvm.Cond.code ({ cls := "java/util/Objects", name := "requireNonNull", desc := "(Ljava/lang/Object;Ljava/lang/String;)Ljava/lang/Object;" } : Jvm.MethodName) jdk_31_method_11_code (2 : Nat) (Option.some (Jvm.ClassFile.FieldType.object "java/lang/Object"))).before args0 about1 = true := code_word (m := ⟨10, 1⟩) (meth := k10m1) (c := k10c1) (by decide +kernel) rfl rfl rfl (by decide +kernel)
set_option maxRecDepth 65536 in
theorem w_c9 : (Jvm.Cond.code ({ cls := "com/example/token_relay/tokenrelay/Member", name := "equals", desc := "(Ljava/lang/Object;)Z" } : Jvm.MethodName) prog_8_method_8_code (3 : Nat) (Option.some Jvm.ClassFile.FieldType.boolean)).before args0 about1 = true := code_word (m := ⟨9, 1⟩) (meth := k9m1) (c := k9c1) (by decide +kernel) rfl rfl rfl (by decide +kernel)
set_option maxRecDepth 65536 in
theorem w_c10 : (Jvm.Cond.code ({ cls := "java/lang/String", name := "equals", desc := "(Ljava/lang/Object;)Z" } : Jvm.MethodName) jdk_42_method_66_code (3 : Nat) (Option.some Jvm.ClassFile.FieldType.boolean)).before args0 about1 = true := code_word (m := ⟨7, 2⟩) (meth := k7m2) (c := k7c2) (by decide +kernel) rfl rfl rfl (by decide +kernel)
set_option maxRecDepth 65536 in
theorem w_c11 : (Jvm.Cond.code ({ cls := "java/lang/StringLatin1", name := "equals", desc := "([B[B)Z" } : Jvm.MethodName) jdk_43_method_13_code (3 : Nat) (Option.some Jvm.ClassFile.FieldType.boolean)).before args0 about1 = true := code_word (m := ⟨11, 1⟩) (meth := k11m1) (c := k11c1) (by decide +kernel) rfl rfl rfl (by decide +kernel)
def codes1 : List Jvm.Cond := [Jvm.Cond.code x code maxLocals ret, Jvm.Cond.code ({ cls := "java/lang/String", name := "<init>", desc := "([C)V" } : Jvm.MethodName) jdk_42_method_3_code (2 : Nat) (Option.none : Option Jvm.ClassFile.FieldType), Jvm.Cond.code ({ cls := "java/lang/String", name := "<init>", desc := "([CIILjava/lang/Void;)V" } : Jvm.MethodName) jdk_42_method_149_code (6 : Nat) (Option.none : Option Jvm.ClassFile.FieldType), Jvm.Cond.code ({ cls := "java/lang/Object", name := "<init>", desc := "()V" } : Jvm.MethodName) object_method_1_code (1 : Nat) (Option.none : Option Jvm.ClassFile.FieldType), Jvm.Cond.code ({ cls := "java/lang/StringUTF16", name := "compress", desc := "([CII)[B" } : Jvm.MethodName) jdk_52_method_16_code (6 : Nat) (Option.some (Jvm.ClassFile.FieldType.array Jvm.ClassFile.FieldType.byte)), Jvm.Cond.code ({ cls := "java/lang/StringUTF16", name := "compress", desc := "([CI[BII)I" } : Jvm.MethodName) jdk_52_method_21_code (7 : Nat) (Option.some Jvm.ClassFile.FieldType.int), Jvm.Cond.code ({ cls := "java/lang/StringUTF16", name := "coderFromArrayLen", desc := "([BI)B" } : Jvm.MethodName) jdk_52_method_15_code (2 : Nat) (Option.some Jvm.ClassFile.FieldType.byte), Jvm.Cond.code ({ cls := "com/example/token_relay/tokenrelay/Member", name := "<init>", desc := "(ILjava/lang/String;II)V" } : Jvm.MethodName) prog_8_method_1_code (5 : Nat) (Option.none : Option Jvm.ClassFile.FieldType), Jvm.Cond.code ({ cls := "java/util/Objects", name := "requireNonNull", desc := "(Ljava/lang/Object;Ljava/lang/String;)Ljava/lang/Object;" } : Jvm.MethodName) jdk_31_method_11_code (2 : Nat) (Option.some (Jvm.ClassFile.FieldType.object "java/lang/Object")), Jvm.Cond.code ({ cls := "com/example/token_relay/tokenrelay/Member", name := "equals", desc := "(Ljava/lang/Object;)Z" } : Jvm.MethodName) prog_8_method_8_code (3 : Nat) (Option.some Jvm.ClassFile.FieldType.boolean), Jvm.Cond.code ({ cls := "java/lang/String", name := "equals", desc := "(Ljava/lang/Object;)Z" } : Jvm.MethodName) jdk_42_method_66_code (3 : Nat) (Option.some Jvm.ClassFile.FieldType.boolean), Jvm.Cond.code ({ cls := "java/lang/StringLatin1", name := "equals", desc := "([B[B)Z" } : Jvm.MethodName) jdk_43_method_13_code (3 : Nat) (Option.some Jvm.ClassFile.FieldType.boolean)]
set_option maxRecDepth 65536 in
theorem codes_eq : words1.filter isCode = codes1 := rfl
theorem w_codes : ∀ c ∈ words1.filter isCode, c.before args0 about1 = true := by
  rw [codes_eq]
  intro c hc
  simp only [codes1, List.mem_cons, List.not_mem_nil, or_false] at hc
  rcases hc with rfl | rfl | rfl | rfl | rfl | rfl | rfl | rfl | rfl | rfl | rfl | rfl
  · exact w_c0
  · exact w_c1
  · exact w_c2
  · exact w_c3
  · exact w_c4
  · exact w_c5
  · exact w_c6
  · exact w_c7
  · exact w_c8
  · exact w_c9
  · exact w_c10
  · exact w_c11
set_option maxRecDepth 65536 in
theorem w_t1 : (words1.take 24).all (fun c => isCode c || c.before args0 about1) = true := by decide +kernel
set_option maxRecDepth 65536 in
theorem w_t2 : ((words1.drop 24).take 24).all (fun c => isCode c || c.before args0 about1) = true := by decide +kernel
set_option maxRecDepth 65536 in
theorem w_t3 : (((words1.drop 24).drop 24).take 24).all (fun c => isCode c || c.before args0 about1) = true := by decide +kernel
set_option maxRecDepth 65536 in
theorem w_t4 : (((words1.drop 24).drop 24).drop 24).all (fun c => isCode c || c.before args0 about1) = true := by decide +kernel
theorem w_tables : (allAtoms (Jvm.Cond.code x code maxLocals ret :: tables_1)).before args0 about1 = true := by
  rw [allAtoms_all]
  show words1.all (fun c => c.before args0 about1) = true
  refine all_split ?_ w_codes
  rw [← List.take_append_drop 24 words1, List.all_append, w_t1, ← List.take_append_drop 24 (words1.drop 24), List.all_append, w_t2, ← List.take_append_drop 24 ((words1.drop 24).drop 24), List.all_append, w_t3, w_t4]
  rfl
set_option maxRecDepth 65536 in
theorem w_rest : rest_1_c.before args0 about1 = true := by decide +kernel
set_option maxRecDepth 65536 in
theorem w_case : (Jvm.Cond.and given_1 narrow_1).before args0 about1 = true := by decide +kernel
theorem w_applies : (headSpec (Jvm.Cond.code x code maxLocals ret :: tables_1) room_1).applies x e0.platform about1 = true :=
  (Spec.applies_iff w_frames).mpr ⟨w_running, w_runnable, w_alone, w_named, w_hears, w_ripe, w_room, w_tables⟩
theorem atStart : AtStart classFile x code maxLocals ret World_1 tables_1 room_1 Calls_1 rest_1 Pre_1 launch0 p0 e0 about1 theMethod args0 below0 :=
  ⟨lists_1, trivial, launch0.admits_env _ _ _, launch0.least_env, fairChoices_fair.cas, fairChoices_fair.clock, w_frames, w_args, w_heap, w_applies, trivial, w_rest, w_case⟩
end start1
theorem witness_1 : WitnessClaimed_1 := ⟨start1.p0, start1.e0, start1.about1, start1.theMethod, start1.args0, start1.below0, start1.atStart⟩
end Jvm.Pilot.@@N@@
