import JvmDerived
import JvmDerived.Pilot.@@N@@Statement
import JvmDerived.Pilot.@@N@@Code
set_option linter.unusedVariables false
set_option linter.unusedSimpArgs false
namespace Jvm.OwnKit
open Jvm Jvm.ClassFile Sem Op Lib Jvm.Free Jvm.Stand Jvm.LawKit Jvm.RoadKit
section Walk
variable {p : Program} {l : Launch} {e : Env} {R : Room} {s : State} {m : MethodId} {args : Array Value} {below : List Frame} {meth : Method} {c : Code} {T T' : State} {locs : List Loc} {cells slots k n : Nat} {Q : Option Value → Heap → List Loc → Prop} {P : Option Value → State → List Loc → Prop} {g g' : JFrame}
/-- from T with the frame g on top the run comes home: it returns, and Q says of what it returned, the heap and the places written -/
def Home {p : Program} {e : Env} {below : List Frame} {P : Option Value → State → List Loc → Prop} (T : State) (g : JFrame) : Prop :=
  ∃ U o, Steps p.tables e below (T.setTop g) U ∧ U.status = .running ∧ Ended U below o ∧ ∃ v L, o = .returned v ∧ P v U L
/-- the end of a walk that has booked no text -/
abbrev End (s : State) (Q : Option Value → Heap → List Loc → Prop) (k n : Nat) : Option Value → State → List Loc → Prop := fun v U L => Q v U.heap L ∧ FrameEnd s (.returned v) U L k n
theorem Home.cut {p : Program} {e : Env} {below : List Frame} {P : Option Value → State → List Loc → Prop} {T : State} {g : JFrame} {C : (Option Value → State → List Loc → Prop) → Prop} (h1 : ∀ E, C E → @Home p e below E T g) (h2 : C P) : @Home p e below P T g := h1 P h2
theorem Home.go (st : ∀ t, Steps p.tables e below (T'.setTop g') t → Steps p.tables e below (T.setTop g) t) (H : @Home p e below P T' g') : @Home p e below P T g := by
  obtain ⟨U, o, h1, h2⟩ := H
  exact ⟨U, o, st _ h1, h2⟩
section Cps
variable {S : State → Prop} {S2 : State → Heap → Prop} {W E A D M : Heap → Prop} {A2 : Heap → ClassId → Prop} {O : ClassId → Prop} {h : Heap}
theorem Home.st (q : ∃ T', S T' ∧ T'.heap = h ∧ ∀ t, Steps p.tables e below (T'.setTop g') t → Steps p.tables e below (T.setTop g) t) (H : ∀ T', S T' → T'.heap = h → @Home p e below P T' g') : @Home p e below P T g := by
  obtain ⟨T', x, y, st⟩ := q
  exact Home.go st (H T' x y)
theorem Home.wr (q : ∃ T' h', S T' ∧ T'.heap = h' ∧ W h' ∧ ∀ t, Steps p.tables e below (T'.setTop g') t → Steps p.tables e below (T.setTop g) t) (H : ∀ T' h', S T' → T'.heap = h' → W h' → @Home p e below P T' g') : @Home p e below P T g := by
  obtain ⟨T', h', x, y, z, st⟩ := q
  exact Home.go st (H T' h' x y z)
theorem Home.nw {B : Addr → Prop} {A3 D3 : Heap → Addr → Prop} {ga : Addr → JFrame} (q : ∃ T' h' b, B b ∧ S T' ∧ T'.heap = h' ∧ E h' ∧ A3 h' b ∧ D3 h' b ∧ ∀ t, Steps p.tables e below (T'.setTop (ga b)) t → Steps p.tables e below (T.setTop g) t) (H : ∀ T' h' b, B b → S T' → T'.heap = h' → E h' → A3 h' b → D3 h' b → @Home p e below P T' (ga b)) : @Home p e below P T g := by
  obtain ⟨T', h', b, i, x, y, z, u, v, st⟩ := q
  exact Home.go st (H T' h' b i x y z u v)
theorem Home.na {B : Addr → Prop} {A3 : Heap → ClassId → Addr → Prop} {ga : Addr → JFrame} (q : ∃ T' h' c' b, B b ∧ S T' ∧ T'.heap = h' ∧ E h' ∧ A3 h' c' b ∧ ∀ t, Steps p.tables e below (T'.setTop (ga b)) t → Steps p.tables e below (T.setTop g) t) (H : ∀ T' h' c' b, B b → S T' → T'.heap = h' → E h' → A3 h' c' b → @Home p e below P T' (ga b)) : @Home p e below P T g := by
  obtain ⟨T', h', c', b, i, x, y, z, u, st⟩ := q
  exact Home.go st (H T' h' c' b i x y z u)
theorem Home.cp {S4 : State → List Loc → Prop} {F4 : List Loc → Prop} {K4 V4 : Heap → Prop} (q : ∃ T' h' L, S4 T' L ∧ T'.heap = h' ∧ F4 L ∧ K4 h' ∧ V4 h' ∧ ∀ t, Steps p.tables e below (T'.setTop g') t → Steps p.tables e below (T.setTop g) t) (H : ∀ T' h' L, S4 T' L → T'.heap = h' → F4 L → K4 h' → V4 h' → @Home p e below P T' g') : @Home p e below P T g := by
  obtain ⟨T', h', L, i, x, y, z, u, st⟩ := q
  exact Home.go st (H T' h' L i x y z u)
theorem Home.call {S3 : State → List Loc → Prop} {Q3 : Option Value → State → List Loc → Prop} {gv : Option Value → JFrame} (q : ∃ v T' L, S3 T' L ∧ Q3 v T' L ∧ ∀ t, Steps p.tables e below (T'.setTop (gv v)) t → Steps p.tables e below (T.setTop g) t) (H : ∀ v T' L, S3 T' L → Q3 v T' L → @Home p e below P T' (gv v)) : @Home p e below P T g := by
  obtain ⟨v, T', L, x, y, st⟩ := q
  exact Home.go st (H v T' L x y)
end Cps
theorem hW0 {m : MethodId} {pc n : Nat} {L : Array Slot} {S : List Value} : 2 * (mkF m pc L S).monitorRoom + n ≤ n := by show 2 * 0 + n ≤ n; omega
theorem Home.enter (q : g = g') (H : @Home p e below P T g') : @Home p e below P T g := by
  subst q; exact H
theorem Home.retN (X : Stand p l e R s m args below meth c T locs cells slots) (hx : p.tables.exec = Jvm.exec) (hlk : meth.locks = false) {pc : Nat} {Ls : Array Slot} {z : Int32} {t : FieldType} {rest : List Value} (hret : meth.sig.returnType = some t) (ht : t = .boolean ∨ t = .byte ∨ t = .char ∨ t = .short)
    (hd : decode c.code pc = .ok (.ireturn, 1)) (hQ : Q (some (.int (nar t z))) T.heap locs) (hk : cells ≤ k) (hn : slots ≤ n) : @Home p e below (End s Q k n) T (mkF m pc Ls (.int z :: rest)) := by
  obtain ⟨fs, hr, hrun, hended, hW, hsame⟩ := X.leave (v := some (.int (nar t z))) (fun h => by rw [hret] at h; cases h) hlk
  exact ⟨_, _, Jvm.RoadKit.retN X hx hret ht hd hr, hrun, hended, _, _, rfl, hQ, ⟨_, rfl⟩, hW, hsame.mono hk hn⟩
theorem Home.ret (X : Stand p l e R s m args below meth c T locs cells slots) (hx : p.tables.exec = Jvm.exec) (hlk : meth.locks = false) {pc : Nat} {Ls : Array Slot} {w : Value} {t : FieldType} {i : Instr} {rest : List Value} (hret : meth.sig.returnType = some t) (hnn : narrow t w = w)
    (hi : (i = .ireturn ∧ (t = .int ∨ t = .boolean ∨ t = .byte ∨ t = .char ∨ t = .short) ∧ ∃ z, w = .int z) ∨ (i = .lreturn ∧ t = .long ∧ ∃ z, w = .long z) ∨ (i = .dreturn ∧ t = .double ∧ ∃ z, w = .double z) ∨ (i = .freturn ∧ t = .float ∧ ∃ z, w = .float z) ∨ (i = .areturn ∧ t.isReference = true ∧ w.isRef = true))
    (hd : decode c.code pc = .ok (i, 1)) (hQ : Q (some w) T.heap locs) (hk : cells ≤ k) (hn : slots ≤ n) : @Home p e below (End s Q k n) T (mkF m pc Ls (w :: rest)) := by
  obtain ⟨fs, hr, hrun, hended, hW, hsame⟩ := X.leave (v := some w) (fun h => by rw [hret] at h; cases h) hlk
  exact ⟨_, _, retOut X hx hret hnn hi hd hr, hrun, hended, _, _, rfl, hQ, ⟨_, rfl⟩, hW, hsame.mono hk hn⟩
theorem Home.retI (X : Stand p l e R s m args below meth c T locs cells slots) (hx : p.tables.exec = Jvm.exec) (hlk : meth.locks = false) {pc : Nat} {Ls : Array Slot} {z : Int32} {rest : List Value} (hret : meth.sig.returnType = some .int)
    (hd : decode c.code pc = .ok (.ireturn, 1)) (hQ : Q (some (.int z)) T.heap locs) (hk : cells ≤ k) (hn : slots ≤ n) : @Home p e below (End s Q k n) T (mkF m pc Ls (.int z :: rest)) :=
  Home.ret X hx hlk hret rfl (Or.inl ⟨rfl, Or.inl rfl, z, rfl⟩) hd hQ hk hn
theorem own_narrow_ref {t : FieldType} {w : Value} (hw : w.isRef = true) : narrow t w = w := by
  rcases ref_cases hw with rfl | ⟨a, rfl⟩ <;> cases t <;> rfl
theorem Home.retR (X : Stand p l e R s m args below meth c T locs cells slots) (hx : p.tables.exec = Jvm.exec) (hlk : meth.locks = false) {pc : Nat} {Ls : Array Slot} {w : Value} {t : FieldType} {rest : List Value} (hret : meth.sig.returnType = some t) (ht : t.isReference = true) (hw : w.isRef = true)
    (hd : decode c.code pc = .ok (.areturn, 1)) (hQ : Q (some w) T.heap locs) (hk : cells ≤ k) (hn : slots ≤ n) : @Home p e below (End s Q k n) T (mkF m pc Ls (w :: rest)) :=
  Home.ret X hx hlk hret (own_narrow_ref hw) (Or.inr (Or.inr (Or.inr (Or.inr ⟨rfl, ht, hw⟩)))) hd hQ hk hn
theorem Home.ret0 (X : Stand p l e R s m args below meth c T locs cells slots) (hx : p.tables.exec = Jvm.exec) (hlk : meth.locks = false) {pc : Nat} {Ls : Array Slot} (hret : meth.sig.returnType = none)
    (hd : decode c.code pc = .ok (.return_, 1)) (hQ : Q none T.heap locs) (hk : cells ≤ k) (hn : slots ≤ n) : @Home p e below (End s Q k n) T (mkF m pc Ls []) := by
  obtain ⟨fs, hr, hrun, hended, hW, hsame⟩ := X.leave (v := none) (fun _ => rfl) hlk
  exact ⟨_, _, X.returnOut hx hret hd hr, hrun, hended, _, _, rfl, hQ, ⟨_, rfl⟩, hW, hsame.mono hk hn⟩
end Walk
section New
variable {p : Program} {l : Launch} {e : Env} {R : Room} {s : State} {m : MethodId} {args : Array Value} {below : List Frame} {meth : Method} {c : Code} {T : State} {locs : List Loc} {cells slots : Nat} {Z : State} {a0 : Array Value} {h : Heap}
theorem own_newO (X : Stand p l e R s m args below meth c T locs cells slots) (hx : p.tables.exec = Jvm.exec) (hZ : Z.Warmed39 s.vm) {own C : String} {index n : Nat} (hown : s.vm.findClass own = some m.cls) (w : (Cond.classLink own index C).before a0 Z = true) (wi : (Cond.instantiable C n).before a0 Z = true) (wz : (Cond.initialized C).before a0 Z = true) (eT : T.heap = h)
    {g : JFrame} (hg : g.method = m) (hd : decode c.code g.pc = .ok (.new index, 3)) (hc : cells + 1 ≤ R.cells) (hl : slots + n ≤ R.slots) :
    ∃ T' h' b, b = h.size ∧ Stand p l e R s m args below meth c T' locs (cells + 1) (slots + n) ∧ T'.heap = h' ∧ Ext h h' ∧ Exa Z h' b C ∧ (∀ {O nm d : String} {ty : FieldType}, Laid Z a0 C O nm d → parseFieldDescriptor d = some ty → Fld Z h' b O nm d (defaultValue ty)) ∧
      ∀ target, Steps p.tables e below (T'.setTop { g with pc := g.pc + 3, stack := .ref b :: g.stack }) target → Steps p.tables e below (T.setTop g) target := by
  obtain ⟨T', h', X', e', E', A', D', -, st⟩ := newO X hx hZ hown w wi wz eT hg hd hc hl
  exact ⟨T', h', _, rfl, X', e', E', A', D', st⟩
theorem own_newP (X : Stand p l e R s m args below meth c T locs cells slots) (hx : p.tables.exec = Jvm.exec) (hZ : Z.Warmed39 s.vm) {aty : ArrayType} (w : (Cond.arrayClass (newarray.typeOf aty)).before a0 Z = true) (eT : T.heap = h) {g : JFrame} (hg : g.method = m) (hd : decode c.code g.pc = .ok (.newarray aty, 2)) {n : Int32} {rest : List Value} (hs : g.stack = .int n :: rest)
    (hn : ¬ n < 0) {cap : Nat} (hcap : n.toNatClampNeg ≤ cap) (hb : cap * 8 ≤ 536870912) (hc : cells + 1 ≤ R.cells) (hl : slots + cap ≤ R.slots) :
    ∃ T' h' cA b, b = h.size ∧ Stand p l e R s m args below meth c T' locs (cells + 1) (slots + cap) ∧ T'.heap = h' ∧ Ext h h' ∧ Arr Z h' b (newA cA (newarray.typeOf aty) n) (newarray.typeOf aty) ∧
      ∀ target, Steps p.tables e below (T'.setTop { g with pc := g.pc + 2, stack := .ref b :: rest }) target → Steps p.tables e below (T.setTop g) target := by
  obtain ⟨T', h', cA, X', e', E', A', st⟩ := newP X hx hZ w eT hg hd hs hn hcap hb hc hl
  exact ⟨T', h', cA, _, rfl, X', e', E', A', st⟩
theorem own_newPE (X : Stand p l e R s m args below meth c T locs cells slots) (hx : p.tables.exec = Jvm.exec) (hZ : Z.Warmed39 s.vm) {aty : ArrayType} (w : (Cond.arrayClass (newarray.typeOf aty)).before a0 Z = true) (eT : T.heap = h) {g : JFrame} (hg : g.method = m) (hd : decode c.code g.pc = .ok (.newarray aty, 2)) {n : Int32} {rest : List Value} (hs : g.stack = .int n :: rest)
    (hn : ¬ n < 0) {cap : Nat} (hcap : n.toNatClampNeg ≤ cap) (hb : cap * 8 ≤ 536870912) (hc : cells + 1 ≤ R.cells) (hl : slots + cap ≤ R.slots) (had : "[" ++ (newarray.typeOf aty).toString = "[B" := by rfl) :
    ∃ T' h' cA b, b = h.size ∧ Stand p l e R s m args below meth c T' locs (cells + 1) (slots + cap) ∧ T'.heap = h' ∧ Ext h h' ∧ (Arr Z h' b (newA cA (newarray.typeOf aty) n) (newarray.typeOf aty) ∧ Exa Z h' b "[B") ∧
      ∀ target, Steps p.tables e below (T'.setTop { g with pc := g.pc + 2, stack := .ref b :: rest }) target → Steps p.tables e below (T.setTop g) target := by
  obtain ⟨T', h', cA, X', e', E', A', Ex, st⟩ := newPE X hx hZ w eT hg hd hs hn hcap hb hc hl had
  exact ⟨T', h', cA, _, rfl, X', e', E', ⟨A', Ex⟩, st⟩
end New
section Run
variable {p : Program} {l : Launch} {e : Env} {R : Room} {s : State} {m : MethodId} {args : Array Value} {below : List Frame} {meth : Method} {c : Code} {T : State} {locs : List Loc} {cells slots : Nat} {target : State}
def un32 (f : Int32 → Value) (S : List Value) : Option (List Value) := match S with | .int x :: r => some (f x :: r) | _ => none
def un64 (f : Int64 → Value) (S : List Value) : Option (List Value) := match S with | .long x :: r => some (f x :: r) | _ => none
def bi32 (f : Int32 → Int32 → Int32) (S : List Value) : Option (List Value) := match S with | .int y :: .int x :: r => some (.int (f x y) :: r) | _ => none
def bi64 (f : Int64 → Int64 → Value) (S : List Value) : Option (List Value) := match S with | .long y :: .long x :: r => some (f x y :: r) | _ => none
def sh64 (f : Int64 → Int32 → Int64) (S : List Value) : Option (List Value) := match S with | .int y :: .long x :: r => some (.long (f x y) :: r) | _ => none
/-- the stack behind an instruction that reads and writes the stack alone -/
def stk (i : Instr) (S : List Value) : Option (List Value) := match i with
  | .iconst k => some (.int (Int32.ofInt k) :: S)
  | .bipush k => some (.int (Int8.ofInt k).toInt32 :: S)
  | .sipush k => some (.int (Int16.ofInt k).toInt32 :: S)
  | .lconst k => some (.long (Int64.ofNat k) :: S)
  | .aconst_null => some (.null :: S)
  | .iadd => bi32 (· + ·) S
  | .isub => bi32 (· - ·) S
  | .imul => bi32 (· * ·) S
  | .iand => bi32 (· &&& ·) S
  | .ior => bi32 (· ||| ·) S
  | .ixor => bi32 (· ^^^ ·) S
  | .ishl => bi32 (fun x y => x <<< (y &&& 31)) S
  | .ishr => bi32 (fun x y => x >>> (y &&& 31)) S
  | .iushr => bi32 (fun x y => (x.toUInt32 >>> (y &&& 31).toUInt32).toInt32) S
  | .ladd => bi64 (fun x y => .long (x + y)) S
  | .lsub => bi64 (fun x y => .long (x - y)) S
  | .lmul => bi64 (fun x y => .long (x * y)) S
  | .land => bi64 (fun x y => .long (x &&& y)) S
  | .lor => bi64 (fun x y => .long (x ||| y)) S
  | .lxor => bi64 (fun x y => .long (x ^^^ y)) S
  | .lcmp => bi64 (fun x y => .int (if x > y then 1 else if x = y then 0 else -1)) S
  | .lshl => sh64 (fun x y => x <<< (y &&& 0x3f).toInt64) S
  | .lshr => sh64 (fun x y => x >>> (y &&& 0x3f).toInt64) S
  | .lushr => sh64 (fun x y => (x.toUInt64 >>> (y &&& 0x3f).toInt64.toUInt64).toInt64) S
  | .ineg => un32 (fun x => .int (-x)) S
  | .lneg => un64 (fun x => .long (-x)) S
  | .i2l => un32 (fun x => .long x.toInt64) S
  | .l2i => un64 (fun x => .int x.toInt32) S
  | .i2b => un32 (fun x => .int x.toInt8.toInt32) S
  | .i2c => un32 (fun x => .int x.toUInt32.toUInt16.toUInt32.toInt32) S
  | .i2s => un32 (fun x => .int x.toInt16.toInt32) S
  | .dup => match S with | x :: r => if x.category = 1 then some (x :: x :: r) else none | _ => none
  | .pop => match S with | x :: r => if x.category = 1 then some r else none | _ => none
  | .dup_x1 => match S with | x :: y :: r => if x.category = 1 ∧ y.category = 1 then some (x :: y :: x :: r) else none | _ => none
  | _ => none
theorem un32_s {f : Int32 → Value} {S S' : List Value} (h : un32 f S = some S') : ∃ x r, S = .int x :: r ∧ S' = f x :: r := by
  unfold un32 at h; split at h
  · cases h; exact ⟨_, _, rfl, rfl⟩
  · cases h
theorem un64_s {f : Int64 → Value} {S S' : List Value} (h : un64 f S = some S') : ∃ x r, S = .long x :: r ∧ S' = f x :: r := by
  unfold un64 at h; split at h
  · cases h; exact ⟨_, _, rfl, rfl⟩
  · cases h
theorem bi32_s {f : Int32 → Int32 → Int32} {S S' : List Value} (h : bi32 f S = some S') : ∃ x y r, S = .int y :: .int x :: r ∧ S' = .int (f x y) :: r := by
  unfold bi32 at h; split at h
  · cases h; exact ⟨_, _, _, rfl, rfl⟩
  · cases h
theorem bi64_s {f : Int64 → Int64 → Value} {S S' : List Value} (h : bi64 f S = some S') : ∃ x y r, S = .long y :: .long x :: r ∧ S' = f x y :: r := by
  unfold bi64 at h; split at h
  · cases h; exact ⟨_, _, _, rfl, rfl⟩
  · cases h
theorem sh64_s {f : Int64 → Int32 → Int64} {S S' : List Value} (h : sh64 f S = some S') : ∃ x y r, S = .int y :: .long x :: r ∧ S' = .long (f x y) :: r := by
  unfold sh64 at h; split at h
  · cases h; exact ⟨_, _, _, rfl, rfl⟩
  · cases h
def len1 (i : Instr) : Nat := match i with | .bipush _ => 2 | .sipush _ => 3 | _ => 1
theorem stk_s (X : Stand p l e R s m args below meth c T locs cells slots) (hx : p.tables.exec = Jvm.exec) {i : Instr} {n pc : Nat} {L : Array Slot} {S S' : List Value} (hd : decode c.code pc = .ok (i, n)) (hn : n = len1 i) (h : stk i S = some S')
    (H : Steps p.tables e below (T.setTop (mkF m (pc + n) L S')) target) : Steps p.tables e below (T.setTop (mkF m pc L S)) target := by
  subst hn
  unfold stk at h
  split at h <;> first
    | (cases h; first | exact XS.iconst X.here hx rfl hd H | exact XS.bipush X.here hx rfl hd H | exact XS.sipush X.here hx rfl hd H | exact XS.lconst X.here hx rfl hd H | exact XS.aconstNull X.here hx rfl hd H)
    | (obtain ⟨x, y, r, rfl, rfl⟩ := bi32_s h; first | exact XS.iadd X.here hx rfl hd rfl H | exact XS.isub X.here hx rfl hd rfl H | exact XS.imul X.here hx rfl hd rfl H | exact XS.iand X.here hx rfl hd rfl H | exact XS.ior X.here hx rfl hd rfl H | exact XS.ixor X.here hx rfl hd rfl H | exact XS.ishl X.here hx rfl hd rfl H | exact XS.ishr X.here hx rfl hd rfl H | exact XS.iushr X.here hx rfl hd rfl H)
    | (obtain ⟨x, y, r, rfl, rfl⟩ := bi64_s h; first | exact XS.ladd X.here hx rfl hd rfl H | exact XS.lsub X.here hx rfl hd rfl H | exact XS.lmul X.here hx rfl hd rfl H | exact XS.land X.here hx rfl hd rfl H | exact XS.lor X.here hx rfl hd rfl H | exact XS.lxor X.here hx rfl hd rfl H | exact XS.lcmp X.here hx rfl hd rfl H)
    | (obtain ⟨x, y, r, rfl, rfl⟩ := sh64_s h; first | exact XS.lshl X.here hx rfl hd rfl H | exact XS.lshr X.here hx rfl hd rfl H | exact XS.lushr X.here hx rfl hd rfl H)
    | (obtain ⟨x, r, rfl, rfl⟩ := un32_s h; first | exact XS.ineg X.here hx rfl hd rfl H | exact XS.i2l X.here hx rfl hd rfl H | exact XS.i2b X.here hx rfl hd rfl H | exact XS.i2c X.here hx rfl hd rfl H | exact XS.i2s X.here hx rfl hd rfl H)
    | (obtain ⟨x, r, rfl, rfl⟩ := un64_s h; first | exact XS.lneg X.here hx rfl hd rfl H | exact XS.l2i X.here hx rfl hd rfl H)
    | (split at h <;> (try split at h) <;> first | (cases h; done) | (rename_i q; cases h; first | exact XS.dup X.here hx rfl hd rfl q H | exact XS.pop X.here hx rfl hd rfl q H | exact XS.dupX1 X.here hx rfl hd rfl q.1 q.2 H))
    | cases h
def ldI (L : Array Slot) (S : List Value) (k : Nat) : Option (Array Slot × List Value) := match L[k]? with | some (.val (.int v)) => some (L, .int v :: S) | _ => none
def ldJ (L : Array Slot) (S : List Value) (k : Nat) : Option (Array Slot × List Value) := match L[k]? with | some (.val (.long v)) => some (L, .long v :: S) | _ => none
def ldA (L : Array Slot) (S : List Value) (k : Nat) : Option (Array Slot × List Value) := match L[k]? with | some (.val v) => if v.isRef = true then some (L, v :: S) else none | _ => none
def stI1 (L : Array Slot) (S : List Value) (k : Nat) : Option (Array Slot × List Value) := match S with | .int x :: r => (storeLocals L k (.int x)).map fun l' => (l', r) | _ => none
def stJ1 (L : Array Slot) (S : List Value) (k : Nat) : Option (Array Slot × List Value) := match S with | .long x :: r => (storeLocals L k (.long x)).map fun l' => (l', r) | _ => none
def stA1 (L : Array Slot) (S : List Value) (k : Nat) : Option (Array Slot × List Value) := match S with | x :: r => if x.isRef = true then (storeLocals L k x).map fun l' => (l', r) else none | _ => none
/-- what an instruction does to pc, locals and stack; nothing else is touched -/
def run1 (i : Instr) (n pc : Nat) (L : Array Slot) (S : List Value) : Option (Nat × Array Slot × List Value) := match i with
  | .iload_n k => if n = 1 then (ldI L S k.val).map (pc + n, ·) else none
  | .iload k => if n = 2 then (ldI L S k).map (pc + n, ·) else none
  | .lload_n k => if n = 1 then (ldJ L S k.val).map (pc + n, ·) else none
  | .lload k => if n = 2 then (ldJ L S k).map (pc + n, ·) else none
  | .aload_n k => if n = 1 then (ldA L S k.val).map (pc + n, ·) else none
  | .aload k => if n = 2 then (ldA L S k).map (pc + n, ·) else none
  | .istore_n k => if n = 1 then (stI1 L S k.val).map (pc + n, ·) else none
  | .istore k => if n = 2 then (stI1 L S k).map (pc + n, ·) else none
  | .lstore_n k => if n = 1 then (stJ1 L S k.val).map (pc + n, ·) else none
  | .lstore k => if n = 2 then (stJ1 L S k).map (pc + n, ·) else none
  | .astore_n k => if n = 1 then (stA1 L S k.val).map (pc + n, ·) else none
  | .astore k => if n = 2 then (stA1 L S k).map (pc + n, ·) else none
  | .iinc k cst => if n = 3 then (match L[k]? with | some (.val (.int x)) => (storeLocals L k (.int (x + Int32.ofInt cst))).map fun l' => (pc + n, l', S) | _ => none) else none
  | .goto o => if n = 3 then (if 0 ≤ (pc : Int) + o then some (((pc : Int) + o).toNat, L, S) else none) else none
  | i => if n = len1 i then (stk i S).map fun S' => (pc + n, L, S') else none
theorem ldI_s {L L' : Array Slot} {S S' : List Value} {k : Nat} (h : ldI L S k = some (L', S')) : ∃ v, L[k]? = some (.val (.int v)) ∧ L' = L ∧ S' = .int v :: S := by
  unfold ldI at h; split at h
  · cases h; exact ⟨_, by assumption, rfl, rfl⟩
  · cases h
theorem ldJ_s {L L' : Array Slot} {S S' : List Value} {k : Nat} (h : ldJ L S k = some (L', S')) : ∃ v, L[k]? = some (.val (.long v)) ∧ L' = L ∧ S' = .long v :: S := by
  unfold ldJ at h; split at h
  · cases h; exact ⟨_, by assumption, rfl, rfl⟩
  · cases h
theorem ldA_s {L L' : Array Slot} {S S' : List Value} {k : Nat} (h : ldA L S k = some (L', S')) : ∃ v, L[k]? = some (.val v) ∧ v.isRef = true ∧ L' = L ∧ S' = v :: S := by
  unfold ldA at h; split at h
  · split at h
    · cases h; exact ⟨_, by assumption, by assumption, rfl, rfl⟩
    · cases h
  · cases h
theorem stI1_s {L L' : Array Slot} {S S' : List Value} {k : Nat} (h : stI1 L S k = some (L', S')) : ∃ x, S = .int x :: S' ∧ storeLocals L k (.int x) = some L' := by
  unfold stI1 at h; split at h
  · rw [Option.map_eq_some_iff] at h; obtain ⟨l', h1, h2⟩ := h; cases h2; exact ⟨_, rfl, h1⟩
  · cases h
theorem stJ1_s {L L' : Array Slot} {S S' : List Value} {k : Nat} (h : stJ1 L S k = some (L', S')) : ∃ x, S = .long x :: S' ∧ storeLocals L k (.long x) = some L' := by
  unfold stJ1 at h; split at h
  · rw [Option.map_eq_some_iff] at h; obtain ⟨l', h1, h2⟩ := h; cases h2; exact ⟨_, rfl, h1⟩
  · cases h
theorem stA1_s {L L' : Array Slot} {S S' : List Value} {k : Nat} (h : stA1 L S k = some (L', S')) : ∃ x, S = x :: S' ∧ x.isRef = true ∧ storeLocals L k x = some L' := by
  unfold stA1 at h; split at h
  · split at h
    · rw [Option.map_eq_some_iff] at h; obtain ⟨l', h1, h2⟩ := h; cases h2; exact ⟨_, rfl, by assumption, h1⟩
    · cases h
  · cases h
theorem map_s {α β : Type} {o : Option α} {f : α → β} {y : β} (h : o.map f = some y) : ∃ x, o = some x ∧ f x = y := Option.map_eq_some_iff.mp h
theorem run1_s (X : Stand p l e R s m args below meth c T locs cells slots) (hx : p.tables.exec = Jvm.exec) {i : Instr} {n pc pc' : Nat} {L L' : Array Slot} {S S' : List Value} (hd : decode c.code pc = .ok (i, n)) (h : run1 i n pc L S = some (pc', L', S'))
    (H : Steps p.tables e below (T.setTop (mkF m pc' L' S')) target) : Steps p.tables e below (T.setTop (mkF m pc L S)) target := by
  unfold run1 at h
  split at h <;> split at h <;> first
    | (cases h; done)
    | (rename_i hn; subst hn; obtain ⟨⟨L1, S1⟩, h1, h2⟩ := map_s h; cases h2; first
        | (obtain ⟨v, q1, rfl, rfl⟩ := ldI_s h1; first | exact XS.iloadN X.here hx rfl hd q1 H | exact XS.iload X.here hx rfl hd q1 H)
        | (obtain ⟨v, q1, rfl, rfl⟩ := ldJ_s h1; first | exact XS.lloadN X.here hx rfl hd q1 H | exact XS.lload X.here hx rfl hd q1 H)
        | (obtain ⟨v, q1, q2, rfl, rfl⟩ := ldA_s h1; first | exact XS.aloadN X.here hx rfl hd q1 q2 H | exact XS.aload X.here hx rfl hd q1 q2 H)
        | (obtain ⟨x, rfl, q⟩ := stI1_s h1; first | exact XS.istoreN X.here hx rfl hd rfl q H | exact XS.istore X.here hx rfl hd rfl q H)
        | (obtain ⟨x, rfl, q⟩ := stJ1_s h1; first | exact XS.lstoreN X.here hx rfl hd rfl q H | exact XS.lstore X.here hx rfl hd rfl q H)
        | (obtain ⟨x, rfl, q1, q⟩ := stA1_s h1; first | exact XS.astoreN X.here hx rfl hd rfl q1 q H | exact XS.astore X.here hx rfl hd rfl q1 q H))
    | (rename_i hn; subst hn; split at h <;> first
        | (cases h; done)
        | (rename_i q; obtain ⟨l', h1, h2⟩ := map_s h; cases h2; exact XS.iinc X.here hx rfl hd q h1 H)
        | (rename_i q; cases h; exact XS.goto X.here hx rfl (pc0 := pc) rfl hd q rfl H))
    | (rename_i hn; obtain ⟨S1, h1, h2⟩ := map_s h; cases h2; exact stk_s X hx hd hn h1 H)
def runs : List (Nat × Instr × Nat) → Nat → Array Slot → List Value → Option (Nat × Array Slot × List Value)
  | [], pc, L, S => some (pc, L, S)
  | (q, i, n) :: is, pc, L, S => if q = pc then (match run1 i n pc L S with | some (pc', L', S') => runs is pc' L' S' | none => none) else none
def decs (code : ByteArray) : List (Nat × Instr × Nat) → Prop
  | [] => True
  | (q, i, n) :: is => decode code q = .ok (i, n) ∧ decs code is
theorem runs_s (X : Stand p l e R s m args below meth c T locs cells slots) (hx : p.tables.exec = Jvm.exec) {pc' : Nat} {L' : Array Slot} {S' : List Value} (H : Steps p.tables e below (T.setTop (mkF m pc' L' S')) target) :
    ∀ (is : List (Nat × Instr × Nat)) (pc : Nat) (L : Array Slot) (S : List Value), decs c.code is → runs is pc L S = some (pc', L', S') → Steps p.tables e below (T.setTop (mkF m pc L S)) target
  | [], pc, L, S, _, h => by cases h; exact H
  | (q, i, n) :: is, pc, L, S, hd, h => by
    unfold runs at h
    split at h
    · rename_i e1; subst e1
      split at h
      · rename_i pc1 L1 S1 h1
        exact run1_s X hx hd.1 h1 (runs_s X hx H is pc1 L1 S1 hd.2 h)
      · cases h
    · cases h
variable {P : Option Value → State → List Loc → Prop}
theorem Home.run (X : Stand p l e R s m args below meth c T locs cells slots) (hx : p.tables.exec = Jvm.exec) {bytes : ByteArray} (hby : c.code = bytes) {is : List (Nat × Instr × Nat)} (hd : decs bytes is) {pc pc' : Nat} {L L' : Array Slot} {S S' : List Value} (h : runs is pc L S = some (pc', L', S'))
    (H : @Home p e below P T (mkF m pc' L' S')) : @Home p e below P T (mkF m pc L S) :=
  Home.go (fun _ kt => runs_s X hx kt is pc L S (by rw [hby]; exact hd) h) H
theorem Rn (X : Stand p l e R s m args below meth c T locs cells slots) (hx : p.tables.exec = Jvm.exec) {bytes : ByteArray} (hby : c.code = bytes) {is : List (Nat × Instr × Nat)} (hd : decs bytes is) {pc : Nat} (pc' : Nat) {L : Array Slot} (L' : Array Slot) {S : List Value} (S' : List Value) (h : runs is pc L S = some (pc', L', S'))
    (H : @Home p e below P T (mkF m pc' L' S')) : @Home p e below P T (mkF m pc L S) := Home.run X hx hby hd h H
theorem dk {bytes : ByteArray} : ∀ {is : List (Nat × Instr × Nat)}, (is.all fun x => decide (decode bytes x.1 = .ok (x.2.1, x.2.2))) = true → decs bytes is
  | [], _ => trivial
  | (pc, i, n) :: r, h => by
    rw [List.all_cons, Bool.and_eq_true] at h
    exact ⟨of_decide_eq_true h.1, dk h.2⟩
end Run
section Calls
variable {p : Program} {l : Launch} {e : Env} {R : Room} {s : State} {m : MethodId} {args : Array Value} {below : List Frame} {meth : Method} {c : Code} {T : State} {locs : List Loc} {cells slots : Nat} {Z : State} {a0 : Array Value} {h : Heap} {y z : MethodName} {bytes : ByteArray} {maxL : Nat} {ret : Option FieldType} {rm : Room} {W : Nat} {as' : Array Value} {Q : Option Value → Heap → List Loc → Prop} {own C : String} {index : Nat}
/-- a body's contract, at one heap and one list of arguments -/
abbrev Con (l : Launch) (Z : State) (y : MethodName) (bytes : ByteArray) (maxL : Nat) (ret : Option FieldType) (ws : List Jvm.Cond) (rm : Room) (as' : Array Value) (h : Heap) (Q : Option Value → Heap → List Loc → Prop) : Prop :=
  MetFree l y (head1 (Jvm.Cond.code y bytes maxL ret :: ws) rm) (fun a U => a = as' ∧ Z.Warmed39 U.vm ∧ U.heap = h) (fun _ _ _ _ _ => True) (fun _ U o U' => ∃ v L, o = .returned v ∧ Q v U'.heap L ∧ FrameEnd U o U' L rm.cells rm.slots)
/-- it leaves the heap as it was -/
abbrev Pur (w : Option Value) (h0 : Heap) : Option Value → Heap → List Loc → Prop := fun v h L => v = w ∧ L = [] ∧ h = h0
/-- from a walk that comes home to the contract -/
theorem own_body {ws : List Jvm.Cond} {L0 : Array Slot} (pn : plainFor y = true) (ef : ∀ m, entryFrame m as' maxL = mkF m 0 L0 [])
    (body : ∀ (p : Program) (e : Env) (s : State) (m : MethodId) (below : List Frame) (meth : Method) (c : Code) (s₁ : State), p.tables.exec = Jvm.exec → c.code = bytes → meth.locks = false → c.maxLocals = maxL → meth.sig.returnType = ret → Z.Warmed39 s.vm → s.vm.findClass y.cls = some m.cls → meth.name = y.name →
      Stand p l e rm s m as' below meth c s₁ [] 0 0 → s₁.heap = h → @Home p e below (End s Q rm.cells rm.slots) s₁ (mkF m 0 L0 [])) : Con l Z y bytes maxL ret ws rm as' h Q := by
  refine MetFree.of_bodySF pn hisR ?_
  intro p e s m args below meth c s₁ Bd hml0 hP hK
  obtain ⟨rfl, hZ, hh⟩ := hP
  have H : @Home p e below (End s Q rm.cells rm.slots) s₁ (entryFrame m args maxL) := Home.enter (ef m) (body p e s m below meth c s₁ Bd.exec Bd.bytes (BodyLoose.notSynchronized Bd) hml0 Bd.returns hZ (findClass_of_methodNamed Bd.named) (name_of_methodNamed Bd.named Bd.method).1 (Stand.of_body Bd) (by rw [← hh, Bd.state]; rfl))
  obtain ⟨U, o, h1, h2, h3, v, L, rfl, h4, h5⟩ := H
  exact ⟨U, _, h1, h2, h3, v, L, rfl, h4, h5⟩
theorem own_static (X : Stand p l e R s m args below meth c T locs cells slots) (hx : p.tables.exec = Jvm.exec) (hZ : Z.Warmed39 s.vm) (hown : s.vm.findClass own = some m.cls)
    (w1 : (Cond.methodLink own index y).before a0 Z = true) (w2 : (Cond.static y).before a0 Z = true) (w3 : (Cond.initialized y.cls).before a0 Z = true) (w4 : (Cond.code y bytes maxL ret).before a0 Z = true)
    (hy : y.cls ≠ "java/lang/invoke/MethodHandle" ∧ y.cls ≠ "java/lang/invoke/VarHandle") (hM : Con l Z y bytes maxL ret [] rm as' h Q) (eT : T.heap = h)
    {g : JFrame} (hg : g.method = m) (hsize : g.locals.size = c.maxLocals) {argsL rest : List Value} (hlen : ∀ sig, parseMethodDescriptor y.desc = some sig → argsL.length = sig.parameters.length) (hstack : g.stack = argsL.reverse ++ rest) (ha : argsL.toArray = as')
    (hdg : decode c.code g.pc = .ok (.invokestatic index, 3)) (hW : 2 * g.monitorRoom + (rest.map fun v => v.category).sum ≤ W := by exact hW0) (hf : rm.frames + 1 ≤ R.frames := by decide) (hl : W + (maxL + 11) + rm.locals ≤ R.locals := by decide) (hc : cells + rm.cells ≤ R.cells := by decide) (hs : slots + rm.slots ≤ R.slots := by decide) :
    ∃ v T' L, Stand p l e R s m args below meth c T' (locs ++ L) (cells + rm.cells) (slots + rm.slots) ∧ Q v T'.heap L ∧
      ∀ t, Steps p.tables e below (T'.setTop { g with pc := g.pc + 3, stack := v.toList ++ rest }) t → Steps p.tables e below (T.setTop g) t := by
  obtain ⟨v, _, ⟨T', L', k', n'⟩, -, X', ⟨L, hQ, l', y', z'⟩, st⟩ := Jvm.LawKit.callS X hx (y := y) hown (mvT hZ w1) (mvT hZ w2) (mvT hZ w3) (mvT hZ w4) hy (backOf (W := W) hM hZ w4 w3 hf hl) hg hsize hlen hstack hW hdg (fun _ _ => ⟨ha, eT, hc, hs⟩)
  dsimp only [Pt.U, Pt.locs, Pt.cells, Pt.slots] at X' l' y' z' st hQ
  subst l' y' z'
  exact ⟨v, T', L, X', hQ, st⟩
theorem own_special (X : Stand p l e R s m args below meth c T locs cells slots) (hx : p.tables.exec = Jvm.exec) (hZ : Z.Warmed39 s.vm) (hown : s.vm.findClass own = some m.cls) (hy1 : y.name = "<init>")
    (w1 : (Cond.methodLink own index y).before a0 Z = true) (w2 : (Cond.instanceMethod y).before a0 Z = true) (w3 : (Cond.initialized y.cls).before a0 Z = true) (w4 : (Cond.code y bytes maxL none).before a0 Z = true)
    (hy : y.cls ≠ "java/lang/invoke/MethodHandle" ∧ y.cls ≠ "java/lang/invoke/VarHandle") (hM : Con l Z y bytes maxL none [] rm as' h Q) (eT : T.heap = h)
    {g : JFrame} (hg : g.method = m) (hsize : g.locals.size = c.maxLocals) {a : Addr} {argsL rest : List Value} (hlen : ∀ sig, parseMethodDescriptor y.desc = some sig → argsL.length = sig.parameters.length) (hstack : g.stack = argsL.reverse ++ .ref a :: rest) (ha : (.ref a :: argsL).toArray = as')
    (hdg : decode c.code g.pc = .ok (.invokespecial index, 3)) (hW : 2 * g.monitorRoom + (rest.map fun v => v.category).sum ≤ W := by exact hW0) (hf : rm.frames + 1 ≤ R.frames := by decide) (hl : W + (maxL + 11) + rm.locals ≤ R.locals := by decide) (hc : cells + rm.cells ≤ R.cells := by decide) (hs : slots + rm.slots ≤ R.slots := by decide) :
    ∃ v T' L, Stand p l e R s m args below meth c T' (locs ++ L) (cells + rm.cells) (slots + rm.slots) ∧ Q v T'.heap L ∧
      ∀ t, Steps p.tables e below (T'.setTop { g with pc := g.pc + 3, stack := v.toList ++ rest }) t → Steps p.tables e below (T.setTop g) t := by
  obtain ⟨v, _, ⟨T', L', k', n'⟩, -, X', ⟨L, hQ, l', y', z'⟩, st⟩ := X.specialBack hx (y := y) hy1 hown (mvT hZ w1) (mvT hZ w2) (mvT hZ w4) hy (backOf (W := W) hM hZ w4 w3 hf hl) hg hsize (Steps.refl _) (a := a) hlen hstack hW hdg (fun _ _ => ⟨ha, eT, hc, hs⟩)
  dsimp only [Pt.U, Pt.locs, Pt.cells, Pt.slots] at X' l' y' z' st hQ
  subst l' y' z'
  exact ⟨v, T', L, X', hQ, fun t k => st.trans k⟩
theorem own_super (X : Stand p l e R s m args below meth c T locs cells slots) (hx : p.tables.exec = Jvm.exec) (hZ : Z.Warmed39 s.vm) (hown : s.vm.findClass own = some m.cls)
    (w1 : (Cond.methodLink own index y).before a0 Z = true) (wm : (Cond.sameMethod y.cls y.cls y.name y.desc).before a0 Z = true) (w2 : (Cond.instanceMethod y).before a0 Z = true) (wu : (Cond.superclass own y.cls).before a0 Z = true) (hn : y.name ≠ "<init>") (w3 : (Cond.initialized y.cls).before a0 Z = true) (w4 : (Cond.code y bytes maxL ret).before a0 Z = true)
    (hM : Con l Z y bytes maxL ret [] rm as' h Q) (eT : T.heap = h) {a : Addr} {C : String} (E : Exa Z h a C)
    {g : JFrame} (hg : g.method = m) (hsize : g.locals.size = c.maxLocals) {argsL rest : List Value} (hlen : ∀ sig, parseMethodDescriptor y.desc = some sig → argsL.length = sig.parameters.length) (hstack : g.stack = argsL.reverse ++ .ref a :: rest) (ha : (.ref a :: argsL).toArray = as')
    (hdg : decode c.code g.pc = .ok (.invokespecial index, 3)) (hW : 2 * g.monitorRoom + (rest.map fun v => v.category).sum ≤ W := by exact hW0) (hf : rm.frames + 1 ≤ R.frames := by decide) (hl : W + (maxL + 11) + rm.locals ≤ R.locals := by decide) (hc : cells + rm.cells ≤ R.cells := by decide) (hs : slots + rm.slots ≤ R.slots := by decide) :
    ∃ v T' L, Stand p l e R s m args below meth c T' (locs ++ L) (cells + rm.cells) (slots + rm.slots) ∧ Q v T'.heap L ∧
      ∀ t, Steps p.tables e below (T'.setTop { g with pc := g.pc + 3, stack := v.toList ++ rest }) t → Steps p.tables e below (T.setTop g) t := by
  obtain ⟨v, _, ⟨T', L', k', n'⟩, -, X', ⟨L, hQ, l', y', z'⟩, st⟩ := superBack X hx hZ hown w1 wm w2 wu hn (backOf (W := W) hM hZ w4 w3 hf hl) eT (Ins.self E) hg hsize w4 hlen hstack hW hdg (fun _ _ => ⟨ha, eT, hc, hs⟩)
  dsimp only [Pt.U, Pt.locs, Pt.cells, Pt.slots] at X' l' y' z' st hQ
  subst l' y' z'
  exact ⟨v, T', L, X', hQ, fun t k => st.trans k⟩
theorem own_virtual (X : Stand p l e R s m args below meth c T locs cells slots) (hx : p.tables.exec = Jvm.exec) (hZ : Z.Warmed39 s.vm) (hown : s.vm.findClass own = some m.cls)
    (w1 : (Cond.methodLink own index y).before a0 Z = true) (w2 : (Cond.declares y).before a0 Z = true) (hnf : NotFace s y) (w3 : (Cond.selects C y z).before a0 Z = true) (w4 : (Cond.instanceMethod z).before a0 Z = true) (w5 : (Cond.initialized z.cls).before a0 Z = true) (w6 : (Cond.code z bytes maxL ret).before a0 Z = true)
    (hy : y.cls ≠ "java/lang/invoke/MethodHandle" ∧ y.cls ≠ "java/lang/invoke/VarHandle") (hM : Con l Z z bytes maxL ret [] rm as' h Q) (eT : T.heap = h) {a : Addr} (E : Exa Z h a C)
    {g : JFrame} (hg : g.method = m) (hsize : g.locals.size = c.maxLocals) {argsL rest : List Value} (hlen : ∀ sig, parseMethodDescriptor y.desc = some sig → argsL.length = sig.parameters.length) (hstack : g.stack = argsL.reverse ++ .ref a :: rest) (ha : (.ref a :: argsL).toArray = as')
    (hdg : decode c.code g.pc = .ok (.invokevirtual index, 3)) (hW : 2 * g.monitorRoom + (rest.map fun v => v.category).sum ≤ W := by exact hW0) (hf : rm.frames + 1 ≤ R.frames := by decide) (hl : W + (maxL + 11) + rm.locals ≤ R.locals := by decide) (hc : cells + rm.cells ≤ R.cells := by decide) (hs : slots + rm.slots ≤ R.slots := by decide) :
    ∃ v T' L, Stand p l e R s m args below meth c T' (locs ++ L) (cells + rm.cells) (slots + rm.slots) ∧ Q v T'.heap L ∧
      ∀ t, Steps p.tables e below (T'.setTop { g with pc := g.pc + 3, stack := v.toList ++ rest }) t → Steps p.tables e below (T.setTop g) t := by
  obtain ⟨cB, kB, q1, q2, q3⟩ := isOf hZ eT E
  obtain ⟨v, _, ⟨T', L', k', n'⟩, -, X', ⟨L, hQ, l', y', z'⟩, st⟩ := X.virtualBack hx (y := y) (z := z) hown (mvT hZ w1) (mvT hZ w2) hnf (mvT hZ w3) (mvT hZ w4) hy (backOf (W := W) hM hZ w6 w5 hf hl) q1 q3 hg hsize (Steps.refl _) hlen hstack hW hdg (fun _ _ => ⟨ha, eT, hc, hs⟩)
  dsimp only [Pt.U, Pt.locs, Pt.cells, Pt.slots] at X' l' y' z' st hQ
  subst l' y' z'
  exact ⟨v, T', L, X', hQ, fun t k => st.trans k⟩
theorem own_private (X : Stand p l e R s m args below meth c T locs cells slots) (hx : p.tables.exec = Jvm.exec) (hZ : Z.Warmed39 s.vm) (hown : s.vm.findClass own = some m.cls)
    (w1 : (Cond.methodLink own index y).before a0 Z = true) (w2 : (Cond.instanceMethod y).before a0 Z = true) (w3 : (Cond.selects y.cls y y).before a0 Z = true) (hp : s.PrivateAt y) (w5 : (Cond.initialized y.cls).before a0 Z = true) (w6 : (Cond.code y bytes maxL ret).before a0 Z = true)
    (hy : y.cls ≠ "java/lang/invoke/MethodHandle" ∧ y.cls ≠ "java/lang/invoke/VarHandle") (hM : Con l Z y bytes maxL ret [] rm as' h Q) (eT : T.heap = h) {a : Addr} (E : Exa Z h a C)
    {g : JFrame} (hg : g.method = m) (hsize : g.locals.size = c.maxLocals) {argsL rest : List Value} (hlen : ∀ sig, parseMethodDescriptor y.desc = some sig → argsL.length = sig.parameters.length) (hstack : g.stack = argsL.reverse ++ .ref a :: rest) (ha : (.ref a :: argsL).toArray = as')
    (hdg : decode c.code g.pc = .ok (.invokevirtual index, 3)) (hW : 2 * g.monitorRoom + (rest.map fun v => v.category).sum ≤ W := by exact hW0) (hf : rm.frames + 1 ≤ R.frames := by decide) (hl : W + (maxL + 11) + rm.locals ≤ R.locals := by decide) (hc : cells + rm.cells ≤ R.cells := by decide) (hs : slots + rm.slots ≤ R.slots := by decide) :
    ∃ v T' L, Stand p l e R s m args below meth c T' (locs ++ L) (cells + rm.cells) (slots + rm.slots) ∧ Q v T'.heap L ∧
      ∀ t, Steps p.tables e below (T'.setTop { g with pc := g.pc + 3, stack := v.toList ++ rest }) t → Steps p.tables e below (T.setTop g) t := by
  obtain ⟨cq, q1, q2⟩ := E.cell
  obtain ⟨v, _, ⟨T', L', k', n'⟩, -, X', ⟨L, hQ, l', y', z'⟩, st⟩ := X.privateBack hx (y := y) hown (mvT hZ w1) (mvT hZ w2) (mvT hZ w3) hp (mvT hZ w6) hy (backOf (W := W) hM hZ w6 w5 hf hl) hg hsize (Steps.refl _) (a := a) (by rw [eT]; exact q1) q2 hlen hstack hW hdg (fun _ _ => ⟨ha, eT, hc, hs⟩)
  dsimp only [Pt.U, Pt.locs, Pt.cells, Pt.slots] at X' l' y' z' st hQ
  subst l' y' z'
  exact ⟨v, T', L, X', hQ, fun t k => st.trans k⟩
/-- a call that left the heap as it was -/
theorem own_pure {w : Option Value} {g : JFrame} {g' : Option Value → JFrame} (q : ∃ v T' L, Stand p l e R s m args below meth c T' (locs ++ L) (cells + rm.cells) (slots + rm.slots) ∧ Pur w h v T'.heap L ∧ ∀ t, Steps p.tables e below (T'.setTop (g' v)) t → Steps p.tables e below (T.setTop g) t)
    (hc : rm.cells = 0 := by rfl) (hs : rm.slots = 0 := by rfl) : ∃ T', Stand p l e R s m args below meth c T' locs cells slots ∧ T'.heap = h ∧ ∀ t, Steps p.tables e below (T'.setTop (g' w)) t → Steps p.tables e below (T.setTop g) t := by
  obtain ⟨v, T', L, X', ⟨rfl, rfl, hh⟩, st⟩ := q
  rw [List.append_nil, hc, hs] at X'
  exact ⟨T', X', hh, st⟩
end Calls
section Facts
variable {Z : State} {h h' : Heap} {a b : Addr} {C n d : String} {v : Value} {n0 : Nat}
theorem Old.le (O : Old Z n0 h) : n0 ≤ h.size := O.1 ▸ O.2.1
end Facts
end Jvm.OwnKit
namespace Jvm.OwnKit
open Jvm Jvm.ClassFile Sem Op Lib Jvm.Free Jvm.Stand Jvm.LawKit Jvm.RoadKit
section Arrays
variable {p : Program} {l : Launch} {e : Env} {R : Room} {s : State} {m : MethodId} {args : Array Value} {below : List Frame} {meth : Method} {c : Code} {T : State} {locs : List Loc} {cells slots : Nat} {Z : State} {h : Heap}
theorem own_alen (X : Stand p l e R s m args below meth c T locs cells slots) (hx : p.tables.exec = Jvm.exec) (hZ : Z.Warmed39 s.vm) (eT : T.heap = h) {a : Addr} {cl : Cell} {ty : FieldType} {z : Int32} (A : Arr Z h a cl ty) (S : cl.slots.size = z.toNatClampNeg) (M : ¬ z < 0)
    {g : JFrame} (hg : g.method = m) {rest : List Value} (hs : g.stack = .ref a :: rest) (hd : decode c.code g.pc = .ok (.arraylength, 1)) :
    ∀ t, Steps p.tables e below (T.setTop { g with pc := g.pc + 1, stack := .int z :: rest }) t → Steps p.tables e below (T.setTop g) t := fun t k =>
  X.arraylength hx (by rw [eT]; exact A.1) (State.isArrayOf_alike hZ.alike A.2.1) hg hs hd _ (by rw [len_of S M]; exact k)
theorem own_clone (X : Stand p l e R s m args below meth c T locs cells slots) (hx : p.tables.exec = Jvm.exec) (hZ : Z.Warmed39 s.vm) {a0 : Array Value} {own ad : String} {index : Nat} (hown : s.vm.findClass own = some m.cls)
    (w1 : (Cond.methodLink own index ⟨ad, "clone", "()Ljava/lang/Object;"⟩).before a0 Z = true) (w2 : (Cond.sameMethod ad "java/lang/Object" "clone" "()Ljava/lang/Object;").before a0 Z = true) (w3 : (Cond.native ⟨"java/lang/Object", "clone", "()Ljava/lang/Object;"⟩).before a0 Z = true)
    (w4 : (Cond.instanceMethod ⟨"java/lang/Object", "clone", "()Ljava/lang/Object;"⟩).before a0 Z = true) (w5 : (Cond.selects ad ⟨ad, "clone", "()Ljava/lang/Object;"⟩ ⟨"java/lang/Object", "clone", "()Ljava/lang/Object;"⟩).before a0 Z = true) (w6 : (Cond.castable ad "java/lang/Cloneable").before a0 Z = true)
    (eT : T.heap = h) {a : Addr} {k : ClassId} {ty : FieldType} {z : Int32} {vs : List Value} {dv : Value} (F : Arv Z h a k ty z vs dv) (E : Exa Z h a ad) {g : JFrame} (hg : g.method = m) (hsize : g.locals.size = c.maxLocals) {rest : List Value} (hst : g.stack = .ref a :: rest) (hd : decode c.code g.pc = .ok (.invokevirtual index, 3))
    (hf : 1 ≤ R.frames) {W cap : Nat} (hW : 2 * g.monitorRoom + (rest.map fun v => v.category).sum ≤ W) (hl : W + 14 ≤ R.locals) (hcap : z.toNatClampNeg ≤ cap) (hc : cells + 1 ≤ R.cells) (hsl : slots + cap ≤ R.slots) :
    ∃ T' h' b, b = h.size ∧ Stand p l e R s m args below meth c T' locs (cells + 1) (slots + cap) ∧ T'.heap = h' ∧ Ext h h' ∧ Arv Z h' b k ty z vs dv ∧ Exa Z h' b ad ∧
      ∀ target, Steps p.tables e below (T'.setTop { g with pc := g.pc + 3, stack := .ref b :: rest }) target → Steps p.tables e below (T.setTop g) target := by
  obtain ⟨cl, A, q1, S, q3, H, G⟩ := F
  have FC : FitC Z cl := fitC_of A fun i hi v hv => by rw [H i hi] at hv; cases hv; exact G i hi
  obtain ⟨T', h', X', e', ex, A', E', st⟩ := cloneA X hx hZ hown w1 w2 w3 w4 w5 w6 eT A E FC hg hsize hst hd hf hW hl (by rw [S]; exact hcap) hc hsl
  exact ⟨T', h', _, rfl, X', e', ex, ⟨cloneOf cl, A', q1, S, q3, H, G⟩, E', st⟩
theorem own_neAV {a b : Addr} {C : String} {a0 : Array Value} {k : Nat} {kc : ClassId} {ty : FieldType} {z : Int32} {vs : List Value} {dv : Value} (F : Exa Z h a C) (wi : (Cond.instantiable C k).before a0 Z = true) (G : Arv Z h b kc ty z vs dv) : a ≠ b := by obtain ⟨cl, A, -⟩ := G; exact ne_arr F wi A
theorem own_selp {Z : State} {a0 : Array Value} {C : String} {y : MethodName} (w : (Cond.selects C y y).before a0 Z = true) (wp : (Cond.privateMethod y).before a0 Z = true) (wi : (Cond.instanceMethod y).before a0 Z = true) (hy : y.cls ≠ "java/lang/invoke/MethodHandle" ∧ y.cls ≠ "java/lang/invoke/VarHandle") : (Cond.selects y.cls y y).before a0 Z = true := by
  obtain ⟨c2, r2, m2, q1, q2, q3, q4, kP, hkP, hkPi⟩ := Cond.selects_spec w
  exact selects_self_of_private (findClass_of_methodNamed q3) hkP hkPi (Cond.privateMethod_at wp) wi hy
theorem own_samem {Z : State} {a0 : Array Value} {C : String} {y z : MethodName} (wi : (Cond.instanceMethod y).before a0 Z = true) (ws : (Cond.selects C z z).before a0 Z = true) (e : y.cls = z.cls) (hy : y.cls ≠ "java/lang/invoke/MethodHandle" ∧ y.cls ≠ "java/lang/invoke/VarHandle") : (Cond.sameMethod y.cls y.cls y.name y.desc).before a0 Z = true := by
  obtain ⟨mk, methM, hnamed, -, -, -⟩ := Cond.instanceMethod_spec wi
  obtain ⟨c2, r2, m2, q1, q2, q3, q4, kP, hkP, hkPi⟩ := Cond.selects_spec ws
  have hc := findClass_of_methodNamed hnamed
  have hf := State.methodFound?_of_named hnamed hy
  have hz := findClass_of_methodNamed q3
  rw [← e, hc] at hz
  have hk : Z.vm.classes[mk.cls]? = some kP := by rw [Option.some.inj hz]; exact hkP
  have hn : Z.methodNamed? ⟨y.cls, y.name, y.desc⟩ = some mk := hnamed
  simp [Cond.before, Cond.holds, Cond.value, hc, hf, hn, hk, hkPi]
theorem own_nfz {args : Array Value} {s : State} {C : String} {y z : MethodName} (hsel : (Cond.selects C z z).before args s = true) (e : y.cls = z.cls) : NotFace s y := fun r0 h0 => by
  obtain ⟨c2, r2, m2, q1, q2, q3, q4, kP, hkP, hkPi⟩ := Cond.selects_spec hsel
  have a := findClass_of_methodNamed h0
  have b := findClass_of_methodNamed q3
  rw [e] at a
  exact ⟨kP, by rw [Option.some.inj (a.symm.trans b)]; exact hkP, hkPi⟩
/-- what stands at a place that is a number -/
def own_at (vs : List Int32) (j : Int32) : Int32 := vs.getD j.toNatClampNeg 0
theorem own_getD (vs : List Int32) (i : Nat) : (vs.map Value.int).getD i (.int 0) = .int (vs.getD i 0) := by
  simp only [List.getD_eq_getElem?_getD, List.getElem?_map]
  cases vs[i]? <;> rfl
/-- a write at a place that is a number -/
theorem own_setS {a : Addr} {k : ClassId} {ty : FieldType} {z j : Int32} {vs : List Int32} {h' : Heap} {x : Int32} {cl : Cell} (A : Arr Z h a cl ty) (q1 : cl.cls = k) (S : cl.slots.size = z.toNatClampNeg) (q3 : ¬ z < 0) (H : Has cl (vs.map Value.int) (.int 0)) (G : ∀ i, i < cl.slots.size → fits ty ((vs.map Value.int).getD i (.int 0)) = true) (hv : fits ty (.int x) = true) (W : Wr h h' a j.toNatClampNeg (.int x)) (hj : j.toNatClampNeg < vs.length) {ws : List Int32} (hws : vs.set j.toNatClampNeg x = ws) : Arv Z h' a k ty z (ws.map Value.int) (.int 0) := by
  subst hws
  have := Arv.set A q1 S q3 H G hv W j.toNatClampNeg rfl (by simpa using hj)
  rwa [← List.map_set] at this
end Arrays
end Jvm.OwnKit
namespace Jvm.OwnKit
open Jvm Jvm.ClassFile Sem Op Lib Jvm.Free Jvm.Stand Jvm.LawKit Jvm.RoadKit
theorem Ins.keep {Z : State} {h h' : Heap} {a : Addr} {C : String} {b : Bool} {ws : List Addr} (F : Ins Z h a C b) (K : Keep h h' ws) : Ins Z h' a C b := by
  obtain ⟨cell, cT, h1, h2, h3⟩ := F
  obtain ⟨c', e1, e2, e3, -⟩ := K.2.2 _ _ h1
  exact ⟨c', cT, e1, h2, by rw [e2, e3]; exact h3⟩
section Bounds
variable {x y a b c d : Int32}
theorem bnd_ite {c : Prop} [Decidable c] {a b lo hi : Int32} (ha : ¬ a < lo ∧ ¬ hi < a) (hb : ¬ b < lo ∧ ¬ hi < b) : ¬ (if c then a else b) < lo ∧ ¬ hi < (if c then a else b) := by
  split
  · exact ha
  · exact hb
theorem bnd_and (x m : Int32) (h : 0 ≤ m.toInt) : ¬ (x &&& m) < (0 : Int32) ∧ ¬ m < (x &&& m) := by
  have q := c_and x m h
  have e : (0 : Int32).toInt = 0 := rfl
  rw [Int32.lt_iff_toInt_lt, Int32.lt_iff_toInt_lt, e]; omega
theorem bnd_mono (h : ¬ x < a ∧ ¬ b < x) (h1 : c.toInt ≤ a.toInt) (h2 : b.toInt ≤ d.toInt) : ¬ x < c ∧ ¬ d < x := by
  simp only [Int32.lt_iff_toInt_lt] at *; omega
theorem bnd_lt (h : ¬ x < a ∧ ¬ b < x) (k : ¬ y < c ∧ ¬ d < y) (q : b.toInt < c.toInt) : x < y := by
  simp only [Int32.lt_iff_toInt_lt] at *; omega
theorem bnd_nlt (h : ¬ x < a ∧ ¬ b < x) (k : ¬ y < c ∧ ¬ d < y) (q : d.toInt ≤ a.toInt) : ¬ x < y := by
  simp only [Int32.lt_iff_toInt_lt] at *; omega
theorem bnd_ne (h : ¬ x < a ∧ ¬ b < x) (k : ¬ y < c ∧ ¬ d < y) (q : b.toInt < c.toInt ∨ d.toInt < a.toInt) : ¬ x = y := by
  intro e; subst e
  simp only [Int32.lt_iff_toInt_lt] at *; omega
theorem own_shl0 (x : Int32) : x <<< ((0 : Int32) &&& 31) = x := by
  rw [show ((0 : Int32) &&& 31) = 0 from by decide]; simp
theorem own_sub0 (x : Int32) : x - (0 : Int32) = x := by simp
theorem own_capb {n hi lo : Int32} {cap : Nat} (h : ¬ n < lo ∧ ¬ hi < n) (q : hi.toInt ≤ cap) : n.toNatClampNeg ≤ cap := by
  have h2 := h.2; rw [Int32.lt_iff_toInt_lt] at h2; simp only [Int32.toNatClampNeg]; omega
theorem own_shr0 (x : Int32) : x >>> ((0 : Int32) &&& 31) = x := by
  rw [show ((0 : Int32) &&& 31) = 0 from by decide]; simp
theorem bnd_sub {lo hi : Int32} (h : ¬ x < a ∧ ¬ b < x) (k : ¬ y < c ∧ ¬ d < y) (q1 : lo.toInt = a.toInt - d.toInt) (q2 : hi.toInt = b.toInt - c.toInt) (q3 : -2147483648 ≤ a.toInt - d.toInt) (q4 : b.toInt - c.toInt < 2147483648) : ¬ (x - y) < lo ∧ ¬ hi < (x - y) := by
  have e := c_isub x y
  have r := rng32 (x - y)
  simp only [Int32.lt_iff_toInt_lt] at *
  omega
theorem bnd_i2c (x : Int32) : ¬ (x.toUInt32.toUInt16.toUInt32.toInt32) < (0 : Int32) ∧ ¬ (65535 : Int32) < (x.toUInt32.toUInt16.toUInt32.toInt32) := by
  have q := c_i2c x
  have e : (0 : Int32).toInt = 0 := rfl
  have e1 : (65535 : Int32).toInt = 65535 := rfl
  simp only [Int32.lt_iff_toInt_lt, e, e1]; omega
theorem bnd_i2b (x : Int32) : ¬ (x.toInt8.toInt32) < (-128 : Int32) ∧ ¬ (127 : Int32) < (x.toInt8.toInt32) := by
  have q := c_i2b x
  have e : (-128 : Int32).toInt = -128 := rfl
  have e1 : (127 : Int32).toInt = 127 := rfl
  simp only [Int32.lt_iff_toInt_lt, e, e1]; omega
theorem i2c_id (h : ¬ x < a ∧ ¬ b < x) (h1 : 0 ≤ a.toInt) (h2 : b.toInt ≤ 65535) : x.toUInt32.toUInt16.toUInt32.toInt32 = x := by
  have q := c_i2c x
  simp only [Int32.lt_iff_toInt_lt] at h
  apply Int32.toInt_inj.mp; omega
theorem i2b_id (h : ¬ x < a ∧ ¬ b < x) (h1 : -128 ≤ a.toInt) (h2 : b.toInt ≤ 127) : x.toInt8.toInt32 = x := by
  have q := c_i2b x
  simp only [Int32.lt_iff_toInt_lt] at h
  apply Int32.toInt_inj.mp; omega
theorem bnd_lit (k : Int32) : ¬ k < k ∧ ¬ k < k := by
  simp only [Int32.lt_iff_toInt_lt]; omega
theorem bnd_dn (h : x < c) (q : d.toInt = c.toInt - 1) : ¬ d < x := by
  simp only [Int32.lt_iff_toInt_lt] at *; omega
theorem bnd_lt2 (h : x < y) (k : ¬ c < y) (q : d.toInt = c.toInt - 1) : ¬ d < x := by
  simp only [Int32.lt_iff_toInt_lt] at *; omega
theorem bnd_ner (h : ¬ c < x) (k : ¬ x = c) (q : d.toInt = c.toInt - 1) : ¬ d < x := by
  rw [← Int32.toInt_inj] at k; simp only [Int32.lt_iff_toInt_lt] at *; omega
theorem nar_char_id (h : ¬ x < a ∧ ¬ b < x) (h1 : 0 ≤ a.toInt) (h2 : b.toInt ≤ 65535) : nar .char x = x := i2c_id h h1 h2
theorem nar_byte_id (h : ¬ x < a ∧ ¬ b < x) (h1 : -128 ≤ a.toInt) (h2 : b.toInt ≤ 127) : nar .byte x = x := i2b_id h h1 h2
theorem nar_i2c (x : Int32) : nar .char (x.toUInt32.toUInt16.toUInt32.toInt32) = x.toUInt32.toUInt16.toUInt32.toInt32 := nar_char_id (bnd_i2c x) (by decide) (by decide)
theorem nar_i2b (x : Int32) : nar .byte (x.toInt8.toInt32) = x.toInt8.toInt32 := nar_byte_id (bnd_i2b x) (by decide) (by decide)
theorem nar_bool_id (h : ¬ x < a ∧ ¬ b < x) (h1 : 0 ≤ a.toInt) (h2 : b.toInt ≤ 1) : nar .boolean x = x := by
  simp only [Int32.lt_iff_toInt_lt] at h
  have hx : x.toInt = 0 ∨ x.toInt = 1 := by omega
  rcases hx with q | q
  · have : x = 0 := Int32.toInt_inj.mp q
    subst this; rfl
  · have : x = 1 := Int32.toInt_inj.mp q
    subst this; rfl
end Bounds
theorem Wr.to {h h' : Heap} {a : Addr} {sl : Nat} {v w : Value} (W : Wr h h' a sl v) (q : v = w) : Wr h h' a sl w := q ▸ W
theorem fits_char_b {x a b : Int32} (h : ¬ x < a ∧ ¬ b < x) (h1 : 0 ≤ a.toInt) (h2 : b.toInt ≤ 65535) : fits .char (.int x) = true := by
  have q := fits_nar_char x
  rw [nar_char_id h h1 h2] at q; exact q
theorem fits_byte_b {x a b : Int32} (h : ¬ x < a ∧ ¬ b < x) (h1 : -128 ≤ a.toInt) (h2 : b.toInt ≤ 127) : fits .byte (.int x) = true := by
  have q := fits_nar_byte x
  rw [i2b_id h h1 h2] at q; exact q
/-- null, or an object of exactly that class -/
def Nul (Z : State) (h : Heap) (x : Value) (C : String) : Prop := x = .null ∨ ∃ a, x = .ref a ∧ Exa Z h a C
section Nulls
variable {Z : State} {h h' : Heap} {x : Value} {C : String}
theorem Nul.null (Z : State) (h : Heap) (C : String) : Nul Z h .null C := Or.inl rfl
theorem Nul.of {a : Addr} (E : Exa Z h a C) : Nul Z h (.ref a) C := Or.inr ⟨a, rfl, E⟩
theorem Nul.ext (N : Nul Z h x C) (E : Ext h h') : Nul Z h' x C := N.imp id fun ⟨a, e, F⟩ => ⟨a, e, F.ext E⟩
theorem Nul.wr {a : Addr} {sl : Nat} {v : Value} (N : Nul Z h x C) (W : Wr h h' a sl v) : Nul Z h' x C := N.imp id fun ⟨a, e, F⟩ => ⟨a, e, F.wr W⟩
theorem Nul.keep {ws : List Addr} (N : Nul Z h x C) (K : Keep h h' ws) : Nul Z h' x C := N.imp id fun ⟨a, e, F⟩ => ⟨a, e, F.keep K⟩
theorem Nul.isRef (N : Nul Z h x C) : x.isRef = true := by rcases N with rfl | ⟨a, rfl, -⟩ <;> rfl
end Nulls
section NotSub
variable {Z : State} {a0 : Array Value} {C S O K : String} {nn : Nat}
end NotSub
theorem Fld.to {Z : State} {h : Heap} {a : Addr} {C n d : String} {v w : Value} (F : Fld Z h a C n d v) (q : v = w) : Fld Z h a C n d w := q ▸ F
end Jvm.OwnKit
namespace Jvm.OwnKit
open Jvm Jvm.ClassFile Sem Op Lib Jvm.Free Jvm.Stand Jvm.LawKit Jvm.RoadKit
section Lists
variable {p : Program} {l : Launch} {e : Env} {R : Room} {s : State} {m : MethodId} {args : Array Value} {below : List Frame} {meth : Method} {c : Code} {T : State} {locs : List Loc} {cells slots : Nat} {Z : State} {h : Heap}
def own_n (cs : List Int32) : Int32 := Int32.ofNat cs.length
theorem own_n_app (a b : List Int32) : own_n a + own_n b = own_n (a ++ b) := by
  unfold own_n; rw [List.length_append, Int32.ofNat_add]
theorem own_n_int {l : List Int32} (h : l.length < 2147483648) : (own_n l).toInt = l.length := Int32.toInt_ofNat_small h
theorem own_n_nat {l : List Int32} (h : l.length < 2147483648) : (own_n l).toNatClampNeg = l.length := by
  simp only [Int32.toNatClampNeg, own_n_int h]; omega
theorem own_n_b {l : List Int32} {a b : Nat} {lo hi : Int32} (h : a ≤ l.length ∧ l.length ≤ b) (h1 : lo.toInt = a) (h2 : hi.toInt = b) (h3 : b < 2147483648) : ¬ own_n l < lo ∧ ¬ hi < own_n l := by
  have e := own_n_int (l := l) (by omega)
  rw [Int32.lt_iff_toInt_lt, Int32.lt_iff_toInt_lt, e]; omega
theorem own_len_lit {l : List Int32} {n : Nat} (h : l.length = n) : n ≤ l.length ∧ l.length ≤ n := ⟨Nat.le_of_eq h.symm, Nat.le_of_eq h⟩
theorem own_len_le {l : List Int32} {n : Nat} (h : l.length ≤ n) : 0 ≤ l.length ∧ l.length ≤ n := ⟨Nat.zero_le _, h⟩
theorem own_len_app {a b : List Int32} {p q r s : Nat} (h : p ≤ a.length ∧ a.length ≤ q) (k : r ≤ b.length ∧ b.length ≤ s) : p + r ≤ (a ++ b).length ∧ (a ++ b).length ≤ q + s := by
  rw [List.length_append]; omega
theorem own_n_le {l : List Int32} {a b : Nat} (h : a ≤ l.length ∧ l.length ≤ b) (hb : b < 2147483648 := by decide) : l.length ≤ (own_n l).toNatClampNeg := by
  rw [own_n_nat (by omega)]; exact Nat.le_refl _
theorem Arv.lst {a : Addr} {k : ClassId} {ty : FieldType} {n : Int32} {vs : List Value} {d : Value} (F : Arv Z h a k ty n vs d) {cs cs' : List Int32} (q : cs = cs') (e1 : vs = cs.map Value.int) (e2 : n = own_n cs) : Arv Z h a k ty (own_n cs') (cs'.map Value.int) d := by
  subst q; subst e1; subst e2; exact F
theorem own_cpS (X0 : Stand p l e R s m args below meth c T locs cells slots) (hx : p.tables.exec = Jvm.exec) (hZ : Z.Warmed39 s.vm) {a0 : Array Value} {own : String} {index : Nat} (hown : s.vm.findClass own = some m.cls)
    (w1 : (Cond.methodLink own index Jvm.Stand.acN).before a0 Z = true) (w2 : (Cond.native Jvm.Stand.acN).before a0 Z = true) (w3 : (Cond.static Jvm.Stand.acN).before a0 Z = true) (w4 : (Cond.initialized "java/lang/System").before a0 Z = true) (eT : T.heap = h)
    {a b : Addr} {k k' : ClassId} {z z' : Int32} {Y X : List Int32} (A : Arv Z h a k .byte z (X.map Value.int) (.int 0)) (B : Arv Z h b k' .byte z' (Y.map Value.int) (.int 0))
    (h4 : X.length ≤ z.toNatClampNeg) (h5 : Y.length + X.length ≤ z'.toNatClampNeg) (hb : (Y ++ X).length < 2147483648) {dp : Int32} (ed : dp = own_n Y) {n0 : Nat} (N : Fr n0 locs) (ge : n0 ≤ b)
    {g : JFrame} (hg : g.method = m) (hsize : g.locals.size = c.maxLocals) {rest : List Value} (hs : g.stack = .int (own_n X) :: .int dp :: .ref b :: .int 0 :: .ref a :: rest) (hd : decode c.code g.pc = .ok (.invokestatic index, 3))
    (hf : 1 ≤ R.frames) {W : Nat} (hW : 2 * g.monitorRoom + (rest.map fun v => v.category).sum ≤ W) (hlo : W + (nativeFrameWords "java/lang/System" "arraycopy" 5 + 11) ≤ R.locals) :
    ∃ T' h' L, Stand p l e R s m args below meth c T' L cells slots ∧ T'.heap = h' ∧ Fr n0 L ∧ Keep h h' [b] ∧ Arv Z h' b k' .byte z' ((Y ++ X).map Value.int) (.int 0) ∧
      ∀ target, Steps p.tables e below (T'.setTop { g with pc := g.pc + 3, stack := rest }) target → Steps p.tables e below (T.setTop g) target := by
  subst ed
  rw [List.length_append] at hb
  have lx : (own_n X).toNatClampNeg = X.length := own_n_nat (by omega)
  have ly : (own_n Y).toNatClampNeg = Y.length := own_n_nat (by omega)
  have e0 : (0 : Int32).toNatClampNeg = 0 := rfl
  have nn : ∀ {u : List Int32}, u.length < 2147483648 → ¬ own_n u < 0 := fun {u} q => by rw [Int32.lt_iff_toInt_lt, own_n_int q]; have : (0 : Int32).toInt = 0 := rfl; omega
  have B' := B.pad (pad_rep (Y.map Value.int) (.int 0) X.length)
  have hus : X.map Value.int = (List.range (own_n X).toNatClampNeg).map fun i => (X.map Value.int).getD ((0 : Int32).toNatClampNeg + i) (.int 0) := by
    rw [lx, e0]
    apply List.ext_getElem?
    intro i
    simp only [List.getElem?_map, Nat.zero_add, own_getD]
    by_cases q : i < X.length
    · rw [List.getElem?_eq_getElem q, List.getElem?_range q]; simp [List.getD_eq_getElem?_getD, List.getElem?_eq_getElem q]
    · rw [List.getElem?_eq_none (by omega), List.getElem?_eq_none (by simpa using q)]; rfl
  obtain ⟨T', h', L, q1, q2, q3, q4, q5, q6⟩ := cpA X0 hx hZ hown w1 w2 w3 w4 eT A B' (sp := 0) (dp := own_n Y) (nn := own_n X) (us := X.map Value.int) (Or.inl ⟨rfl, rfl⟩) (by decide) (nn (by omega)) (nn (by omega)) (by rw [lx, e0]; omega) (by rw [lx, ly]; exact h5) hus (by rw [lx, ly]; simp) N ge hg hsize hs hd hf hW hlo
  refine ⟨T', h', L, q1, q2, q3, q4, ?_, q6⟩
  rw [lx, ly] at q5
  have e : (Y.map Value.int ++ List.replicate X.length (Value.int 0)).take Y.length ++ X.map Value.int ++ (Y.map Value.int ++ List.replicate X.length (Value.int 0)).drop (Y.length + X.length) = (Y ++ X).map Value.int := by
    rw [List.take_append_of_le_length (by simp), List.take_of_length_le (by simp), List.drop_of_length_le (by simp), List.append_nil, List.map_append]
  rw [e] at q5; exact q5
theorem own_fit {X : List Int32} {K a b : Nat} (h : ¬ (0 : Int32) < own_n X - Int32.ofNat K) (hX : a ≤ X.length ∧ X.length ≤ b) (hb : b < 1000) (hK : K < 1000) : a ≤ X.length ∧ X.length ≤ K := by
  refine ⟨hX.1, Decidable.byContradiction fun q => h ?_⟩
  have e0 : (0 : Int32).toInt = 0 := rfl
  have ek : (Int32.ofNat K).toInt = K := Int32.toInt_ofNat_small (by omega)
  rw [Int32.lt_iff_toInt_lt, Int32.toInt_sub, own_n_int (by omega), ek, e0, Int.bmod_eq_of_le (by omega) (by omega)]
  omega
/-- a whole array, and what stands in it as a list, into a new one -/
theorem own_cpP (X0 : Stand p l e R s m args below meth c T locs cells slots) (hx : p.tables.exec = Jvm.exec) (hZ : Z.Warmed39 s.vm) {a0 : Array Value} {own : String} {index : Nat} (hown : s.vm.findClass own = some m.cls)
    (w1 : (Cond.methodLink own index Jvm.Stand.acN).before a0 Z = true) (w2 : (Cond.native Jvm.Stand.acN).before a0 Z = true) (w3 : (Cond.static Jvm.Stand.acN).before a0 Z = true) (w4 : (Cond.initialized "java/lang/System").before a0 Z = true) (eT : T.heap = h)
    {a b : Addr} {k k' : ClassId} {z z' : Int32} {X : List Int32} (A : Arv Z h a k .byte z (X.map Value.int) (.int 0)) (B : Arv Z h b k' .byte z' (([] : List Int32).map Value.int) (.int 0)) {K : Nat} (hK : z = Int32.ofNat K) (hb : K < 2147483648) (hX : X.length ≤ K) (h5 : K ≤ z'.toNatClampNeg) {n0 : Nat} (N : Fr n0 locs) (ge : n0 ≤ b)
    {g : JFrame} (hg : g.method = m) (hsize : g.locals.size = c.maxLocals) {rest : List Value} (hs : g.stack = .int z :: .int 0 :: .ref b :: .int 0 :: .ref a :: rest) (hd : decode c.code g.pc = .ok (.invokestatic index, 3))
    (hf : 1 ≤ R.frames) {W : Nat} (hW : 2 * g.monitorRoom + (rest.map fun v => v.category).sum ≤ W) (hlo : W + (nativeFrameWords "java/lang/System" "arraycopy" 5 + 11) ≤ R.locals) :
    ∃ T' h' L, Stand p l e R s m args below meth c T' L cells slots ∧ T'.heap = h' ∧ Fr n0 L ∧ Keep h h' [b] ∧ Arv Z h' b k' .byte z' (X.map Value.int) (.int 0) ∧
      ∀ target, Steps p.tables e below (T'.setTop { g with pc := g.pc + 3, stack := rest }) target → Steps p.tables e below (T.setTop g) target := by
  obtain ⟨n, hn⟩ : ∃ n, X.length + n = K := ⟨K - X.length, by omega⟩
  have hl : (X ++ List.replicate n (0 : Int32)).length = K := by rw [List.length_append, List.length_replicate, hn]
  have A' : Arv Z h a k .byte z ((X ++ List.replicate n (0 : Int32)).map Value.int) (.int 0) := by
    have q := A.pad (pad_rep (X.map Value.int) (.int 0) n)
    rw [List.map_append, List.map_replicate]; exact q
  have e : own_n (X ++ List.replicate n (0 : Int32)) = z := by unfold own_n; rw [hl, hK]
  have hz : z.toNatClampNeg = K := by rw [hK]; simp only [Int32.toNatClampNeg, Int32.toInt_ofNat_small hb]; omega
  obtain ⟨T', h', L, q1, q2, q3, q4, q5, q6⟩ := own_cpS X0 hx hZ hown w1 w2 w3 w4 eT A' B (Y := []) (X := X ++ List.replicate n (0 : Int32)) (by rw [hl, hz]; exact Nat.le_refl _) (by rw [hl]; exact Nat.le_trans (Nat.le_of_eq (Nat.zero_add _)) h5) (by show (X ++ List.replicate n (0 : Int32)).length < _; rw [hl]; exact hb) (dp := 0) rfl N ge hg hsize (by rw [e]; exact hs) hd hf hW hlo
  refine ⟨T', h', L, q1, q2, q3, q4, ?_, q6⟩
  refine Arv.pad q5 (fun i => ?_)
  show _ = ((X ++ List.replicate n (0 : Int32)).map Value.int).getD i (.int 0)
  rw [List.map_append, List.map_replicate]; exact (pad_rep _ _ _ i).symm
end Lists
end Jvm.OwnKit
namespace Jvm.OwnKit
open Jvm Jvm.ClassFile Sem Op Lib Bundle Jvm.Free Jvm.Stand Jvm.LawKit Jvm.RoadKit
section Cold
variable {p : Program} {l : Launch} {e : Env} {R : Room} {s : State} {m : MethodId} {args : Array Value} {below : List Frame} {meth : Method} {c : Code} {T : State} {locs : List Loc} {cells slots k n : Nat} {Z : State} {a0 : Array Value} {h h' : Heap} {y z : MethodName} {bytes : ByteArray} {maxL : Nat} {rt : Option FieldType} {rm : Room} {W : Nat} {as' : Array Value} {Q : Option Value → Heap → List Loc → Prop} {own C : String} {index : Nat} {EL : List (String × Nat)} {vm0 vm1 : Vm} {xs : List Addr} {sf : Bool}
/-- what a walk that may book texts knows of its tables: they came of the start's, what is booked of EL is read, xs are none of the booked cells -/
def Cold (Z : State) (EL : List (String × Nat)) (s : State) (xs : List Addr) (vm0 : Vm) (h : Heap) : Prop := (∃ k0, s.Since vm0 k0 ∧ k0 ≤ h.size) ∧ CHr Z EL s.vm s.heap vm0 h ∧ ∀ x ∈ xs, Safe Z EL vm0 h x ∧ x < h.size
theorem Cold.go (H : Cold Z EL s xs vm0 h) (hs : ∃ k0, s.Since vm1 k0 ∧ k0 ≤ h'.size) (q : CHr Z EL vm0 h vm1 h') : Cold Z EL s xs vm1 h' :=
  ⟨hs, H.2.1.trans q, fun x hx => ⟨q.safe (H.2.2 x hx).2 (H.2.2 x hx).1, Nat.lt_of_lt_of_le (H.2.2 x hx).2 q.2.1⟩⟩
theorem Cold.same (H : Cold Z EL s xs vm0 h) (q : CHr Z EL vm0 h vm0 h') : Cold Z EL s xs vm0 h' := H.go (by obtain ⟨⟨k0, a, b⟩, -⟩ := H; exact ⟨k0, a, Nat.le_trans b q.2.1⟩) q
theorem Cold.ext (H : Cold Z EL s xs vm0 h) (E : Ext h h') : Cold Z EL s xs vm0 h' := H.same (CHr.ext E H.2.1.1)
theorem Cold.keep {ws : List Addr} (H : Cold Z EL s xs vm0 h) (K : Keep h h' ws) (hs : ∀ x ∈ ws, Safe Z EL vm0 h x) : Cold Z EL s xs vm0 h' := H.same (CHr.keep K hs H.2.1.1)
theorem Cold.wr {a : Addr} {sl : Nat} {v : Value} (H : Cold Z EL s xs vm0 h) (w : Wr h h' a sl v) (S : Safe Z EL vm0 h a) : Cold Z EL s xs vm0 h' := H.same (CHr.wr w S H.2.1.1)
theorem Cold.add {b : Addr} (H : Cold Z EL s xs vm0 h) (E : Ext h h') (hb : h.size ≤ b) (hb' : b < h'.size) : Cold Z EL s (b :: xs) vm0 h' := by
  have H' := H.ext E
  refine ⟨H'.1, H'.2.1, fun x hx => ?_⟩
  rcases List.mem_cons.mp hx with rfl | hx
  · exact ⟨Safe.ext E H.2.1.1 (Safe.new hb), hb'⟩
  · exact H'.2.2 x hx
theorem Cold.safe {x : Addr} (H : Cold Z EL s xs vm0 h) (hx : x ∈ xs) : Safe Z EL vm0 h x := (H.2.2 x hx).1
theorem Cold.start (H : CHv Z EL s.vm s.heap) : Cold Z EL s [] s.vm s.heap := ⟨⟨_, (State.WarmedH.refl s).since _, Nat.le_refl _⟩, CHr.refl H, fun _ hx => nomatch hx⟩
theorem own_chv0 {vm : Vm} : CHv Z [] vm h := fun _ hp => nomatch hp
theorem Cold.put {b : Addr} (H : Cold Z EL s xs vm0 h) (q : Safe Z EL vm0 h b ∧ b < h.size) : Cold Z EL s (b :: xs) vm0 h := ⟨H.1, H.2.1, fun x hx => (List.mem_cons.mp hx).elim (fun e => e ▸ q) (H.2.2 x)⟩
/-- what is returned is none of the booked cells -/
def SafeR (sf : Bool) (Z : State) (EL : List (String × Nat)) (vm : Vm) (h : Heap) (v : Option Value) : Prop := sf = true → ∀ a, v = some (.ref a) → Safe Z EL vm h a ∧ a < h.size
/-- the contract of a body that may book texts -/
abbrev ConW (l : Launch) (Z : State) (EL : List (String × Nat)) (xs : List Addr) (sf : Bool) (y : MethodName) (bytes : ByteArray) (maxL : Nat) (rt : Option FieldType) (ws : List Jvm.Cond) (rm : Room) (as' : Array Value) (h : Heap) (Q : Option Value → Heap → List Loc → Prop) : Prop :=
  MetFree l y (head1 (Jvm.Cond.code y bytes maxL rt :: ws) rm) (fun a U => a = as' ∧ Z.Warmed39 U.vm ∧ U.heap = h ∧ CHv Z EL U.vm h ∧ ∀ x ∈ xs, Safe Z EL U.vm h x ∧ x < h.size) (fun _ _ _ _ _ => True) (fun _ U o U' => ∃ v L, o = .returned v ∧ Q v U'.heap L ∧ CHr Z EL U.vm U.heap U'.vm U'.heap ∧ SafeR sf Z EL U'.vm U'.heap v ∧ ReturnedEndW U o U' L rm.cells rm.slots)
abbrev EndW (s : State) (Z : State) (EL : List (String × Nat)) (sf : Bool) (Q : Option Value → Heap → List Loc → Prop) (k n : Nat) : Option Value → State → List Loc → Prop := fun v U L => Q v U.heap L ∧ CHr Z EL s.vm s.heap U.vm U.heap ∧ SafeR sf Z EL U.vm U.heap v ∧ ReturnedEndW s (.returned v) U L k n
theorem retW_mono {o : Outcome} {t : State} {L : List Loc} {k n k' n' : Nat} (h : ReturnedEndW s o t L k n) (hk : k ≤ k') (hn : n ≤ n') : ReturnedEndW s o t L k' n' := ⟨h.1, h.2.1, h.2.2.1, h.2.2.2.mono hk hn⟩
theorem HomeW.retN (X : Stand p l e R (s.setVm vm0) m args below meth c T locs cells slots) (hx : p.tables.exec = Jvm.exec) (hlk : meth.locks = false) (hZ : Z.Warmed39 (s.setVm vm0).vm) (hEL : EW Z a0 EL) (eT : T.heap = h) (H : Cold Z EL s xs vm0 h)
    {pc : Nat} {Ls : Array Slot} {z : Int32} {t : FieldType} {rest : List Value} (hret : meth.sig.returnType = some t) (ht : t = .boolean ∨ t = .byte ∨ t = .char ∨ t = .short)
    (hd : decode c.code pc = .ok (.ireturn, 1)) (hQ : Q (some (.int (nar t z))) T.heap locs) (hk : cells ≤ k) (hn : slots ≤ n) : @Home p e below (EndW s Z EL sf Q k n) T (mkF m pc Ls (.int z :: rest)) := by
  subst eT
  obtain ⟨⟨k0, hS, hk0⟩, CR, -⟩ := H
  obtain ⟨fs, hr, hrun, hended, hW⟩ := X.leaveW hS hk0 (v := some (.int (nar t z))) (fun h => by rw [hret] at h; cases h) hlk
  have q : CHr Z EL s.vm s.heap T.vm T.heap := CR.trans (CHv.at X hZ hEL CR.1)
  exact ⟨_, _, Jvm.RoadKit.retN X hx hret ht hd hr, hrun, hended, _, _, rfl, hQ, q, (fun _ _ z => by cases z), retW_mono hW hk hn⟩
theorem HomeW.ret (X : Stand p l e R (s.setVm vm0) m args below meth c T locs cells slots) (hx : p.tables.exec = Jvm.exec) (hlk : meth.locks = false) (hZ : Z.Warmed39 (s.setVm vm0).vm) (hEL : EW Z a0 EL) (eT : T.heap = h) (H : Cold Z EL s xs vm0 h) {w : Value} (hsr : sf = true → ∀ a, w = .ref a → a ∈ xs)
    {pc : Nat} {Ls : Array Slot} {t : FieldType} {i : Instr} {rest : List Value} (hret : meth.sig.returnType = some t) (hnn : narrow t w = w)
    (hi : (i = .ireturn ∧ (t = .int ∨ t = .boolean ∨ t = .byte ∨ t = .char ∨ t = .short) ∧ ∃ z, w = .int z) ∨ (i = .lreturn ∧ t = .long ∧ ∃ z, w = .long z) ∨ (i = .dreturn ∧ t = .double ∧ ∃ z, w = .double z) ∨ (i = .freturn ∧ t = .float ∧ ∃ z, w = .float z) ∨ (i = .areturn ∧ t.isReference = true ∧ w.isRef = true))
    (hd : decode c.code pc = .ok (i, 1)) (hQ : Q (some w) T.heap locs) (hk : cells ≤ k) (hn : slots ≤ n) : @Home p e below (EndW s Z EL sf Q k n) T (mkF m pc Ls (w :: rest)) := by
  subst eT
  obtain ⟨⟨k0, hS, hk0⟩, CR, hxs⟩ := H
  obtain ⟨fs, hr, hrun, hended, hW⟩ := X.leaveW hS hk0 (v := some w) (fun h => by rw [hret] at h; cases h) hlk
  have q : CHr Z EL s.vm s.heap T.vm T.heap := CR.trans (CHv.at X hZ hEL CR.1)
  exact ⟨_, _, retOut X hx hret hnn hi hd hr, hrun, hended, _, _, rfl, hQ, q, (fun z a ha => ⟨(CHv.at X hZ hEL CR.1).safe (hxs a (hsr z a (Option.some.inj ha))).2 (hxs a (hsr z a (Option.some.inj ha))).1, (hxs a (hsr z a (Option.some.inj ha))).2⟩), retW_mono hW hk hn⟩
theorem HomeW.retI (X : Stand p l e R (s.setVm vm0) m args below meth c T locs cells slots) (hx : p.tables.exec = Jvm.exec) (hlk : meth.locks = false) (hZ : Z.Warmed39 (s.setVm vm0).vm) (hEL : EW Z a0 EL) (eT : T.heap = h) (H : Cold Z EL s xs vm0 h)
    {pc : Nat} {Ls : Array Slot} {z : Int32} {rest : List Value} (hret : meth.sig.returnType = some .int)
    (hd : decode c.code pc = .ok (.ireturn, 1)) (hQ : Q (some (.int z)) T.heap locs) (hk : cells ≤ k) (hn : slots ≤ n) : @Home p e below (EndW s Z EL sf Q k n) T (mkF m pc Ls (.int z :: rest)) := HomeW.ret X hx hlk hZ hEL eT H (fun _ _ z => by cases z) hret rfl (Or.inl ⟨rfl, Or.inl rfl, _, rfl⟩) hd hQ hk hn
theorem HomeW.retR (X : Stand p l e R (s.setVm vm0) m args below meth c T locs cells slots) (hx : p.tables.exec = Jvm.exec) (hlk : meth.locks = false) (hZ : Z.Warmed39 (s.setVm vm0).vm) (hEL : EW Z a0 EL) (eT : T.heap = h) (H : Cold Z EL s xs vm0 h) {w : Value} (hsr : sf = true → ∀ a, w = .ref a → a ∈ xs)
    {pc : Nat} {Ls : Array Slot} {t : FieldType} {rest : List Value} (hret : meth.sig.returnType = some t) (ht : t.isReference = true) (hw : w.isRef = true)
    (hd : decode c.code pc = .ok (.areturn, 1)) (hQ : Q (some w) T.heap locs) (hk : cells ≤ k) (hn : slots ≤ n) : @Home p e below (EndW s Z EL sf Q k n) T (mkF m pc Ls (w :: rest)) := HomeW.ret X hx hlk hZ hEL eT H hsr hret (own_narrow_ref hw) (Or.inr (Or.inr (Or.inr (Or.inr ⟨rfl, ht, hw⟩)))) hd hQ hk hn
theorem HomeW.ret0 (X : Stand p l e R (s.setVm vm0) m args below meth c T locs cells slots) (hx : p.tables.exec = Jvm.exec) (hlk : meth.locks = false) (hZ : Z.Warmed39 (s.setVm vm0).vm) (hEL : EW Z a0 EL) (eT : T.heap = h) (H : Cold Z EL s xs vm0 h)
    {pc : Nat} {Ls : Array Slot} (hret : meth.sig.returnType = none)
    (hd : decode c.code pc = .ok (.return_, 1)) (hQ : Q none T.heap locs) (hk : cells ≤ k) (hn : slots ≤ n) : @Home p e below (EndW s Z EL sf Q k n) T (mkF m pc Ls []) := by
  subst eT
  obtain ⟨⟨k0, hS, hk0⟩, CR, -⟩ := H
  obtain ⟨fs, hr, hrun, hended, hW⟩ := X.leaveW hS hk0 (v := none) (fun _ => rfl) hlk
  have q : CHr Z EL s.vm s.heap T.vm T.heap := CR.trans (CHv.at X hZ hEL CR.1)
  exact ⟨_, _, X.returnOut hx hret hd hr, hrun, hended, _, _, rfl, hQ, q, (fun _ _ z => by cases z), retW_mono hW hk hn⟩
theorem own_bodyW {ws : List Jvm.Cond} {L0 : Array Slot} (pn : plainFor y = true) (ef : ∀ m, entryFrame m as' maxL = mkF m 0 L0 [])
    (body : ∀ (p : Program) (e : Env) (s : State) (m : MethodId) (below : List Frame) (meth : Method) (c : Code) (s₁ : State), p.tables.exec = Jvm.exec → c.code = bytes → meth.locks = false → c.maxLocals = maxL → meth.sig.returnType = rt → Z.Warmed39 (s.setVm s.vm).vm → (s.setVm s.vm).vm.findClass y.cls = some m.cls → meth.name = y.name →
      Stand p l e rm (s.setVm s.vm) m as' below meth c s₁ [] 0 0 → s₁.heap = h → Cold Z EL s xs s.vm h → @Home p e below (EndW s Z EL sf Q rm.cells rm.slots) s₁ (mkF m 0 L0 [])) : ConW l Z EL xs sf y bytes maxL rt ws rm as' h Q := by
  refine MetFree.of_bodySF pn hisR ?_
  intro p e s m args below meth c s₁ Bd hml0 hP hK
  obtain ⟨rfl, hZ, rfl, hH, hxs⟩ := hP
  have hc : Cold Z EL s xs s.vm s.heap := ⟨(Cold.start hH).1, CHr.refl hH, hxs⟩
  have H : @Home p e below (EndW s Z EL sf Q rm.cells rm.slots) s₁ (entryFrame m args maxL) := Home.enter (ef m) (body p e s m below meth c s₁ Bd.exec Bd.bytes (BodyLoose.notSynchronized Bd) hml0 Bd.returns hZ (findClass_of_methodNamed Bd.named) (name_of_methodNamed Bd.named Bd.method).1 (Stand.of_body Bd) (by rw [Bd.state]; rfl) hc)
  obtain ⟨U, o, h1, h2, h3, v, L, rfl, h4, h5, h6⟩ := H
  exact ⟨U, _, h1, h2, h3, v, L, rfl, h4, h5, h6⟩
theorem own_warmW {U : State} (hZ : Z.Warmed39 (s.setVm vm0).vm) (hS : (s.setVm vm0).Since U.vm n) : Z.Warmed39 (s.setVm U.vm).vm := State.Warmed39.trans (t := s.setVm vm0) hZ hS.1
theorem own_ownW {U : State} (hS : (s.setVm vm0).Since U.vm n) (hown : (s.setVm vm0).vm.findClass own = some m.cls) : (s.setVm U.vm).vm.findClass own = some m.cls := by rw [show (s.setVm U.vm).vm.findClass own = (s.setVm vm0).vm.findClass own from hS.1.alike.findClass _ _]; exact hown
theorem own_backW {len : Nat} (hM : ConW l Z EL xs sf y bytes maxL rt [] rm as' h Q) (hZ : Z.Warmed39 (s.setVm vm0).vm) (hEL : EW Z a0 EL) (wc : (Cond.code y bytes maxL rt).before a0 Z = true) (wz : (Cond.initialized y.cls).before a0 Z = true) (hf : rm.frames + 1 ≤ R.frames) (hl : W + (maxL + 11) + rm.locals ≤ R.locals) (H : CHv Z EL vm0 h) (hxs : ∀ x ∈ xs, Safe Z EL vm0 h x ∧ x < h.size) :
    BackS l R p e below (s.setVm vm0) args y len W (fun A a => a = as' ∧ A.U.heap = h ∧ A.cells + rm.cells ≤ R.cells ∧ A.slots + rm.slots ≤ R.slots) (fun A _ v B => ∃ L, Q v B.U.heap L ∧ B.locs = A.locs ++ L ∧ B.cells = A.cells + rm.cells ∧ B.slots = A.slots + rm.slots ∧ CHr Z EL vm0 h B.U.vm B.U.heap ∧ SafeR sf Z EL B.U.vm B.U.heap v) := by
  refine BackS.of_freeW (bytes := bytes) (maxL := maxL) (ret := rt) (E := fun _ first o t L k n => k = rm.cells ∧ n = rm.slots ∧ (∃ v, o = .returned v ∧ Q v t.heap L ∧ SafeR sf Z EL t.vm t.heap v) ∧ CHr Z EL first.vm first.heap t.vm t.heap) hM hf hl ?_ ?_ (fun _ _ _ _ _ _ _ _ _ => trivial) ?_ ?_
  · intro m meth c A a Y hp
    have hU : Z.Warmed39 A.U.vm := wtrans (s := s.setVm vm0) hZ Y.warmed
    exact ⟨by show (Cond.and _ .tt).before a A.U = true; rw [Cond.before_and, mv hU wc]; rfl, mv hU wc, mv hU wz, hp.2.2⟩
  · intro m meth c A a g mk Y hp
    have q := CHv.at Y hZ hEL H
    exact ⟨hp.1, wtrans (s := s.setVm vm0) hZ Y.warmed, hp.2.1, q.1, fun x hx => ⟨q.safe (hxs x hx).2 (hxs x hx).1, (hxs x hx).2⟩⟩
  · rintro _ _ _ _ ⟨v, L, h1, h2, h3, h5, h4⟩
    exact ⟨L, _, _, h4, rfl, rfl, ⟨v, h1, h2, h5⟩, h3⟩
  · intro m meth c A a g mk v t L k n Y hp _ _ hE
    obtain ⟨rfl, rfl, ⟨v', e3, e4, e7⟩, e5⟩ := hE
    cases e3
    have e6 : CHr Z EL A.U.vm h t.vm t.heap := hp.2.1 ▸ e5
    exact ⟨L, e4, rfl, rfl, rfl, (CHv.at Y hZ hEL H).trans e6, e7⟩
theorem own_specialW (X : Stand p l e R (s.setVm vm0) m args below meth c T locs cells slots) (hx : p.tables.exec = Jvm.exec) (hZ : Z.Warmed39 (s.setVm vm0).vm) (hown : (s.setVm vm0).vm.findClass own = some m.cls) (hEL : EW Z a0 EL) {xs0 : List Addr} (H : Cold Z EL s xs0 vm0 h) (hsub : ∀ x ∈ xs, x ∈ xs0) (hy1 : y.name = "<init>")
    (w1 : (Cond.methodLink own index y).before a0 Z = true) (w2 : (Cond.instanceMethod y).before a0 Z = true) (w3 : (Cond.initialized y.cls).before a0 Z = true) (w4 : (Cond.code y bytes maxL none).before a0 Z = true)
    (hy : y.cls ≠ "java/lang/invoke/MethodHandle" ∧ y.cls ≠ "java/lang/invoke/VarHandle") (hM : ConW l Z EL xs sf y bytes maxL none [] rm as' h Q) (eT : T.heap = h)
    {g : JFrame} (hg : g.method = m) (hsize : g.locals.size = c.maxLocals) {a : Addr} {argsL rest : List Value} (hlen : ∀ sig, parseMethodDescriptor y.desc = some sig → argsL.length = sig.parameters.length) (hstack : g.stack = argsL.reverse ++ .ref a :: rest) (ha : (.ref a :: argsL).toArray = as')
    (hW : 2 * g.monitorRoom + (rest.map fun v => v.category).sum ≤ W) (hf : rm.frames + 1 ≤ R.frames) (hl : W + (maxL + 11) + rm.locals ≤ R.locals)
    (hdg : decode c.code g.pc = .ok (.invokespecial index, 3)) (hc : cells + rm.cells ≤ R.cells) (hs : slots + rm.slots ≤ R.slots) :
    ∃ v T' L, Stand p l e R (s.setVm T'.vm) m args below meth c T' (locs ++ L) (cells + rm.cells) (slots + rm.slots) ∧ (Q v T'.heap L ∧ Z.Warmed39 (s.setVm T'.vm).vm ∧ (s.setVm T'.vm).vm.findClass own = some m.cls ∧ Cold Z EL s xs0 T'.vm T'.heap ∧ SafeR sf Z EL T'.vm T'.heap v) ∧
      ∀ t, Steps p.tables e below (T'.setTop { g with pc := g.pc + 3, stack := v.toList ++ rest }) t → Steps p.tables e below (T.setTop g) t := by
  obtain ⟨v, _, ⟨T', L', k', n'⟩, -, X', hS, hg', ⟨L, hQ, l', y', z', hC, hR⟩, st⟩ := X.specialBackS hx (y := y) hy1 hown (mvT hZ w1) (mvT hZ w2) (mvT hZ w4) hy (own_backW (W := W) hM hZ hEL w4 w3 hf hl H.2.1.1 (fun x hx => H.2.2 x (hsub x hx))) hg hsize (Steps.refl _) (a := a) hlen hstack hW hdg (fun _ _ => ⟨ha, eT, hc, hs⟩)
  dsimp only [Pt.U, Pt.locs, Pt.cells, Pt.slots] at X' l' y' z' st hQ hS hg' hC hR
  subst l' y' z'
  exact ⟨v, T', L, X', ⟨hQ, own_warmW hZ hS, own_ownW hS hown, H.go (by obtain ⟨⟨k0, a, b⟩, -⟩ := H; exact ⟨_, Jvm.RoadKit.foldS (T := T) a (by rw [eT]; exact b) hS hg', Nat.le_refl _⟩) hC, hR⟩, fun t k => st.trans k⟩
theorem own_virtualW (X : Stand p l e R (s.setVm vm0) m args below meth c T locs cells slots) (hx : p.tables.exec = Jvm.exec) (hZ : Z.Warmed39 (s.setVm vm0).vm) (hown : (s.setVm vm0).vm.findClass own = some m.cls) (hEL : EW Z a0 EL) {xs0 : List Addr} (H : Cold Z EL s xs0 vm0 h) (hsub : ∀ x ∈ xs, x ∈ xs0)
    (w1 : (Cond.methodLink own index y).before a0 Z = true) (w2 : (Cond.declares y).before a0 Z = true) (hnf : NotFace (s.setVm vm0) y) (w3 : (Cond.selects C y z).before a0 Z = true) (w4 : (Cond.instanceMethod z).before a0 Z = true) (w5 : (Cond.initialized z.cls).before a0 Z = true) (w6 : (Cond.code z bytes maxL rt).before a0 Z = true)
    (hy : y.cls ≠ "java/lang/invoke/MethodHandle" ∧ y.cls ≠ "java/lang/invoke/VarHandle") (hM : ConW l Z EL xs sf z bytes maxL rt [] rm as' h Q) (eT : T.heap = h) {a : Addr} (E : Exa Z h a C)
    {g : JFrame} (hg : g.method = m) (hsize : g.locals.size = c.maxLocals) {argsL rest : List Value} (hlen : ∀ sig, parseMethodDescriptor y.desc = some sig → argsL.length = sig.parameters.length) (hstack : g.stack = argsL.reverse ++ .ref a :: rest) (ha : (.ref a :: argsL).toArray = as')
    (hW : 2 * g.monitorRoom + (rest.map fun v => v.category).sum ≤ W) (hf : rm.frames + 1 ≤ R.frames) (hl : W + (maxL + 11) + rm.locals ≤ R.locals)
    (hdg : decode c.code g.pc = .ok (.invokevirtual index, 3)) (hc : cells + rm.cells ≤ R.cells) (hs : slots + rm.slots ≤ R.slots) :
    ∃ v T' L, Stand p l e R (s.setVm T'.vm) m args below meth c T' (locs ++ L) (cells + rm.cells) (slots + rm.slots) ∧ (Q v T'.heap L ∧ Z.Warmed39 (s.setVm T'.vm).vm ∧ (s.setVm T'.vm).vm.findClass own = some m.cls ∧ Cold Z EL s xs0 T'.vm T'.heap ∧ SafeR sf Z EL T'.vm T'.heap v) ∧
      ∀ t, Steps p.tables e below (T'.setTop { g with pc := g.pc + 3, stack := v.toList ++ rest }) t → Steps p.tables e below (T.setTop g) t := by
  obtain ⟨cB, kB, q1, q2, q3⟩ := isOf hZ eT E
  obtain ⟨v, _, ⟨T', L', k', n'⟩, -, X', hS, hg', ⟨L, hQ, l', y', z', hC, hR⟩, st⟩ := X.virtualBackS hx (y := y) (z := z) hown (mvT hZ w1) (mvT hZ w2) hnf (mvT hZ w3) (mvT hZ w4) hy (own_backW (W := W) hM hZ hEL w6 w5 hf hl H.2.1.1 (fun x hx => H.2.2 x (hsub x hx))) q1 q3 hg hsize (Steps.refl _) hlen hstack hW hdg (fun _ _ => ⟨ha, eT, hc, hs⟩)
  dsimp only [Pt.U, Pt.locs, Pt.cells, Pt.slots] at X' l' y' z' st hQ hS hg' hC hR
  subst l' y' z'
  exact ⟨v, T', L, X', ⟨hQ, own_warmW hZ hS, own_ownW hS hown, H.go (by obtain ⟨⟨k0, a, b⟩, -⟩ := H; exact ⟨_, Jvm.RoadKit.foldS (T := T) a (by rw [eT]; exact b) hS hg', Nat.le_refl _⟩) hC, hR⟩, fun t k => st.trans k⟩
theorem own_ldcL {text : String} (X : Stand p l e R (s.setVm vm0) m args below meth c T locs cells slots) (hx : p.tables.exec = Jvm.exec) (hZ : Z.Warmed39 (s.setVm vm0).vm) (hown : (s.setVm vm0).vm.findClass own = some m.cls) (hEL : EW Z a0 EL) (H : Cold Z EL s xs vm0 h) (w : (Cond.stringLink own index text).before a0 Z = true) (wS : ∀ a ∈ Bundle.stringAtoms, a.before a0 Z = true)
    (eT : T.heap = h) (hmem : (own, index) ∈ EL) {vs : List Value} {z : Int32} (ht : (∀ c ∈ text.toList, c.toNat < 256) ∧ text.toList.map (fun c => Value.int (Jvm.Lit.byteI c.toNat.toUInt16)) = vs) (hz : ¬ z < 0) (hl : z.toNatClampNeg = vs.length)
    {g : JFrame} (hg : g.method = m) (hd : decode c.code g.pc = .ok (.ldc index, 2)) {n : Nat} (hn : 4 * text.toList.length ≤ n) (hbig : n ≤ 536870912) (hc : cells + 2 ≤ R.cells) (hl' : slots + (n + 4) ≤ R.slots) :
    ∃ (a b : Addr) (k : ClassId) (T' : State) (h' : Heap), Stand p l e R (s.setVm T'.vm) m args below meth c T' locs (cells + 2) (slots + (n + 4)) ∧ T'.heap = h' ∧ Ext h h' ∧ Z.Warmed39 (s.setVm T'.vm).vm ∧ (s.setVm T'.vm).vm.findClass own = some m.cls ∧ Cold Z EL s xs T'.vm h' ∧
      Exa Z h' a "java/lang/String" ∧ Fld Z h' a "java/lang/String" "coder" "B" (.int 0) ∧ Fld Z h' a "java/lang/String" "value" "[B" (.ref b) ∧ Arv Z h' b k .byte z vs (.int 0) ∧ a < h'.size ∧ b < h'.size ∧ (∀ x ∈ xs, x ≠ a ∧ x ≠ b) ∧ Lit (s.setVm T'.vm) own index a ∧
      ∀ t, Steps p.tables e below (T'.setTop { g with pc := g.pc + 2, stack := .ref a :: g.stack }) t → Steps p.tables e below (T.setTop g) t := by
  obtain ⟨k0, hS, hk⟩ := H.1
  obtain ⟨a, T', h', k1, b, k, X', e1, E, hS', hk', hZ', ho', f1, f2, f3, f4, f5, f6, hC, hL, hne, st⟩ := ldcCH X hx hZ hown w wS eT hS hk hEL hmem H.2.1.1 ht hz hl hg hd hn hbig hc hl'
  have H' := H.go ⟨k1, hS', hk'⟩ hC
  exact ⟨a, b, k, T', h', X', e1, E, hZ', ho', H', f1, f2, f3, f4, f5, f6, fun x hx => hne x (H'.safe hx), hL, st⟩
end Cold
end Jvm.OwnKit
namespace Jvm.OwnKit
end Jvm.OwnKit
namespace Jvm.Pilot.@@N@@
open Jvm Jvm.ClassFile Sem Op Lib Jvm.Free Jvm.Stand Jvm.LawKit Jvm.RoadKit Jvm.OwnKit Bundle Jvm.Pilot.@@N@@.Jvm.D
set_option maxRecDepth 65536
set_option maxHeartbeats 40000000
abbrev HW (a0 : Array Value) (Z : State) : Prop := ∀ d ∈ tables_1, d.before a0 Z = true
abbrev WD (d : Jvm.Cond) : Prop := ∀ {a0 : Array Value} {Z : State}, HW a0 Z → d.before a0 Z = true
theorem wd {d : Jvm.Cond} (i : Nat) (h : tables_1[i]? = some d) : WD d := fun hw => hw _ (List.mem_of_getElem? h)
abbrev c_0 := jdk_29_method_65_code
abbrev c_1 := jdk_29_method_69_code
abbrev c_2 := jdk_31_method_11_code
abbrev c_3 := jdk_33_method_12_code
abbrev c_4 := jdk_33_method_13_code
abbrev c_5 := jdk_41_method_11_code
abbrev c_6 := jdk_42_method_139_code
abbrev c_7 := jdk_42_method_147_code
abbrev c_8 := jdk_42_method_149_code
abbrev c_9 := jdk_42_method_150_code
abbrev c_10 := jdk_42_method_151_code
abbrev c_11 := jdk_42_method_152_code
abbrev c_12 := jdk_42_method_154_code
abbrev c_13 := jdk_42_method_155_code
abbrev c_14 := jdk_42_method_3_code
abbrev c_15 := jdk_42_method_53_code
abbrev c_16 := jdk_42_method_54_code
abbrev c_17 := jdk_42_method_56_code
abbrev c_18 := jdk_43_method_2_code
abbrev c_19 := jdk_43_method_3_code
abbrev c_20 := jdk_43_method_46_code
abbrev c_21 := jdk_48_method_27_code
abbrev c_22 := jdk_52_method_15_code
abbrev c_23 := jdk_52_method_16_code
abbrev c_24 := jdk_52_method_21_code
abbrev c_25 := jdk_65_method_121_code
abbrev c_26 := jdk_65_method_131_code
abbrev c_27 := jdk_65_method_132_code
abbrev c_28 := jdk_65_method_133_code
abbrev c_29 := jdk_67_method_15_code
abbrev c_30 := jdk_67_method_1_code
abbrev c_31 := jdk_67_method_42_code
abbrev c_32 := jdk_67_method_7_code
abbrev c_33 := jdk_67_method_93_code
abbrev c_34 := jdk_68_method_10_code
abbrev c_35 := jdk_68_method_22_code
abbrev c_36 := jdk_68_method_2_code
abbrev c_37 := jdk_68_method_32_code
abbrev c_38 := jdk_68_method_64_code
abbrev c_39 := jdk_68_method_68_code
abbrev c_40 := jdk_68_method_6_code
abbrev c_41 := jdk_68_method_71_code
abbrev c_42 := jdk_68_method_73_code
abbrev c_43 := jdk_68_method_9_code
abbrev c_44 := method_3_code
abbrev c_45 := method_4_code
abbrev c_46 := method_5_code
abbrev c_47 := prog_8_method_10_code
abbrev c_48 := prog_8_method_1_code
abbrev sr (a : Addr) : Slot := .val (.ref a)
abbrev si (a : Int32) : Slot := .val (.int a)
abbrev un : Slot := .unset
theorem own_lenk {Z : State} {args : Array Value} {t : Term} {a : Addr} {c : Cell} {ty : FieldType} {k : Int32} (ev : t.eval args Z none [] Z = some (.ref a)) (A : Arr Z Z.heap a c ty) (h : (Jvm.Cond.eq (Jvm.Term.length t) (Jvm.Term.int k)).value args Z none Z [] = some true) : c.slots.size < 2 ^ 31 ∧ c.slots.size.toInt32 = k := by
  have e := eqv_i (Term.int_eval k) h
  have ha := A.fin (U := Z) (Vm.Alike.refl _)
  by_cases q : c.slots.size < 2 ^ 31
  · have e2 := len_f (first := Z) (o := none) (idx := []) (args := args) ev ha q
    rw [e] at e2
    exact ⟨q, by injection e2 with e3; injection e3 with e4; exact e4.symm⟩
  · exfalso
    simp [Term.eval, ev, ha, q] at e
/-- decimal digits -/
def own_D (m : Nat) : List Int32 := if m < 10 then [Int32.ofNat (48 + m)] else own_D (m / 10) ++ [Int32.ofNat (48 + m % 10)]
termination_by m
decreasing_by omega
theorem own_D_lo {m : Nat} (h : m < 10) : own_D m = [Int32.ofNat (48 + m)] := by rw [own_D, if_pos h]
theorem own_D_hi {m : Nat} (h : ¬ m < 10) : own_D m = own_D (m / 10) ++ [Int32.ofNat (48 + m % 10)] := by rw [own_D, if_neg h]
def own_hi (m j : Nat) : List Int32 := if m < 10 ^ j then [] else own_D (m / 10 ^ j)
theorem own_hi_lo {m j : Nat} (h : m < 10 ^ j) : own_hi m j = [] := if_pos h
theorem own_hi_go {m j : Nat} (h : ¬ m < 10 ^ j) : own_hi m j = own_hi m (j + 1) ++ [Int32.ofNat (48 + m / 10 ^ j % 10)] := by
  have e : m / 10 ^ (j + 1) = m / 10 ^ j / 10 := by rw [Nat.pow_succ, Nat.div_div_eq_div_mul]
  have hp : 0 < 10 ^ j := Nat.pow_pos (by decide)
  rw [own_hi, if_neg h]
  by_cases q : m / 10 ^ j < 10
  · have q2 : m < 10 ^ (j + 1) := by rw [Nat.pow_succ, Nat.mul_comm]; exact (Nat.div_lt_iff_lt_mul hp).mp q
    rw [own_hi_lo q2, own_D_lo q, Nat.mod_eq_of_lt q]; rfl
  · have q2 : ¬ m < 10 ^ (j + 1) := fun z => q ((Nat.div_lt_iff_lt_mul hp).mpr (by rw [Nat.mul_comm, ← Nat.pow_succ]; exact z))
    rw [own_D_hi q, own_hi, if_neg q2, e]
theorem own_hi_0 (m : Nat) : own_hi m 1 ++ [Int32.ofNat (48 + m % 10)] = own_D m := by
  by_cases q : m < 10
  · rw [own_hi_lo (by simpa using q), own_D_lo q, Nat.mod_eq_of_lt q]; rfl
  · rw [own_hi, if_neg (by simpa using q), own_D_hi q, Nat.pow_one]
theorem own_D_pos (m : Nat) : 1 ≤ (own_D m).length := by
  by_cases q : m < 10
  · rw [own_D_lo q]; exact Nat.le_refl _
  · rw [own_D_hi q, List.length_append]; exact Nat.le_add_left _ _
theorem own_D_le : ∀ (j m : Nat), m < 10 ^ (j + 1) → (own_D m).length ≤ j + 1
  | 0, m, h => by rw [own_D_lo (by simpa using h)]; exact Nat.le_refl _
  | j + 1, m, h => by
    by_cases q : m < 10
    · rw [own_D_lo q]; exact Nat.le_add_left _ _
    · have ih := own_D_le j (m / 10) (by rw [Nat.div_lt_iff_lt_mul (by decide), ← Nat.pow_succ]; exact h)
      rw [own_D_hi q, List.length_append]
      exact Nat.succ_le_succ ih
theorem own_hi_len : ∀ (j m : Nat), ¬ m < 10 ^ j → (own_hi m j).length + j = (own_D m).length
  | 0, m, h => by rw [own_hi, if_neg h, Nat.pow_zero, Nat.div_one]; rfl
  | j + 1, m, h => by
    have h' : ¬ m < 10 ^ j := fun z => h (Nat.lt_of_lt_of_le z (Nat.pow_le_pow_right (by decide) (Nat.le_succ _)))
    have ih := own_hi_len j m h'
    rw [own_hi_go h', List.length_append] at ih
    simp only [List.length_cons, List.length_nil] at ih
    omega
theorem own_D_iff {j m : Nat} (hj : 1 ≤ j) : j < (own_D m).length ↔ ¬ m < 10 ^ j := by
  constructor
  · intro h q
    obtain ⟨i, rfl⟩ : ∃ i, j = i + 1 := ⟨j - 1, by omega⟩
    have := own_D_le i m q
    omega
  · intro h
    have q := own_hi_len j m h
    have : 1 ≤ (own_hi m j).length := by rw [own_hi, if_neg h]; exact own_D_pos _
    omega
def own_m (x : Int32) : Nat := x.toInt.natAbs
def own_put (x : Int32) : List Int32 := (if x < (0 : Int32) then [(45 : Int32)] else []) ++ own_D (own_m x)
theorem own_m_le (x : Int32) : own_m x ≤ 2147483648 := by
  have h1 := x.le_toInt
  have h2 := x.toInt_lt
  unfold own_m; omega
theorem own_D11 (x : Int32) : (own_D (own_m x)).length ≤ 10 := own_D_le 9 _ (Nat.lt_of_le_of_lt (own_m_le x) (by decide))
theorem own_put_len (x : Int32) : 1 ≤ (own_put x).length ∧ (own_put x).length ≤ 11 := by
  have h1 := own_D_pos (own_m x)
  have h2 := own_D11 x
  unfold own_put
  rw [List.length_append]
  split <;> simp only [List.length_cons, List.length_nil] <;> omega
/-- what the code has of a number: it below nought -/
def own_ng (x : Int32) : Int32 := if x < (0 : Int32) then x else (-x)
theorem own_ng_is (x : Int32) : own_ng x = Jvm.Free.SBG.negI (own_m x) := by
  have h1 := x.le_toInt
  have h2 := x.toInt_lt
  have e0 : (0 : Int32).toInt = 0 := rfl
  apply Int32.toInt_inj.mp
  rw [Jvm.Free.SBG.negI_toInt (own_m_le x)]
  unfold own_ng own_m
  by_cases c : x < (0 : Int32)
  · rw [if_pos c]; rw [Int32.lt_iff_toInt_lt, e0] at c; omega
  · rw [if_neg c]; rw [Int32.lt_iff_toInt_lt, e0] at c
    rw [Int32.toInt_neg, Jvm.Free.SBG.bm (by omega) (by omega)]; omega
def own_sgn (x : Int32) : List Int32 := if x < (0 : Int32) then [(45 : Int32)] else []
theorem own_put_is (x : Int32) : own_put x = own_sgn x ++ own_D (own_m x) := rfl
theorem own_D_two {m : Nat} (h : ¬ m < 100) : own_D m = own_D (m / 100) ++ [Int32.ofNat (48 + m % 100 / 10), Int32.ofNat (48 + m % 100 % 10)] := by
  rw [own_D_hi (by omega), own_D_hi (m := m / 10) (by omega), Nat.div_div_eq_div_mul, List.append_assoc, show m / 10 % 10 = m % 100 / 10 from by omega, show m % 10 = m % 100 % 10 from by omega]; rfl
theorem own_D_100 {m : Nat} (h : m < 100) (h2 : ¬ m < 10) : own_D m = [Int32.ofNat (48 + m / 10), Int32.ofNat (48 + m % 10)] := by
  rw [own_D_hi h2, own_D_lo (m := m / 10) (by omega)]; rfl
abbrev own_ones : List Int32 := (List.range 100).map fun i => Int32.ofNat (48 + i % 10)
abbrev own_tens : List Int32 := (List.range 100).map fun i => Int32.ofNat (48 + i / 10)
theorem own_at_ones : ∀ r < 100, own_at own_ones (Int32.ofNat r) = Int32.ofNat (48 + r % 10) := by decide +kernel
theorem own_at_tens : ∀ r < 100, own_at own_tens (Int32.ofNat r) = Int32.ofNat (48 + r / 10) := by decide +kernel
theorem own_rep_snoc (l : List Int32) (n : Nat) (dn : List Int32) : l ++ List.replicate (n + 1) (0 : Int32) ++ dn = (l ++ List.replicate n (0 : Int32)) ++ 0 :: dn := by
  rw [List.replicate_succ', ← List.append_assoc, List.append_assoc]; rfl
theorem own_pred {n : Nat} : Int32.ofNat (n + 1) + (-1 : Int32) = Int32.ofNat n := by
  rw [Int32.ofNat_add, Int32.add_assoc]; simp
theorem own_ofi {n : Nat} (h : n < 2147483648) : (Int32.ofNat n).toInt = n := Int32.toInt_ofNat_small h
theorem own_clamp {n : Nat} (h : n < 2147483648) : (Int32.ofNat n).toNatClampNeg = n := by
  simp only [Int32.toNatClampNeg, Int32.toInt_ofNat_small h]; omega
theorem own_len_mid {pre r : List Int32} {a j : Int32} (h : j = Int32.ofNat pre.length ∧ pre.length < 2147483648) : j.toNatClampNeg < (pre ++ a :: r).length := by
  obtain ⟨rfl, h⟩ := h
  rw [own_clamp h, List.length_append, List.length_cons]; omega
theorem own_set_len (a x : Int32) (r : List Int32) : ∀ pre : List Int32, (pre ++ a :: r).set pre.length x = pre ++ x :: r
  | [] => rfl
  | b :: pre => congrArg (List.cons b) (own_set_len a x r pre)
theorem own_set_mid {pre r : List Int32} {a x j : Int32} (h : j = Int32.ofNat pre.length ∧ pre.length < 2147483648) : (pre ++ a :: r).set j.toNatClampNeg x = pre ++ x :: r := by
  obtain ⟨rfl, h⟩ := h
  rw [own_clamp h]; exact own_set_len a x r pre
theorem own_pad1 {Z : State} {h : Heap} {b : Addr} {k : ClassId} {ty : FieldType} {z : Int32} {Q : List Int32} (V : Arv Z h b k ty z (List.map Value.int Q) (.int 0)) : Arv Z h b k ty z (List.map Value.int (Q ++ [0])) (.int 0) := by
  have q := V.pad (pad_rep (List.map Value.int Q) (.int 0) 1)
  rw [List.map_append]; exact q
theorem own_padk {Z : State} {h : Heap} {b : Addr} {k : ClassId} {ty : FieldType} {z : Int32} {Q : List Int32} (V : Arv Z h b k ty z (List.map Value.int Q) (.int 0)) (n : Nat) : Arv Z h b k ty z (List.map Value.int (Q ++ List.replicate n (0 : Int32) ++ [])) (.int 0) := by
  have q := V.pad (pad_rep (List.map Value.int Q) (.int 0) n)
  rw [List.append_nil, List.map_append, List.map_replicate]; exact q
theorem own_succ (n : Nat) : Int32.ofNat n + (1 : Int32) = Int32.ofNat (n + 1) := by rw [Int32.ofNat_add]; rfl
theorem own_n_snoc (Q : List Int32) (x : Int32) : own_n Q + (1 : Int32) = own_n (Q ++ [x]) := by
  unfold own_n; rw [List.length_append]; exact own_succ _
theorem own_lt40 {n : Nat} (h : n < 40) : ¬ Int32.ofNat n < (0 : Int32) ∧ Int32.ofNat n < (40 : Int32) := by
  have e0 : (0 : Int32).toInt = 0 := rfl
  have e4 : (40 : Int32).toInt = 40 := rfl
  rw [Int32.lt_iff_toInt_lt, Int32.lt_iff_toInt_lt, own_ofi (by omega), e0, e4]; omega
theorem own_n_in {l : List Int32} (h : l.length < 40) : ¬ own_n l < (0 : Int32) ∧ own_n l < (40 : Int32) := own_lt40 h
theorem own_lt100 {n : Nat} (h : n < 100) : ¬ Int32.ofNat n < (0 : Int32) ∧ Int32.ofNat n < (100 : Int32) := by
  have e0 : (0 : Int32).toInt = 0 := rfl
  have e4 : (100 : Int32).toInt = 100 := rfl
  rw [Int32.lt_iff_toInt_lt, Int32.lt_iff_toInt_lt, own_ofi (by omega), e0, e4]; omega
def own_sg (l : List Int32) (x : Int32) : List Int32 := if (x.toInt64) < (0 : Int64) then l ++ [(45 : Int32)] else l
def own_abs (x : Int32) : Int64 := if (x.toInt64) < (0 : Int64) then (-(x.toInt64)) else (x.toInt64)
theorem own_sg_len (l : List Int32) (x : Int32) : (own_sg l x).length ≤ l.length + 1 := by
  unfold own_sg
  split
  · rw [List.length_append]; exact Nat.le_refl _
  · exact Nat.le_succ _
theorem own_neg64 (x : Int32) : (x.toInt64) < (0 : Int64) ↔ x < (0 : Int32) := by
  rw [Int64.lt_iff_toInt_lt, Int32.lt_iff_toInt_lt, Int32.toInt_toInt64]; exact Iff.rfl
theorem own_abs_m (x : Int32) : own_abs x = Int64.ofNat (own_m x) := by
  have h1 := x.le_toInt
  have h2 := x.toInt_lt
  have h3 := own_m_le x
  have e0 : (0 : Int32).toInt = 0 := rfl
  apply Int64.toInt_inj.mp
  rw [Int64.toInt_ofNat_of_lt (by omega)]
  unfold own_abs own_m
  by_cases c : x < (0 : Int32)
  · rw [if_pos ((own_neg64 x).mpr c), Int64.toInt_neg, Int32.toInt_toInt64]
    rw [Int32.lt_iff_toInt_lt, e0] at c
    rw [Int.bmod_eq_of_le (by omega) (by omega)]; omega
  · rw [if_neg (fun q => c ((own_neg64 x).mp q)), Int32.toInt_toInt64]
    rw [Int32.lt_iff_toInt_lt, e0] at c; omega
theorem own_sg_put (l : List Int32) (x : Int32) : own_sg l x ++ own_D (own_m x) = l ++ (own_put x) := by
  unfold own_sg own_put
  by_cases c : x < (0 : Int32)
  · rw [if_pos ((own_neg64 x).mpr c), if_pos c, List.append_assoc]
  · rw [if_neg (fun q => c ((own_neg64 x).mp q)), if_neg c]; rfl
theorem own_ofNat_lt {j n : Nat} (hn : n ≤ 10) (h : Int32.ofNat j < Int32.ofNat n) (hj : j ≤ 10 := by decide) : j < n := by
  rw [Int32.lt_iff_toInt_lt, own_ofi (by omega), own_ofi (by omega)] at h; omega
theorem own_lt_ofNat {j n : Nat} (hn : n ≤ 10) (h : j < n) : Int32.ofNat j < Int32.ofNat n := by
  rw [Int32.lt_iff_toInt_lt, own_ofi (by omega), own_ofi (by omega)]; omega
theorem own_ixe {a3 nd : Int32} {W : List Int32} {n q : Nat} (kk : Nat) (ha : a3 = own_n W) (hn : nd = Int32.ofNat n) (h : W.length + n = q + kk) (hb : q + kk < 2147483648) : ((a3 + nd) - Int32.ofNat kk) = Int32.ofNat q := by
  subst ha; subst hn
  unfold own_n
  rw [← Int32.ofNat_add, h]
  apply Int32.toBitVec_inj.mp
  apply BitVec.eq_of_toNat_eq
  simp only [Int32.toBitVec_sub, Int32.toBitVec_ofNat', BitVec.toNat_sub, BitVec.toNat_ofNat]
  omega
theorem own_dcb1 {k : Nat} (h : k < 10) : ¬ Int32.ofNat (48 + k) < (48 : Int32) ∧ ¬ (57 : Int32) < Int32.ofNat (48 + k) := by
  have e0 : (48 : Int32).toInt = 48 := rfl
  have e4 : (57 : Int32).toInt = 57 := rfl
  rw [Int32.lt_iff_toInt_lt, Int32.lt_iff_toInt_lt, own_ofi (by omega), e0, e4]; omega
theorem own_sub1 (a b : Int32) : a - b + b = a := by
  apply Int32.toBitVec_inj.mp
  simp
theorem own_chN : ∀ k < 10, ((48 : Int32) + (Int32.ofNat k)).toUInt32.toUInt16.toUInt32.toInt32 = Int32.ofNat (48 + k) := by decide +kernel
theorem own_rem10 {n : Nat} (h : n ≤ 2147483648) : ((Int64.ofNat n - (Int64.ofNat n / (10 : Int64)) * (10 : Int64)).toInt32) = Int32.ofNat (n % 10) := by
  have e10 : (10 : Int64).toInt = 10 := rfl
  have hd : Int64.ofNat n / (10 : Int64) = Int64.ofNat (n / 10) := by
    apply Int64.toInt_inj.mp
    rw [Int64.toInt_div_of_ne_right _ _ (by decide), Int64.toInt_ofNat_of_lt (by omega), Int64.toInt_ofNat_of_lt (by omega), e10, Int.tdiv_eq_ediv_of_nonneg (by omega)]; omega
  have hr : Int64.ofNat n - Int64.ofNat (n / 10) * (10 : Int64) = Int64.ofNat (n % 10) := by
    apply Int64.toInt_inj.mp
    rw [Int64.toInt_sub, Int64.toInt_mul, Int64.toInt_ofNat_of_lt (by omega), Int64.toInt_ofNat_of_lt (by omega), Int64.toInt_ofNat_of_lt (by omega), e10, Int.bmod_eq_of_le (n := ((n / 10 : Nat) : Int) * 10) (by omega) (by omega), Int.bmod_eq_of_le (by omega) (by omega)]; omega
  rw [hd, hr]
  have : ∀ k < 10, (Int64.ofNat k).toInt32 = Int32.ofNat k := by decide +kernel
  exact this _ (Nat.mod_lt _ (by decide))
theorem own_div64 {n d : Nat} (h : n ≤ 2147483648) (hd : 0 < d ∧ d < 4294967296) : Int64.ofNat n / Int64.ofNat d = Int64.ofNat (n / d) := by
  have h2 : n / d ≤ n := Nat.div_le_self _ _
  apply Int64.toInt_inj.mp
  rw [Int64.toInt_div_of_ne_right _ _ (fun q => by have := congrArg Int64.toInt q; rw [Int64.toInt_ofNat_of_lt (by omega)] at this; have e : (-1 : Int64).toInt = -1 := rfl; omega), Int64.toInt_ofNat_of_lt (by omega), Int64.toInt_ofNat_of_lt (by omega), Int64.toInt_ofNat_of_lt (by omega), Int.tdiv_eq_ediv_of_nonneg (by omega)]; rfl
theorem own_chv {m d : Nat} (hm : m ≤ 2147483648) (hd : 0 < d ∧ d < 4294967296) : (((48 : Int32) + (((Int64.ofNat m / Int64.ofNat d) - ((Int64.ofNat m / Int64.ofNat d) / (10 : Int64)) * (10 : Int64)).toInt32)).toUInt32.toUInt16.toUInt32.toInt32) = Int32.ofNat (48 + m / d % 10) := by
  have h2 : m / d ≤ m := Nat.div_le_self _ _
  rw [own_div64 hm hd, own_rem10 (by omega)]; exact own_chN _ (Nat.mod_lt _ (by decide))
theorem own_chv0 {m : Nat} (hm : m ≤ 2147483648) : (((48 : Int32) + ((Int64.ofNat m - (Int64.ofNat m / (10 : Int64)) * (10 : Int64)).toInt32)).toUInt32.toUInt16.toUInt32.toInt32) = Int32.ofNat (48 + m % 10) := by
  rw [own_rem10 hm]; exact own_chN _ (Nat.mod_lt _ (by decide))
theorem own_incap {n : Nat} {z : Int32} {R : List Int32} (hc : R.length ≤ z.toNatClampNeg ∧ ¬ z < (0 : Int32)) (h : n < R.length) : ¬ Int32.ofNat n < (0 : Int32) ∧ Int32.ofNat n < z := by
  have e0 : (0 : Int32).toInt = 0 := rfl
  have h1 := z.toInt_lt
  obtain ⟨a, b⟩ := hc
  rw [Int32.lt_iff_toInt_lt, e0] at b
  simp only [Int32.toNatClampNeg] at a
  rw [Int32.lt_iff_toInt_lt, Int32.lt_iff_toInt_lt, own_ofi (by omega), e0]; omega
theorem own_rep1 (l : List Int32) (n : Nat) : l ++ List.replicate (n + 1) (0 : Int32) = (l ++ List.replicate n (0 : Int32)) ++ 0 :: [] := by
  have := own_rep_snoc l n []
  rw [List.append_nil] at this; exact this
theorem own_m9 {m : Nat} (h : m ≤ 2147483648) (h2 : ¬ m < 10) : Jvm.Free.SBG.negI m < (-9 : Int32) := by
  have e : (-9 : Int32).toInt = -9 := rfl
  rw [Int32.lt_iff_toInt_lt, Jvm.Free.SBG.negI_toInt h, e]; omega
theorem own_m9n {m : Nat} (h : m ≤ 2147483648) (h2 : m < 10) : ¬ Jvm.Free.SBG.negI m < (-9 : Int32) := by
  have e : (-9 : Int32).toInt = -9 := rfl
  rw [Int32.lt_iff_toInt_lt, Jvm.Free.SBG.negI_toInt h, e]; omega
theorem own_gc0 {l : List Int32} {x i1 : Int32} (h : i1 = own_n (l ++ (own_put x))) : i1 = Int32.ofNat (l.length + ((own_sgn x).length + (own_D (own_m x)).length)) := by
  rw [h, own_put_is]; unfold own_n; rw [List.length_append, List.length_append]
def own_hc (n c0 c1 : Int32) : List Int32 := if n < (1 : Int32) then [] else (if n < (2 : Int32) then [c0] else [c0, c1])
theorem own_hc_len (n c0 c1 : Int32) : 0 ≤ (own_hc n c0 c1).length ∧ (own_hc n c0 c1).length ≤ 2 := ⟨Nat.zero_le _, by unfold own_hc; (repeat' split) <;> simp⟩
theorem own_n0 {x : Int32} (h : x = (1 : Int32)) : ¬ (x = (0 : Int32)) := by rw [h]; decide
theorem Cold.nil {Z : State} {EL : List (String × Nat)} {s : State} {xs : List Addr} {vm0 : Vm} {h : Heap} (H : Cold Z EL s xs vm0 h) : Cold Z EL s ([] : List Addr) vm0 h := ⟨H.1, H.2.1, fun _ q => nomatch q⟩
theorem own_b39 {j : Nat} (h : j < 40) : ¬ Int32.ofNat j < (0 : Int32) ∧ ¬ (39 : Int32) < Int32.ofNat j := by
  have e0 : (0 : Int32).toInt = 0 := rfl
  have e4 : (39 : Int32).toInt = 39 := rfl
  rw [Int32.lt_iff_toInt_lt, Int32.lt_iff_toInt_lt, own_ofi (by omega), e0, e4]; omega
theorem own_tbl {Z : State} {args : Array Value} {t : Term} {F : Term} {vs : List Int32} (wa : (Cond.arrayClass .byte).before args Z = true) (hE : (Jvm.Cond.exactly t "[B").value args Z none Z [] = some true) (hL : (Jvm.Cond.eq (Jvm.Term.length t) (Jvm.Term.int (100 : Int32))).value args Z none Z [] = some true)
    (hA : (Jvm.Cond.all t (Jvm.Cond.eq (Jvm.Term.elem t (Jvm.Term.index (0 : Nat))) F)).value args Z none Z [] = some true) (ht : ∀ i, t.eval args Z none [i] Z = t.eval args Z none [] Z) (hF : ∀ i < 100, F.eval args Z none [i] Z = some (.int (vs.getD i 0))) (hv : ∀ i < 100, fits .byte (.int (vs.getD i 0)) = true) :
    ∃ a k, t.eval args Z none [] Z = some (.ref a) ∧ Arv Z Z.heap a k .byte (100 : Int32) (vs.map Value.int) (.int 0) := by
  obtain ⟨a, c0, cell, k, ev, hf, hh, hk, hst, hcls, -⟩ := Cond.exactly_spec (beq_iff_eq.mpr hE : (Cond.exactly t "[B").holds args Z none Z [] = true)
  have e := eqv_i (Term.int_eval 100) hL
  cases ha : Z.arrayAt? a with
  | none => simp [Term.eval, ev, ha] at e
  | some c =>
    obtain ⟨q1, q2, -⟩ := arrayAt_spec ha
    cases hh.symm.trans q1
    obtain ⟨cA, kA, comp, g1, g2, g3⟩ := Cond.arrayClass_spec wa
    have g1' : Z.vm.findClass "[B" = some cA := g1
    cases hf.symm.trans g1'
    have hz : cell.slots.size = 100 := by
      by_cases q : cell.slots.size < 2 ^ 31
      · have e2 := len_f (first := Z) (o := none) (idx := []) (args := args) ev ha q
        rw [e] at e2
        have e3 : (100 : Int32) = cell.slots.size.toInt32 := by injection e2 with e3; injection e3
        have e4 := congrArg Int32.toInt e3
        rw [show cell.slots.size.toInt32.toInt = (cell.slots.size : Int) from Int32.toInt_ofNat_small q] at e4
        have : (100 : Int32).toInt = 100 := rfl
        omega
      · exfalso
        simp [Term.eval, ev, ha, q] at e
    have A : Arr Z Z.heap a cell .byte := ⟨hh, ⟨q2, kA, by rw [hcls]; exact g2, comp, g3⟩, arrayAt_known ha⟩
    have el : ∀ i, i < cell.slots.size → cell.slots[i]? = some (.int (vs.getD i 0)) := fun i hi => by
      have z := Cond.all_elim ev ha hA i hi
      rw [hz] at hi
      have z2 := eqv_i (hF i hi) z
      have z3 := (elem_in z2 ((ht i).trans ev) (j := i.toInt32) (by simp [Term.eval]) hh).2
      rw [show i.toInt32.toNatClampNeg = i from by simp only [Int32.toNatClampNeg, show i.toInt32.toInt = (i : Int) from Int32.toInt_ofNat_small (by omega)]; omega] at z3
      exact z3
    refine ⟨a, cell.cls, ev, cell, A, rfl, by rw [hz]; rfl, by decide, fun i hi => by rw [own_getD]; exact el i hi, fun i hi => by rw [own_getD]; exact hv i (by omega)⟩

theorem own_onesF {Z : State} {args : Array Value} : ∀ i < 100, (Jvm.Term.add (Jvm.Term.int (48 : Int32)) (Jvm.Term.rem (Jvm.Term.index (0 : Nat)) (Jvm.Term.int (10 : Int32)))).eval args Z none [i] Z = some (.int (own_ones.getD i 0)) := fun i hi => by
  have q : ∀ i < 100, (48 : Int32) + i.toInt32 % 10 = own_ones.getD i 0 := by decide +kernel
  rw [← q i hi]; simp [Term.eval]
theorem own_tensF {Z : State} {args : Array Value} : ∀ i < 100, (Jvm.Term.add (Jvm.Term.int (48 : Int32)) (Jvm.Term.div (Jvm.Term.index (0 : Nat)) (Jvm.Term.int (10 : Int32)))).eval args Z none [i] Z = some (.int (own_tens.getD i 0)) := fun i hi => by
  have q : ∀ i < 100, (48 : Int32) + i.toInt32 / 10 = own_tens.getD i 0 := by decide +kernel
  rw [← q i hi]; simp [Term.eval]
theorem own_onesB : ∀ i < 100, fits .byte (.int (own_ones.getD i 0)) = true := by decide +kernel
theorem own_tensB : ∀ i < 100, fits .byte (.int (own_tens.getD i 0)) = true := by decide +kernel
theorem w3 : WD (Cond.arrayClass Jvm.ClassFile.FieldType.byte) := wd 3 rfl
theorem sg0_0_6 : decs code [(0, .iload_n 1, 1), (1, .bipush 16, 2), (3, .iushr, 1), (4, .iconst 3, 1), (5, .iand, 1), (6, .istore 4, 2)] := dk (by decide +kernel)
theorem sg0_8_4 : decs code [(8, .iload_n 1, 1), (9, .sipush 255, 3), (12, .iand, 1), (13, .i2c, 1)] := dk (by decide +kernel)
theorem sg0_14_1 : decs code [(14, .istore 5, 2)] := dk (by decide +kernel)
theorem sg0_16_6 : decs code [(16, .iload_n 1, 1), (17, .bipush 8, 2), (19, .iushr, 1), (20, .sipush 255, 3), (23, .iand, 1), (24, .i2c, 1)] := dk (by decide +kernel)
theorem sg0_25_1 : decs code [(25, .istore 6, 2)] := dk (by decide +kernel)
theorem sg0_27_1 : decs code [(27, .iload 4, 2)] := dk (by decide +kernel)
theorem sg0_32_2 : decs code [(32, .iconst 0, 1), (33, .goto 14, 3)] := dk (by decide +kernel)
theorem sg0_36_2 : decs code [(36, .iload 4, 2), (38, .iconst 1, 1)] := dk (by decide +kernel)
theorem sg0_42_2 : decs code [(42, .iconst 1, 1), (43, .goto 4, 3)] := dk (by decide +kernel)
theorem sg0_46_1 : decs code [(46, .iconst 2, 1)] := dk (by decide +kernel)
theorem sg0_47_1 : decs code [(47, .istore 7, 2)] := dk (by decide +kernel)
theorem sg0_49_1 : decs code [(49, .iload 7, 2)] := dk (by decide +kernel)
theorem w0 : WD (Cond.stringLink "com/example/token_relay/tokenrelay/MemberToStringPinLaw" 7 "") := wd 0 rfl
theorem sg0_56_2 : decs code [(56, .astore 8, 2), (58, .goto 41, 3)] := dk (by decide +kernel)
theorem sg0_61_2 : decs code [(61, .iload 7, 2), (63, .iconst 1, 1)] := dk (by decide +kernel)
theorem w214 : WD (Cond.methodLink "com/example/token_relay/tokenrelay/MemberToStringPinLaw" 9 ⟨"java/lang/String", "valueOf", "(C)Ljava/lang/String;"⟩) := wd 214 rfl
theorem sg0_67_1 : decs code [(67, .iload 5, 2)] := dk (by decide +kernel)
theorem d38_0 : decode c_6 0 = .ok (.getstatic 38, 3) := by decide +kernel
theorem w123 : WD (Cond.fieldLink "java/lang/String" 38 "java/lang/String" "COMPACT_STRINGS" "Z") := wd 123 rfl
theorem d38_3 : decode c_6 3 = .ok (.ifCond .eq 23, 3) := by decide +kernel
theorem w217 : WD (Cond.methodLink "java/lang/String" 1015 ⟨"java/lang/StringLatin1", "canEncode", "(C)Z"⟩) := wd 217 rfl
theorem sg38_6_1 : decs c_6 [(6, .iload_n 0, 1)] := dk (by decide +kernel)
theorem d38_7 : decode c_6 7 = .ok (.invokestatic 1015, 3) := by decide +kernel
theorem sg39_0_2 : decs c_19 [(0, .iload_n 0, 1), (1, .sipush 255, 3)] := dk (by decide +kernel)
theorem d39_4 : decode c_19 4 = .ok (.if_icmp .gt 7, 3) := by decide +kernel
theorem sg39_7_2 : decs c_19 [(7, .iconst 1, 1), (8, .goto 4, 3)] := dk (by decide +kernel)
theorem d39_12 : decode c_19 12 = .ok (.ireturn, 1) := by decide +kernel
theorem ef_rm39_0 (m : MethodId) (x0 : Int32) : entryFrame m #[(.int x0)] 1 = mkF m 0 #[.val (.int x0)] [] := by first | (simp [entryFrame, mkF, argsToLocals, Value.category]; done) | rfl
theorem own_pn0 : plainName "java/lang/StringLatin1" = true := by first | (simp [plainName, overriddenIn]; done) | decide +kernel
theorem w219 : WD (Cond.code ⟨"java/lang/StringLatin1", "canEncode", "(C)Z"⟩ jdk_43_method_3_code 1 (Option.some Jvm.ClassFile.FieldType.boolean)) := wd 219 rfl
theorem w203 : WD (Cond.initialized "java/lang/StringLatin1") := wd 203 rfl
theorem own_pd0 : parseMethodDescriptor "(C)Z" = some ⟨[.char], some .boolean⟩ := by decide +kernel
theorem w218 : WD (Cond.static ⟨"java/lang/StringLatin1", "canEncode", "(C)Z"⟩) := wd 218 rfl
theorem d38_10 : decode c_6 10 = .ok (.ifCond .eq 16, 3) := by decide +kernel
theorem d38_13 : decode c_6 13 = .ok (.new 10, 3) := by decide +kernel
theorem w220 : WD (Cond.classLink "java/lang/String" 10 "java/lang/String") := wd 220 rfl
theorem w2 : WD (Cond.instantiable "java/lang/String" 4) := wd 2 rfl
theorem w1 : WD (Cond.initialized "java/lang/String") := wd 1 rfl
theorem w4 : WD (Cond.laysFinal "java/lang/String" "java/lang/String" "value" "[B") := wd 4 rfl
theorem w5 : WD (Cond.laysFinal "java/lang/String" "java/lang/String" "coder" "B") := wd 5 rfl
theorem w221 : WD (Cond.methodLink "java/lang/String" 1018 ⟨"java/lang/StringLatin1", "toBytes", "(C)[B"⟩) := wd 221 rfl
theorem sg38_16_2 : decs c_6 [(16, .dup, 1), (17, .iload_n 0, 1)] := dk (by decide +kernel)
theorem d38_18 : decode c_6 18 = .ok (.invokestatic 1018, 3) := by decide +kernel
theorem sg40_0_1 : decs c_20 [(0, .iconst 1, 1)] := dk (by decide +kernel)
theorem d40_1 : decode c_20 1 = .ok (.newarray .byte, 2) := by decide +kernel
theorem sg40_3_4 : decs c_20 [(3, .dup, 1), (4, .iconst 0, 1), (5, .iload_n 0, 1), (6, .i2b, 1)] := dk (by decide +kernel)
theorem d40_7 : decode c_20 7 = .ok (.bastore, 1) := by decide +kernel
theorem d40_8 : decode c_20 8 = .ok (.areturn, 1) := by decide +kernel
theorem w223 : WD (Cond.code ⟨"java/lang/StringLatin1", "toBytes", "(C)[B"⟩ jdk_43_method_46_code 1 (Option.some (Jvm.ClassFile.FieldType.array Jvm.ClassFile.FieldType.byte))) := wd 223 rfl
theorem own_pd1 : parseMethodDescriptor "(C)[B" = some ⟨[.char], some (.array .byte)⟩ := by decide +kernel
theorem w222 : WD (Cond.static ⟨"java/lang/StringLatin1", "toBytes", "(C)[B"⟩) := wd 222 rfl
theorem w224 : WD (Cond.methodLink "java/lang/String" 209 ⟨"java/lang/String", "<init>", "([BB)V"⟩) := wd 224 rfl
theorem sg38_21_1 : decs c_6 [(21, .iconst 0, 1)] := dk (by decide +kernel)
theorem d38_22 : decode c_6 22 = .ok (.invokespecial 209, 3) := by decide +kernel
theorem w157 : WD (Cond.methodLink "java/lang/String" 1 ⟨"java/lang/Object", "<init>", "()V"⟩) := wd 157 rfl
theorem sg41_0_1 : decs c_10 [(0, .aload_n 0, 1)] := dk (by decide +kernel)
theorem d41_1 : decode c_10 1 = .ok (.invokespecial 1, 3) := by decide +kernel
theorem w33 : WD (Cond.code ⟨"java/lang/Object", "<init>", "()V"⟩ object_method_1_code 1 (Option.none : Option Jvm.ClassFile.FieldType)) := wd 33 rfl
theorem w32 : WD (Cond.instanceMethod ⟨"java/lang/Object", "<init>", "()V"⟩) := wd 32 rfl
theorem sg41_4_2 : decs c_10 [(4, .aload_n 0, 1), (5, .aload_n 1, 1)] := dk (by decide +kernel)
theorem d41_6 : decode c_10 6 = .ok (.putfield 9, 3) := by decide +kernel
theorem w117 : WD (Cond.fieldLink "java/lang/String" 9 "java/lang/String" "value" "[B") := wd 117 rfl
theorem sg41_9_2 : decs c_10 [(9, .aload_n 0, 1), (10, .iload_n 2, 1)] := dk (by decide +kernel)
theorem d41_11 : decode c_10 11 = .ok (.putfield 15, 3) := by decide +kernel
theorem w124 : WD (Cond.fieldLink "java/lang/String" 15 "java/lang/String" "coder" "B") := wd 124 rfl
theorem d41_14 : decode c_10 14 = .ok (.return_, 1) := by decide +kernel
theorem ef_rm41_0 (m : MethodId) (x0 : Addr) (x1 : Addr) (x2 : Int32) : entryFrame m #[(.ref x0), (.ref x1), (.int x2)] 3 = mkF m 0 #[.val (.ref x0), .val (.ref x1), .val (.int x2)] [] := by first | (simp [entryFrame, mkF, argsToLocals, Value.category]; done) | rfl
theorem own_pn1 : plainName "java/lang/String" = true := by first | (simp [plainName, overriddenIn]; done) | decide +kernel
theorem w226 : WD (Cond.code ⟨"java/lang/String", "<init>", "([BB)V"⟩ jdk_42_method_151_code 3 (Option.none : Option Jvm.ClassFile.FieldType)) := wd 226 rfl
theorem own_pd2 : parseMethodDescriptor "([BB)V" = some ⟨[(.array .byte), .byte], none⟩ := by decide +kernel
theorem w225 : WD (Cond.instanceMethod ⟨"java/lang/String", "<init>", "([BB)V"⟩) := wd 225 rfl
theorem d38_25 : decode c_6 25 = .ok (.areturn, 1) := by decide +kernel
theorem w216 : WD (Cond.code ⟨"java/lang/String", "valueOf", "(C)Ljava/lang/String;"⟩ jdk_42_method_139_code 1 (Option.some (Jvm.ClassFile.FieldType.object "java/lang/String"))) := wd 216 rfl
theorem own_pd3 : parseMethodDescriptor "(C)Ljava/lang/String;" = some ⟨[.char], some (.object "java/lang/String")⟩ := by decide +kernel
theorem w215 : WD (Cond.static ⟨"java/lang/String", "valueOf", "(C)Ljava/lang/String;"⟩) := wd 215 rfl
theorem sg0_72_2 : decs code [(72, .astore 8, 2), (74, .goto 25, 3)] := dk (by decide +kernel)
theorem w253 : WD (Cond.classLink "com/example/token_relay/tokenrelay/MemberToStringPinLaw" 10 "java/lang/String") := wd 253 rfl
theorem sg0_80_2 : decs code [(80, .dup, 1), (81, .iconst 2, 1)] := dk (by decide +kernel)
theorem w8 : WD (Cond.arrayClass Jvm.ClassFile.FieldType.char) := wd 8 rfl
theorem sg0_84_3 : decs code [(84, .dup, 1), (85, .iconst 0, 1), (86, .iload 5, 2)] := dk (by decide +kernel)
theorem sg0_89_3 : decs code [(89, .dup, 1), (90, .iconst 1, 1), (91, .iload 6, 2)] := dk (by decide +kernel)
theorem w254 : WD (Cond.methodLink "com/example/token_relay/tokenrelay/MemberToStringPinLaw" 15 ⟨"java/lang/String", "<init>", "([C)V"⟩) := wd 254 rfl
theorem sg46_0_4 : decs c_14 [(0, .aload_n 0, 1), (1, .aload_n 1, 1), (2, .iconst 0, 1), (3, .aload_n 1, 1)] := dk (by decide +kernel)
theorem d46_4 : decode c_14 4 = .ok (.arraylength, 1) := by decide +kernel
theorem w257 : WD (Cond.methodLink "java/lang/String" 27 ⟨"java/lang/String", "<init>", "([CIILjava/lang/Void;)V"⟩) := wd 257 rfl
theorem sg46_5_1 : decs c_14 [(5, .aconst_null, 1)] := dk (by decide +kernel)
theorem d46_6 : decode c_14 6 = .ok (.invokespecial 27, 3) := by decide +kernel
theorem sg47_0_1 : decs c_8 [(0, .aload_n 0, 1)] := dk (by decide +kernel)
theorem d47_1 : decode c_8 1 = .ok (.invokespecial 1, 3) := by decide +kernel
theorem sg47_4_1 : decs c_8 [(4, .iload_n 3, 1)] := dk (by decide +kernel)
theorem d47_5 : decode c_8 5 = .ok (.ifCond .ne 22, 3) := by decide +kernel
theorem d47_27 : decode c_8 27 = .ok (.getstatic 38, 3) := by decide +kernel
theorem d47_30 : decode c_8 30 = .ok (.ifCond .eq 28, 3) := by decide +kernel
theorem w260 : WD (Cond.methodLink "java/lang/String" 177 ⟨"java/lang/StringUTF16", "compress", "([CII)[B"⟩) := wd 260 rfl
theorem sg47_33_3 : decs c_8 [(33, .aload_n 1, 1), (34, .iload_n 2, 1), (35, .iload_n 3, 1)] := dk (by decide +kernel)
theorem d47_36 : decode c_8 36 = .ok (.invokestatic 177, 3) := by decide +kernel
theorem sg48_0_1 : decs c_23 [(0, .iload_n 2, 1)] := dk (by decide +kernel)
theorem d48_1 : decode c_23 1 = .ok (.newarray .byte, 2) := by decide +kernel
theorem w264 : WD (Cond.methodLink "java/lang/StringUTF16" 115 ⟨"java/lang/StringUTF16", "compress", "([CI[BII)I"⟩) := wd 264 rfl
theorem sg48_3_6 : decs c_23 [(3, .astore_n 3, 1), (4, .aload_n 0, 1), (5, .iload_n 1, 1), (6, .aload_n 3, 1), (7, .iconst 0, 1), (8, .iload_n 2, 1)] := dk (by decide +kernel)
theorem d48_9 : decode c_23 9 = .ok (.invokestatic 115, 3) := by decide +kernel
theorem sg49_0_4 : decs c_24 [(0, .iconst 0, 1), (1, .istore 5, 2), (3, .iload 5, 2), (5, .iload 4, 2)] := dk (by decide +kernel)
theorem d49_7 : decode c_24 7 = .ok (.if_icmp .ge 37, 3) := by decide +kernel
theorem sg49_10_2 : decs c_24 [(10, .aload_n 0, 1), (11, .iload_n 1, 1)] := dk (by decide +kernel)
theorem d49_12 : decode c_24 12 = .ok (.caload, 1) := by decide +kernel
theorem sg49_13_3 : decs c_24 [(13, .istore 6, 2), (15, .iload 6, 2), (17, .sipush 255, 3)] := dk (by decide +kernel)
theorem d49_20 : decode c_24 20 = .ok (.if_icmp .le 6, 3) := by decide +kernel
theorem sg49_26_4 : decs c_24 [(26, .aload_n 2, 1), (27, .iload_n 3, 1), (28, .iload 6, 2), (30, .i2b, 1)] := dk (by decide +kernel)
theorem d49_31 : decode c_24 31 = .ok (.bastore, 1) := by decide +kernel
theorem sg49_32_6 : decs c_24 [(32, .iinc 1 1, 3), (35, .iinc 3 1, 3), (38, .iinc 5 1, 3), (41, .goto (-38), 3), (3, .iload 5, 2), (5, .iload 4, 2)] := dk (by decide +kernel)
theorem sg49_44_1 : decs c_24 [(44, .iload 4, 2)] := dk (by decide +kernel)
theorem d49_46 : decode c_24 46 = .ok (.ireturn, 1) := by decide +kernel
theorem ef_rm49_0 (m : MethodId) (x0 : Addr) (x1 : Int32) (x2 : Addr) (x4 : Int32) : entryFrame m #[(.ref x0), (.int x1), (.ref x2), (.int x1), (.int x4)] 7 = mkF m 0 #[.val (.ref x0), .val (.int x1), .val (.ref x2), .val (.int x1), .val (.int x4), .unset, .unset] [] := by first | (simp [entryFrame, mkF, argsToLocals, Value.category]; done) | rfl
theorem own_pn2 : plainName "java/lang/StringUTF16" = true := by first | (simp [plainName, overriddenIn]; done) | decide +kernel
theorem w266 : WD (Cond.code ⟨"java/lang/StringUTF16", "compress", "([CI[BII)I"⟩ jdk_52_method_21_code 7 (Option.some Jvm.ClassFile.FieldType.int)) := wd 266 rfl
theorem w262 : WD (Cond.initialized "java/lang/StringUTF16") := wd 262 rfl
theorem own_pd4 : parseMethodDescriptor "([CI[BII)I" = some ⟨[(.array .char), .int, (.array .byte), .int, .int], some .int⟩ := by decide +kernel
theorem w265 : WD (Cond.static ⟨"java/lang/StringUTF16", "compress", "([CI[BII)I"⟩) := wd 265 rfl
theorem sg48_12_3 : decs c_23 [(12, .istore 4, 2), (14, .iload 4, 2), (16, .iload_n 2, 1)] := dk (by decide +kernel)
theorem d48_17 : decode c_23 17 = .ok (.if_icmp .eq 40, 3) := by decide +kernel
theorem sg48_57_1 : decs c_23 [(57, .aload_n 3, 1)] := dk (by decide +kernel)
theorem d48_58 : decode c_23 58 = .ok (.areturn, 1) := by decide +kernel
theorem ef_rm48_0 (m : MethodId) (x0 : Addr) (x1 : Int32) (x2 : Int32) : entryFrame m #[(.ref x0), (.int x1), (.int x2)] 6 = mkF m 0 #[.val (.ref x0), .val (.int x1), .val (.int x2), .unset, .unset, .unset] [] := by first | (simp [entryFrame, mkF, argsToLocals, Value.category]; done) | rfl
theorem w263 : WD (Cond.code ⟨"java/lang/StringUTF16", "compress", "([CII)[B"⟩ jdk_52_method_16_code 6 (Option.some (Jvm.ClassFile.FieldType.array Jvm.ClassFile.FieldType.byte))) := wd 263 rfl
theorem own_pd5 : parseMethodDescriptor "([CII)[B" = some ⟨[(.array .char), .int, .int], some (.array .byte)⟩ := by decide +kernel
theorem w261 : WD (Cond.static ⟨"java/lang/StringUTF16", "compress", "([CII)[B"⟩) := wd 261 rfl
theorem w267 : WD (Cond.methodLink "java/lang/String" 47 ⟨"java/lang/StringUTF16", "coderFromArrayLen", "([BI)B"⟩) := wd 267 rfl
theorem sg47_39_4 : decs c_8 [(39, .astore 5, 2), (41, .aload_n 0, 1), (42, .aload 5, 2), (44, .iload_n 3, 1)] := dk (by decide +kernel)
theorem d47_45 : decode c_8 45 = .ok (.invokestatic 47, 3) := by decide +kernel
theorem sg50_0_2 : decs c_22 [(0, .iload_n 1, 1), (1, .aload_n 0, 1)] := dk (by decide +kernel)
theorem d50_2 : decode c_22 2 = .ok (.arraylength, 1) := by decide +kernel
theorem sg50_3_4 : decs c_22 [(3, .isub, 1), (4, .bipush 31, 2), (6, .iushr, 1), (7, .i2b, 1)] := dk (by decide +kernel)
theorem d50_8 : decode c_22 8 = .ok (.ireturn, 1) := by decide +kernel
theorem ef_rm50_0 (m : MethodId) (x0 : Addr) (x1 : Int32) : entryFrame m #[(.ref x0), (.int x1)] 2 = mkF m 0 #[.val (.ref x0), .val (.int x1)] [] := by first | (simp [entryFrame, mkF, argsToLocals, Value.category]; done) | rfl
theorem w269 : WD (Cond.code ⟨"java/lang/StringUTF16", "coderFromArrayLen", "([BI)B"⟩ jdk_52_method_15_code 2 (Option.some Jvm.ClassFile.FieldType.byte)) := wd 269 rfl
theorem own_pd6 : parseMethodDescriptor "([BI)B" = some ⟨[(.array .byte), .int], some .byte⟩ := by decide +kernel
theorem w268 : WD (Cond.static ⟨"java/lang/StringUTF16", "coderFromArrayLen", "([BI)B"⟩) := wd 268 rfl
theorem d47_48 : decode c_8 48 = .ok (.putfield 15, 3) := by decide +kernel
theorem sg47_51_2 : decs c_8 [(51, .aload_n 0, 1), (52, .aload 5, 2)] := dk (by decide +kernel)
theorem d47_54 : decode c_8 54 = .ok (.putfield 9, 3) := by decide +kernel
theorem d47_57 : decode c_8 57 = .ok (.return_, 1) := by decide +kernel
theorem ef_rm47_0 (m : MethodId) (x0 : Addr) (x1 : Addr) (x2 : Int32) (x3 : Int32) : entryFrame m #[(.ref x0), (.ref x1), (.int x2), (.int x3), .null] 6 = mkF m 0 #[.val (.ref x0), .val (.ref x1), .val (.int x2), .val (.int x3), .val .null, .unset] [] := by first | (simp [entryFrame, mkF, argsToLocals, Value.category]; done) | rfl
theorem w259 : WD (Cond.code ⟨"java/lang/String", "<init>", "([CIILjava/lang/Void;)V"⟩ jdk_42_method_149_code 6 (Option.none : Option Jvm.ClassFile.FieldType)) := wd 259 rfl
theorem own_pd7 : parseMethodDescriptor "([CIILjava/lang/Void;)V" = some ⟨[(.array .char), .int, .int, (.object "java/lang/Void")], none⟩ := by decide +kernel
theorem w258 : WD (Cond.instanceMethod ⟨"java/lang/String", "<init>", "([CIILjava/lang/Void;)V"⟩) := wd 258 rfl
theorem d46_9 : decode c_14 9 = .ok (.return_, 1) := by decide +kernel
theorem ef_rm46_0 (m : MethodId) (x0 : Addr) (x1 : Addr) : entryFrame m #[(.ref x0), (.ref x1)] 2 = mkF m 0 #[.val (.ref x0), .val (.ref x1)] [] := by first | (simp [entryFrame, mkF, argsToLocals, Value.category]; done) | rfl
theorem w256 : WD (Cond.code ⟨"java/lang/String", "<init>", "([C)V"⟩ jdk_42_method_3_code 2 (Option.none : Option Jvm.ClassFile.FieldType)) := wd 256 rfl
theorem own_pd8 : parseMethodDescriptor "([C)V" = some ⟨[(.array .char)], none⟩ := by decide +kernel
theorem w255 : WD (Cond.instanceMethod ⟨"java/lang/String", "<init>", "([C)V"⟩) := wd 255 rfl
theorem sg0_97_1 : decs code [(97, .astore 8, 2)] := dk (by decide +kernel)
def own_hb (n c0 c1 : Int32) : List Int32 := if n = (0 : Int32) then [] else (if n = (1 : Int32) then [(c0.toInt8.toInt32)] else [(c0.toInt8.toInt32), (c1.toInt8.toInt32)])
theorem own_hb_len (n c0 c1 : Int32) : 0 ≤ (own_hb n c0 c1).length ∧ (own_hb n c0 c1).length ≤ 2 := ⟨Nat.zero_le _, by unfold own_hb; (repeat' split) <;> simp⟩
theorem sg0_99_1 : decs code [(99, .bipush 40, 2)] := dk (by decide +kernel)
theorem sg0_103_4 : decs code [(103, .astore 9, 2), (105, .aload 9, 2), (107, .iconst 0, 1), (108, .iload_n 0, 1)] := dk (by decide +kernel)
theorem w9 : WD (Cond.methodLink "com/example/token_relay/tokenrelay/MemberToStringPinLaw" 18 ⟨"com/example/token_relay/tokenrelay/MemberToStringPinLaw", "put", "([CII)I"⟩) := wd 9 rfl
theorem sg1_0_5 : decs c_46 [(0, .iload_n 1, 1), (1, .istore_n 3, 1), (2, .iload_n 2, 1), (3, .i2l, 1), (4, .lstore 4, 2)] := dk (by decide +kernel)
theorem sg1_6_3 : decs c_46 [(6, .lload 4, 2), (8, .lconst 0, 1), (9, .lcmp, 1)] := dk (by decide +kernel)
theorem d1_10 : decode c_46 10 = .ok (.ifCond .ge 16, 3) := by decide +kernel
theorem sg1_13_3 : decs c_46 [(13, .aload_n 0, 1), (14, .iload_n 3, 1), (15, .bipush 45, 2)] := dk (by decide +kernel)
theorem d1_17 : decode c_46 17 = .ok (.castore, 1) := by decide +kernel
theorem sg1_18_4 : decs c_46 [(18, .iinc 3 1, 3), (21, .lload 4, 2), (23, .lneg, 1), (24, .lstore 4, 2)] := dk (by decide +kernel)
theorem sg1_26_3 : decs c_46 [(26, .iconst 1, 1), (27, .istore 6, 2), (29, .lload 4, 2)] := dk (by decide +kernel)
theorem d1_31 : decode c_46 31 = .ok (.ldc2_w 45, 3) := by decide +kernel
theorem w13 : WD (Cond.constantLong "com/example/token_relay/tokenrelay/MemberToStringPinLaw" 45 (10 : Int64)) := wd 13 rfl
theorem sg1_34_1 : decs c_46 [(34, .lcmp, 1)] := dk (by decide +kernel)
theorem d1_35 : decode c_46 35 = .ok (.ifCond .lt 6, 3) := by decide +kernel
theorem sg1_38_2 : decs c_46 [(38, .iconst 2, 1), (39, .istore 6, 2)] := dk (by decide +kernel)
theorem sg1_41_1 : decs c_46 [(41, .lload 4, 2)] := dk (by decide +kernel)
theorem d1_43 : decode c_46 43 = .ok (.ldc2_w 47, 3) := by decide +kernel
theorem w14 : WD (Cond.constantLong "com/example/token_relay/tokenrelay/MemberToStringPinLaw" 47 (100 : Int64)) := wd 14 rfl
theorem sg1_46_1 : decs c_46 [(46, .lcmp, 1)] := dk (by decide +kernel)
theorem d1_47 : decode c_46 47 = .ok (.ifCond .lt 6, 3) := by decide +kernel
theorem sg1_50_2 : decs c_46 [(50, .iconst 3, 1), (51, .istore 6, 2)] := dk (by decide +kernel)
theorem sg1_53_1 : decs c_46 [(53, .lload 4, 2)] := dk (by decide +kernel)
theorem d1_55 : decode c_46 55 = .ok (.ldc2_w 49, 3) := by decide +kernel
theorem w15 : WD (Cond.constantLong "com/example/token_relay/tokenrelay/MemberToStringPinLaw" 49 (1000 : Int64)) := wd 15 rfl
theorem sg1_58_1 : decs c_46 [(58, .lcmp, 1)] := dk (by decide +kernel)
theorem d1_59 : decode c_46 59 = .ok (.ifCond .lt 6, 3) := by decide +kernel
theorem sg1_62_2 : decs c_46 [(62, .iconst 4, 1), (63, .istore 6, 2)] := dk (by decide +kernel)
theorem sg1_65_1 : decs c_46 [(65, .lload 4, 2)] := dk (by decide +kernel)
theorem d1_67 : decode c_46 67 = .ok (.ldc2_w 51, 3) := by decide +kernel
theorem w16 : WD (Cond.constantLong "com/example/token_relay/tokenrelay/MemberToStringPinLaw" 51 (10000 : Int64)) := wd 16 rfl
theorem sg1_70_1 : decs c_46 [(70, .lcmp, 1)] := dk (by decide +kernel)
theorem d1_71 : decode c_46 71 = .ok (.ifCond .lt 6, 3) := by decide +kernel
theorem sg1_74_2 : decs c_46 [(74, .iconst 5, 1), (75, .istore 6, 2)] := dk (by decide +kernel)
theorem sg1_77_1 : decs c_46 [(77, .lload 4, 2)] := dk (by decide +kernel)
theorem d1_79 : decode c_46 79 = .ok (.ldc2_w 53, 3) := by decide +kernel
theorem w17 : WD (Cond.constantLong "com/example/token_relay/tokenrelay/MemberToStringPinLaw" 53 (100000 : Int64)) := wd 17 rfl
theorem sg1_82_1 : decs c_46 [(82, .lcmp, 1)] := dk (by decide +kernel)
theorem d1_83 : decode c_46 83 = .ok (.ifCond .lt 7, 3) := by decide +kernel
theorem sg1_86_2 : decs c_46 [(86, .bipush 6, 2), (88, .istore 6, 2)] := dk (by decide +kernel)
theorem sg1_90_1 : decs c_46 [(90, .lload 4, 2)] := dk (by decide +kernel)
theorem d1_92 : decode c_46 92 = .ok (.ldc2_w 55, 3) := by decide +kernel
theorem w18 : WD (Cond.constantLong "com/example/token_relay/tokenrelay/MemberToStringPinLaw" 55 (1000000 : Int64)) := wd 18 rfl
theorem sg1_95_1 : decs c_46 [(95, .lcmp, 1)] := dk (by decide +kernel)
theorem d1_96 : decode c_46 96 = .ok (.ifCond .lt 7, 3) := by decide +kernel
theorem sg1_99_2 : decs c_46 [(99, .bipush 7, 2), (101, .istore 6, 2)] := dk (by decide +kernel)
theorem sg1_103_1 : decs c_46 [(103, .lload 4, 2)] := dk (by decide +kernel)
theorem d1_105 : decode c_46 105 = .ok (.ldc2_w 57, 3) := by decide +kernel
theorem w19 : WD (Cond.constantLong "com/example/token_relay/tokenrelay/MemberToStringPinLaw" 57 (10000000 : Int64)) := wd 19 rfl
theorem sg1_108_1 : decs c_46 [(108, .lcmp, 1)] := dk (by decide +kernel)
theorem d1_109 : decode c_46 109 = .ok (.ifCond .lt 7, 3) := by decide +kernel
theorem sg1_112_2 : decs c_46 [(112, .bipush 8, 2), (114, .istore 6, 2)] := dk (by decide +kernel)
theorem sg1_116_1 : decs c_46 [(116, .lload 4, 2)] := dk (by decide +kernel)
theorem d1_118 : decode c_46 118 = .ok (.ldc2_w 59, 3) := by decide +kernel
theorem w20 : WD (Cond.constantLong "com/example/token_relay/tokenrelay/MemberToStringPinLaw" 59 (100000000 : Int64)) := wd 20 rfl
theorem sg1_121_1 : decs c_46 [(121, .lcmp, 1)] := dk (by decide +kernel)
theorem d1_122 : decode c_46 122 = .ok (.ifCond .lt 7, 3) := by decide +kernel
theorem sg1_125_2 : decs c_46 [(125, .bipush 9, 2), (127, .istore 6, 2)] := dk (by decide +kernel)
theorem sg1_129_1 : decs c_46 [(129, .lload 4, 2)] := dk (by decide +kernel)
theorem d1_131 : decode c_46 131 = .ok (.ldc2_w 61, 3) := by decide +kernel
theorem w21 : WD (Cond.constantLong "com/example/token_relay/tokenrelay/MemberToStringPinLaw" 61 (1000000000 : Int64)) := wd 21 rfl
theorem sg1_134_1 : decs c_46 [(134, .lcmp, 1)] := dk (by decide +kernel)
theorem d1_135 : decode c_46 135 = .ok (.ifCond .lt 7, 3) := by decide +kernel
theorem sg1_138_2 : decs c_46 [(138, .bipush 10, 2), (140, .istore 6, 2)] := dk (by decide +kernel)
def own_nd (v : Int64) : Int32 := (if v < (1000000000 : Int64) then (if v < (100000000 : Int64) then (if v < (10000000 : Int64) then (if v < (1000000 : Int64) then (if v < (100000 : Int64) then (if v < (10000 : Int64) then (if v < (1000 : Int64) then (if v < (100 : Int64) then (if v < (10 : Int64) then (1 : Int32) else (2 : Int32)) else (3 : Int32)) else (4 : Int32)) else (5 : Int32)) else (6 : Int32)) else (7 : Int32)) else (8 : Int32)) else (9 : Int32)) else (10 : Int32))
theorem own_nd_len {m : Nat} (h : m ≤ 2147483648) : own_nd (Int64.ofNat m) = Int32.ofNat (own_D m).length := by
  have e : ∀ d : Nat, d < 4294967296 → (Int64.ofNat m < Int64.ofNat d ↔ m < d) := fun d hd => by
    rw [Int64.lt_iff_toInt_lt, Int64.toInt_ofNat_of_lt (by omega), Int64.toInt_ofNat_of_lt (by omega)]; omega
  have e1 : Int64.ofNat m < (10 : Int64) ↔ m < 10 := e 10 (by decide)
  have q1 := own_D_iff (j := 1) (m := m) (by decide)
  have e2 : Int64.ofNat m < (100 : Int64) ↔ m < 100 := e 100 (by decide)
  have q2 := own_D_iff (j := 2) (m := m) (by decide)
  have e3 : Int64.ofNat m < (1000 : Int64) ↔ m < 1000 := e 1000 (by decide)
  have q3 := own_D_iff (j := 3) (m := m) (by decide)
  have e4 : Int64.ofNat m < (10000 : Int64) ↔ m < 10000 := e 10000 (by decide)
  have q4 := own_D_iff (j := 4) (m := m) (by decide)
  have e5 : Int64.ofNat m < (100000 : Int64) ↔ m < 100000 := e 100000 (by decide)
  have q5 := own_D_iff (j := 5) (m := m) (by decide)
  have e6 : Int64.ofNat m < (1000000 : Int64) ↔ m < 1000000 := e 1000000 (by decide)
  have q6 := own_D_iff (j := 6) (m := m) (by decide)
  have e7 : Int64.ofNat m < (10000000 : Int64) ↔ m < 10000000 := e 10000000 (by decide)
  have q7 := own_D_iff (j := 7) (m := m) (by decide)
  have e8 : Int64.ofNat m < (100000000 : Int64) ↔ m < 100000000 := e 100000000 (by decide)
  have q8 := own_D_iff (j := 8) (m := m) (by decide)
  have e9 : Int64.ofNat m < (1000000000 : Int64) ↔ m < 1000000000 := e 1000000000 (by decide)
  have q9 := own_D_iff (j := 9) (m := m) (by decide)
  have hp := own_D_pos m
  have hl := own_D_le 9 m (by omega)
  generalize (own_D m).length = n at *
  unfold own_nd
  simp only [e1, e2, e3, e4, e5, e6, e7, e8, e9]
  simp only [Nat.reducePow] at q1 q2 q3 q4 q5 q6 q7 q8 q9
  obtain rfl | rfl | rfl | rfl | rfl | rfl | rfl | rfl | rfl | rfl : n = 1 ∨ n = 2 ∨ n = 3 ∨ n = 4 ∨ n = 5 ∨ n = 6 ∨ n = 7 ∨ n = 8 ∨ n = 9 ∨ n = 10 := by omega
  · rw [if_pos (show m < 1000000000 by omega), if_pos (show m < 100000000 by omega), if_pos (show m < 10000000 by omega), if_pos (show m < 1000000 by omega), if_pos (show m < 100000 by omega), if_pos (show m < 10000 by omega), if_pos (show m < 1000 by omega), if_pos (show m < 100 by omega), if_pos (show m < 10 by omega)]; rfl
  · rw [if_pos (show m < 1000000000 by omega), if_pos (show m < 100000000 by omega), if_pos (show m < 10000000 by omega), if_pos (show m < 1000000 by omega), if_pos (show m < 100000 by omega), if_pos (show m < 10000 by omega), if_pos (show m < 1000 by omega), if_pos (show m < 100 by omega), if_neg (show ¬ m < 10 by omega)]; rfl
  · rw [if_pos (show m < 1000000000 by omega), if_pos (show m < 100000000 by omega), if_pos (show m < 10000000 by omega), if_pos (show m < 1000000 by omega), if_pos (show m < 100000 by omega), if_pos (show m < 10000 by omega), if_pos (show m < 1000 by omega), if_neg (show ¬ m < 100 by omega)]; rfl
  · rw [if_pos (show m < 1000000000 by omega), if_pos (show m < 100000000 by omega), if_pos (show m < 10000000 by omega), if_pos (show m < 1000000 by omega), if_pos (show m < 100000 by omega), if_pos (show m < 10000 by omega), if_neg (show ¬ m < 1000 by omega)]; rfl
  · rw [if_pos (show m < 1000000000 by omega), if_pos (show m < 100000000 by omega), if_pos (show m < 10000000 by omega), if_pos (show m < 1000000 by omega), if_pos (show m < 100000 by omega), if_neg (show ¬ m < 10000 by omega)]; rfl
  · rw [if_pos (show m < 1000000000 by omega), if_pos (show m < 100000000 by omega), if_pos (show m < 10000000 by omega), if_pos (show m < 1000000 by omega), if_neg (show ¬ m < 100000 by omega)]; rfl
  · rw [if_pos (show m < 1000000000 by omega), if_pos (show m < 100000000 by omega), if_pos (show m < 10000000 by omega), if_neg (show ¬ m < 1000000 by omega)]; rfl
  · rw [if_pos (show m < 1000000000 by omega), if_pos (show m < 100000000 by omega), if_neg (show ¬ m < 10000000 by omega)]; rfl
  · rw [if_pos (show m < 1000000000 by omega), if_neg (show ¬ m < 100000000 by omega)]; rfl
  · rw [if_neg (show ¬ m < 1000000000 by omega)]; rfl

theorem sg1_142_2 : decs c_46 [(142, .iload 6, 2), (144, .bipush 9, 2)] := dk (by decide +kernel)
theorem d1_146 : decode c_46 146 = .ok (.if_icmp .le 21, 3) := by decide +kernel
theorem sg1_149_7 : decs c_46 [(149, .aload_n 0, 1), (150, .iload_n 3, 1), (151, .iload 6, 2), (153, .iadd, 1), (154, .bipush 10, 2), (156, .isub, 1), (157, .lload 4, 2)] := dk (by decide +kernel)
theorem d1_159 : decode c_46 159 = .ok (.ldc2_w 61, 3) := by decide +kernel
theorem d1_162 : decode c_46 162 = .ok (.ldiv, 1) := by decide +kernel
theorem w22 : WD (Cond.methodLink "com/example/token_relay/tokenrelay/MemberToStringPinLaw" 63 ⟨"com/example/token_relay/tokenrelay/MemberToStringPinLaw", "ch", "(J)C"⟩) := wd 22 rfl
theorem d1_163 : decode c_46 163 = .ok (.invokestatic 63, 3) := by decide +kernel
theorem sg2_0_2 : decs c_45 [(0, .bipush 48, 2), (2, .lload_n 0, 1)] := dk (by decide +kernel)
theorem d2_3 : decode c_45 3 = .ok (.ldc2_w 45, 3) := by decide +kernel
theorem d2_6 : decode c_45 6 = .ok (.lrem, 1) := by decide +kernel
theorem sg2_7_3 : decs c_45 [(7, .l2i, 1), (8, .iadd, 1), (9, .i2c, 1)] := dk (by decide +kernel)
theorem d2_10 : decode c_45 10 = .ok (.ireturn, 1) := by decide +kernel
theorem ef_rm2_0 (m : MethodId) (x0 : Int64) : entryFrame m #[(.long x0)] 2 = mkF m 0 #[.val (.long x0), .second] [] := by first | (simp [entryFrame, mkF, argsToLocals, Value.category]; done) | rfl
theorem own_pn3 : plainName "com/example/token_relay/tokenrelay/MemberToStringPinLaw" = true := by first | (simp [plainName, overriddenIn]; done) | decide +kernel
theorem w24 : WD (Cond.code ⟨"com/example/token_relay/tokenrelay/MemberToStringPinLaw", "ch", "(J)C"⟩ method_4_code 2 (Option.some Jvm.ClassFile.FieldType.char)) := wd 24 rfl
theorem w11 : WD (Cond.initialized "com/example/token_relay/tokenrelay/MemberToStringPinLaw") := wd 11 rfl
theorem own_pd9 : parseMethodDescriptor "(J)C" = some ⟨[.long], some .char⟩ := by decide +kernel
theorem w23 : WD (Cond.static ⟨"com/example/token_relay/tokenrelay/MemberToStringPinLaw", "ch", "(J)C"⟩) := wd 23 rfl
theorem d1_166 : decode c_46 166 = .ok (.castore, 1) := by decide +kernel
theorem sg1_167_2 : decs c_46 [(167, .iload 6, 2), (169, .bipush 8, 2)] := dk (by decide +kernel)
theorem d1_171 : decode c_46 171 = .ok (.if_icmp .le 21, 3) := by decide +kernel
theorem sg1_174_7 : decs c_46 [(174, .aload_n 0, 1), (175, .iload_n 3, 1), (176, .iload 6, 2), (178, .iadd, 1), (179, .bipush 9, 2), (181, .isub, 1), (182, .lload 4, 2)] := dk (by decide +kernel)
theorem d1_184 : decode c_46 184 = .ok (.ldc2_w 59, 3) := by decide +kernel
theorem d1_187 : decode c_46 187 = .ok (.ldiv, 1) := by decide +kernel
theorem d1_188 : decode c_46 188 = .ok (.invokestatic 63, 3) := by decide +kernel
theorem d1_191 : decode c_46 191 = .ok (.castore, 1) := by decide +kernel
theorem sg1_192_2 : decs c_46 [(192, .iload 6, 2), (194, .bipush 7, 2)] := dk (by decide +kernel)
theorem d1_196 : decode c_46 196 = .ok (.if_icmp .le 21, 3) := by decide +kernel
theorem sg1_199_7 : decs c_46 [(199, .aload_n 0, 1), (200, .iload_n 3, 1), (201, .iload 6, 2), (203, .iadd, 1), (204, .bipush 8, 2), (206, .isub, 1), (207, .lload 4, 2)] := dk (by decide +kernel)
theorem d1_209 : decode c_46 209 = .ok (.ldc2_w 57, 3) := by decide +kernel
theorem d1_212 : decode c_46 212 = .ok (.ldiv, 1) := by decide +kernel
theorem d1_213 : decode c_46 213 = .ok (.invokestatic 63, 3) := by decide +kernel
theorem d1_216 : decode c_46 216 = .ok (.castore, 1) := by decide +kernel
theorem sg1_217_2 : decs c_46 [(217, .iload 6, 2), (219, .bipush 6, 2)] := dk (by decide +kernel)
theorem d1_221 : decode c_46 221 = .ok (.if_icmp .le 21, 3) := by decide +kernel
theorem sg1_224_7 : decs c_46 [(224, .aload_n 0, 1), (225, .iload_n 3, 1), (226, .iload 6, 2), (228, .iadd, 1), (229, .bipush 7, 2), (231, .isub, 1), (232, .lload 4, 2)] := dk (by decide +kernel)
theorem d1_234 : decode c_46 234 = .ok (.ldc2_w 55, 3) := by decide +kernel
theorem d1_237 : decode c_46 237 = .ok (.ldiv, 1) := by decide +kernel
theorem d1_238 : decode c_46 238 = .ok (.invokestatic 63, 3) := by decide +kernel
theorem d1_241 : decode c_46 241 = .ok (.castore, 1) := by decide +kernel
theorem sg1_242_2 : decs c_46 [(242, .iload 6, 2), (244, .iconst 5, 1)] := dk (by decide +kernel)
theorem d1_245 : decode c_46 245 = .ok (.if_icmp .le 21, 3) := by decide +kernel
theorem sg1_248_7 : decs c_46 [(248, .aload_n 0, 1), (249, .iload_n 3, 1), (250, .iload 6, 2), (252, .iadd, 1), (253, .bipush 6, 2), (255, .isub, 1), (256, .lload 4, 2)] := dk (by decide +kernel)
theorem d1_258 : decode c_46 258 = .ok (.ldc2_w 53, 3) := by decide +kernel
theorem d1_261 : decode c_46 261 = .ok (.ldiv, 1) := by decide +kernel
theorem d1_262 : decode c_46 262 = .ok (.invokestatic 63, 3) := by decide +kernel
theorem d1_265 : decode c_46 265 = .ok (.castore, 1) := by decide +kernel
theorem sg1_266_2 : decs c_46 [(266, .iload 6, 2), (268, .iconst 4, 1)] := dk (by decide +kernel)
theorem d1_269 : decode c_46 269 = .ok (.if_icmp .le 20, 3) := by decide +kernel
theorem sg1_272_7 : decs c_46 [(272, .aload_n 0, 1), (273, .iload_n 3, 1), (274, .iload 6, 2), (276, .iadd, 1), (277, .iconst 5, 1), (278, .isub, 1), (279, .lload 4, 2)] := dk (by decide +kernel)
theorem d1_281 : decode c_46 281 = .ok (.ldc2_w 51, 3) := by decide +kernel
theorem d1_284 : decode c_46 284 = .ok (.ldiv, 1) := by decide +kernel
theorem d1_285 : decode c_46 285 = .ok (.invokestatic 63, 3) := by decide +kernel
theorem d1_288 : decode c_46 288 = .ok (.castore, 1) := by decide +kernel
theorem sg1_289_2 : decs c_46 [(289, .iload 6, 2), (291, .iconst 3, 1)] := dk (by decide +kernel)
theorem d1_292 : decode c_46 292 = .ok (.if_icmp .le 20, 3) := by decide +kernel
theorem sg1_295_7 : decs c_46 [(295, .aload_n 0, 1), (296, .iload_n 3, 1), (297, .iload 6, 2), (299, .iadd, 1), (300, .iconst 4, 1), (301, .isub, 1), (302, .lload 4, 2)] := dk (by decide +kernel)
theorem d1_304 : decode c_46 304 = .ok (.ldc2_w 49, 3) := by decide +kernel
theorem d1_307 : decode c_46 307 = .ok (.ldiv, 1) := by decide +kernel
theorem d1_308 : decode c_46 308 = .ok (.invokestatic 63, 3) := by decide +kernel
theorem d1_311 : decode c_46 311 = .ok (.castore, 1) := by decide +kernel
theorem sg1_312_2 : decs c_46 [(312, .iload 6, 2), (314, .iconst 2, 1)] := dk (by decide +kernel)
theorem d1_315 : decode c_46 315 = .ok (.if_icmp .le 20, 3) := by decide +kernel
theorem sg1_318_7 : decs c_46 [(318, .aload_n 0, 1), (319, .iload_n 3, 1), (320, .iload 6, 2), (322, .iadd, 1), (323, .iconst 3, 1), (324, .isub, 1), (325, .lload 4, 2)] := dk (by decide +kernel)
theorem d1_327 : decode c_46 327 = .ok (.ldc2_w 47, 3) := by decide +kernel
theorem d1_330 : decode c_46 330 = .ok (.ldiv, 1) := by decide +kernel
theorem d1_331 : decode c_46 331 = .ok (.invokestatic 63, 3) := by decide +kernel
theorem d1_334 : decode c_46 334 = .ok (.castore, 1) := by decide +kernel
theorem sg1_335_2 : decs c_46 [(335, .iload 6, 2), (337, .iconst 1, 1)] := dk (by decide +kernel)
theorem d1_338 : decode c_46 338 = .ok (.if_icmp .le 20, 3) := by decide +kernel
theorem sg1_341_7 : decs c_46 [(341, .aload_n 0, 1), (342, .iload_n 3, 1), (343, .iload 6, 2), (345, .iadd, 1), (346, .iconst 2, 1), (347, .isub, 1), (348, .lload 4, 2)] := dk (by decide +kernel)
theorem d1_350 : decode c_46 350 = .ok (.ldc2_w 45, 3) := by decide +kernel
theorem d1_353 : decode c_46 353 = .ok (.ldiv, 1) := by decide +kernel
theorem d1_354 : decode c_46 354 = .ok (.invokestatic 63, 3) := by decide +kernel
theorem d1_357 : decode c_46 357 = .ok (.castore, 1) := by decide +kernel
theorem sg1_358_7 : decs c_46 [(358, .aload_n 0, 1), (359, .iload_n 3, 1), (360, .iload 6, 2), (362, .iadd, 1), (363, .iconst 1, 1), (364, .isub, 1), (365, .lload 4, 2)] := dk (by decide +kernel)
theorem d1_367 : decode c_46 367 = .ok (.invokestatic 63, 3) := by decide +kernel
theorem d1_370 : decode c_46 370 = .ok (.castore, 1) := by decide +kernel
theorem sg1_371_3 : decs c_46 [(371, .iload_n 3, 1), (372, .iload 6, 2), (374, .iadd, 1)] := dk (by decide +kernel)
theorem d1_375 : decode c_46 375 = .ok (.ireturn, 1) := by decide +kernel
theorem ef_rm1_0 (m : MethodId) (x0 : Addr) (x1 : Int32) (x2 : Int32) : entryFrame m #[(.ref x0), (.int x1), (.int x2)] 7 = mkF m 0 #[.val (.ref x0), .val (.int x1), .val (.int x2), .unset, .unset, .unset, .unset] [] := by first | (simp [entryFrame, mkF, argsToLocals, Value.category]; done) | rfl
theorem w12 : WD (Cond.code ⟨"com/example/token_relay/tokenrelay/MemberToStringPinLaw", "put", "([CII)I"⟩ method_5_code 7 (Option.some Jvm.ClassFile.FieldType.int)) := wd 12 rfl
theorem own_pd10 : parseMethodDescriptor "([CII)I" = some ⟨[(.array .char), .int, .int], some .int⟩ := by decide +kernel
theorem w10 : WD (Cond.static ⟨"com/example/token_relay/tokenrelay/MemberToStringPinLaw", "put", "([CII)I"⟩) := wd 10 rfl
theorem sg0_112_1 : decs code [(112, .istore 10, 2)] := dk (by decide +kernel)
theorem sg0_114_3 : decs code [(114, .aload 9, 2), (116, .iload 10, 2), (118, .bipush 32, 2)] := dk (by decide +kernel)
theorem sg0_121_1 : decs code [(121, .iinc 10 1, 3)] := dk (by decide +kernel)
theorem sg0_124_2 : decs code [(124, .iload 7, 2), (126, .iconst 1, 1)] := dk (by decide +kernel)
theorem sg0_140_2 : decs code [(140, .iload 7, 2), (142, .iconst 2, 1)] := dk (by decide +kernel)
theorem sg0_130_3 : decs code [(130, .aload 9, 2), (132, .iload 10, 2), (134, .iload 5, 2)] := dk (by decide +kernel)
theorem sg0_137_1 : decs code [(137, .iinc 10 1, 3)] := dk (by decide +kernel)
theorem sg0_146_3 : decs code [(146, .aload 9, 2), (148, .iload 10, 2), (150, .iload 6, 2)] := dk (by decide +kernel)
theorem sg0_153_1 : decs code [(153, .iinc 10 1, 3)] := dk (by decide +kernel)
theorem sg0_156_3 : decs code [(156, .aload 9, 2), (158, .iload 10, 2), (160, .bipush 32, 2)] := dk (by decide +kernel)
theorem sg0_163_1 : decs code [(163, .iinc 10 1, 3)] := dk (by decide +kernel)
theorem sg0_166_3 : decs code [(166, .aload 9, 2), (168, .iload 10, 2), (170, .iload_n 2, 1)] := dk (by decide +kernel)
theorem sg0_174_1 : decs code [(174, .istore 10, 2)] := dk (by decide +kernel)
theorem sg0_176_3 : decs code [(176, .aload 9, 2), (178, .iload 10, 2), (180, .bipush 32, 2)] := dk (by decide +kernel)
theorem sg0_183_1 : decs code [(183, .iinc 10 1, 3)] := dk (by decide +kernel)
theorem sg0_186_3 : decs code [(186, .aload 9, 2), (188, .iload 10, 2), (190, .iload_n 3, 1)] := dk (by decide +kernel)
theorem sg0_194_1 : decs code [(194, .istore 10, 2)] := dk (by decide +kernel)
theorem w25 : WD (Cond.classLink "com/example/token_relay/tokenrelay/MemberToStringPinLaw" 24 "com/example/token_relay/tokenrelay/Member") := wd 25 rfl
theorem w26 : WD (Cond.instantiable "com/example/token_relay/tokenrelay/Member" 4) := wd 26 rfl
theorem w27 : WD (Cond.initialized "com/example/token_relay/tokenrelay/Member") := wd 27 rfl
theorem w35 : WD (Cond.laysFinal "com/example/token_relay/tokenrelay/Member" "com/example/token_relay/tokenrelay/Member" "id" "I") := wd 35 rfl
theorem w44 : WD (Cond.laysFinal "com/example/token_relay/tokenrelay/Member" "com/example/token_relay/tokenrelay/Member" "host" "Ljava/lang/String;") := wd 44 rfl
theorem w46 : WD (Cond.laysFinal "com/example/token_relay/tokenrelay/Member" "com/example/token_relay/tokenrelay/Member" "peerPort" "I") := wd 46 rfl
theorem w48 : WD (Cond.laysFinal "com/example/token_relay/tokenrelay/Member" "com/example/token_relay/tokenrelay/Member" "clientPort" "I") := wd 48 rfl
theorem w28 : WD (Cond.methodLink "com/example/token_relay/tokenrelay/MemberToStringPinLaw" 26 ⟨"com/example/token_relay/tokenrelay/Member", "<init>", "(ILjava/lang/String;II)V"⟩) := wd 28 rfl
theorem sg0_199_5 : decs code [(199, .dup, 1), (200, .iload_n 0, 1), (201, .aload 8, 2), (203, .iload_n 2, 1), (204, .iload_n 3, 1)] := dk (by decide +kernel)
theorem w31 : WD (Cond.methodLink "com/example/token_relay/tokenrelay/Member" 1 ⟨"java/lang/Object", "<init>", "()V"⟩) := wd 31 rfl
theorem sg3_0_1 : decs c_48 [(0, .aload_n 0, 1)] := dk (by decide +kernel)
theorem d3_1 : decode c_48 1 = .ok (.invokespecial 1, 3) := by decide +kernel
theorem sg3_4_2 : decs c_48 [(4, .aload_n 0, 1), (5, .iload_n 1, 1)] := dk (by decide +kernel)
theorem d3_6 : decode c_48 6 = .ok (.putfield 7, 3) := by decide +kernel
theorem w34 : WD (Cond.fieldLink "com/example/token_relay/tokenrelay/Member" 7 "com/example/token_relay/tokenrelay/Member" "id" "I") := wd 34 rfl
theorem sg3_9_2 : decs c_48 [(9, .aload_n 0, 1), (10, .aload_n 2, 1)] := dk (by decide +kernel)
theorem d3_11 : decode c_48 11 = .ok (.ldc 13, 2) := by decide +kernel
theorem w36 : WD (Cond.stringLink "com/example/token_relay/tokenrelay/Member" 13 "host") := wd 36 rfl
theorem w37 : WD (Cond.methodLink "com/example/token_relay/tokenrelay/Member" 15 ⟨"java/util/Objects", "requireNonNull", "(Ljava/lang/Object;Ljava/lang/String;)Ljava/lang/Object;"⟩) := wd 37 rfl
theorem d3_13 : decode c_48 13 = .ok (.invokestatic 15, 3) := by decide +kernel
theorem sg5_0_1 : decs c_2 [(0, .aload_n 0, 1)] := dk (by decide +kernel)
theorem d5_1 : decode c_2 1 = .ok (.ifnonnull 12, 3) := by decide +kernel
theorem sg5_13_1 : decs c_2 [(13, .aload_n 0, 1)] := dk (by decide +kernel)
theorem d5_14 : decode c_2 14 = .ok (.areturn, 1) := by decide +kernel
theorem own_pn4 : plainName "java/util/Objects" = true := by first | (simp [plainName, overriddenIn]; done) | decide +kernel
theorem w40 : WD (Cond.code ⟨"java/util/Objects", "requireNonNull", "(Ljava/lang/Object;Ljava/lang/String;)Ljava/lang/Object;"⟩ jdk_31_method_11_code 2 (Option.some (Jvm.ClassFile.FieldType.object "java/lang/Object"))) := wd 40 rfl
theorem w39 : WD (Cond.initialized "java/util/Objects") := wd 39 rfl
theorem own_pd11 : parseMethodDescriptor "(Ljava/lang/Object;Ljava/lang/String;)Ljava/lang/Object;" = some ⟨[(.object "java/lang/Object"), (.object "java/lang/String")], some (.object "java/lang/Object")⟩ := by decide +kernel
theorem w38 : WD (Cond.static ⟨"java/util/Objects", "requireNonNull", "(Ljava/lang/Object;Ljava/lang/String;)Ljava/lang/Object;"⟩) := wd 38 rfl
theorem d3_16 : decode c_48 16 = .ok (.checkcast 21, 3) := by decide +kernel
theorem w41 : WD (Cond.classLink "com/example/token_relay/tokenrelay/Member" 21 "java/lang/String") := wd 41 rfl
theorem d3_19 : decode c_48 19 = .ok (.putfield 23, 3) := by decide +kernel
theorem w43 : WD (Cond.fieldLink "com/example/token_relay/tokenrelay/Member" 23 "com/example/token_relay/tokenrelay/Member" "host" "Ljava/lang/String;") := wd 43 rfl
theorem sg3_22_2 : decs c_48 [(22, .aload_n 0, 1), (23, .iload_n 3, 1)] := dk (by decide +kernel)
theorem d3_24 : decode c_48 24 = .ok (.putfield 26, 3) := by decide +kernel
theorem w45 : WD (Cond.fieldLink "com/example/token_relay/tokenrelay/Member" 26 "com/example/token_relay/tokenrelay/Member" "peerPort" "I") := wd 45 rfl
theorem sg3_27_2 : decs c_48 [(27, .aload_n 0, 1), (28, .iload 4, 2)] := dk (by decide +kernel)
theorem d3_30 : decode c_48 30 = .ok (.putfield 29, 3) := by decide +kernel
theorem w47 : WD (Cond.fieldLink "com/example/token_relay/tokenrelay/Member" 29 "com/example/token_relay/tokenrelay/Member" "clientPort" "I") := wd 47 rfl
theorem d3_33 : decode c_48 33 = .ok (.return_, 1) := by decide +kernel
theorem ef_rm3_0 (m : MethodId) (x0 : Addr) (x1 : Int32) (x2 : Addr) (x3 : Int32) (x4 : Int32) : entryFrame m #[(.ref x0), (.int x1), (.ref x2), (.int x3), (.int x4)] 5 = mkF m 0 #[.val (.ref x0), .val (.int x1), .val (.ref x2), .val (.int x3), .val (.int x4)] [] := by first | (simp [entryFrame, mkF, argsToLocals, Value.category]; done) | rfl
theorem own_pn5 : plainName "com/example/token_relay/tokenrelay/Member" = true := by first | (simp [plainName, overriddenIn]; done) | decide +kernel
theorem w30 : WD (Cond.code ⟨"com/example/token_relay/tokenrelay/Member", "<init>", "(ILjava/lang/String;II)V"⟩ prog_8_method_1_code 5 (Option.none : Option Jvm.ClassFile.FieldType)) := wd 30 rfl
theorem own_pd12 : parseMethodDescriptor "(ILjava/lang/String;II)V" = some ⟨[.int, (.object "java/lang/String"), .int, .int], none⟩ := by decide +kernel
theorem w29 : WD (Cond.instanceMethod ⟨"com/example/token_relay/tokenrelay/Member", "<init>", "(ILjava/lang/String;II)V"⟩) := wd 29 rfl
theorem w49 : WD (Cond.methodLink "com/example/token_relay/tokenrelay/MemberToStringPinLaw" 29 ⟨"com/example/token_relay/tokenrelay/Member", "toString", "()Ljava/lang/String;"⟩) := wd 49 rfl
theorem d6_0 : decode c_47 0 = .ok (.new 53, 3) := by decide +kernel
theorem w54 : WD (Cond.classLink "com/example/token_relay/tokenrelay/Member" 53 "java/lang/StringBuilder") := wd 54 rfl
theorem w55 : WD (Cond.instantiable "java/lang/StringBuilder" 4) := wd 55 rfl
theorem w56 : WD (Cond.initialized "java/lang/StringBuilder") := wd 56 rfl
theorem w69 : WD (Cond.lays "java/lang/StringBuilder" "java/lang/AbstractStringBuilder" "value" "[B") := wd 69 rfl
theorem w71 : WD (Cond.lays "java/lang/StringBuilder" "java/lang/AbstractStringBuilder" "coder" "B") := wd 71 rfl
theorem w83 : WD (Cond.lays "java/lang/StringBuilder" "java/lang/AbstractStringBuilder" "count" "I") := wd 83 rfl
theorem w57 : WD (Cond.methodLink "com/example/token_relay/tokenrelay/Member" 55 ⟨"java/lang/StringBuilder", "<init>", "()V"⟩) := wd 57 rfl
theorem sg6_3_1 : decs c_47 [(3, .dup, 1)] := dk (by decide +kernel)
theorem d6_4 : decode c_47 4 = .ok (.invokespecial 55, 3) := by decide +kernel
theorem w60 : WD (Cond.methodLink "java/lang/StringBuilder" 1 ⟨"java/lang/AbstractStringBuilder", "<init>", "(I)V"⟩) := wd 60 rfl
theorem sg7_0_2 : decs c_30 [(0, .aload_n 0, 1), (1, .bipush 16, 2)] := dk (by decide +kernel)
theorem d7_3 : decode c_30 3 = .ok (.invokespecial 1, 3) := by decide +kernel
theorem w66 : WD (Cond.methodLink "java/lang/AbstractStringBuilder" 3 ⟨"java/lang/Object", "<init>", "()V"⟩) := wd 66 rfl
theorem sg8_0_1 : decs c_36 [(0, .aload_n 0, 1)] := dk (by decide +kernel)
theorem d8_1 : decode c_36 1 = .ok (.invokespecial 3, 3) := by decide +kernel
theorem d8_4 : decode c_36 4 = .ok (.getstatic 18, 3) := by decide +kernel
theorem w67 : WD (Cond.fieldLink "java/lang/AbstractStringBuilder" 18 "java/lang/String" "COMPACT_STRINGS" "Z") := wd 67 rfl
theorem d8_7 : decode c_36 7 = .ok (.ifCond .eq 18, 3) := by decide +kernel
theorem sg8_10_2 : decs c_36 [(10, .aload_n 0, 1), (11, .iload_n 1, 1)] := dk (by decide +kernel)
theorem d8_12 : decode c_36 12 = .ok (.newarray .byte, 2) := by decide +kernel
theorem d8_14 : decode c_36 14 = .ok (.putfield 15, 3) := by decide +kernel
theorem w68 : WD (Cond.fieldLink "java/lang/AbstractStringBuilder" 15 "java/lang/AbstractStringBuilder" "value" "[B") := wd 68 rfl
theorem sg8_17_2 : decs c_36 [(17, .aload_n 0, 1), (18, .iconst 0, 1)] := dk (by decide +kernel)
theorem d8_19 : decode c_36 19 = .ok (.putfield 22, 3) := by decide +kernel
theorem w70 : WD (Cond.fieldLink "java/lang/AbstractStringBuilder" 22 "java/lang/AbstractStringBuilder" "coder" "B") := wd 70 rfl
theorem sg8_22_1 : decs c_36 [(22, .goto 16, 3)] := dk (by decide +kernel)
theorem d8_38 : decode c_36 38 = .ok (.return_, 1) := by decide +kernel
theorem own_pn6 : plainName "java/lang/AbstractStringBuilder" = true := by first | (simp [plainName, overriddenIn]; done) | decide +kernel
theorem w65 : WD (Cond.code ⟨"java/lang/AbstractStringBuilder", "<init>", "(I)V"⟩ jdk_68_method_2_code 2 (Option.none : Option Jvm.ClassFile.FieldType)) := wd 65 rfl
theorem w64 : WD (Cond.initialized "java/lang/AbstractStringBuilder") := wd 64 rfl
theorem own_pd13 : parseMethodDescriptor "(I)V" = some ⟨[.int], none⟩ := by decide +kernel
theorem w61 : WD (Cond.instanceMethod ⟨"java/lang/AbstractStringBuilder", "<init>", "(I)V"⟩) := wd 61 rfl
theorem d7_6 : decode c_30 6 = .ok (.return_, 1) := by decide +kernel
theorem ef_rm7_0 (m : MethodId) (x0 : Addr) : entryFrame m #[(.ref x0)] 1 = mkF m 0 #[.val (.ref x0)] [] := by first | (simp [entryFrame, mkF, argsToLocals, Value.category]; done) | rfl
theorem own_pn7 : plainName "java/lang/StringBuilder" = true := by first | (simp [plainName, overriddenIn]; done) | decide +kernel
theorem w59 : WD (Cond.code ⟨"java/lang/StringBuilder", "<init>", "()V"⟩ jdk_67_method_1_code 1 (Option.none : Option Jvm.ClassFile.FieldType)) := wd 59 rfl
theorem own_pd14 : parseMethodDescriptor "()V" = some ⟨[], none⟩ := by decide +kernel
theorem w58 : WD (Cond.instanceMethod ⟨"java/lang/StringBuilder", "<init>", "()V"⟩) := wd 58 rfl
theorem sg6_7_1 : decs c_47 [(7, .aload_n 0, 1)] := dk (by decide +kernel)
theorem d6_8 : decode c_47 8 = .ok (.getfield 7, 3) := by decide +kernel
theorem w72 : WD (Cond.methodLink "com/example/token_relay/tokenrelay/Member" 56 ⟨"java/lang/StringBuilder", "append", "(I)Ljava/lang/StringBuilder;"⟩) := wd 72 rfl
theorem w77 : WD (Cond.methodLink "java/lang/StringBuilder" 53 ⟨"java/lang/AbstractStringBuilder", "append", "(I)Ljava/lang/AbstractStringBuilder;"⟩) := wd 77 rfl
theorem sg10_0_1 : decs c_37 [(0, .aload_n 0, 1)] := dk (by decide +kernel)
theorem d10_1 : decode c_37 1 = .ok (.getfield 79, 3) := by decide +kernel
theorem w82 : WD (Cond.fieldLink "java/lang/AbstractStringBuilder" 79 "java/lang/AbstractStringBuilder" "count" "I") := wd 82 rfl
theorem w84 : WD (Cond.methodLink "java/lang/AbstractStringBuilder" 245 ⟨"java/lang/Integer", "stringSize", "(I)I"⟩) := wd 84 rfl
theorem sg10_4_3 : decs c_37 [(4, .istore_n 2, 1), (5, .iload_n 2, 1), (6, .iload_n 1, 1)] := dk (by decide +kernel)
theorem d10_7 : decode c_37 7 = .ok (.invokestatic 245, 3) := by decide +kernel
theorem sg11_0_3 : decs c_4 [(0, .iconst 1, 1), (1, .istore_n 1, 1), (2, .iload_n 0, 1)] := dk (by decide +kernel)
theorem d11_3 : decode c_4 3 = .ok (.ifCond .lt 8, 3) := by decide +kernel
theorem sg11_6_5 : decs c_4 [(6, .iconst 0, 1), (7, .istore_n 1, 1), (8, .iload_n 0, 1), (9, .ineg, 1), (10, .istore_n 0, 1)] := dk (by decide +kernel)
theorem sg11_11_6 : decs c_4 [(11, .bipush (-10), 2), (13, .istore_n 2, 1), (14, .iconst 1, 1), (15, .istore_n 3, 1), (16, .iload_n 3, 1), (17, .bipush 10, 2)] := dk (by decide +kernel)
theorem d11_19 : decode c_4 19 = .ok (.if_icmp .ge 23, 3) := by decide +kernel
theorem sg11_22_2 : decs c_4 [(22, .iload_n 0, 1), (23, .iload_n 2, 1)] := dk (by decide +kernel)
theorem d11_24 : decode c_4 24 = .ok (.if_icmp .le 7, 3) := by decide +kernel
theorem sg11_27_3 : decs c_4 [(27, .iload_n 3, 1), (28, .iload_n 1, 1), (29, .iadd, 1)] := dk (by decide +kernel)
theorem d11_30 : decode c_4 30 = .ok (.ireturn, 1) := by decide +kernel
theorem sg11_31_8 : decs c_4 [(31, .bipush 10, 2), (33, .iload_n 2, 1), (34, .imul, 1), (35, .istore_n 2, 1), (36, .iinc 3 1, 3), (39, .goto (-23), 3), (16, .iload_n 3, 1), (17, .bipush 10, 2)] := dk (by decide +kernel)
theorem sg11_42_3 : decs c_4 [(42, .bipush 10, 2), (44, .iload_n 1, 1), (45, .iadd, 1)] := dk (by decide +kernel)
theorem d11_46 : decode c_4 46 = .ok (.ireturn, 1) := by decide +kernel
def f_rm11_0 (i0 : Int32) : Int32 := (if (-10 : Int32) < (if i0 < (0 : Int32) then i0 else (-i0)) then ((1 : Int32) + (if i0 < (0 : Int32) then (1 : Int32) else (0 : Int32))) else (if (-100 : Int32) < (if i0 < (0 : Int32) then i0 else (-i0)) then ((2 : Int32) + (if i0 < (0 : Int32) then (1 : Int32) else (0 : Int32))) else (if (-1000 : Int32) < (if i0 < (0 : Int32) then i0 else (-i0)) then ((3 : Int32) + (if i0 < (0 : Int32) then (1 : Int32) else (0 : Int32))) else (if (-10000 : Int32) < (if i0 < (0 : Int32) then i0 else (-i0)) then ((4 : Int32) + (if i0 < (0 : Int32) then (1 : Int32) else (0 : Int32))) else (if (-100000 : Int32) < (if i0 < (0 : Int32) then i0 else (-i0)) then ((5 : Int32) + (if i0 < (0 : Int32) then (1 : Int32) else (0 : Int32))) else (if (-1000000 : Int32) < (if i0 < (0 : Int32) then i0 else (-i0)) then ((6 : Int32) + (if i0 < (0 : Int32) then (1 : Int32) else (0 : Int32))) else (if (-10000000 : Int32) < (if i0 < (0 : Int32) then i0 else (-i0)) then ((7 : Int32) + (if i0 < (0 : Int32) then (1 : Int32) else (0 : Int32))) else (if (-100000000 : Int32) < (if i0 < (0 : Int32) then i0 else (-i0)) then ((8 : Int32) + (if i0 < (0 : Int32) then (1 : Int32) else (0 : Int32))) else (if (-1000000000 : Int32) < (if i0 < (0 : Int32) then i0 else (-i0)) then ((9 : Int32) + (if i0 < (0 : Int32) then (1 : Int32) else (0 : Int32))) else ((10 : Int32) + (if i0 < (0 : Int32) then (1 : Int32) else (0 : Int32))))))))))))
theorem ef_rm11_0 (m : MethodId) (x0 : Int32) : entryFrame m #[(.int x0)] 4 = mkF m 0 #[.val (.int x0), .unset, .unset, .unset] [] := by first | (simp [entryFrame, mkF, argsToLocals, Value.category]; done) | rfl
theorem own_pn8 : plainName "java/lang/Integer" = true := by first | (simp [plainName, overriddenIn]; done) | decide +kernel
theorem own_size (x : Int32) : f_rm11_0 x = own_n (own_put x) := by
  have hm := own_m_le x
  have ng : (if x < (0 : Int32) then x else (-x)) = Jvm.Free.SBG.negI (own_m x) := own_ng_is x
  have e1 : (-10 : Int32) < (if x < (0 : Int32) then x else (-x)) ↔ own_m x < 10 := by rw [ng, show (-10 : Int32) = Jvm.Free.SBG.negI 10 from by decide +kernel]; exact Jvm.Free.SBG.negI_lt hm 10 (by decide)
  have q1 := own_D_iff (j := 1) (m := own_m x) (by decide)
  have e2 : (-100 : Int32) < (if x < (0 : Int32) then x else (-x)) ↔ own_m x < 100 := by rw [ng, show (-100 : Int32) = Jvm.Free.SBG.negI 100 from by decide +kernel]; exact Jvm.Free.SBG.negI_lt hm 100 (by decide)
  have q2 := own_D_iff (j := 2) (m := own_m x) (by decide)
  have e3 : (-1000 : Int32) < (if x < (0 : Int32) then x else (-x)) ↔ own_m x < 1000 := by rw [ng, show (-1000 : Int32) = Jvm.Free.SBG.negI 1000 from by decide +kernel]; exact Jvm.Free.SBG.negI_lt hm 1000 (by decide)
  have q3 := own_D_iff (j := 3) (m := own_m x) (by decide)
  have e4 : (-10000 : Int32) < (if x < (0 : Int32) then x else (-x)) ↔ own_m x < 10000 := by rw [ng, show (-10000 : Int32) = Jvm.Free.SBG.negI 10000 from by decide +kernel]; exact Jvm.Free.SBG.negI_lt hm 10000 (by decide)
  have q4 := own_D_iff (j := 4) (m := own_m x) (by decide)
  have e5 : (-100000 : Int32) < (if x < (0 : Int32) then x else (-x)) ↔ own_m x < 100000 := by rw [ng, show (-100000 : Int32) = Jvm.Free.SBG.negI 100000 from by decide +kernel]; exact Jvm.Free.SBG.negI_lt hm 100000 (by decide)
  have q5 := own_D_iff (j := 5) (m := own_m x) (by decide)
  have e6 : (-1000000 : Int32) < (if x < (0 : Int32) then x else (-x)) ↔ own_m x < 1000000 := by rw [ng, show (-1000000 : Int32) = Jvm.Free.SBG.negI 1000000 from by decide +kernel]; exact Jvm.Free.SBG.negI_lt hm 1000000 (by decide)
  have q6 := own_D_iff (j := 6) (m := own_m x) (by decide)
  have e7 : (-10000000 : Int32) < (if x < (0 : Int32) then x else (-x)) ↔ own_m x < 10000000 := by rw [ng, show (-10000000 : Int32) = Jvm.Free.SBG.negI 10000000 from by decide +kernel]; exact Jvm.Free.SBG.negI_lt hm 10000000 (by decide)
  have q7 := own_D_iff (j := 7) (m := own_m x) (by decide)
  have e8 : (-100000000 : Int32) < (if x < (0 : Int32) then x else (-x)) ↔ own_m x < 100000000 := by rw [ng, show (-100000000 : Int32) = Jvm.Free.SBG.negI 100000000 from by decide +kernel]; exact Jvm.Free.SBG.negI_lt hm 100000000 (by decide)
  have q8 := own_D_iff (j := 8) (m := own_m x) (by decide)
  have e9 : (-1000000000 : Int32) < (if x < (0 : Int32) then x else (-x)) ↔ own_m x < 1000000000 := by rw [ng, show (-1000000000 : Int32) = Jvm.Free.SBG.negI 1000000000 from by decide +kernel]; exact Jvm.Free.SBG.negI_lt hm 1000000000 (by decide)
  have q9 := own_D_iff (j := 9) (m := own_m x) (by decide)
  have hs : (if x < (0 : Int32) then (1 : Int32) else (0 : Int32)) = Int32.ofNat (own_sgn x).length := by unfold own_sgn; split <;> rfl
  have hp := own_D_pos (own_m x)
  have hl := own_D11 x
  unfold f_rm11_0
  simp only [e1, e2, e3, e4, e5, e6, e7, e8, e9, hs]
  rw [own_put_is]
  unfold own_n
  rw [List.length_append]
  generalize (own_D (own_m x)).length = n at *
  generalize (own_sgn x).length = k at *
  simp only [Nat.reducePow] at q1 q2 q3 q4 q5 q6 q7 q8 q9
  obtain rfl | rfl | rfl | rfl | rfl | rfl | rfl | rfl | rfl | rfl : n = 1 ∨ n = 2 ∨ n = 3 ∨ n = 4 ∨ n = 5 ∨ n = 6 ∨ n = 7 ∨ n = 8 ∨ n = 9 ∨ n = 10 := by omega
  · rw [if_pos (show own_m x < 10 by omega), Int32.ofNat_add, Int32.add_comm]; rfl
  · rw [if_neg (show ¬ own_m x < 10 by omega), if_pos (show own_m x < 100 by omega), Int32.ofNat_add, Int32.add_comm]; rfl
  · rw [if_neg (show ¬ own_m x < 10 by omega), if_neg (show ¬ own_m x < 100 by omega), if_pos (show own_m x < 1000 by omega), Int32.ofNat_add, Int32.add_comm]; rfl
  · rw [if_neg (show ¬ own_m x < 10 by omega), if_neg (show ¬ own_m x < 100 by omega), if_neg (show ¬ own_m x < 1000 by omega), if_pos (show own_m x < 10000 by omega), Int32.ofNat_add, Int32.add_comm]; rfl
  · rw [if_neg (show ¬ own_m x < 10 by omega), if_neg (show ¬ own_m x < 100 by omega), if_neg (show ¬ own_m x < 1000 by omega), if_neg (show ¬ own_m x < 10000 by omega), if_pos (show own_m x < 100000 by omega), Int32.ofNat_add, Int32.add_comm]; rfl
  · rw [if_neg (show ¬ own_m x < 10 by omega), if_neg (show ¬ own_m x < 100 by omega), if_neg (show ¬ own_m x < 1000 by omega), if_neg (show ¬ own_m x < 10000 by omega), if_neg (show ¬ own_m x < 100000 by omega), if_pos (show own_m x < 1000000 by omega), Int32.ofNat_add, Int32.add_comm]; rfl
  · rw [if_neg (show ¬ own_m x < 10 by omega), if_neg (show ¬ own_m x < 100 by omega), if_neg (show ¬ own_m x < 1000 by omega), if_neg (show ¬ own_m x < 10000 by omega), if_neg (show ¬ own_m x < 100000 by omega), if_neg (show ¬ own_m x < 1000000 by omega), if_pos (show own_m x < 10000000 by omega), Int32.ofNat_add, Int32.add_comm]; rfl
  · rw [if_neg (show ¬ own_m x < 10 by omega), if_neg (show ¬ own_m x < 100 by omega), if_neg (show ¬ own_m x < 1000 by omega), if_neg (show ¬ own_m x < 10000 by omega), if_neg (show ¬ own_m x < 100000 by omega), if_neg (show ¬ own_m x < 1000000 by omega), if_neg (show ¬ own_m x < 10000000 by omega), if_pos (show own_m x < 100000000 by omega), Int32.ofNat_add, Int32.add_comm]; rfl
  · rw [if_neg (show ¬ own_m x < 10 by omega), if_neg (show ¬ own_m x < 100 by omega), if_neg (show ¬ own_m x < 1000 by omega), if_neg (show ¬ own_m x < 10000 by omega), if_neg (show ¬ own_m x < 100000 by omega), if_neg (show ¬ own_m x < 1000000 by omega), if_neg (show ¬ own_m x < 10000000 by omega), if_neg (show ¬ own_m x < 100000000 by omega), if_pos (show own_m x < 1000000000 by omega), Int32.ofNat_add, Int32.add_comm]; rfl
  · rw [if_neg (show ¬ own_m x < 10 by omega), if_neg (show ¬ own_m x < 100 by omega), if_neg (show ¬ own_m x < 1000 by omega), if_neg (show ¬ own_m x < 10000 by omega), if_neg (show ¬ own_m x < 100000 by omega), if_neg (show ¬ own_m x < 1000000 by omega), if_neg (show ¬ own_m x < 10000000 by omega), if_neg (show ¬ own_m x < 100000000 by omega), if_neg (show ¬ own_m x < 1000000000 by omega), Int32.ofNat_add, Int32.add_comm]; rfl
theorem w87 : WD (Cond.code ⟨"java/lang/Integer", "stringSize", "(I)I"⟩ jdk_33_method_13_code 4 (Option.some Jvm.ClassFile.FieldType.int)) := wd 87 rfl
theorem w86 : WD (Cond.initialized "java/lang/Integer") := wd 86 rfl
theorem own_pd15 : parseMethodDescriptor "(I)I" = some ⟨[.int], some .int⟩ := by decide +kernel
theorem w85 : WD (Cond.static ⟨"java/lang/Integer", "stringSize", "(I)I"⟩) := wd 85 rfl
theorem sg10_10_1 : decs c_37 [(10, .iadd, 1)] := dk (by decide +kernel)
theorem w88 : WD (Cond.methodLink "java/lang/AbstractStringBuilder" 100 ⟨"java/lang/AbstractStringBuilder", "ensureCapacityInternal", "(I)V"⟩) := wd 88 rfl
theorem sg12_0_1 : decs c_43 [(0, .aload_n 0, 1)] := dk (by decide +kernel)
theorem d12_1 : decode c_43 1 = .ok (.getfield 15, 3) := by decide +kernel
theorem d12_4 : decode c_43 4 = .ok (.arraylength, 1) := by decide +kernel
theorem sg12_5_1 : decs c_43 [(5, .aload_n 0, 1)] := dk (by decide +kernel)
theorem d12_6 : decode c_43 6 = .ok (.getfield 22, 3) := by decide +kernel
theorem sg12_9_5 : decs c_43 [(9, .ishr, 1), (10, .istore_n 2, 1), (11, .iload_n 1, 1), (12, .iload_n 2, 1), (13, .isub, 1)] := dk (by decide +kernel)
theorem d12_14 : decode c_43 14 = .ok (.ifCond .le 24, 3) := by decide +kernel
theorem sg12_17_2 : decs c_43 [(17, .aload_n 0, 1), (18, .aload_n 0, 1)] := dk (by decide +kernel)
theorem d12_19 : decode c_43 19 = .ok (.getfield 15, 3) := by decide +kernel
theorem w227 : WD (Cond.methodLink "java/lang/AbstractStringBuilder" 104 ⟨"java/lang/AbstractStringBuilder", "newCapacity", "(I)I"⟩) := wd 227 rfl
theorem sg12_22_2 : decs c_43 [(22, .aload_n 0, 1), (23, .iload_n 1, 1)] := dk (by decide +kernel)
theorem d12_24 : decode c_43 24 = .ok (.invokevirtual 104, 3) := by decide +kernel
theorem sg42_0_1 : decs c_34 [(0, .aload_n 0, 1)] := dk (by decide +kernel)
theorem d42_1 : decode c_34 1 = .ok (.getfield 15, 3) := by decide +kernel
theorem d42_4 : decode c_34 4 = .ok (.arraylength, 1) := by decide +kernel
theorem sg42_5_3 : decs c_34 [(5, .istore_n 2, 1), (6, .iload_n 1, 1), (7, .aload_n 0, 1)] := dk (by decide +kernel)
theorem d42_8 : decode c_34 8 = .ok (.getfield 22, 3) := by decide +kernel
theorem sg42_11_1 : decs c_34 [(11, .ishl, 1)] := dk (by decide +kernel)
theorem sg42_12_10 : decs c_34 [(12, .istore_n 3, 1), (13, .iload_n 3, 1), (14, .iload_n 2, 1), (15, .isub, 1), (16, .istore 4, 2), (18, .iload_n 2, 1), (19, .iload 4, 2), (21, .iload_n 2, 1), (22, .iconst 2, 1), (23, .aload_n 0, 1)] := dk (by decide +kernel)
theorem d42_24 : decode c_34 24 = .ok (.getfield 22, 3) := by decide +kernel
theorem w232 : WD (Cond.methodLink "java/lang/AbstractStringBuilder" 114 ⟨"jdk/internal/util/ArraysSupport", "newLength", "(III)I"⟩) := wd 232 rfl
theorem sg42_27_2 : decs c_34 [(27, .ishl, 1), (28, .iadd, 1)] := dk (by decide +kernel)
theorem d42_29 : decode c_34 29 = .ok (.invokestatic 114, 3) := by decide +kernel
theorem w236 : WD (Cond.methodLink "jdk/internal/util/ArraysSupport" 194 ⟨"java/lang/Math", "max", "(II)I"⟩) := wd 236 rfl
theorem sg43_0_3 : decs c_21 [(0, .iload_n 0, 1), (1, .iload_n 1, 1), (2, .iload_n 2, 1)] := dk (by decide +kernel)
theorem d43_3 : decode c_21 3 = .ok (.invokestatic 194, 3) := by decide +kernel
theorem sg44_0_2 : decs c_0 [(0, .iload_n 0, 1), (1, .iload_n 1, 1)] := dk (by decide +kernel)
theorem d44_2 : decode c_0 2 = .ok (.if_icmp .lt 7, 3) := by decide +kernel
theorem sg44_9_1 : decs c_0 [(9, .iload_n 1, 1)] := dk (by decide +kernel)
theorem d44_10 : decode c_0 10 = .ok (.ireturn, 1) := by decide +kernel
theorem ef_rm44_0 (m : MethodId) (x0 : Int32) (x1 : Int32) : entryFrame m #[(.int x0), (.int x1)] 2 = mkF m 0 #[.val (.int x0), .val (.int x1)] [] := by first | (simp [entryFrame, mkF, argsToLocals, Value.category]; done) | rfl
theorem w238 : WD (Cond.code ⟨"java/lang/Math", "max", "(II)I"⟩ jdk_29_method_65_code 2 (Option.some Jvm.ClassFile.FieldType.int)) := wd 238 rfl
theorem w184 : WD (Cond.initialized "java/lang/Math") := wd 184 rfl
theorem own_pd16 : parseMethodDescriptor "(II)I" = some ⟨[.int, .int], some .int⟩ := by decide +kernel
theorem w237 : WD (Cond.static ⟨"java/lang/Math", "max", "(II)I"⟩) := wd 237 rfl
theorem sg43_6_4 : decs c_21 [(6, .iadd, 1), (7, .istore_n 3, 1), (8, .iconst 0, 1), (9, .iload_n 3, 1)] := dk (by decide +kernel)
theorem d43_10 : decode c_21 10 = .ok (.if_icmp .ge 11, 3) := by decide +kernel
theorem sg43_13_1 : decs c_21 [(13, .iload_n 3, 1)] := dk (by decide +kernel)
theorem d43_14 : decode c_21 14 = .ok (.ldc 200, 2) := by decide +kernel
theorem w239 : WD (Cond.constant "jdk/internal/util/ArraysSupport" 200 (2147483639 : Int32)) := wd 239 rfl
theorem d43_16 : decode c_21 16 = .ok (.if_icmp .gt 5, 3) := by decide +kernel
theorem sg43_19_1 : decs c_21 [(19, .iload_n 3, 1)] := dk (by decide +kernel)
theorem d43_20 : decode c_21 20 = .ok (.ireturn, 1) := by decide +kernel
theorem ef_rm43_0 (m : MethodId) (x0 : Int32) (x1 : Int32) (x2 : Int32) : entryFrame m #[(.int x0), (.int x1), (.int x2)] 4 = mkF m 0 #[.val (.int x0), .val (.int x1), .val (.int x2), .unset] [] := by first | (simp [entryFrame, mkF, argsToLocals, Value.category]; done) | rfl
theorem own_pn9 : plainName "jdk/internal/util/ArraysSupport" = true := by first | (simp [plainName, overriddenIn]; done) | decide +kernel
theorem w235 : WD (Cond.code ⟨"jdk/internal/util/ArraysSupport", "newLength", "(III)I"⟩ jdk_48_method_27_code 4 (Option.some Jvm.ClassFile.FieldType.int)) := wd 235 rfl
theorem w234 : WD (Cond.initialized "jdk/internal/util/ArraysSupport") := wd 234 rfl
theorem own_pd17 : parseMethodDescriptor "(III)I" = some ⟨[.int, .int, .int], some .int⟩ := by decide +kernel
theorem w233 : WD (Cond.static ⟨"jdk/internal/util/ArraysSupport", "newLength", "(III)I"⟩) := wd 233 rfl
theorem sg42_32_2 : decs c_34 [(32, .istore 5, 2), (34, .iload 5, 2)] := dk (by decide +kernel)
theorem d42_36 : decode c_34 36 = .ok (.ldc 39, 2) := by decide +kernel
theorem w240 : WD (Cond.constant "java/lang/AbstractStringBuilder" 39 (2147483647 : Int32)) := wd 240 rfl
theorem d42_38 : decode c_34 38 = .ok (.if_icmp .ne 13, 3) := by decide +kernel
theorem sg42_51_2 : decs c_34 [(51, .iload 5, 2), (53, .aload_n 0, 1)] := dk (by decide +kernel)
theorem d42_54 : decode c_34 54 = .ok (.getfield 22, 3) := by decide +kernel
theorem sg42_57_1 : decs c_34 [(57, .ishr, 1)] := dk (by decide +kernel)
theorem d42_58 : decode c_34 58 = .ok (.ireturn, 1) := by decide +kernel
theorem ef_rm42_0 (m : MethodId) (x0 : Addr) (x1 : Int32) : entryFrame m #[(.ref x0), (.int x1)] 6 = mkF m 0 #[.val (.ref x0), .val (.int x1), .unset, .unset, .unset, .unset] [] := by first | (simp [entryFrame, mkF, argsToLocals, Value.category]; done) | rfl
theorem w231 : WD (Cond.code ⟨"java/lang/AbstractStringBuilder", "newCapacity", "(I)I"⟩ jdk_68_method_10_code 6 (Option.some Jvm.ClassFile.FieldType.int)) := wd 231 rfl
theorem w230 : WD (Cond.selects "java/lang/StringBuilder" ⟨"java/lang/AbstractStringBuilder", "newCapacity", "(I)I"⟩ ⟨"java/lang/AbstractStringBuilder", "newCapacity", "(I)I"⟩) := wd 230 rfl
theorem w229 : WD (Cond.privateMethod ⟨"java/lang/AbstractStringBuilder", "newCapacity", "(I)I"⟩) := wd 229 rfl
theorem w228 : WD (Cond.instanceMethod ⟨"java/lang/AbstractStringBuilder", "newCapacity", "(I)I"⟩) := wd 228 rfl
theorem sg12_27_1 : decs c_43 [(27, .aload_n 0, 1)] := dk (by decide +kernel)
theorem d12_28 : decode c_43 28 = .ok (.getfield 22, 3) := by decide +kernel
theorem w241 : WD (Cond.methodLink "java/lang/AbstractStringBuilder" 108 ⟨"java/util/Arrays", "copyOf", "([BI)[B"⟩) := wd 241 rfl
theorem sg12_31_1 : decs c_43 [(31, .ishl, 1)] := dk (by decide +kernel)
theorem d12_32 : decode c_43 32 = .ok (.invokestatic 108, 3) := by decide +kernel
theorem sg45_0_2 : decs c_25 [(0, .iload_n 1, 1), (1, .aload_n 0, 1)] := dk (by decide +kernel)
theorem d45_2 : decode c_25 2 = .ok (.arraylength, 1) := by decide +kernel
theorem d45_3 : decode c_25 3 = .ok (.if_icmp .ne 11, 3) := by decide +kernel
theorem sg45_14_1 : decs c_25 [(14, .iload_n 1, 1)] := dk (by decide +kernel)
theorem d45_15 : decode c_25 15 = .ok (.newarray .byte, 2) := by decide +kernel
theorem sg45_17_6 : decs c_25 [(17, .astore_n 2, 1), (18, .aload_n 0, 1), (19, .iconst 0, 1), (20, .aload_n 2, 1), (21, .iconst 0, 1), (22, .aload_n 0, 1)] := dk (by decide +kernel)
theorem d45_23 : decode c_25 23 = .ok (.arraylength, 1) := by decide +kernel
theorem w182 : WD (Cond.methodLink "java/util/Arrays" 304 ⟨"java/lang/Math", "min", "(II)I"⟩) := wd 182 rfl
theorem sg31_0_2 : decs c_1 [(0, .iload_n 0, 1), (1, .iload_n 1, 1)] := dk (by decide +kernel)
theorem d31_2 : decode c_1 2 = .ok (.if_icmp .gt 7, 3) := by decide +kernel
theorem sg31_5_2 : decs c_1 [(5, .iload_n 0, 1), (6, .goto 4, 3)] := dk (by decide +kernel)
theorem d31_10 : decode c_1 10 = .ok (.ireturn, 1) := by decide +kernel
theorem sg45_24_1 : decs c_25 [(24, .iload_n 1, 1)] := dk (by decide +kernel)
theorem d45_25 : decode c_25 25 = .ok (.invokestatic 304, 3) := by decide +kernel
theorem w185 : WD (Cond.code ⟨"java/lang/Math", "min", "(II)I"⟩ jdk_29_method_69_code 2 (Option.some Jvm.ClassFile.FieldType.int)) := wd 185 rfl
theorem w183 : WD (Cond.static ⟨"java/lang/Math", "min", "(II)I"⟩) := wd 183 rfl
theorem w186 : WD (Cond.methodLink "java/util/Arrays" 150 ⟨"java/lang/System", "arraycopy", "(Ljava/lang/Object;ILjava/lang/Object;II)V"⟩) := wd 186 rfl
theorem d45_28 : decode c_25 28 = .ok (.invokestatic 150, 3) := by decide +kernel
theorem w144 : WD (Cond.native ⟨"java/lang/System", "arraycopy", "(Ljava/lang/Object;ILjava/lang/Object;II)V"⟩) := wd 144 rfl
theorem w142 : WD (Cond.static ⟨"java/lang/System", "arraycopy", "(Ljava/lang/Object;ILjava/lang/Object;II)V"⟩) := wd 142 rfl
theorem w143 : WD (Cond.initialized "java/lang/System") := wd 143 rfl
theorem sg45_31_1 : decs c_25 [(31, .aload_n 2, 1)] := dk (by decide +kernel)
theorem d45_32 : decode c_25 32 = .ok (.areturn, 1) := by decide +kernel
theorem ef_rm45_0 (m : MethodId) (x0 : Addr) (x1 : Int32) : entryFrame m #[(.ref x0), (.int x1)] 3 = mkF m 0 #[.val (.ref x0), .val (.int x1), .unset] [] := by first | (simp [entryFrame, mkF, argsToLocals, Value.category]; done) | rfl
theorem own_pn10 : plainName "java/util/Arrays" = true := by first | (simp [plainName, overriddenIn]; done) | decide +kernel
theorem w243 : WD (Cond.code ⟨"java/util/Arrays", "copyOf", "([BI)[B"⟩ jdk_65_method_121_code 3 (Option.some (Jvm.ClassFile.FieldType.array Jvm.ClassFile.FieldType.byte))) := wd 243 rfl
theorem w174 : WD (Cond.initialized "java/util/Arrays") := wd 174 rfl
theorem own_pd18 : parseMethodDescriptor "([BI)[B" = some ⟨[(.array .byte), .int], some (.array .byte)⟩ := by decide +kernel
theorem w242 : WD (Cond.static ⟨"java/util/Arrays", "copyOf", "([BI)[B"⟩) := wd 242 rfl
theorem d12_35 : decode c_43 35 = .ok (.putfield 15, 3) := by decide +kernel
theorem d12_38 : decode c_43 38 = .ok (.return_, 1) := by decide +kernel
theorem sg10_11_3 : decs c_37 [(11, .istore_n 3, 1), (12, .aload_n 0, 1), (13, .iload_n 3, 1)] := dk (by decide +kernel)
theorem d10_14 : decode c_37 14 = .ok (.invokevirtual 100, 3) := by decide +kernel
theorem w92 : WD (Cond.code ⟨"java/lang/AbstractStringBuilder", "ensureCapacityInternal", "(I)V"⟩ jdk_68_method_9_code 3 (Option.none : Option Jvm.ClassFile.FieldType)) := wd 92 rfl
theorem w91 : WD (Cond.selects "java/lang/StringBuilder" ⟨"java/lang/AbstractStringBuilder", "ensureCapacityInternal", "(I)V"⟩ ⟨"java/lang/AbstractStringBuilder", "ensureCapacityInternal", "(I)V"⟩) := wd 91 rfl
theorem w90 : WD (Cond.privateMethod ⟨"java/lang/AbstractStringBuilder", "ensureCapacityInternal", "(I)V"⟩) := wd 90 rfl
theorem w89 : WD (Cond.instanceMethod ⟨"java/lang/AbstractStringBuilder", "ensureCapacityInternal", "(I)V"⟩) := wd 89 rfl
theorem w93 : WD (Cond.methodLink "java/lang/AbstractStringBuilder" 83 ⟨"java/lang/AbstractStringBuilder", "isLatin1", "()Z"⟩) := wd 93 rfl
theorem sg10_17_1 : decs c_37 [(17, .aload_n 0, 1)] := dk (by decide +kernel)
theorem d10_18 : decode c_37 18 = .ok (.invokevirtual 83, 3) := by decide +kernel
theorem d13_0 : decode c_39 0 = .ok (.getstatic 18, 3) := by decide +kernel
theorem d13_3 : decode c_39 3 = .ok (.ifCond .eq 14, 3) := by decide +kernel
theorem sg13_6_1 : decs c_39 [(6, .aload_n 0, 1)] := dk (by decide +kernel)
theorem d13_7 : decode c_39 7 = .ok (.getfield 22, 3) := by decide +kernel
theorem d13_10 : decode c_39 10 = .ok (.ifCond .ne 7, 3) := by decide +kernel
theorem sg13_13_2 : decs c_39 [(13, .iconst 1, 1), (14, .goto 4, 3)] := dk (by decide +kernel)
theorem d13_18 : decode c_39 18 = .ok (.ireturn, 1) := by decide +kernel
theorem w97 : WD (Cond.code ⟨"java/lang/AbstractStringBuilder", "isLatin1", "()Z"⟩ jdk_68_method_68_code 1 (Option.some Jvm.ClassFile.FieldType.boolean)) := wd 97 rfl
theorem own_pd19 : parseMethodDescriptor "()Z" = some ⟨[], some .boolean⟩ := by decide +kernel
theorem w96 : WD (Cond.selects "java/lang/StringBuilder" ⟨"java/lang/AbstractStringBuilder", "isLatin1", "()Z"⟩ ⟨"java/lang/AbstractStringBuilder", "isLatin1", "()Z"⟩) := wd 96 rfl
theorem w94 : WD (Cond.declares ⟨"java/lang/AbstractStringBuilder", "isLatin1", "()Z"⟩) := wd 94 rfl
theorem w95 : WD (Cond.instanceMethod ⟨"java/lang/AbstractStringBuilder", "isLatin1", "()Z"⟩) := wd 95 rfl
theorem d10_21 : decode c_37 21 = .ok (.ifCond .eq 16, 3) := by decide +kernel
theorem sg10_24_3 : decs c_37 [(24, .iload_n 1, 1), (25, .iload_n 3, 1), (26, .aload_n 0, 1)] := dk (by decide +kernel)
theorem d10_27 : decode c_37 27 = .ok (.getfield 15, 3) := by decide +kernel
theorem w98 : WD (Cond.methodLink "java/lang/AbstractStringBuilder" 248 ⟨"java/lang/Integer", "getChars", "(II[B)I"⟩) := wd 98 rfl
theorem d10_30 : decode c_37 30 = .ok (.invokestatic 248, 3) := by decide +kernel
theorem sg14_0_2 : decs c_3 [(0, .iload_n 1, 1), (1, .istore 5, 2)] := dk (by decide +kernel)
theorem sg14_3_1 : decs c_3 [(3, .iload_n 0, 1)] := dk (by decide +kernel)
theorem d14_4 : decode c_3 4 = .ok (.ifCond .ge 7, 3) := by decide +kernel
theorem sg14_7_4 : decs c_3 [(7, .iconst 1, 1), (8, .goto 4, 3), (12, .istore 6, 2), (14, .iload 6, 2)] := dk (by decide +kernel)
theorem d14_16 : decode c_3 16 = .ok (.ifCond .ne 6, 3) := by decide +kernel
theorem sg14_11_3 : decs c_3 [(11, .iconst 0, 1), (12, .istore 6, 2), (14, .iload 6, 2)] := dk (by decide +kernel)
theorem sg14_19_3 : decs c_3 [(19, .iload_n 0, 1), (20, .ineg, 1), (21, .istore_n 0, 1)] := dk (by decide +kernel)
theorem sg14_22_2 : decs c_3 [(22, .iload_n 0, 1), (23, .bipush (-100), 2)] := dk (by decide +kernel)
theorem d14_25 : decode c_3 25 = .ok (.if_icmp .gt 47, 3) := by decide +kernel
theorem sg14_28_2 : decs c_3 [(28, .iload_n 0, 1), (29, .bipush 100, 2)] := dk (by decide +kernel)
theorem d14_31 : decode c_3 31 = .ok (.idiv, 1) := by decide +kernel
theorem d14_32 : decode c_3 32 = .ok (.istore_n 3, 1) := by decide +kernel
theorem sg14_33_5 : decs c_3 [(33, .iload_n 3, 1), (34, .bipush 100, 2), (36, .imul, 1), (37, .iload_n 0, 1), (38, .isub, 1)] := dk (by decide +kernel)
theorem d14_39 : decode c_3 39 = .ok (.istore 4, 2) := by decide +kernel
theorem sg14_41_5 : decs c_3 [(41, .iload_n 3, 1), (42, .istore_n 0, 1), (43, .aload_n 2, 1), (44, .iinc 5 (-1), 3), (47, .iload 5, 2)] := dk (by decide +kernel)
theorem d14_49 : decode c_3 49 = .ok (.getstatic 83, 3) := by decide +kernel
theorem w101 : WD (Cond.fieldLink "java/lang/Integer" 83 "java/lang/Integer" "DigitOnes" "[B") := wd 101 rfl
theorem sg14_52_1 : decs c_3 [(52, .iload 4, 2)] := dk (by decide +kernel)
theorem d14_54 : decode c_3 54 = .ok (.baload, 1) := by decide +kernel
theorem d14_55 : decode c_3 55 = .ok (.bastore, 1) := by decide +kernel
theorem sg14_56_3 : decs c_3 [(56, .aload_n 2, 1), (57, .iinc 5 (-1), 3), (60, .iload 5, 2)] := dk (by decide +kernel)
theorem d14_62 : decode c_3 62 = .ok (.getstatic 87, 3) := by decide +kernel
theorem w213 : WD (Cond.fieldLink "java/lang/Integer" 87 "java/lang/Integer" "DigitTens" "[B") := wd 213 rfl
theorem sg14_65_1 : decs c_3 [(65, .iload 4, 2)] := dk (by decide +kernel)
theorem d14_67 : decode c_3 67 = .ok (.baload, 1) := by decide +kernel
theorem d14_68 : decode c_3 68 = .ok (.bastore, 1) := by decide +kernel
theorem sg14_69_1 : decs c_3 [(69, .goto (-47), 3)] := dk (by decide +kernel)
theorem sg14_72_3 : decs c_3 [(72, .aload_n 2, 1), (73, .iinc 5 (-1), 3), (76, .iload 5, 2)] := dk (by decide +kernel)
theorem d14_78 : decode c_3 78 = .ok (.getstatic 83, 3) := by decide +kernel
theorem sg14_81_2 : decs c_3 [(81, .iload_n 0, 1), (82, .ineg, 1)] := dk (by decide +kernel)
theorem d14_83 : decode c_3 83 = .ok (.baload, 1) := by decide +kernel
theorem d14_84 : decode c_3 84 = .ok (.bastore, 1) := by decide +kernel
theorem sg14_85_2 : decs c_3 [(85, .iload_n 0, 1), (86, .bipush (-9), 2)] := dk (by decide +kernel)
theorem d14_88 : decode c_3 88 = .ok (.if_icmp .ge 16, 3) := by decide +kernel
theorem sg14_91_3 : decs c_3 [(91, .aload_n 2, 1), (92, .iinc 5 (-1), 3), (95, .iload 5, 2)] := dk (by decide +kernel)
theorem d14_97 : decode c_3 97 = .ok (.getstatic 87, 3) := by decide +kernel
theorem sg14_100_2 : decs c_3 [(100, .iload_n 0, 1), (101, .ineg, 1)] := dk (by decide +kernel)
theorem d14_102 : decode c_3 102 = .ok (.baload, 1) := by decide +kernel
theorem d14_103 : decode c_3 103 = .ok (.bastore, 1) := by decide +kernel
theorem sg14_104_1 : decs c_3 [(104, .iload 6, 2)] := dk (by decide +kernel)
theorem d14_106 : decode c_3 106 = .ok (.ifCond .eq 12, 3) := by decide +kernel
theorem sg14_109_4 : decs c_3 [(109, .aload_n 2, 1), (110, .iinc 5 (-1), 3), (113, .iload 5, 2), (115, .bipush 45, 2)] := dk (by decide +kernel)
theorem d14_117 : decode c_3 117 = .ok (.bastore, 1) := by decide +kernel
theorem sg14_118_1 : decs c_3 [(118, .iload 5, 2)] := dk (by decide +kernel)
theorem d14_120 : decode c_3 120 = .ok (.ireturn, 1) := by decide +kernel
theorem ef_rm14_0 (m : MethodId) (x0 : Int32) (x1 : Int32) (x2 : Addr) : entryFrame m #[(.int x0), (.int x1), (.ref x2)] 7 = mkF m 0 #[.val (.int x0), .val (.int x1), .val (.ref x2), .unset, .unset, .unset, .unset] [] := by first | (simp [entryFrame, mkF, argsToLocals, Value.category]; done) | rfl
theorem w100 : WD (Cond.code ⟨"java/lang/Integer", "getChars", "(II[B)I"⟩ jdk_33_method_12_code 7 (Option.some Jvm.ClassFile.FieldType.int)) := wd 100 rfl
theorem own_pd20 : parseMethodDescriptor "(II[B)I" = some ⟨[.int, .int, (.array .byte)], some .int⟩ := by decide +kernel
theorem w99 : WD (Cond.static ⟨"java/lang/Integer", "getChars", "(II[B)I"⟩) := wd 99 rfl
theorem sg10_33_4 : decs c_37 [(33, .pop, 1), (34, .goto 14, 3), (48, .aload_n 0, 1), (49, .iload_n 3, 1)] := dk (by decide +kernel)
theorem d10_50 : decode c_37 50 = .ok (.putfield 79, 3) := by decide +kernel
theorem sg10_53_1 : decs c_37 [(53, .aload_n 0, 1)] := dk (by decide +kernel)
theorem d10_54 : decode c_37 54 = .ok (.areturn, 1) := by decide +kernel
theorem sg9_0_2 : decs c_29 [(0, .aload_n 0, 1), (1, .iload_n 1, 1)] := dk (by decide +kernel)
theorem d9_2 : decode c_29 2 = .ok (.invokespecial 53, 3) := by decide +kernel
theorem ef_rm10_0 (m : MethodId) (x0 : Addr) (x1 : Int32) : entryFrame m #[(.ref x0), (.int x1)] 4 = mkF m 0 #[.val (.ref x0), .val (.int x1), .unset, .unset] [] := by first | (simp [entryFrame, mkF, argsToLocals, Value.category]; done) | rfl
theorem w81 : WD (Cond.code ⟨"java/lang/AbstractStringBuilder", "append", "(I)Ljava/lang/AbstractStringBuilder;"⟩ jdk_68_method_32_code 4 (Option.some (Jvm.ClassFile.FieldType.object "java/lang/AbstractStringBuilder"))) := wd 81 rfl
theorem own_pd21 : parseMethodDescriptor "(I)Ljava/lang/AbstractStringBuilder;" = some ⟨[.int], some (.object "java/lang/AbstractStringBuilder")⟩ := by decide +kernel
theorem w78 : WD (Cond.instanceMethod ⟨"java/lang/AbstractStringBuilder", "append", "(I)Ljava/lang/AbstractStringBuilder;"⟩) := wd 78 rfl
theorem w79 : WD (Cond.superclass "java/lang/StringBuilder" "java/lang/AbstractStringBuilder") := wd 79 rfl
theorem sg9_5_2 : decs c_29 [(5, .pop, 1), (6, .aload_n 0, 1)] := dk (by decide +kernel)
theorem d9_7 : decode c_29 7 = .ok (.areturn, 1) := by decide +kernel
theorem d6_11 : decode c_47 11 = .ok (.invokevirtual 56, 3) := by decide +kernel
theorem w76 : WD (Cond.code ⟨"java/lang/StringBuilder", "append", "(I)Ljava/lang/StringBuilder;"⟩ jdk_67_method_15_code 2 (Option.some (Jvm.ClassFile.FieldType.object "java/lang/StringBuilder"))) := wd 76 rfl
theorem own_pd22 : parseMethodDescriptor "(I)Ljava/lang/StringBuilder;" = some ⟨[.int], some (.object "java/lang/StringBuilder")⟩ := by decide +kernel
theorem w75 : WD (Cond.selects "java/lang/StringBuilder" ⟨"java/lang/StringBuilder", "append", "(I)Ljava/lang/StringBuilder;"⟩ ⟨"java/lang/StringBuilder", "append", "(I)Ljava/lang/StringBuilder;"⟩) := wd 75 rfl
theorem w73 : WD (Cond.declares ⟨"java/lang/StringBuilder", "append", "(I)Ljava/lang/StringBuilder;"⟩) := wd 73 rfl
theorem w74 : WD (Cond.instanceMethod ⟨"java/lang/StringBuilder", "append", "(I)Ljava/lang/StringBuilder;"⟩) := wd 74 rfl
theorem d6_14 : decode c_47 14 = .ok (.ldc 60, 2) := by decide +kernel
theorem w102 : WD (Cond.stringLink "com/example/token_relay/tokenrelay/Member" 60 " ") := wd 102 rfl
theorem w103 : WD (Cond.methodLink "com/example/token_relay/tokenrelay/Member" 62 ⟨"java/lang/StringBuilder", "append", "(Ljava/lang/String;)Ljava/lang/StringBuilder;"⟩) := wd 103 rfl
theorem w108 : WD (Cond.methodLink "java/lang/StringBuilder" 29 ⟨"java/lang/AbstractStringBuilder", "append", "(Ljava/lang/String;)Ljava/lang/AbstractStringBuilder;"⟩) := wd 108 rfl
theorem sg16_0_1 : decs c_35 [(0, .aload_n 1, 1)] := dk (by decide +kernel)
theorem d16_1 : decode c_35 1 = .ok (.ifnonnull 8, 3) := by decide +kernel
theorem w112 : WD (Cond.methodLink "java/lang/AbstractStringBuilder" 32 ⟨"java/lang/String", "length", "()I"⟩) := wd 112 rfl
theorem sg16_9_1 : decs c_35 [(9, .aload_n 1, 1)] := dk (by decide +kernel)
theorem d16_10 : decode c_35 10 = .ok (.invokevirtual 32, 3) := by decide +kernel
theorem sg17_0_1 : decs c_16 [(0, .aload_n 0, 1)] := dk (by decide +kernel)
theorem d17_1 : decode c_16 1 = .ok (.getfield 9, 3) := by decide +kernel
theorem d17_4 : decode c_16 4 = .ok (.arraylength, 1) := by decide +kernel
theorem w118 : WD (Cond.methodLink "java/lang/String" 335 ⟨"java/lang/String", "coder", "()B"⟩) := wd 118 rfl
theorem sg17_5_1 : decs c_16 [(5, .aload_n 0, 1)] := dk (by decide +kernel)
theorem d17_6 : decode c_16 6 = .ok (.invokevirtual 335, 3) := by decide +kernel
theorem d18_0 : decode c_11 0 = .ok (.getstatic 38, 3) := by decide +kernel
theorem d18_3 : decode c_11 3 = .ok (.ifCond .eq 10, 3) := by decide +kernel
theorem sg18_6_1 : decs c_11 [(6, .aload_n 0, 1)] := dk (by decide +kernel)
theorem d18_7 : decode c_11 7 = .ok (.getfield 15, 3) := by decide +kernel
theorem sg18_10_1 : decs c_11 [(10, .goto 4, 3)] := dk (by decide +kernel)
theorem d18_14 : decode c_11 14 = .ok (.ireturn, 1) := by decide +kernel
theorem w122 : WD (Cond.code ⟨"java/lang/String", "coder", "()B"⟩ jdk_42_method_152_code 1 (Option.some Jvm.ClassFile.FieldType.byte)) := wd 122 rfl
theorem own_pd23 : parseMethodDescriptor "()B" = some ⟨[], some .byte⟩ := by decide +kernel
theorem w121 : WD (Cond.selects "java/lang/String" ⟨"java/lang/String", "coder", "()B"⟩ ⟨"java/lang/String", "coder", "()B"⟩) := wd 121 rfl
theorem w119 : WD (Cond.declares ⟨"java/lang/String", "coder", "()B"⟩) := wd 119 rfl
theorem w120 : WD (Cond.instanceMethod ⟨"java/lang/String", "coder", "()B"⟩) := wd 120 rfl
theorem sg17_9_1 : decs c_16 [(9, .ishr, 1)] := dk (by decide +kernel)
theorem d17_10 : decode c_16 10 = .ok (.ireturn, 1) := by decide +kernel
theorem w116 : WD (Cond.code ⟨"java/lang/String", "length", "()I"⟩ jdk_42_method_54_code 1 (Option.some Jvm.ClassFile.FieldType.int)) := wd 116 rfl
theorem own_pd24 : parseMethodDescriptor "()I" = some ⟨[], some .int⟩ := by decide +kernel
theorem w115 : WD (Cond.selects "java/lang/String" ⟨"java/lang/String", "length", "()I"⟩ ⟨"java/lang/String", "length", "()I"⟩) := wd 115 rfl
theorem w113 : WD (Cond.declares ⟨"java/lang/String", "length", "()I"⟩) := wd 113 rfl
theorem w114 : WD (Cond.instanceMethod ⟨"java/lang/String", "length", "()I"⟩) := wd 114 rfl
theorem sg16_13_3 : decs c_35 [(13, .istore_n 2, 1), (14, .aload_n 0, 1), (15, .aload_n 0, 1)] := dk (by decide +kernel)
theorem d16_16 : decode c_35 16 = .ok (.getfield 79, 3) := by decide +kernel
theorem sg16_19_2 : decs c_35 [(19, .iload_n 2, 1), (20, .iadd, 1)] := dk (by decide +kernel)
theorem d16_21 : decode c_35 21 = .ok (.invokevirtual 100, 3) := by decide +kernel
theorem sg16_24_2 : decs c_35 [(24, .aload_n 0, 1), (25, .aload_n 0, 1)] := dk (by decide +kernel)
theorem d16_26 : decode c_35 26 = .ok (.getfield 79, 3) := by decide +kernel
theorem w125 : WD (Cond.methodLink "java/lang/AbstractStringBuilder" 208 ⟨"java/lang/AbstractStringBuilder", "putStringAt", "(ILjava/lang/String;)V"⟩) := wd 125 rfl
theorem sg16_29_1 : decs c_35 [(29, .aload_n 1, 1)] := dk (by decide +kernel)
theorem d16_30 : decode c_35 30 = .ok (.invokevirtual 208, 3) := by decide +kernel
theorem w130 : WD (Cond.methodLink "java/lang/AbstractStringBuilder" 397 ⟨"java/lang/AbstractStringBuilder", "inflateIfNeededFor", "(Ljava/lang/String;)V"⟩) := wd 130 rfl
theorem sg19_0_2 : decs c_42 [(0, .aload_n 0, 1), (1, .aload_n 2, 1)] := dk (by decide +kernel)
theorem d19_2 : decode c_42 2 = .ok (.invokevirtual 397, 3) := by decide +kernel
theorem d20_0 : decode c_41 0 = .ok (.getstatic 18, 3) := by decide +kernel
theorem d20_3 : decode c_41 3 = .ok (.ifCond .eq 18, 3) := by decide +kernel
theorem sg20_6_1 : decs c_41 [(6, .aload_n 0, 1)] := dk (by decide +kernel)
theorem d20_7 : decode c_41 7 = .ok (.getfield 22, 3) := by decide +kernel
theorem w135 : WD (Cond.methodLink "java/lang/AbstractStringBuilder" 40 ⟨"java/lang/String", "coder", "()B"⟩) := wd 135 rfl
theorem sg20_10_1 : decs c_41 [(10, .aload_n 1, 1)] := dk (by decide +kernel)
theorem d20_11 : decode c_41 11 = .ok (.invokevirtual 40, 3) := by decide +kernel
theorem d20_14 : decode c_41 14 = .ok (.if_icmp .eq 7, 3) := by decide +kernel
theorem d20_21 : decode c_41 21 = .ok (.return_, 1) := by decide +kernel
theorem w134 : WD (Cond.code ⟨"java/lang/AbstractStringBuilder", "inflateIfNeededFor", "(Ljava/lang/String;)V"⟩ jdk_68_method_71_code 2 (Option.none : Option Jvm.ClassFile.FieldType)) := wd 134 rfl
theorem own_pd25 : parseMethodDescriptor "(Ljava/lang/String;)V" = some ⟨[(.object "java/lang/String")], none⟩ := by decide +kernel
theorem w133 : WD (Cond.selects "java/lang/StringBuilder" ⟨"java/lang/AbstractStringBuilder", "inflateIfNeededFor", "(Ljava/lang/String;)V"⟩ ⟨"java/lang/AbstractStringBuilder", "inflateIfNeededFor", "(Ljava/lang/String;)V"⟩) := wd 133 rfl
theorem w132 : WD (Cond.privateMethod ⟨"java/lang/AbstractStringBuilder", "inflateIfNeededFor", "(Ljava/lang/String;)V"⟩) := wd 132 rfl
theorem w131 : WD (Cond.instanceMethod ⟨"java/lang/AbstractStringBuilder", "inflateIfNeededFor", "(Ljava/lang/String;)V"⟩) := wd 131 rfl
theorem sg19_5_2 : decs c_42 [(5, .aload_n 2, 1), (6, .aload_n 0, 1)] := dk (by decide +kernel)
theorem d19_7 : decode c_42 7 = .ok (.getfield 15, 3) := by decide +kernel
theorem sg19_10_2 : decs c_42 [(10, .iload_n 1, 1), (11, .aload_n 0, 1)] := dk (by decide +kernel)
theorem d19_12 : decode c_42 12 = .ok (.getfield 22, 3) := by decide +kernel
theorem w136 : WD (Cond.methodLink "java/lang/AbstractStringBuilder" 399 ⟨"java/lang/String", "getBytes", "([BIB)V"⟩) := wd 136 rfl
theorem d19_15 : decode c_42 15 = .ok (.invokevirtual 399, 3) := by decide +kernel
theorem sg21_0_1 : decs c_7 [(0, .aload_n 0, 1)] := dk (by decide +kernel)
theorem d21_1 : decode c_7 1 = .ok (.invokevirtual 335, 3) := by decide +kernel
theorem sg21_4_1 : decs c_7 [(4, .iload_n 3, 1)] := dk (by decide +kernel)
theorem d21_5 : decode c_7 5 = .ok (.if_icmp .ne 23, 3) := by decide +kernel
theorem sg21_8_1 : decs c_7 [(8, .aload_n 0, 1)] := dk (by decide +kernel)
theorem d21_9 : decode c_7 9 = .ok (.getfield 9, 3) := by decide +kernel
theorem sg21_12_5 : decs c_7 [(12, .iconst 0, 1), (13, .aload_n 1, 1), (14, .iload_n 2, 1), (15, .iload_n 3, 1), (16, .ishl, 1)] := dk (by decide +kernel)
theorem sg21_17_1 : decs c_7 [(17, .aload_n 0, 1)] := dk (by decide +kernel)
theorem d21_18 : decode c_7 18 = .ok (.getfield 9, 3) := by decide +kernel
theorem d21_21 : decode c_7 21 = .ok (.arraylength, 1) := by decide +kernel
theorem w141 : WD (Cond.methodLink "java/lang/String" 212 ⟨"java/lang/System", "arraycopy", "(Ljava/lang/Object;ILjava/lang/Object;II)V"⟩) := wd 141 rfl
theorem d21_22 : decode c_7 22 = .ok (.invokestatic 212, 3) := by decide +kernel
theorem sg21_25_1 : decs c_7 [(25, .goto 18, 3)] := dk (by decide +kernel)
theorem d21_43 : decode c_7 43 = .ok (.return_, 1) := by decide +kernel
theorem ef_rm21_0 (m : MethodId) (x0 : Addr) (x1 : Addr) (x2 : Int32) (x3 : Int32) : entryFrame m #[(.ref x0), (.ref x1), (.int x2), (.int x3)] 4 = mkF m 0 #[.val (.ref x0), .val (.ref x1), .val (.int x2), .val (.int x3)] [] := by first | (simp [entryFrame, mkF, argsToLocals, Value.category]; done) | rfl
theorem w140 : WD (Cond.code ⟨"java/lang/String", "getBytes", "([BIB)V"⟩ jdk_42_method_147_code 4 (Option.none : Option Jvm.ClassFile.FieldType)) := wd 140 rfl
theorem own_pd26 : parseMethodDescriptor "([BIB)V" = some ⟨[(.array .byte), .int, .byte], none⟩ := by decide +kernel
theorem w139 : WD (Cond.selects "java/lang/String" ⟨"java/lang/String", "getBytes", "([BIB)V"⟩ ⟨"java/lang/String", "getBytes", "([BIB)V"⟩) := wd 139 rfl
theorem w137 : WD (Cond.declares ⟨"java/lang/String", "getBytes", "([BIB)V"⟩) := wd 137 rfl
theorem w138 : WD (Cond.instanceMethod ⟨"java/lang/String", "getBytes", "([BIB)V"⟩) := wd 138 rfl
theorem d19_18 : decode c_42 18 = .ok (.return_, 1) := by decide +kernel
theorem ef_rm19_0 (m : MethodId) (x0 : Addr) (x1 : Int32) (x2 : Addr) : entryFrame m #[(.ref x0), (.int x1), (.ref x2)] 3 = mkF m 0 #[.val (.ref x0), .val (.int x1), .val (.ref x2)] [] := by first | (simp [entryFrame, mkF, argsToLocals, Value.category]; done) | rfl
theorem w129 : WD (Cond.code ⟨"java/lang/AbstractStringBuilder", "putStringAt", "(ILjava/lang/String;)V"⟩ jdk_68_method_73_code 3 (Option.none : Option Jvm.ClassFile.FieldType)) := wd 129 rfl
theorem own_pd27 : parseMethodDescriptor "(ILjava/lang/String;)V" = some ⟨[.int, (.object "java/lang/String")], none⟩ := by decide +kernel
theorem w128 : WD (Cond.selects "java/lang/StringBuilder" ⟨"java/lang/AbstractStringBuilder", "putStringAt", "(ILjava/lang/String;)V"⟩ ⟨"java/lang/AbstractStringBuilder", "putStringAt", "(ILjava/lang/String;)V"⟩) := wd 128 rfl
theorem w127 : WD (Cond.privateMethod ⟨"java/lang/AbstractStringBuilder", "putStringAt", "(ILjava/lang/String;)V"⟩) := wd 127 rfl
theorem w126 : WD (Cond.instanceMethod ⟨"java/lang/AbstractStringBuilder", "putStringAt", "(ILjava/lang/String;)V"⟩) := wd 126 rfl
theorem sg16_33_2 : decs c_35 [(33, .aload_n 0, 1), (34, .dup, 1)] := dk (by decide +kernel)
theorem d16_35 : decode c_35 35 = .ok (.getfield 79, 3) := by decide +kernel
theorem sg16_38_2 : decs c_35 [(38, .iload_n 2, 1), (39, .iadd, 1)] := dk (by decide +kernel)
theorem d16_40 : decode c_35 40 = .ok (.putfield 79, 3) := by decide +kernel
theorem sg16_43_1 : decs c_35 [(43, .aload_n 0, 1)] := dk (by decide +kernel)
theorem d16_44 : decode c_35 44 = .ok (.areturn, 1) := by decide +kernel
theorem sg15_0_2 : decs c_32 [(0, .aload_n 0, 1), (1, .aload_n 1, 1)] := dk (by decide +kernel)
theorem d15_2 : decode c_32 2 = .ok (.invokespecial 29, 3) := by decide +kernel
theorem ef_rm16_0 (m : MethodId) (x0 : Addr) (x1 : Addr) : entryFrame m #[(.ref x0), (.ref x1)] 3 = mkF m 0 #[.val (.ref x0), .val (.ref x1), .unset] [] := by first | (simp [entryFrame, mkF, argsToLocals, Value.category]; done) | rfl
theorem w111 : WD (Cond.code ⟨"java/lang/AbstractStringBuilder", "append", "(Ljava/lang/String;)Ljava/lang/AbstractStringBuilder;"⟩ jdk_68_method_22_code 3 (Option.some (Jvm.ClassFile.FieldType.object "java/lang/AbstractStringBuilder"))) := wd 111 rfl
theorem own_pd28 : parseMethodDescriptor "(Ljava/lang/String;)Ljava/lang/AbstractStringBuilder;" = some ⟨[(.object "java/lang/String")], some (.object "java/lang/AbstractStringBuilder")⟩ := by decide +kernel
theorem w109 : WD (Cond.instanceMethod ⟨"java/lang/AbstractStringBuilder", "append", "(Ljava/lang/String;)Ljava/lang/AbstractStringBuilder;"⟩) := wd 109 rfl
theorem sg15_5_2 : decs c_32 [(5, .pop, 1), (6, .aload_n 0, 1)] := dk (by decide +kernel)
theorem d15_7 : decode c_32 7 = .ok (.areturn, 1) := by decide +kernel
theorem d6_16 : decode c_47 16 = .ok (.invokevirtual 62, 3) := by decide +kernel
theorem w107 : WD (Cond.code ⟨"java/lang/StringBuilder", "append", "(Ljava/lang/String;)Ljava/lang/StringBuilder;"⟩ jdk_67_method_7_code 2 (Option.some (Jvm.ClassFile.FieldType.object "java/lang/StringBuilder"))) := wd 107 rfl
theorem own_pd29 : parseMethodDescriptor "(Ljava/lang/String;)Ljava/lang/StringBuilder;" = some ⟨[(.object "java/lang/String")], some (.object "java/lang/StringBuilder")⟩ := by decide +kernel
theorem w106 : WD (Cond.selects "java/lang/StringBuilder" ⟨"java/lang/StringBuilder", "append", "(Ljava/lang/String;)Ljava/lang/StringBuilder;"⟩ ⟨"java/lang/StringBuilder", "append", "(Ljava/lang/String;)Ljava/lang/StringBuilder;"⟩) := wd 106 rfl
theorem w104 : WD (Cond.declares ⟨"java/lang/StringBuilder", "append", "(Ljava/lang/String;)Ljava/lang/StringBuilder;"⟩) := wd 104 rfl
theorem w105 : WD (Cond.instanceMethod ⟨"java/lang/StringBuilder", "append", "(Ljava/lang/String;)Ljava/lang/StringBuilder;"⟩) := wd 105 rfl
theorem sg6_19_1 : decs c_47 [(19, .aload_n 0, 1)] := dk (by decide +kernel)
theorem d6_20 : decode c_47 20 = .ok (.getfield 23, 3) := by decide +kernel
theorem d6_23 : decode c_47 23 = .ok (.invokevirtual 62, 3) := by decide +kernel
theorem d6_26 : decode c_47 26 = .ok (.ldc 60, 2) := by decide +kernel
theorem d6_28 : decode c_47 28 = .ok (.invokevirtual 62, 3) := by decide +kernel
theorem sg6_31_1 : decs c_47 [(31, .aload_n 0, 1)] := dk (by decide +kernel)
theorem d6_32 : decode c_47 32 = .ok (.getfield 26, 3) := by decide +kernel
theorem d6_35 : decode c_47 35 = .ok (.invokevirtual 56, 3) := by decide +kernel
theorem d6_38 : decode c_47 38 = .ok (.ldc 60, 2) := by decide +kernel
theorem d6_40 : decode c_47 40 = .ok (.invokevirtual 62, 3) := by decide +kernel
theorem sg6_43_1 : decs c_47 [(43, .aload_n 0, 1)] := dk (by decide +kernel)
theorem d6_44 : decode c_47 44 = .ok (.getfield 29, 3) := by decide +kernel
theorem d6_47 : decode c_47 47 = .ok (.invokevirtual 56, 3) := by decide +kernel
theorem w145 : WD (Cond.methodLink "com/example/token_relay/tokenrelay/Member" 65 ⟨"java/lang/StringBuilder", "toString", "()Ljava/lang/String;"⟩) := wd 145 rfl
theorem d22_0 : decode c_31 0 = .ok (.new 18, 3) := by decide +kernel
theorem w150 : WD (Cond.classLink "java/lang/StringBuilder" 18 "java/lang/String") := wd 150 rfl
theorem w151 : WD (Cond.methodLink "java/lang/StringBuilder" 137 ⟨"java/lang/String", "<init>", "(Ljava/lang/StringBuilder;)V"⟩) := wd 151 rfl
theorem w154 : WD (Cond.methodLink "java/lang/String" 489 ⟨"java/lang/String", "<init>", "(Ljava/lang/AbstractStringBuilder;Ljava/lang/Void;)V"⟩) := wd 154 rfl
theorem sg24_0_1 : decs c_9 [(0, .aload_n 0, 1)] := dk (by decide +kernel)
theorem d24_1 : decode c_9 1 = .ok (.invokespecial 1, 3) := by decide +kernel
theorem w158 : WD (Cond.methodLink "java/lang/String" 552 ⟨"java/lang/AbstractStringBuilder", "getValue", "()[B"⟩) := wd 158 rfl
theorem sg24_4_1 : decs c_9 [(4, .aload_n 1, 1)] := dk (by decide +kernel)
theorem d24_5 : decode c_9 5 = .ok (.invokevirtual 552, 3) := by decide +kernel
theorem sg25_0_1 : decs c_38 [(0, .aload_n 0, 1)] := dk (by decide +kernel)
theorem d25_1 : decode c_38 1 = .ok (.getfield 15, 3) := by decide +kernel
theorem d25_4 : decode c_38 4 = .ok (.areturn, 1) := by decide +kernel
theorem w162 : WD (Cond.code ⟨"java/lang/AbstractStringBuilder", "getValue", "()[B"⟩ jdk_68_method_64_code 1 (Option.some (Jvm.ClassFile.FieldType.array Jvm.ClassFile.FieldType.byte))) := wd 162 rfl
theorem own_pd30 : parseMethodDescriptor "()[B" = some ⟨[], some (.array .byte)⟩ := by decide +kernel
theorem w161 : WD (Cond.selects "java/lang/StringBuilder" ⟨"java/lang/AbstractStringBuilder", "getValue", "()[B"⟩ ⟨"java/lang/AbstractStringBuilder", "getValue", "()[B"⟩) := wd 161 rfl
theorem w159 : WD (Cond.declares ⟨"java/lang/AbstractStringBuilder", "getValue", "()[B"⟩) := wd 159 rfl
theorem w160 : WD (Cond.instanceMethod ⟨"java/lang/AbstractStringBuilder", "getValue", "()[B"⟩) := wd 160 rfl
theorem w163 : WD (Cond.methodLink "java/lang/String" 549 ⟨"java/lang/AbstractStringBuilder", "length", "()I"⟩) := wd 163 rfl
theorem sg24_8_2 : decs c_9 [(8, .astore_n 3, 1), (9, .aload_n 1, 1)] := dk (by decide +kernel)
theorem d24_10 : decode c_9 10 = .ok (.invokevirtual 549, 3) := by decide +kernel
theorem w169 : WD (Cond.methodLink "java/lang/StringBuilder" 343 ⟨"java/lang/AbstractStringBuilder", "length", "()I"⟩) := wd 169 rfl
theorem sg26_0_1 : decs c_33 [(0, .aload_n 0, 1)] := dk (by decide +kernel)
theorem d26_1 : decode c_33 1 = .ok (.invokespecial 343, 3) := by decide +kernel
theorem sg27_0_1 : decs c_40 [(0, .aload_n 0, 1)] := dk (by decide +kernel)
theorem d27_1 : decode c_40 1 = .ok (.getfield 79, 3) := by decide +kernel
theorem d27_4 : decode c_40 4 = .ok (.ireturn, 1) := by decide +kernel
theorem w170 : WD (Cond.code ⟨"java/lang/AbstractStringBuilder", "length", "()I"⟩ jdk_68_method_6_code 1 (Option.some Jvm.ClassFile.FieldType.int)) := wd 170 rfl
theorem w165 : WD (Cond.instanceMethod ⟨"java/lang/AbstractStringBuilder", "length", "()I"⟩) := wd 165 rfl
theorem d26_4 : decode c_33 4 = .ok (.ireturn, 1) := by decide +kernel
theorem w168 : WD (Cond.code ⟨"java/lang/StringBuilder", "length", "()I"⟩ jdk_67_method_93_code 1 (Option.some Jvm.ClassFile.FieldType.int)) := wd 168 rfl
theorem w166 : WD (Cond.selects "java/lang/StringBuilder" ⟨"java/lang/AbstractStringBuilder", "length", "()I"⟩ ⟨"java/lang/StringBuilder", "length", "()I"⟩) := wd 166 rfl
theorem w164 : WD (Cond.declares ⟨"java/lang/AbstractStringBuilder", "length", "()I"⟩) := wd 164 rfl
theorem w167 : WD (Cond.instanceMethod ⟨"java/lang/StringBuilder", "length", "()I"⟩) := wd 167 rfl
theorem w171 : WD (Cond.methodLink "java/lang/String" 1047 ⟨"java/lang/AbstractStringBuilder", "isLatin1", "()Z"⟩) := wd 171 rfl
theorem sg24_13_2 : decs c_9 [(13, .istore 4, 2), (15, .aload_n 1, 1)] := dk (by decide +kernel)
theorem d24_16 : decode c_9 16 = .ok (.invokevirtual 1047, 3) := by decide +kernel
theorem d24_19 : decode c_9 19 = .ok (.ifCond .eq 22, 3) := by decide +kernel
theorem sg24_22_2 : decs c_9 [(22, .aload_n 0, 1), (23, .iconst 0, 1)] := dk (by decide +kernel)
theorem d24_24 : decode c_9 24 = .ok (.putfield 15, 3) := by decide +kernel
theorem w172 : WD (Cond.methodLink "java/lang/String" 54 ⟨"java/util/Arrays", "copyOfRange", "([BII)[B"⟩) := wd 172 rfl
theorem sg28_0_1 : decs c_27 [(0, .iload_n 1, 1)] := dk (by decide +kernel)
theorem d28_1 : decode c_27 1 = .ok (.ifCond .ne 9, 3) := by decide +kernel
theorem sg28_4_2 : decs c_27 [(4, .iload_n 2, 1), (5, .aload_n 0, 1)] := dk (by decide +kernel)
theorem d28_6 : decode c_27 6 = .ok (.arraylength, 1) := by decide +kernel
theorem d28_7 : decode c_27 7 = .ok (.if_icmp .eq 10, 3) := by decide +kernel
theorem w176 : WD (Cond.methodLink "java/util/Arrays" 339 ⟨"java/util/Arrays", "copyOfRangeByte", "([BII)[B"⟩) := wd 176 rfl
theorem w179 : WD (Cond.methodLink "java/util/Arrays" 343 ⟨"java/util/Arrays", "checkLength", "(II)V"⟩) := wd 179 rfl
theorem sg29_0_2 : decs c_28 [(0, .iload_n 1, 1), (1, .iload_n 2, 1)] := dk (by decide +kernel)
theorem d29_2 : decode c_28 2 = .ok (.invokestatic 343, 3) := by decide +kernel
theorem sg30_0_2 : decs c_26 [(0, .iload_n 1, 1), (1, .iload_n 0, 1)] := dk (by decide +kernel)
theorem d30_2 : decode c_26 2 = .ok (.if_icmp .ge 35, 3) := by decide +kernel
theorem d30_37 : decode c_26 37 = .ok (.return_, 1) := by decide +kernel
theorem w181 : WD (Cond.code ⟨"java/util/Arrays", "checkLength", "(II)V"⟩ jdk_65_method_131_code 2 (Option.none : Option Jvm.ClassFile.FieldType)) := wd 181 rfl
theorem own_pd31 : parseMethodDescriptor "(II)V" = some ⟨[.int, .int], none⟩ := by decide +kernel
theorem w180 : WD (Cond.static ⟨"java/util/Arrays", "checkLength", "(II)V"⟩) := wd 180 rfl
theorem sg29_5_3 : decs c_28 [(5, .iload_n 2, 1), (6, .iload_n 1, 1), (7, .isub, 1)] := dk (by decide +kernel)
theorem sg29_8_2 : decs c_28 [(8, .istore_n 3, 1), (9, .iload_n 3, 1)] := dk (by decide +kernel)
theorem d29_10 : decode c_28 10 = .ok (.newarray .byte, 2) := by decide +kernel
theorem sg29_12_6 : decs c_28 [(12, .astore 4, 2), (14, .aload_n 0, 1), (15, .iload_n 1, 1), (16, .aload 4, 2), (18, .iconst 0, 1), (19, .aload_n 0, 1)] := dk (by decide +kernel)
theorem d29_20 : decode c_28 20 = .ok (.arraylength, 1) := by decide +kernel
theorem sg31_9_1 : decs c_1 [(9, .iload_n 1, 1)] := dk (by decide +kernel)
theorem sg29_21_3 : decs c_28 [(21, .iload_n 1, 1), (22, .isub, 1), (23, .iload_n 3, 1)] := dk (by decide +kernel)
theorem d29_24 : decode c_28 24 = .ok (.invokestatic 304, 3) := by decide +kernel
theorem d29_27 : decode c_28 27 = .ok (.invokestatic 150, 3) := by decide +kernel
theorem sg29_30_1 : decs c_28 [(30, .aload 4, 2)] := dk (by decide +kernel)
theorem d29_32 : decode c_28 32 = .ok (.areturn, 1) := by decide +kernel
theorem sg28_10_3 : decs c_27 [(10, .aload_n 0, 1), (11, .iload_n 1, 1), (12, .iload_n 2, 1)] := dk (by decide +kernel)
theorem d28_13 : decode c_27 13 = .ok (.invokestatic 339, 3) := by decide +kernel
theorem ef_rm29_0 (m : MethodId) (x0 : Addr) (x1 : Int32) (x2 : Int32) : entryFrame m #[(.ref x0), (.int x1), (.int x2)] 5 = mkF m 0 #[.val (.ref x0), .val (.int x1), .val (.int x2), .unset, .unset] [] := by first | (simp [entryFrame, mkF, argsToLocals, Value.category]; done) | rfl
theorem w178 : WD (Cond.code ⟨"java/util/Arrays", "copyOfRangeByte", "([BII)[B"⟩ jdk_65_method_133_code 5 (Option.some (Jvm.ClassFile.FieldType.array Jvm.ClassFile.FieldType.byte))) := wd 178 rfl
theorem own_pd32 : parseMethodDescriptor "([BII)[B" = some ⟨[(.array .byte), .int, .int], some (.array .byte)⟩ := by decide +kernel
theorem w177 : WD (Cond.static ⟨"java/util/Arrays", "copyOfRangeByte", "([BII)[B"⟩) := wd 177 rfl
theorem d28_16 : decode c_27 16 = .ok (.areturn, 1) := by decide +kernel
theorem sg24_27_4 : decs c_9 [(27, .aload_n 0, 1), (28, .aload_n 3, 1), (29, .iconst 0, 1), (30, .iload 4, 2)] := dk (by decide +kernel)
theorem d24_32 : decode c_9 32 = .ok (.invokestatic 54, 3) := by decide +kernel
theorem ef_rm28_0 (m : MethodId) (x0 : Addr) (x1 : Int32) (x2 : Int32) : entryFrame m #[(.ref x0), (.int x1), (.int x2)] 3 = mkF m 0 #[.val (.ref x0), .val (.int x1), .val (.int x2)] [] := by first | (simp [entryFrame, mkF, argsToLocals, Value.category]; done) | rfl
theorem w175 : WD (Cond.code ⟨"java/util/Arrays", "copyOfRange", "([BII)[B"⟩ jdk_65_method_132_code 3 (Option.some (Jvm.ClassFile.FieldType.array Jvm.ClassFile.FieldType.byte))) := wd 175 rfl
theorem w173 : WD (Cond.static ⟨"java/util/Arrays", "copyOfRange", "([BII)[B"⟩) := wd 173 rfl
theorem d24_35 : decode c_9 35 = .ok (.putfield 9, 3) := by decide +kernel
theorem sg24_38_1 : decs c_9 [(38, .goto 59, 3)] := dk (by decide +kernel)
theorem d24_97 : decode c_9 97 = .ok (.return_, 1) := by decide +kernel
theorem sg23_0_3 : decs c_15 [(0, .aload_n 0, 1), (1, .aload_n 1, 1), (2, .aconst_null, 1)] := dk (by decide +kernel)
theorem d23_3 : decode c_15 3 = .ok (.invokespecial 489, 3) := by decide +kernel
theorem ef_rm24_0 (m : MethodId) (x0 : Addr) (x1 : Addr) : entryFrame m #[(.ref x0), (.ref x1), .null] 5 = mkF m 0 #[.val (.ref x0), .val (.ref x1), .val .null, .unset, .unset] [] := by first | (simp [entryFrame, mkF, argsToLocals, Value.category]; done) | rfl
theorem w156 : WD (Cond.code ⟨"java/lang/String", "<init>", "(Ljava/lang/AbstractStringBuilder;Ljava/lang/Void;)V"⟩ jdk_42_method_150_code 5 (Option.none : Option Jvm.ClassFile.FieldType)) := wd 156 rfl
theorem own_pd33 : parseMethodDescriptor "(Ljava/lang/AbstractStringBuilder;Ljava/lang/Void;)V" = some ⟨[(.object "java/lang/AbstractStringBuilder"), (.object "java/lang/Void")], none⟩ := by decide +kernel
theorem w155 : WD (Cond.instanceMethod ⟨"java/lang/String", "<init>", "(Ljava/lang/AbstractStringBuilder;Ljava/lang/Void;)V"⟩) := wd 155 rfl
theorem d23_6 : decode c_15 6 = .ok (.return_, 1) := by decide +kernel
theorem sg22_3_2 : decs c_31 [(3, .dup, 1), (4, .aload_n 0, 1)] := dk (by decide +kernel)
theorem d22_5 : decode c_31 5 = .ok (.invokespecial 137, 3) := by decide +kernel
theorem w153 : WD (Cond.code ⟨"java/lang/String", "<init>", "(Ljava/lang/StringBuilder;)V"⟩ jdk_42_method_53_code 2 (Option.none : Option Jvm.ClassFile.FieldType)) := wd 153 rfl
theorem own_pd34 : parseMethodDescriptor "(Ljava/lang/StringBuilder;)V" = some ⟨[(.object "java/lang/StringBuilder")], none⟩ := by decide +kernel
theorem w152 : WD (Cond.instanceMethod ⟨"java/lang/String", "<init>", "(Ljava/lang/StringBuilder;)V"⟩) := wd 152 rfl
theorem d22_8 : decode c_31 8 = .ok (.areturn, 1) := by decide +kernel
theorem d6_50 : decode c_47 50 = .ok (.invokevirtual 65, 3) := by decide +kernel
theorem w149 : WD (Cond.code ⟨"java/lang/StringBuilder", "toString", "()Ljava/lang/String;"⟩ jdk_67_method_42_code 1 (Option.some (Jvm.ClassFile.FieldType.object "java/lang/String"))) := wd 149 rfl
theorem own_pd35 : parseMethodDescriptor "()Ljava/lang/String;" = some ⟨[], some (.object "java/lang/String")⟩ := by decide +kernel
theorem w148 : WD (Cond.selects "java/lang/StringBuilder" ⟨"java/lang/StringBuilder", "toString", "()Ljava/lang/String;"⟩ ⟨"java/lang/StringBuilder", "toString", "()Ljava/lang/String;"⟩) := wd 148 rfl
theorem w146 : WD (Cond.declares ⟨"java/lang/StringBuilder", "toString", "()Ljava/lang/String;"⟩) := wd 146 rfl
theorem w147 : WD (Cond.instanceMethod ⟨"java/lang/StringBuilder", "toString", "()Ljava/lang/String;"⟩) := wd 147 rfl
theorem d6_53 : decode c_47 53 = .ok (.areturn, 1) := by decide +kernel
theorem w244 : WD (Cond.methodLink "java/util/Arrays" 310 ⟨"[B", "clone", "()Ljava/lang/Object;"⟩) := wd 244 rfl
theorem sg28_17_1 : decs c_27 [(17, .aload_n 0, 1)] := dk (by decide +kernel)
theorem d28_18 : decode c_27 18 = .ok (.invokevirtual 310, 3) := by decide +kernel
theorem w245 : WD (Cond.sameMethod "[B" "java/lang/Object" "clone" "()Ljava/lang/Object;") := wd 245 rfl
theorem w249 : WD (Cond.native ⟨"java/lang/Object", "clone", "()Ljava/lang/Object;"⟩) := wd 249 rfl
theorem w247 : WD (Cond.instanceMethod ⟨"java/lang/Object", "clone", "()Ljava/lang/Object;"⟩) := wd 247 rfl
theorem w248 : WD (Cond.selects "[B" ⟨"[B", "clone", "()Ljava/lang/Object;"⟩ ⟨"java/lang/Object", "clone", "()Ljava/lang/Object;"⟩) := wd 248 rfl
theorem w250 : WD (Cond.castable "[B" "java/lang/Cloneable") := wd 250 rfl
theorem d28_21 : decode c_27 21 = .ok (.checkcast 311, 3) := by decide +kernel
theorem w251 : WD (Cond.classLink "java/util/Arrays" 311 "[B") := wd 251 rfl
theorem d28_24 : decode c_27 24 = .ok (.areturn, 1) := by decide +kernel
def cs_rm6_0 (u1 : Int32) (l_4 : List Int32) (u2 u3 : Int32) : List Int32 := ((((((([] ++ (own_put u1)) ++ [(32 : Int32)]) ++ l_4) ++ [(32 : Int32)]) ++ (own_put u2)) ++ [(32 : Int32)]) ++ (own_put u3))
theorem own_cs_len (u1 : Int32) (l_4 : List Int32) (u2 : Int32) (u3 : Int32) {a b : Nat} (h : a ≤ l_4.length ∧ l_4.length ≤ b) : 6 ≤ (cs_rm6_0 u1 l_4 u2 u3).length ∧ (cs_rm6_0 u1 l_4 u2 u3).length ≤ 36 + b := by
  unfold cs_rm6_0
  have q0 := own_put_len u1
  have q1 := own_put_len u2
  have q2 := own_put_len u3
  simp only [List.length_append, List.length_cons, List.length_nil]
  omega
theorem w53 : WD (Cond.code ⟨"com/example/token_relay/tokenrelay/Member", "toString", "()Ljava/lang/String;"⟩ prog_8_method_10_code 1 (Option.some (Jvm.ClassFile.FieldType.object "java/lang/String"))) := wd 53 rfl
theorem w52 : WD (Cond.selects "com/example/token_relay/tokenrelay/Member" ⟨"com/example/token_relay/tokenrelay/Member", "toString", "()Ljava/lang/String;"⟩ ⟨"com/example/token_relay/tokenrelay/Member", "toString", "()Ljava/lang/String;"⟩) := wd 52 rfl
theorem w50 : WD (Cond.declares ⟨"com/example/token_relay/tokenrelay/Member", "toString", "()Ljava/lang/String;"⟩) := wd 50 rfl
theorem w51 : WD (Cond.instanceMethod ⟨"com/example/token_relay/tokenrelay/Member", "toString", "()Ljava/lang/String;"⟩) := wd 51 rfl
theorem w187 : WD (Cond.methodLink "com/example/token_relay/tokenrelay/MemberToStringPinLaw" 33 ⟨"java/lang/String", "length", "()I"⟩) := wd 187 rfl
theorem sg0_211_2 : decs code [(211, .astore 11, 2), (213, .aload 11, 2)] := dk (by decide +kernel)
theorem sg0_218_1 : decs code [(218, .iload 10, 2)] := dk (by decide +kernel)
theorem sg0_223_3 : decs code [(223, .iconst 1, 1), (224, .goto 4, 3), (228, .istore 12, 2)] := dk (by decide +kernel)
theorem w188 : WD (Cond.methodLink "com/example/token_relay/tokenrelay/MemberToStringPinLaw" 37 ⟨"com/example/token_relay/tokenrelay/MemberToStringPinLaw", "at", "(Ljava/lang/String;[CII)Z"⟩) := wd 188 rfl
theorem sg32_0_2 : decs c_44 [(0, .iload_n 3, 1), (1, .iload_n 2, 1)] := dk (by decide +kernel)
theorem d32_2 : decode c_44 2 = .ok (.if_icmp .ge 14, 3) := by decide +kernel
theorem w191 : WD (Cond.methodLink "com/example/token_relay/tokenrelay/MemberToStringPinLaw" 41 ⟨"java/lang/String", "charAt", "(I)C"⟩) := wd 191 rfl
theorem w196 : WD (Cond.methodLink "java/lang/String" 492 ⟨"java/lang/String", "isLatin1", "()Z"⟩) := wd 196 rfl
theorem sg33_0_1 : decs c_17 [(0, .aload_n 0, 1)] := dk (by decide +kernel)
theorem d33_1 : decode c_17 1 = .ok (.invokevirtual 492, 3) := by decide +kernel
theorem d34_0 : decode c_12 0 = .ok (.getstatic 38, 3) := by decide +kernel
theorem d34_3 : decode c_12 3 = .ok (.ifCond .eq 14, 3) := by decide +kernel
theorem sg34_6_1 : decs c_12 [(6, .aload_n 0, 1)] := dk (by decide +kernel)
theorem d34_7 : decode c_12 7 = .ok (.getfield 15, 3) := by decide +kernel
theorem d34_10 : decode c_12 10 = .ok (.ifCond .ne 7, 3) := by decide +kernel
theorem sg34_13_2 : decs c_12 [(13, .iconst 1, 1), (14, .goto 4, 3)] := dk (by decide +kernel)
theorem d34_18 : decode c_12 18 = .ok (.ireturn, 1) := by decide +kernel
theorem w200 : WD (Cond.code ⟨"java/lang/String", "isLatin1", "()Z"⟩ jdk_42_method_154_code 1 (Option.some Jvm.ClassFile.FieldType.boolean)) := wd 200 rfl
theorem w199 : WD (Cond.selects "java/lang/String" ⟨"java/lang/String", "isLatin1", "()Z"⟩ ⟨"java/lang/String", "isLatin1", "()Z"⟩) := wd 199 rfl
theorem w197 : WD (Cond.declares ⟨"java/lang/String", "isLatin1", "()Z"⟩) := wd 197 rfl
theorem w198 : WD (Cond.instanceMethod ⟨"java/lang/String", "isLatin1", "()Z"⟩) := wd 198 rfl
theorem d33_4 : decode c_17 4 = .ok (.ifCond .eq 12, 3) := by decide +kernel
theorem sg33_7_1 : decs c_17 [(7, .aload_n 0, 1)] := dk (by decide +kernel)
theorem d33_8 : decode c_17 8 = .ok (.getfield 9, 3) := by decide +kernel
theorem w201 : WD (Cond.methodLink "java/lang/String" 495 ⟨"java/lang/StringLatin1", "charAt", "([BI)C"⟩) := wd 201 rfl
theorem sg35_0_2 : decs c_18 [(0, .iload_n 1, 1), (1, .aload_n 0, 1)] := dk (by decide +kernel)
theorem d35_2 : decode c_18 2 = .ok (.arraylength, 1) := by decide +kernel
theorem w205 : WD (Cond.methodLink "java/lang/StringLatin1" 9 ⟨"java/lang/String", "checkIndex", "(II)V"⟩) := wd 205 rfl
theorem sg36_0_2 : decs c_13 [(0, .iload_n 0, 1), (1, .iload_n 1, 1)] := dk (by decide +kernel)
theorem d36_2 : decode c_13 2 = .ok (.getstatic 1053, 3) := by decide +kernel
theorem w208 : WD (Cond.fieldLink "java/lang/String" 1053 "jdk/internal/util/Preconditions" "SIOOBE_FORMATTER" "Ljava/util/function/BiFunction;") := wd 208 rfl
theorem w210 : WD (Cond.methodLink "java/lang/String" 1059 ⟨"jdk/internal/util/Preconditions", "checkIndex", "(IILjava/util/function/BiFunction;)I"⟩) := wd 210 rfl
theorem sg37_0_1 : decs c_5 [(0, .iload_n 0, 1)] := dk (by decide +kernel)
theorem d37_1 : decode c_5 1 = .ok (.ifCond .lt 8, 3) := by decide +kernel
theorem sg37_4_2 : decs c_5 [(4, .iload_n 0, 1), (5, .iload_n 1, 1)] := dk (by decide +kernel)
theorem d37_6 : decode c_5 6 = .ok (.if_icmp .lt 10, 3) := by decide +kernel
theorem sg37_16_1 : decs c_5 [(16, .iload_n 0, 1)] := dk (by decide +kernel)
theorem d37_17 : decode c_5 17 = .ok (.ireturn, 1) := by decide +kernel
theorem sg37_10_2 : decs c_5 [(10, .iload_n 0, 1), (11, .iload_n 1, 1)] := dk (by decide +kernel)
theorem d36_5 : decode c_13 5 = .ok (.invokestatic 1059, 3) := by decide +kernel
theorem ef_rm37_0 (m : MethodId) (x0 : Int32) (x1 : Int32) (x2 : Value) (hx2 : x2.isRef = true) : entryFrame m #[(.int x0), (.int x1), x2] 3 = mkF m 0 #[.val (.int x0), .val (.int x1), .val x2] [] := by rcases ref_cases hx2 with rfl | ⟨ax2, rfl⟩ <;> first | (simp [entryFrame, mkF, argsToLocals, Value.category]; done) | rfl
theorem own_pn11 : plainName "jdk/internal/util/Preconditions" = true := by first | (simp [plainName, overriddenIn]; done) | decide +kernel
theorem w212 : WD (Cond.code ⟨"jdk/internal/util/Preconditions", "checkIndex", "(IILjava/util/function/BiFunction;)I"⟩ jdk_41_method_11_code 3 (Option.some Jvm.ClassFile.FieldType.int)) := wd 212 rfl
theorem w209 : WD (Cond.initialized "jdk/internal/util/Preconditions") := wd 209 rfl
theorem own_pd36 : parseMethodDescriptor "(IILjava/util/function/BiFunction;)I" = some ⟨[.int, .int, (.object "java/util/function/BiFunction")], some .int⟩ := by decide +kernel
theorem w211 : WD (Cond.static ⟨"jdk/internal/util/Preconditions", "checkIndex", "(IILjava/util/function/BiFunction;)I"⟩) := wd 211 rfl
theorem sg36_8_1 : decs c_13 [(8, .pop, 1)] := dk (by decide +kernel)
theorem d36_9 : decode c_13 9 = .ok (.return_, 1) := by decide +kernel
theorem d35_3 : decode c_18 3 = .ok (.invokestatic 9, 3) := by decide +kernel
theorem w207 : WD (Cond.code ⟨"java/lang/String", "checkIndex", "(II)V"⟩ jdk_42_method_155_code 2 (Option.none : Option Jvm.ClassFile.FieldType)) := wd 207 rfl
theorem w206 : WD (Cond.static ⟨"java/lang/String", "checkIndex", "(II)V"⟩) := wd 206 rfl
theorem sg35_6_2 : decs c_18 [(6, .aload_n 0, 1), (7, .iload_n 1, 1)] := dk (by decide +kernel)
theorem d35_8 : decode c_18 8 = .ok (.baload, 1) := by decide +kernel
theorem sg35_9_3 : decs c_18 [(9, .sipush 255, 3), (12, .iand, 1), (13, .i2c, 1)] := dk (by decide +kernel)
theorem d35_14 : decode c_18 14 = .ok (.ireturn, 1) := by decide +kernel
theorem sg33_11_1 : decs c_17 [(11, .iload_n 1, 1)] := dk (by decide +kernel)
theorem d33_12 : decode c_17 12 = .ok (.invokestatic 495, 3) := by decide +kernel
theorem w204 : WD (Cond.code ⟨"java/lang/StringLatin1", "charAt", "([BI)C"⟩ jdk_43_method_2_code 2 (Option.some Jvm.ClassFile.FieldType.char)) := wd 204 rfl
theorem own_pd37 : parseMethodDescriptor "([BI)C" = some ⟨[(.array .byte), .int], some .char⟩ := by decide +kernel
theorem w202 : WD (Cond.static ⟨"java/lang/StringLatin1", "charAt", "([BI)C"⟩) := wd 202 rfl
theorem d33_15 : decode c_17 15 = .ok (.ireturn, 1) := by decide +kernel
theorem sg32_5_2 : decs c_44 [(5, .aload_n 0, 1), (6, .iload_n 3, 1)] := dk (by decide +kernel)
theorem d32_7 : decode c_44 7 = .ok (.invokevirtual 41, 3) := by decide +kernel
theorem w195 : WD (Cond.code ⟨"java/lang/String", "charAt", "(I)C"⟩ jdk_42_method_56_code 2 (Option.some Jvm.ClassFile.FieldType.char)) := wd 195 rfl
theorem own_pd38 : parseMethodDescriptor "(I)C" = some ⟨[.int], some .char⟩ := by decide +kernel
theorem w194 : WD (Cond.selects "java/lang/String" ⟨"java/lang/String", "charAt", "(I)C"⟩ ⟨"java/lang/String", "charAt", "(I)C"⟩) := wd 194 rfl
theorem w192 : WD (Cond.declares ⟨"java/lang/String", "charAt", "(I)C"⟩) := wd 192 rfl
theorem w193 : WD (Cond.instanceMethod ⟨"java/lang/String", "charAt", "(I)C"⟩) := wd 193 rfl
theorem sg32_10_2 : decs c_44 [(10, .aload_n 1, 1), (11, .iload_n 3, 1)] := dk (by decide +kernel)
theorem d32_12 : decode c_44 12 = .ok (.caload, 1) := by decide +kernel
theorem d32_13 : decode c_44 13 = .ok (.if_icmp .ne 7, 3) := by decide +kernel
theorem sg32_16_2 : decs c_44 [(16, .iconst 1, 1), (17, .goto 4, 3)] := dk (by decide +kernel)
theorem sg32_20_1 : decs c_44 [(20, .iconst 0, 1)] := dk (by decide +kernel)
theorem d32_21 : decode c_44 21 = .ok (.ireturn, 1) := by decide +kernel
def f_rm32_0 (i3 : Int32) (l_1 l_2 : List Int32) : Int32 := (if i3 < (own_n l_1) then (if ((own_at l_2 i3) &&& (255 : Int32)) = (own_at l_1 i3) then (1 : Int32) else (0 : Int32)) else (1 : Int32))
theorem w190 : WD (Cond.code ⟨"com/example/token_relay/tokenrelay/MemberToStringPinLaw", "at", "(Ljava/lang/String;[CII)Z"⟩ method_3_code 4 (Option.some Jvm.ClassFile.FieldType.boolean)) := wd 190 rfl
theorem own_pd39 : parseMethodDescriptor "(Ljava/lang/String;[CII)Z" = some ⟨[(.object "java/lang/String"), (.array .char), .int, .int], some .boolean⟩ := by decide +kernel
theorem w189 : WD (Cond.static ⟨"com/example/token_relay/tokenrelay/MemberToStringPinLaw", "at", "(Ljava/lang/String;[CII)Z"⟩) := wd 189 rfl
theorem sg0_230_1 : decs code [(230, .iload 12, 2)] := dk (by decide +kernel)
theorem sg0_235_4 : decs code [(235, .aload 11, 2), (237, .aload 9, 2), (239, .iload 10, 2), (241, .iconst 0, 1)] := dk (by decide +kernel)
theorem sg0_248_4 : decs code [(248, .aload 11, 2), (250, .aload 9, 2), (252, .iload 10, 2), (254, .iconst 1, 1)] := dk (by decide +kernel)
theorem sg0_261_4 : decs code [(261, .aload 11, 2), (263, .aload 9, 2), (265, .iload 10, 2), (267, .iconst 2, 1)] := dk (by decide +kernel)
theorem sg0_274_4 : decs code [(274, .aload 11, 2), (276, .aload 9, 2), (278, .iload 10, 2), (280, .iconst 3, 1)] := dk (by decide +kernel)
theorem sg0_287_4 : decs code [(287, .aload 11, 2), (289, .aload 9, 2), (291, .iload 10, 2), (293, .iconst 4, 1)] := dk (by decide +kernel)
theorem sg0_300_4 : decs code [(300, .aload 11, 2), (302, .aload 9, 2), (304, .iload 10, 2), (306, .iconst 5, 1)] := dk (by decide +kernel)
theorem sg0_313_4 : decs code [(313, .aload 11, 2), (315, .aload 9, 2), (317, .iload 10, 2), (319, .bipush 6, 2)] := dk (by decide +kernel)
theorem sg0_327_4 : decs code [(327, .aload 11, 2), (329, .aload 9, 2), (331, .iload 10, 2), (333, .bipush 7, 2)] := dk (by decide +kernel)
theorem sg0_341_4 : decs code [(341, .aload 11, 2), (343, .aload 9, 2), (345, .iload 10, 2), (347, .bipush 8, 2)] := dk (by decide +kernel)
theorem sg0_355_4 : decs code [(355, .aload 11, 2), (357, .aload 9, 2), (359, .iload 10, 2), (361, .bipush 9, 2)] := dk (by decide +kernel)
theorem sg0_369_4 : decs code [(369, .iconst 1, 1), (370, .goto 4, 3), (374, .istore 12, 2), (376, .iload 12, 2)] := dk (by decide +kernel)
theorem sg0_381_4 : decs code [(381, .aload 11, 2), (383, .aload 9, 2), (385, .iload 10, 2), (387, .bipush 10, 2)] := dk (by decide +kernel)
theorem sg0_395_4 : decs code [(395, .aload 11, 2), (397, .aload 9, 2), (399, .iload 10, 2), (401, .bipush 11, 2)] := dk (by decide +kernel)
theorem sg0_409_4 : decs code [(409, .aload 11, 2), (411, .aload 9, 2), (413, .iload 10, 2), (415, .bipush 12, 2)] := dk (by decide +kernel)
theorem sg0_423_4 : decs code [(423, .aload 11, 2), (425, .aload 9, 2), (427, .iload 10, 2), (429, .bipush 13, 2)] := dk (by decide +kernel)
theorem sg0_437_4 : decs code [(437, .aload 11, 2), (439, .aload 9, 2), (441, .iload 10, 2), (443, .bipush 14, 2)] := dk (by decide +kernel)
theorem sg0_451_4 : decs code [(451, .aload 11, 2), (453, .aload 9, 2), (455, .iload 10, 2), (457, .bipush 15, 2)] := dk (by decide +kernel)
theorem sg0_465_4 : decs code [(465, .aload 11, 2), (467, .aload 9, 2), (469, .iload 10, 2), (471, .bipush 16, 2)] := dk (by decide +kernel)
theorem sg0_479_4 : decs code [(479, .aload 11, 2), (481, .aload 9, 2), (483, .iload 10, 2), (485, .bipush 17, 2)] := dk (by decide +kernel)
theorem sg0_493_4 : decs code [(493, .aload 11, 2), (495, .aload 9, 2), (497, .iload 10, 2), (499, .bipush 18, 2)] := dk (by decide +kernel)
theorem sg0_507_4 : decs code [(507, .aload 11, 2), (509, .aload 9, 2), (511, .iload 10, 2), (513, .bipush 19, 2)] := dk (by decide +kernel)
theorem sg0_521_4 : decs code [(521, .iconst 1, 1), (522, .goto 4, 3), (526, .istore 12, 2), (528, .iload 12, 2)] := dk (by decide +kernel)
theorem sg0_533_4 : decs code [(533, .aload 11, 2), (535, .aload 9, 2), (537, .iload 10, 2), (539, .bipush 20, 2)] := dk (by decide +kernel)
theorem sg0_547_4 : decs code [(547, .aload 11, 2), (549, .aload 9, 2), (551, .iload 10, 2), (553, .bipush 21, 2)] := dk (by decide +kernel)
theorem sg0_561_4 : decs code [(561, .aload 11, 2), (563, .aload 9, 2), (565, .iload 10, 2), (567, .bipush 22, 2)] := dk (by decide +kernel)
theorem sg0_575_4 : decs code [(575, .aload 11, 2), (577, .aload 9, 2), (579, .iload 10, 2), (581, .bipush 23, 2)] := dk (by decide +kernel)
theorem sg0_589_4 : decs code [(589, .aload 11, 2), (591, .aload 9, 2), (593, .iload 10, 2), (595, .bipush 24, 2)] := dk (by decide +kernel)
theorem sg0_603_4 : decs code [(603, .aload 11, 2), (605, .aload 9, 2), (607, .iload 10, 2), (609, .bipush 25, 2)] := dk (by decide +kernel)
theorem sg0_617_4 : decs code [(617, .aload 11, 2), (619, .aload 9, 2), (621, .iload 10, 2), (623, .bipush 26, 2)] := dk (by decide +kernel)
theorem sg0_631_4 : decs code [(631, .aload 11, 2), (633, .aload 9, 2), (635, .iload 10, 2), (637, .bipush 27, 2)] := dk (by decide +kernel)
theorem sg0_645_4 : decs code [(645, .aload 11, 2), (647, .aload 9, 2), (649, .iload 10, 2), (651, .bipush 28, 2)] := dk (by decide +kernel)
theorem sg0_659_4 : decs code [(659, .aload 11, 2), (661, .aload 9, 2), (663, .iload 10, 2), (665, .bipush 29, 2)] := dk (by decide +kernel)
theorem sg0_673_4 : decs code [(673, .iconst 1, 1), (674, .goto 4, 3), (678, .istore 12, 2), (680, .iload 12, 2)] := dk (by decide +kernel)
theorem sg0_685_4 : decs code [(685, .aload 11, 2), (687, .aload 9, 2), (689, .iload 10, 2), (691, .bipush 30, 2)] := dk (by decide +kernel)
theorem sg0_699_4 : decs code [(699, .aload 11, 2), (701, .aload 9, 2), (703, .iload 10, 2), (705, .bipush 31, 2)] := dk (by decide +kernel)
theorem sg0_713_4 : decs code [(713, .aload 11, 2), (715, .aload 9, 2), (717, .iload 10, 2), (719, .bipush 32, 2)] := dk (by decide +kernel)
theorem sg0_727_4 : decs code [(727, .aload 11, 2), (729, .aload 9, 2), (731, .iload 10, 2), (733, .bipush 33, 2)] := dk (by decide +kernel)
theorem sg0_741_4 : decs code [(741, .aload 11, 2), (743, .aload 9, 2), (745, .iload 10, 2), (747, .bipush 34, 2)] := dk (by decide +kernel)
theorem sg0_755_4 : decs code [(755, .aload 11, 2), (757, .aload 9, 2), (759, .iload 10, 2), (761, .bipush 35, 2)] := dk (by decide +kernel)
theorem sg0_769_4 : decs code [(769, .aload 11, 2), (771, .aload 9, 2), (773, .iload 10, 2), (775, .bipush 36, 2)] := dk (by decide +kernel)
theorem sg0_783_4 : decs code [(783, .aload 11, 2), (785, .aload 9, 2), (787, .iload 10, 2), (789, .bipush 37, 2)] := dk (by decide +kernel)
theorem sg0_797_4 : decs code [(797, .aload 11, 2), (799, .aload 9, 2), (801, .iload 10, 2), (803, .bipush 38, 2)] := dk (by decide +kernel)
theorem sg0_811_4 : decs code [(811, .aload 11, 2), (813, .aload 9, 2), (815, .iload 10, 2), (817, .bipush 39, 2)] := dk (by decide +kernel)
theorem sg0_825_4 : decs code [(825, .iconst 1, 1), (826, .goto 4, 3), (830, .istore 12, 2), (832, .iload 12, 2)] := dk (by decide +kernel)
theorem ef_rm0 (m : MethodId) (x0 : Int32) (x1 : Int32) (x2 : Int32) (x3 : Int32) : entryFrame m #[(.int x0), (.int x1), (.int x2), (.int x3)] maxLocals = mkF m 0 #[.val (.int x0), .val (.int x1), .val (.int x2), .val (.int x3), .unset, .unset, .unset, .unset, .unset, .unset, .unset, .unset, .unset] [] := by first | (simp [entryFrame, mkF, argsToLocals, Value.category, maxLocals]; done) | rfl
abbrev own_EL : List (String × Nat) := [("com/example/token_relay/tokenrelay/Member", 13), ("com/example/token_relay/tokenrelay/Member", 60), ("com/example/token_relay/tokenrelay/MemberToStringPinLaw", 7)]
theorem own_hEL {Z : State} {a0 : Array Value} (hw : HW a0 Z) : EW Z a0 own_EL := (EW.cons (w36 hw) (by decide) (EW.cons (w102 hw) (by decide) (EW.cons (w0 hw) (by decide) EW.nil)))
theorem own_wS0 : ∀ a ∈ Bundle.stringAtoms, a ∈ tables_1 := by decide +kernel
theorem own_wS {Z : State} {a0 : Array Value} (hw : HW a0 Z) : ∀ a ∈ Bundle.stringAtoms, a.before a0 Z = true := fun a ha => hw a (own_wS0 a ha)
theorem rm39_0 (l : Launch) (Z : State) (a0 : Array Value) (hw : HW a0 Z) (ws : List Jvm.Cond) (i0 : Int32) (h0 : Heap) (n0 : Nat) (O0 : Old Z n0 h0) (bnd_i0 : ¬ i0 < (0 : Int32) ∧ ¬ (255 : Int32) < i0) :
    Con l Z (⟨"java/lang/StringLatin1", "canEncode", "(C)Z"⟩ : MethodName) jdk_43_method_3_code 1 (some .boolean) ws ({ frames := 0, cells := 0, slots := 0, locals := 0 } : Room) #[(.int i0)] h0 (Pur (some (.int 1)) h0) := by
 refine own_body (plainFor_of_name own_pn0) (fun m => ef_rm39_0 m i0) ?_
 intro p e s m below meth c s₁ hx hby hlk hml hret hZ hown hnm X0 e0
 refine Rn X0 hx hby sg39_0_2 4 #[si i0] [(.int 255), (.int i0)] rfl ?_
 refine Home.go (fun _ => XS.icmpNo X0.here hx rfl (hb hby d39_4) rfl (flt (bnd_nlt (bnd_lit (255 : Int32)) bnd_i0 (by decide +kernel))).2.2.1) ?_
 refine Rn X0 hx hby sg39_7_2 12 #[si i0] [(.int 1)] rfl ?_
 exact Home.retN X0 hx hlk (t := .boolean) hret (by simp) (hb hby d39_12) ⟨congrArg some (congrArg Value.int (by first | rfl | exact nar_i2c _ | exact nar_i2b _)), rfl, e0⟩ (by decide) (by decide)
theorem rm40_0 (l : Launch) (Z : State) (a0 : Array Value) (hw : HW a0 Z) (ws : List Jvm.Cond) (i0 : Int32) (h0 : Heap) (n0 : Nat) (O0 : Old Z n0 h0) (bnd_i0 : ¬ i0 < (0 : Int32) ∧ ¬ (255 : Int32) < i0) :
    Con l Z (⟨"java/lang/StringLatin1", "toBytes", "(C)[B"⟩ : MethodName) jdk_43_method_46_code 1 (some (.array .byte)) ws ({ frames := 0, cells := 1, slots := 1, locals := 0 } : Room) #[(.int i0)] h0 (fun v h L => ∃ (b1 : Addr), ∃ (k1 : ClassId), v = some (.ref b1) ∧ Fr n0 L ∧ h0.size ≤ b1 ∧ Keep h0 h [] ∧ Exa Z h b1 "[B" ∧ Arv Z h b1 k1 .byte (1 : Int32) [(.int (i0.toInt8.toInt32))] (.int 0)) := by
 refine own_body (plainFor_of_name own_pn0) (fun m => ef_rm39_0 m i0) ?_
 intro p e s m below meth c s₁ hx hby hlk hml hret hZ hown hnm X0 e0
 have N0 := Fr.nil n0
 refine Rn X0 hx hby sg40_0_1 1 #[si i0] [(.int 1)] rfl ?_
 refine Home.na (own_newPE (aty := .byte) X0 hx hZ (w3 hw) e0 (g := (mkF m 1 #[.val (.int i0)] [(.int 1)])) rfl (hb hby d40_1) rfl (by decide) (cap := 1) (by decide) (by decide) (by decide) (by decide)) fun T1 h1 k1 b1 g1 X1 e1 E1 AE1 => ?_
 have A1 := AE1.1
 have Ex1 := AE1.2
 have g_b1 : n0 ≤ b1 := Nat.le_trans (Old.le O0) (Nat.le_of_eq g1.symm)
 have V1 : Arv Z h1 b1 k1 .byte (1 : Int32) [(.int 0)] (.int 0) := (Arv.new A1 (by decide)).pad (pad_rep [] (.int 0) 1)
 have K1 : Keep h0 h1 ([] : List Addr) := Keep.ext (Keep.refl h0 ([] : List Addr)) E1
 refine Rn X1 hx hby sg40_3_4 7 #[si i0] [(.int (i0.toInt8.toInt32)), (.int 0), (.ref b1), (.ref b1)] rfl ?_
 obtain ⟨cl2, Ar2, q2, S2, M2, H2, G2⟩ := id V1
 refine Home.wr (stB X1 hx hZ e1 Ar2 (j := (0 : Int32)) (inb_of S2 ⟨by decide, by decide⟩) rfl rfl (hb hby d40_7)) fun T2 h2 X2 e2 W2 => ?_
 have W2' := Wr.to W2 (congrArg Value.int (nar_byte_id (bnd_i2b i0) (by decide +kernel) (by decide +kernel)))
 have V2 : Arv Z h2 b1 k1 .byte (1 : Int32) [(.int (i0.toInt8.toInt32))] (.int 0) := Arv.set Ar2 q2 S2 M2 H2 G2 (fits_byte_b (bnd_i2b i0) (by decide +kernel) (by decide +kernel)) W2' 0 rfl (Nat.le_of_ble_eq_true rfl)
 have K2 : Keep h0 h2 ([] : List Addr) := Keep.wr K1 W2 (Or.inr (Nat.le_trans (Nat.le_refl _) (Nat.le_of_eq g1.symm)))
 have N2 := Fr.snoc X2 N0 g_b1
 show Home T2 (mkF m 8 #[si i0] [(.ref b1)])
 have q3 := (Ex1.wr W2)
 exact Home.retR X2 hx hlk hret rfl rfl (hb hby d40_8) (by rw [show T2.heap = h2 from e2]; exact ⟨b1, k1, rfl, N2, (Nat.le_trans (Nat.le_refl _) (Nat.le_of_eq g1.symm)), K2, q3, V2⟩) (by decide) (by decide)
theorem rm41_0 (l : Launch) (Z : State) (a0 : Array Value) (hw : HW a0 Z) (ws : List Jvm.Cond) (o0 o1 : Addr) (h0 : Heap) (n0 : Nat) (O0 : Old Z n0 h0) (E_o0 : Exa Z h0 o0 "java/lang/String") (F_value_o0 : Fld Z h0 o0 "java/lang/String" "value" "[B" .null) (g_o0 : n0 ≤ o0) (F_coder_o0 : Fld Z h0 o0 "java/lang/String" "coder" "B" (.int 0)) :
    Con l Z (⟨"java/lang/String", "<init>", "([BB)V"⟩ : MethodName) jdk_42_method_151_code 3 none ws ({ frames := 1, cells := 0, slots := 0, locals := 12 } : Room) #[(.ref o0), (.ref o1), (.int 0)] h0 (fun v h L => v = none ∧ Fr n0 L ∧ Keep h0 h [o0] ∧ Exa Z h o0 "java/lang/String" ∧ Fld Z h o0 "java/lang/String" "value" "[B" (.ref o1) ∧ Fld Z h o0 "java/lang/String" "coder" "B" (.int 0)) := by
 refine own_body (plainFor_of_name own_pn1) (fun m => ef_rm41_0 m o0 o1 (0 : Int32)) ?_
 intro p e s m below meth c s₁ hx hby hlk hml hret hZ hown hnm X0 e0
 have N0 := Fr.nil n0
 refine Rn X0 hx hby sg41_0_1 1 #[sr o0, sr o1, si 0] [(.ref o0)] rfl ?_
 refine Home.st (initO X0 hx hZ hown (w157 hw) (w32 hw) (w33 hw) e0 rfl (by rw [hml]; rfl) rfl (hb hby d41_1) (by decide) (W := 0) (by exact hW0) (by decide)) fun T1 X1 e1 => ?_
 refine Rn X1 hx hby sg41_4_2 6 #[sr o0, sr o1, si 0] [(.ref o1), (.ref o0)] rfl ?_
 refine Home.wr (putF X1 hx hZ hown (host := "") (Or.inl (w117 hw)) Via.refl e1 F_value_o0 E_o0 (Or.inr ⟨(w4 hw), rfl, hnm⟩) (w2 hw) (ty := (.array .byte)) (by decide) rfl rfl rfl rfl (hb hby d41_6)) fun T2 h2 X2 e2 W2 => ?_
 have Fw2 := F_value_o0.same W2
 have K2 : Keep h0 h2 ([o0] : List Addr) := Keep.wr (Keep.refl h0 ([o0] : List Addr)) W2 (Or.inl (List.mem_of_getElem? (i := 0) rfl))
 have N2 := Fr.snoc X2 N0 g_o0
 refine Rn X2 hx hby sg41_9_2 11 #[sr o0, sr o1, si 0] [(.int 0), (.ref o0)] rfl ?_
 have q3 := (F_coder_o0.other W2 (Or.inr (slot_ne (Or.inr (w5 hw)) (Or.inr (w4 hw)) (by decide) (t := .byte) (t' := (.array .byte)) (by decide) (by decide))))
 refine Home.wr (putFN X2 hx hZ hown (w124 hw) Via.refl e2 q3 (E_o0.keep K2) (Or.inr ⟨(w5 hw), rfl, hnm⟩) (w2 hw) (ty := .byte) (v := (.int 0)) (v' := (.int 0)) (by decide) rfl rfl rfl rfl (hb hby d41_11)) fun T4 h4 X4 e4 W4 => ?_
 have Fw4 := q3.same W4
 have K4 : Keep h0 h4 ([o0] : List Addr) := Keep.wr K2 W4 (Or.inl (List.mem_of_getElem? (i := 0) rfl))
 have N4 := Fr.snoc X4 N2 g_o0
 show Home T4 (mkF m 14 #[sr o0, sr o1, si 0] [])
 have q5 := (Fw2.other W4 (Or.inr (slot_ne (Or.inr (w4 hw)) (Or.inr (w5 hw)) (by decide) (t := (.array .byte)) (t' := .byte) (by decide) (by decide))))
 exact Home.ret0 X4 hx hlk hret (hb hby d41_14) (by rw [show T4.heap = h4 from e4]; exact ⟨rfl, N4, K4, (E_o0.keep K4), q5, Fw4⟩) (by decide) (by decide)
theorem rm38_0 (l : Launch) (Z : State) (a0 : Array Value) (hw : HW a0 Z) (ws : List Jvm.Cond) (i0 sv_COMPACT_STRINGS : Int32) (h0 : Heap) (n0 : Nat) (O0 : Old Z n0 h0) (bnd_i0 : ¬ i0 < (0 : Int32) ∧ ¬ (255 : Int32) < i0) (S_COMPACT_STRINGS : Sta Z Z.heap "java/lang/String" "COMPACT_STRINGS" "Z" (.int sv_COMPACT_STRINGS)) (hCS : ¬ (sv_COMPACT_STRINGS = (0 : Int32))) :
    Con l Z (⟨"java/lang/String", "valueOf", "(C)Ljava/lang/String;"⟩ : MethodName) jdk_42_method_139_code 1 (some (.object "java/lang/String")) ws ({ frames := 2, cells := 2, slots := 5, locals := 27 } : Room) #[(.int i0)] h0 (fun v h L => ∃ (b3 : Addr), ∃ (b1_4 : Addr), ∃ (k1_4 : ClassId), v = some (.ref b3) ∧ Fr n0 L ∧ h0.size ≤ b3 ∧ h0.size ≤ b1_4 ∧ Keep h0 h [] ∧ Exa Z h b3 "java/lang/String" ∧ Fld Z h b3 "java/lang/String" "value" "[B" (.ref b1_4) ∧ Fld Z h b3 "java/lang/String" "coder" "B" (.int 0) ∧ Exa Z h b1_4 "[B" ∧ Arv Z h b1_4 k1_4 .byte (1 : Int32) [(.int (i0.toInt8.toInt32))] (.int 0)) := by
 refine own_body (plainFor_of_name own_pn1) (fun m => ef_rm39_0 m i0) ?_
 intro p e s m below meth c s₁ hx hby hlk hml hret hZ hown hnm X0 e0
 have N0 := Fr.nil n0
 refine Home.st (getS2 X0 hx hZ hown (host := "") (Or.inl (w123 hw)) Via.refl e0 (S_COMPACT_STRINGS.ext O0.2) rfl (hb hby d38_0)) fun T1 X1 e1 => ?_
 refine Home.go (fun _ => XS.ifNo X1.here hx rfl (hb hby d38_3) rfl ((if0 _ _).trans (feq hCS).1)) ?_
 refine Rn X1 hx hby sg38_6_1 7 #[si i0] [(.int i0)] rfl ?_
 refine Home.st (own_pure (own_static X1 hx hZ hown (w217 hw) (w218 hw) (w203 hw) (w219 hw) (by decide) (rm39_0 l Z a0 hw [] i0 h0 n0 O0 bnd_i0) e1 rfl (by rw [hml]; rfl) (argsL := [(.int i0)]) (rest := []) (lenOf own_pd0 rfl) rfl rfl (W := 0) (hb hby d38_7))) fun T2 X2 e2 => ?_
 refine Home.go (fun _ => XS.ifNo X2.here hx rfl (hb hby d38_10) rfl ((if0 _ _).trans (feq (by decide)).1)) ?_
 refine Home.nw (own_newO X2 hx hZ hown (w220 hw) (w2 hw) (w1 hw) e2 rfl (hb hby d38_13) (by decide) (by decide)) fun T3 h3 b3 g3 X3 e3 E3 A3 D3 => ?_
 have g_b3 : n0 ≤ b3 := Nat.le_trans (Old.le O0) (Nat.le_of_eq g3.symm)
 have F_value_b3 : Fld Z h3 b3 "java/lang/String" "value" "[B" .null := D3 (Or.inr (w4 hw)) (ty := (.array .byte)) (by decide)
 have F_coder_b3 : Fld Z h3 b3 "java/lang/String" "coder" "B" (.int 0) := D3 (Or.inr (w5 hw)) (ty := .byte) (by decide)
 have O3 := O0.ext E3
 have K3 : Keep h0 h3 ([] : List Addr) := Keep.ext (Keep.refl h0 ([] : List Addr)) E3
 refine Rn X3 hx hby sg38_16_2 18 #[si i0] [(.int i0), (.ref b3), (.ref b3)] rfl ?_
 refine Home.call (own_static X3 hx hZ hown (w221 hw) (w222 hw) (w203 hw) (w223 hw) (by decide) (rm40_0 l Z a0 hw [] i0 h3 n0 O3 bnd_i0) e3 rfl (by rw [hml]; rfl) (argsL := [(.int i0)]) (rest := [(.ref b3), (.ref b3)]) (lenOf own_pd1 rfl) rfl rfl (W := 2) (hb hby d38_18)) ?_
 rintro _ T4 L4 X4 ⟨b1_4, k1_4, rfl, N4q, sz_b1_4, K4q, P4_0, P4_1⟩
 have g_b1_4 : n0 ≤ b1_4 := Nat.le_trans (Old.le O3) sz_b1_4
 have O4 := Old.keep O3 K4q all0
 have K4 : Keep h0 T4.heap ([] : List Addr) := Keep.trans K3 K4q all0
 have N4 := Fr.app N0 N4q
 show Home T4 (mkF m 21 #[si i0] [(.ref b1_4), (.ref b3), (.ref b3)])
 refine Rn X4 hx hby sg38_21_1 22 #[si i0] [(.int 0), (.ref b1_4), (.ref b3), (.ref b3)] rfl ?_
 have q5 := (A3.keep K4q)
 have q6 := (F_value_b3.keep K4q nin0)
 have q7 := (F_coder_b3.keep K4q nin0)
 refine Home.call (own_special X4 hx hZ hown rfl (w224 hw) (w225 hw) (w1 hw) (w226 hw) (by decide) (rm41_0 l Z a0 hw [] b3 b1_4 T4.heap n0 O4 q5 q6 g_b3 q7) rfl rfl (by rw [hml]; rfl) (a := b3) (argsL := [(.ref b1_4), (.int 0)]) (rest := [(.ref b3)]) (lenOf own_pd2 rfl) rfl rfl (W := 1) (hb hby d38_22)) ?_
 rintro _ T8 L8 X8 ⟨rfl, N8q, K8q, P8_0, P8_1, P8_2⟩
 have K8 : Keep h0 T8.heap ([] : List Addr) := Keep.trans K4 K8q (allS (Or.inr (Nat.le_trans (Nat.le_refl _) (Nat.le_of_eq g3.symm))) all0)
 have N8 := Fr.app N4 N8q
 have q9 := (P4_0.keep K8q)
 have ne10 : b1_4 ≠ b3 := (Ne.symm (Nat.ne_of_lt (Nat.lt_of_lt_of_le A3.lt (Nat.le_trans (Nat.le_refl _) sz_b1_4))))
 have q11 := (P4_1.keep K8q (ninS ne10 nin0))
 exact Home.retR X8 hx hlk hret rfl rfl (hb hby d38_25) ⟨b3, b1_4, k1_4, rfl, N8, (Nat.le_trans (Nat.le_refl _) (Nat.le_of_eq g3.symm)), (Nat.le_trans E3.1 sz_b1_4), K8, P8_0, P8_1, P8_2, q9, q11⟩ (by decide) (by decide)
theorem rm49_0 (l : Launch) (Z : State) (a0 : Array Value) (hw : HW a0 Z) (ws : List Jvm.Cond) (o0 o2 : Addr) (k_o0 : ClassId) (u1 u2 : Int32) (k_o2 : ClassId) (h0 : Heap) (n0 : Nat) (O0 : Old Z n0 h0) (V_o0 : Arv Z h0 o0 k_o0 .char (2 : Int32) [(.int u1), (.int u2)] (.int 0)) (bnd_u1 : ¬ u1 < (0 : Int32) ∧ ¬ (255 : Int32) < u1) (V_o2 : Arv Z h0 o2 k_o2 .byte (2 : Int32) [(.int 0), (.int 0)] (.int 0)) (g_o2 : n0 ≤ o2) (E_o2 : Exa Z h0 o2 "[B") (ne_o0_o2 : o0 ≠ o2) (bnd_u2 : ¬ u2 < (0 : Int32) ∧ ¬ (255 : Int32) < u2) :
    Con l Z (⟨"java/lang/StringUTF16", "compress", "([CI[BII)I"⟩ : MethodName) jdk_52_method_21_code 7 (some .int) ws ({ frames := 0, cells := 0, slots := 0, locals := 0 } : Room) #[(.ref o0), (.int 0), (.ref o2), (.int 0), (.int 2)] h0 (fun v h L => v = some (.int 2) ∧ Fr n0 L ∧ Keep h0 h [o2] ∧ Arv Z h o2 k_o2 .byte (2 : Int32) [(.int (u1.toInt8.toInt32)), (.int (u2.toInt8.toInt32))] (.int 0) ∧ Exa Z h o2 "[B") := by
 refine own_body (plainFor_of_name own_pn2) (fun m => ef_rm49_0 m o0 (0 : Int32) o2 (2 : Int32)) ?_
 intro p e s m below meth c s₁ hx hby hlk hml hret hZ hown hnm X0 e0
 have N0 := Fr.nil n0
 refine Rn X0 hx hby sg49_0_4 7 #[sr o0, si 0, sr o2, si 0, si 2, si 0, un] [(.int 2), (.int 0)] rfl ?_
 refine Home.go (fun _ => XS.icmpNo X0.here hx rfl (hb hby d49_7) rfl (tlt (by decide)).2.1) ?_
 refine Rn X0 hx hby sg49_10_2 12 #[sr o0, si 0, sr o2, si 0, si 2, si 0, un] [(.int 0), (.ref o0)] rfl ?_
 obtain ⟨cl1, Ar1, q1, S1, M1, H1, G1⟩ := id V_o0
 have ib1 : ¬ ((0 : Int32) < 0 ∨ cl1.slots.size ≤ ((0 : Int32)).toNatClampNeg) := inb_of S1 ⟨by decide, by decide⟩
 refine Home.go (X0.caload hx (j := (0 : Int32)) (v := (.int u1)) (by rw [e0]; exact Ar1.1) (State.isArrayOf_alike hZ.alike Ar1.2.1) Ar1.2.2 ib1 (Has.at H1 ib1 rfl) rfl rfl (hb hby d49_12)) ?_
 refine Rn X0 hx hby sg49_13_3 20 #[sr o0, si 0, sr o2, si 0, si 2, si 0, si u1] [(.int 255), (.int u1)] rfl ?_
 refine Home.go (fun _ => XS.icmpYes X0.here hx rfl (pc0 := 20) (pc' := 26) rfl (hb hby d49_20) rfl (flt (bnd_nlt (bnd_lit (255 : Int32)) bnd_u1 (by decide +kernel))).2.2.2 (by decide) (by decide)) ?_
 refine Rn X0 hx hby sg49_26_4 31 #[sr o0, si 0, sr o2, si 0, si 2, si 0, si u1] [(.int (u1.toInt8.toInt32)), (.int 0), (.ref o2)] rfl ?_
 obtain ⟨cl2, Ar2, q2, S2, M2, H2, G2⟩ := id V_o2
 refine Home.wr (stB X0 hx hZ e0 Ar2 (j := (0 : Int32)) (inb_of S2 ⟨by decide, by decide⟩) rfl rfl (hb hby d49_31)) fun T2 h2 X2 e2 W2 => ?_
 have W2' := Wr.to W2 (congrArg Value.int (nar_byte_id (bnd_i2b u1) (by decide +kernel) (by decide +kernel)))
 have V2 : Arv Z h2 o2 k_o2 .byte (2 : Int32) [(.int (u1.toInt8.toInt32)), (.int 0)] (.int 0) := Arv.set Ar2 q2 S2 M2 H2 G2 (fits_byte_b (bnd_i2b u1) (by decide +kernel) (by decide +kernel)) W2' 0 rfl (Nat.le_of_ble_eq_true rfl)
 have K2 : Keep h0 h2 ([o2] : List Addr) := Keep.wr (Keep.refl h0 ([o2] : List Addr)) W2 (Or.inl (List.mem_of_getElem? (i := 0) rfl))
 have N2 := Fr.snoc X2 N0 g_o2
 show Home T2 (mkF m 32 #[sr o0, si 0, sr o2, si 0, si 2, si 0, si u1] [])
 refine Rn X2 hx hby sg49_32_6 7 #[sr o0, si 1, sr o2, si 1, si 2, si 1, si u1] [(.int 2), (.int 1)] rfl ?_
 refine Home.go (fun _ => XS.icmpNo X2.here hx rfl (hb hby d49_7) rfl (tlt (by decide)).2.1) ?_
 refine Rn X2 hx hby sg49_10_2 12 #[sr o0, si 1, sr o2, si 1, si 2, si 1, si u1] [(.int 1), (.ref o0)] rfl ?_
 have q3 := (V_o0.other W2 ne_o0_o2)
 obtain ⟨cl4, Ar4, q4, S4, M4, H4, G4⟩ := id q3
 have ib4 : ¬ ((1 : Int32) < 0 ∨ cl4.slots.size ≤ ((1 : Int32)).toNatClampNeg) := inb_of S4 ⟨by decide, by decide⟩
 refine Home.go (X2.caload hx (j := (1 : Int32)) (v := (.int u2)) (by rw [e2]; exact Ar4.1) (State.isArrayOf_alike hZ.alike Ar4.2.1) Ar4.2.2 ib4 (Has.at H4 ib4 rfl) rfl rfl (hb hby d49_12)) ?_
 refine Rn X2 hx hby sg49_13_3 20 #[sr o0, si 1, sr o2, si 1, si 2, si 1, si u2] [(.int 255), (.int u2)] rfl ?_
 refine Home.go (fun _ => XS.icmpYes X2.here hx rfl (pc0 := 20) (pc' := 26) rfl (hb hby d49_20) rfl (flt (bnd_nlt (bnd_lit (255 : Int32)) bnd_u2 (by decide +kernel))).2.2.2 (by decide) (by decide)) ?_
 refine Rn X2 hx hby sg49_26_4 31 #[sr o0, si 1, sr o2, si 1, si 2, si 1, si u2] [(.int (u2.toInt8.toInt32)), (.int 1), (.ref o2)] rfl ?_
 obtain ⟨cl5, Ar5, q5, S5, M5, H5, G5⟩ := id V2
 refine Home.wr (stB X2 hx hZ e2 Ar5 (j := (1 : Int32)) (inb_of S5 ⟨by decide, by decide⟩) rfl rfl (hb hby d49_31)) fun T5 h5 X5 e5 W5 => ?_
 have W5' := Wr.to W5 (congrArg Value.int (nar_byte_id (bnd_i2b u2) (by decide +kernel) (by decide +kernel)))
 have V5 : Arv Z h5 o2 k_o2 .byte (2 : Int32) [(.int (u1.toInt8.toInt32)), (.int (u2.toInt8.toInt32))] (.int 0) := Arv.set Ar5 q5 S5 M5 H5 G5 (fits_byte_b (bnd_i2b u2) (by decide +kernel) (by decide +kernel)) W5' 1 rfl (Nat.le_of_ble_eq_true rfl)
 have K5 : Keep h0 h5 ([o2] : List Addr) := Keep.wr K2 W5 (Or.inl (List.mem_of_getElem? (i := 0) rfl))
 have N5 := Fr.snoc X5 N2 g_o2
 show Home T5 (mkF m 32 #[sr o0, si 1, sr o2, si 1, si 2, si 1, si u2] [])
 refine Rn X5 hx hby sg49_32_6 7 #[sr o0, si 2, sr o2, si 2, si 2, si 2, si u2] [(.int 2), (.int 2)] rfl ?_
 refine Home.go (fun _ => XS.icmpYes X5.here hx rfl (pc0 := 7) (pc' := 44) rfl (hb hby d49_7) rfl (flt (by decide)).2.1 (by decide) (by decide)) ?_
 refine Rn X5 hx hby sg49_44_1 46 #[sr o0, si 2, sr o2, si 2, si 2, si 2, si u2] [(.int 2)] rfl ?_
 exact Home.retI X5 hx hlk hret (hb hby d49_46) (by rw [show T5.heap = h5 from e5]; exact ⟨rfl, N5, K5, V5, (E_o2.keep K5)⟩) (by decide) (by decide)
theorem rm48_0 (l : Launch) (Z : State) (a0 : Array Value) (hw : HW a0 Z) (ws : List Jvm.Cond) (o0 : Addr) (k_o0 : ClassId) (u1 u2 : Int32) (h0 : Heap) (n0 : Nat) (O0 : Old Z n0 h0) (V_o0 : Arv Z h0 o0 k_o0 .char (2 : Int32) [(.int u1), (.int u2)] (.int 0)) (bnd_u1 : ¬ u1 < (0 : Int32) ∧ ¬ (255 : Int32) < u1) (bnd_u2 : ¬ u2 < (0 : Int32) ∧ ¬ (255 : Int32) < u2) :
    Con l Z (⟨"java/lang/StringUTF16", "compress", "([CII)[B"⟩ : MethodName) jdk_52_method_16_code 6 (some (.array .byte)) ws ({ frames := 1, cells := 1, slots := 2, locals := 18 } : Room) #[(.ref o0), (.int 0), (.int 2)] h0 (fun v h L => ∃ (b1 : Addr), ∃ (k1 : ClassId), v = some (.ref b1) ∧ Fr n0 L ∧ h0.size ≤ b1 ∧ Keep h0 h [] ∧ Exa Z h b1 "[B" ∧ Arv Z h b1 k1 .byte (2 : Int32) [(.int (u1.toInt8.toInt32)), (.int (u2.toInt8.toInt32))] (.int 0)) := by
 refine own_body (plainFor_of_name own_pn2) (fun m => ef_rm48_0 m o0 (0 : Int32) (2 : Int32)) ?_
 intro p e s m below meth c s₁ hx hby hlk hml hret hZ hown hnm X0 e0
 have N0 := Fr.nil n0
 refine Rn X0 hx hby sg48_0_1 1 #[sr o0, si 0, si 2, un, un, un] [(.int 2)] rfl ?_
 refine Home.na (own_newPE (aty := .byte) X0 hx hZ (w3 hw) e0 (g := (mkF m 1 #[.val (.ref o0), .val (.int 0), .val (.int 2), .unset, .unset, .unset] [(.int 2)])) rfl (hb hby d48_1) rfl (by decide) (cap := 2) (by decide) (by decide) (by decide) (by decide)) fun T1 h1 k1 b1 g1 X1 e1 E1 AE1 => ?_
 have A1 := AE1.1
 have Ex1 := AE1.2
 have g_b1 : n0 ≤ b1 := Nat.le_trans (Old.le O0) (Nat.le_of_eq g1.symm)
 have V1 : Arv Z h1 b1 k1 .byte (2 : Int32) [(.int 0), (.int 0)] (.int 0) := (Arv.new A1 (by decide)).pad (pad_rep [] (.int 0) 2)
 have O1 := O0.ext E1
 have K1 : Keep h0 h1 ([] : List Addr) := Keep.ext (Keep.refl h0 ([] : List Addr)) E1
 refine Rn X1 hx hby sg48_3_6 9 #[sr o0, si 0, si 2, sr b1, un, un] [(.int 2), (.int 0), (.ref b1), (.int 0), (.ref o0)] rfl ?_
 have ne2 : o0 ≠ b1 := (Nat.ne_of_lt (Nat.lt_of_lt_of_le V_o0.lt (Nat.le_trans (Nat.le_refl _) (Nat.le_of_eq g1.symm))))
 refine Home.call (own_static X1 hx hZ hown (w264 hw) (w265 hw) (w262 hw) (w266 hw) (by decide) (rm49_0 l Z a0 hw [] o0 b1 k_o0 u1 u2 k1 h1 n0 O1 (V_o0.keep K1 nin0) bnd_u1 V1 g_b1 Ex1 ne2 bnd_u2) e1 rfl (by rw [hml]; rfl) (argsL := [(.ref o0), (.int 0), (.ref b1), (.int 0), (.int 2)]) (rest := []) (lenOf own_pd4 rfl) rfl rfl (W := 0) (hb hby d48_9)) ?_
 rintro _ T3 L3 X3 ⟨rfl, N3q, K3q, P3_0, P3_1⟩
 have K3 : Keep h0 T3.heap ([] : List Addr) := Keep.trans K1 K3q (allS (Or.inr (Nat.le_trans (Nat.le_refl _) (Nat.le_of_eq g1.symm))) all0)
 have N3 := Fr.app N0 N3q
 show Home T3 (mkF m 12 #[sr o0, si 0, si 2, sr b1, un, un] [(.int 2)])
 refine Rn X3 hx hby sg48_12_3 17 #[sr o0, si 0, si 2, sr b1, si 2, un] [(.int 2), (.int 2)] rfl ?_
 refine Home.go (fun _ => XS.icmpYes X3.here hx rfl (pc0 := 17) (pc' := 57) rfl (hb hby d48_17) rfl (teq (by decide)).1 (by decide) (by decide)) ?_
 refine Rn X3 hx hby sg48_57_1 58 #[sr o0, si 0, si 2, sr b1, si 2, un] [(.ref b1)] rfl ?_
 exact Home.retR X3 hx hlk hret rfl rfl (hb hby d48_58) ⟨b1, k1, rfl, N3, (Nat.le_trans (Nat.le_refl _) (Nat.le_of_eq g1.symm)), K3, P3_1, P3_0⟩ (by decide) (by decide)
theorem rm50_0 (l : Launch) (Z : State) (a0 : Array Value) (hw : HW a0 Z) (ws : List Jvm.Cond) (o0 : Addr) (k_o0 : ClassId) (u1 u2 : Int32) (h0 : Heap) (n0 : Nat) (O0 : Old Z n0 h0) (V_o0 : Arv Z h0 o0 k_o0 .byte (2 : Int32) [(.int u1), (.int u2)] (.int 0)) :
    Con l Z (⟨"java/lang/StringUTF16", "coderFromArrayLen", "([BI)B"⟩ : MethodName) jdk_52_method_15_code 2 (some .byte) ws ({ frames := 0, cells := 0, slots := 0, locals := 0 } : Room) #[(.ref o0), (.int 2)] h0 (Pur (some (.int 0)) h0) := by
 refine own_body (plainFor_of_name own_pn2) (fun m => ef_rm50_0 m o0 (2 : Int32)) ?_
 intro p e s m below meth c s₁ hx hby hlk hml hret hZ hown hnm X0 e0
 refine Rn X0 hx hby sg50_0_2 2 #[sr o0, si 2] [(.ref o0), (.int 2)] rfl ?_
 obtain ⟨cl1, Ar1, q1, S1, M1, H1, G1⟩ := id V_o0
 refine Home.go (own_alen X0 hx hZ e0 Ar1 S1 M1 rfl rfl (hb hby d50_2)) ?_
 refine Rn X0 hx hby sg50_3_4 8 #[sr o0, si 2] [(.int 0)] rfl ?_
 exact Home.retN X0 hx hlk (t := .byte) hret (by simp) (hb hby d50_8) ⟨congrArg some (congrArg Value.int (by first | rfl | exact nar_i2c _ | exact nar_i2b _)), rfl, e0⟩ (by decide) (by decide)
theorem rm47_0 (l : Launch) (Z : State) (a0 : Array Value) (hw : HW a0 Z) (ws : List Jvm.Cond) (o0 o1 : Addr) (sv_COMPACT_STRINGS : Int32) (k_o1 : ClassId) (u1 u2 : Int32) (h0 : Heap) (n0 : Nat) (O0 : Old Z n0 h0) (S_COMPACT_STRINGS : Sta Z Z.heap "java/lang/String" "COMPACT_STRINGS" "Z" (.int sv_COMPACT_STRINGS)) (hCS : ¬ (sv_COMPACT_STRINGS = (0 : Int32))) (V_o1 : Arv Z h0 o1 k_o1 .char (2 : Int32) [(.int u1), (.int u2)] (.int 0)) (bnd_u1 : ¬ u1 < (0 : Int32) ∧ ¬ (255 : Int32) < u1) (bnd_u2 : ¬ u2 < (0 : Int32) ∧ ¬ (255 : Int32) < u2) (E_o0 : Exa Z h0 o0 "java/lang/String") (F_coder_o0 : Fld Z h0 o0 "java/lang/String" "coder" "B" (.int 0)) (g_o0 : n0 ≤ o0) (F_value_o0 : Fld Z h0 o0 "java/lang/String" "value" "[B" .null) :
    Con l Z (⟨"java/lang/String", "<init>", "([CIILjava/lang/Void;)V"⟩ : MethodName) jdk_42_method_149_code 6 none ws ({ frames := 2, cells := 1, slots := 2, locals := 35 } : Room) #[(.ref o0), (.ref o1), (.int 0), (.int 2), .null] h0 (fun v h L => ∃ (b1_3 : Addr), ∃ (k1_3 : ClassId), v = none ∧ Fr n0 L ∧ h0.size ≤ b1_3 ∧ Keep h0 h [o0] ∧ Exa Z h o0 "java/lang/String" ∧ Fld Z h o0 "java/lang/String" "coder" "B" (.int 0) ∧ Fld Z h o0 "java/lang/String" "value" "[B" (.ref b1_3) ∧ Exa Z h b1_3 "[B" ∧ Arv Z h b1_3 k1_3 .byte (2 : Int32) [(.int (u1.toInt8.toInt32)), (.int (u2.toInt8.toInt32))] (.int 0)) := by
 refine own_body (plainFor_of_name own_pn1) (fun m => ef_rm47_0 m o0 o1 (0 : Int32) (2 : Int32)) ?_
 intro p e s m below meth c s₁ hx hby hlk hml hret hZ hown hnm X0 e0
 have N0 := Fr.nil n0
 refine Rn X0 hx hby sg47_0_1 1 #[sr o0, sr o1, si 0, si 2, .val .null, un] [(.ref o0)] rfl ?_
 refine Home.st (initO X0 hx hZ hown (w157 hw) (w32 hw) (w33 hw) e0 rfl (by rw [hml]; rfl) rfl (hb hby d47_1) (by decide) (W := 0) (by exact hW0) (by decide)) fun T1 X1 e1 => ?_
 refine Rn X1 hx hby sg47_4_1 5 #[sr o0, sr o1, si 0, si 2, .val .null, un] [(.int 2)] rfl ?_
 refine Home.go (fun _ => XS.ifYes X1.here hx rfl (pc0 := 5) (pc' := 27) rfl (hb hby d47_5) rfl ((if0 _ _).trans (feq (by decide)).2) (by decide) (by decide)) ?_
 refine Home.st (getS2 X1 hx hZ hown (host := "") (Or.inl (w123 hw)) Via.refl e1 (S_COMPACT_STRINGS.ext O0.2) rfl (hb hby d47_27)) fun T2 X2 e2 => ?_
 refine Home.go (fun _ => XS.ifNo X2.here hx rfl (hb hby d47_30) rfl ((if0 _ _).trans (feq hCS).1)) ?_
 refine Rn X2 hx hby sg47_33_3 36 #[sr o0, sr o1, si 0, si 2, .val .null, un] [(.int 2), (.int 0), (.ref o1)] rfl ?_
 refine Home.call (own_static X2 hx hZ hown (w260 hw) (w261 hw) (w262 hw) (w263 hw) (by decide) (rm48_0 l Z a0 hw [] o1 k_o1 u1 u2 h0 n0 O0 V_o1 bnd_u1 bnd_u2) e2 rfl (by rw [hml]; rfl) (argsL := [(.ref o1), (.int 0), (.int 2)]) (rest := []) (lenOf own_pd5 rfl) rfl rfl (W := 0) (hb hby d47_36)) ?_
 rintro _ T3 L3 X3 ⟨b1_3, k1_3, rfl, N3q, sz_b1_3, K3q, P3_0, P3_1⟩
 have g_b1_3 : n0 ≤ b1_3 := Nat.le_trans (Old.le O0) sz_b1_3
 have O3 := Old.keep O0 K3q all0
 have K3 : Keep h0 T3.heap ([o0] : List Addr) := Keep.trans (Keep.refl h0 ([o0] : List Addr)) K3q all0
 have N3 := Fr.app N0 N3q
 refine Rn X3 hx hby sg47_39_4 45 #[sr o0, sr o1, si 0, si 2, .val .null, sr b1_3] [(.int 2), (.ref b1_3), (.ref o0)] rfl ?_
 refine Home.st (own_pure (own_static X3 hx hZ hown (w267 hw) (w268 hw) (w262 hw) (w269 hw) (by decide) (rm50_0 l Z a0 hw [] b1_3 k1_3 (u1.toInt8.toInt32) (u2.toInt8.toInt32) T3.heap n0 O3 P3_1) rfl rfl (by rw [hml]; rfl) (argsL := [(.ref b1_3), (.int 2)]) (rest := [(.ref o0)]) (lenOf own_pd6 rfl) rfl rfl (W := 1) (hb hby d47_45))) fun T4 X4 e4 => ?_
 show Home T4 (mkF m 48 #[sr o0, sr o1, si 0, si 2, .val .null, sr b1_3] [(.int 0), (.ref o0)])
 have q5 := (F_coder_o0.keep K3q nin0)
 refine Home.wr (putFN X4 hx hZ hown (w124 hw) Via.refl e4 q5 (E_o0.keep K3) (Or.inr ⟨(w5 hw), rfl, hnm⟩) (w2 hw) (ty := .byte) (v := (.int 0)) (v' := (.int 0)) (by decide) rfl rfl rfl rfl (hb hby d47_48)) fun T6 h6 X6 e6 W6 => ?_
 have Fw6 := q5.same W6
 have K6 : Keep h0 h6 ([o0] : List Addr) := Keep.wr K3 W6 (Or.inl (List.mem_of_getElem? (i := 0) rfl))
 have N6 := Fr.snoc X6 N3 g_o0
 refine Rn X6 hx hby sg47_51_2 54 #[sr o0, sr o1, si 0, si 2, .val .null, sr b1_3] [(.ref b1_3), (.ref o0)] rfl ?_
 have q7 := ((F_value_o0.keep K3q nin0).other W6 (Or.inr (slot_ne (Or.inr (w4 hw)) (Or.inr (w5 hw)) (by decide) (t := (.array .byte)) (t' := .byte) (by decide) (by decide))))
 refine Home.wr (putF X6 hx hZ hown (host := "") (Or.inl (w117 hw)) Via.refl e6 q7 (E_o0.keep K6) (Or.inr ⟨(w4 hw), rfl, hnm⟩) (w2 hw) (ty := (.array .byte)) (by decide) rfl rfl rfl rfl (hb hby d47_54)) fun T8 h8 X8 e8 W8 => ?_
 have Fw8 := q7.same W8
 have K8 : Keep h0 h8 ([o0] : List Addr) := Keep.wr K6 W8 (Or.inl (List.mem_of_getElem? (i := 0) rfl))
 have N8 := Fr.snoc X8 N6 g_o0
 have q9 := (Fw6.other W8 (Or.inr (slot_ne (Or.inr (w5 hw)) (Or.inr (w4 hw)) (by decide) (t := .byte) (t' := (.array .byte)) (by decide) (by decide))))
 have q10 := ((P3_0.wr W6).wr W8)
 have ne11 : b1_3 ≠ o0 := (Ne.symm (Nat.ne_of_lt (Nat.lt_of_lt_of_le E_o0.lt (Nat.le_trans (Nat.le_refl _) sz_b1_3))))
 have q12 := ((P3_1.other W6 ne11).other W8 ne11)
 exact Home.ret0 X8 hx hlk hret (hb hby d47_57) (by rw [show T8.heap = h8 from e8]; exact ⟨b1_3, k1_3, rfl, N8, (Nat.le_trans (Nat.le_refl _) sz_b1_3), K8, (E_o0.keep K8), q9, Fw8, q10, q12⟩) (by decide) (by decide)
theorem rm46_0 (l : Launch) (Z : State) (a0 : Array Value) (hw : HW a0 Z) (ws : List Jvm.Cond) (o0 o1 : Addr) (k_o1 : ClassId) (u1 u2 sv_COMPACT_STRINGS : Int32) (h0 : Heap) (n0 : Nat) (O0 : Old Z n0 h0) (V_o1 : Arv Z h0 o1 k_o1 .char (2 : Int32) [(.int u1), (.int u2)] (.int 0)) (S_COMPACT_STRINGS : Sta Z Z.heap "java/lang/String" "COMPACT_STRINGS" "Z" (.int sv_COMPACT_STRINGS)) (E_o0 : Exa Z h0 o0 "java/lang/String") (F_coder_o0 : Fld Z h0 o0 "java/lang/String" "coder" "B" (.int 0)) (F_value_o0 : Fld Z h0 o0 "java/lang/String" "value" "[B" .null) (bnd_u1 : ¬ u1 < (0 : Int32) ∧ ¬ (255 : Int32) < u1) (bnd_u2 : ¬ u2 < (0 : Int32) ∧ ¬ (255 : Int32) < u2) (g_o0 : n0 ≤ o0) (hCS : ¬ (sv_COMPACT_STRINGS = (0 : Int32))) :
    Con l Z (⟨"java/lang/String", "<init>", "([C)V"⟩ : MethodName) jdk_42_method_3_code 2 none ws ({ frames := 3, cells := 1, slots := 2, locals := 52 } : Room) #[(.ref o0), (.ref o1)] h0 (fun v h L => ∃ (b1_3_2 : Addr), ∃ (k1_3_2 : ClassId), v = none ∧ Fr n0 L ∧ h0.size ≤ b1_3_2 ∧ Keep h0 h [o0] ∧ Exa Z h o0 "java/lang/String" ∧ Fld Z h o0 "java/lang/String" "coder" "B" (.int 0) ∧ Fld Z h o0 "java/lang/String" "value" "[B" (.ref b1_3_2) ∧ Exa Z h b1_3_2 "[B" ∧ Arv Z h b1_3_2 k1_3_2 .byte (2 : Int32) [(.int (u1.toInt8.toInt32)), (.int (u2.toInt8.toInt32))] (.int 0)) := by
 refine own_body (plainFor_of_name own_pn1) (fun m => ef_rm46_0 m o0 o1) ?_
 intro p e s m below meth c s₁ hx hby hlk hml hret hZ hown hnm X0 e0
 have N0 := Fr.nil n0
 refine Rn X0 hx hby sg46_0_4 4 #[sr o0, sr o1] [(.ref o1), (.int 0), (.ref o1), (.ref o0)] rfl ?_
 obtain ⟨cl1, Ar1, q1, S1, M1, H1, G1⟩ := id V_o1
 refine Home.go (own_alen X0 hx hZ e0 Ar1 S1 M1 rfl rfl (hb hby d46_4)) ?_
 refine Rn X0 hx hby sg46_5_1 6 #[sr o0, sr o1] [.null, (.int 2), (.int 0), (.ref o1), (.ref o0)] rfl ?_
 refine Home.call (own_special X0 hx hZ hown rfl (w257 hw) (w258 hw) (w1 hw) (w259 hw) (by decide) (rm47_0 l Z a0 hw [] o0 o1 sv_COMPACT_STRINGS k_o1 u1 u2 h0 n0 O0 S_COMPACT_STRINGS hCS V_o1 bnd_u1 bnd_u2 E_o0 F_coder_o0 g_o0 F_value_o0) e0 rfl (by rw [hml]; rfl) (a := o0) (argsL := [(.ref o1), (.int 0), (.int 2), .null]) (rest := []) (lenOf own_pd7 rfl) rfl rfl (W := 0) (hb hby d46_6)) ?_
 rintro _ T2 L2 X2 ⟨b1_3_2, k1_3_2, rfl, N2q, sz_b1_3_2, K2q, P2_0, P2_1, P2_2, P2_3, P2_4⟩
 have g_b1_3_2 : n0 ≤ b1_3_2 := Nat.le_trans (Old.le O0) sz_b1_3_2
 have K2 : Keep h0 T2.heap ([o0] : List Addr) := Keep.trans (Keep.refl h0 ([o0] : List Addr)) K2q (allS (Or.inl (List.mem_of_getElem? (i := 0) rfl)) all0)
 have N2 := Fr.app N0 N2q
 exact Home.ret0 X2 hx hlk hret (hb hby d46_9) ⟨b1_3_2, k1_3_2, rfl, N2, (Nat.le_trans (Nat.le_refl _) sz_b1_3_2), K2, P2_0, P2_1, P2_2, P2_3, P2_4⟩ (by decide) (by decide)
theorem rm2_0 (l : Launch) (Z : State) (a0 : Array Value) (hw : HW a0 Z) (ws : List Jvm.Cond) (j0 : Int64) (h0 : Heap) (n0 : Nat) (O0 : Old Z n0 h0) :
    Con l Z (⟨"com/example/token_relay/tokenrelay/MemberToStringPinLaw", "ch", "(J)C"⟩ : MethodName) method_4_code 2 (some .char) ws ({ frames := 0, cells := 0, slots := 0, locals := 0 } : Room) #[(.long j0)] h0 (Pur (some (.int (((48 : Int32) + ((j0 - (j0 / (10 : Int64)) * (10 : Int64)).toInt32)).toUInt32.toUInt16.toUInt32.toInt32))) h0) := by
 refine own_body (plainFor_of_name own_pn3) (fun m => ef_rm2_0 m j0) ?_
 intro p e s m below meth c s₁ hx hby hlk hml hret hZ hown hnm X0 e0
 refine Rn X0 hx hby sg2_0_2 3 #[.val (.long j0), .second] [(.long j0), (.int 48)] rfl ?_
 refine Home.go (X0.ldc2Long hx hown (mvT hZ (w13 hw)) rfl (hb hby d2_3)) ?_
 refine Home.go (fun _ => XS.lrem X0.here hx rfl (hb hby d2_6) rfl (by decide)) ?_
 refine Rn X0 hx hby sg2_7_3 10 #[.val (.long j0), .second] [(.int (((48 : Int32) + ((j0 - (j0 / (10 : Int64)) * (10 : Int64)).toInt32)).toUInt32.toUInt16.toUInt32.toInt32))] rfl ?_
 exact Home.retN X0 hx hlk (t := .char) hret (by simp) (hb hby d2_10) ⟨congrArg some (congrArg Value.int (by first | rfl | exact nar_i2c _ | exact nar_i2b _ | exact nar_char_id (bnd_i2c ((48 : Int32) + ((j0 - (j0 / (10 : Int64)) * (10 : Int64)).toInt32))) (by decide +kernel) (by decide +kernel))), rfl, e0⟩ (by decide) (by decide)
theorem rm1_0 (l : Launch) (Z : State) (a0 : Array Value) (hw : HW a0 Z) (ws : List Jvm.Cond) (o0 : Addr) (i2 : Int32) (l_1 : List Int32) (k_o0 : ClassId) (h0 : Heap) (n0 : Nat) (O0 : Old Z n0 h0) (V_o0 : Arv Z h0 o0 k_o0 .char (40 : Int32) (List.map Value.int l_1) (.int 0)) (sh_l_1 : l_1.length ≤ 27) (g_o0 : n0 ≤ o0) :
    Con l Z (⟨"com/example/token_relay/tokenrelay/MemberToStringPinLaw", "put", "([CII)I"⟩ : MethodName) method_5_code 7 (some .int) ws ({ frames := 1, cells := 0, slots := 0, locals := 15 } : Room) #[(.ref o0), (.int (own_n l_1)), (.int i2)] h0 (fun v h L => v = some (.int (own_n (l_1 ++ (own_put i2)))) ∧ Fr n0 L ∧ Keep h0 h [o0] ∧ Arv Z h o0 k_o0 .char (40 : Int32) (List.map Value.int (l_1 ++ (own_put i2))) (.int 0)) := by
 refine own_body (plainFor_of_name own_pn3) (fun m => ef_rm1_0 m o0 (own_n l_1) i2) ?_
 intro p e s m below meth c s₁ hx hby hlk hml hret hZ hown hnm X0 e0
 have N0 := Fr.nil n0
 refine Rn X0 hx hby sg1_0_5 6 #[sr o0, .val (.int (own_n l_1)), si i2, .val (.int (own_n l_1)), .val (.long (i2.toInt64)), .second, un] [] rfl ?_
 refine Home.cut (C := fun E => ∀ {T : State} {lc : List Loc} {hJ : Heap} (X : Stand p l e ({ frames := 1, cells := 0, slots := 0, locals := 15 } : Room) s m #[(.ref o0), (.int (own_n l_1)), (.int i2)] below meth c T lc 0 0) (N : Fr n0 lc) (eT : T.heap = hJ) (Kq : Keep h0 hJ ([o0] : List Addr)) (W : List Int32) (hW : W = own_sg l_1 i2) (vB : Arv Z hJ o0 k_o0 .char (40 : Int32) (List.map Value.int W) (.int 0)) (a3 : Int32) (ha3 : a3 = own_n W) (v : Int64) (hv : v = own_abs i2), @Home p e below E T (mkF m 26 #[sr o0, .val (.int (own_n l_1)), si i2, si a3, .val (.long v), .second, un] [])) (fun _ J1 => ?_) ?_
 ·
  have hin : ¬ (own_n l_1) < (0 : Int32) ∧ (own_n l_1) < (40 : Int32) := own_n_in (by omega)
  have hm : (own_n l_1) = Int32.ofNat l_1.length ∧ l_1.length < 2147483648 := ⟨rfl, by omega⟩
  refine Rn X0 hx hby sg1_6_3 10 #[sr o0, .val (.int (own_n l_1)), si i2, .val (.int (own_n l_1)), .val (.long (i2.toInt64)), .second, un] [(.int (lcmpW (i2.toInt64) (0 : Int64)))] rfl ?_
  by_cases c2 : (i2.toInt64) < (0 : Int64)
  ·
   refine Home.go (fun _ => XS.ifNo X0.here hx rfl (hb hby d1_10) rfl ((if0 _ _).trans (tlt ((lw_lt _ _).mpr c2)).2.1)) ?_
   refine Rn X0 hx hby sg1_13_3 17 #[sr o0, .val (.int (own_n l_1)), si i2, .val (.int (own_n l_1)), .val (.long (i2.toInt64)), .second, un] [(.int 45), (.int (own_n l_1)), (.ref o0)] rfl ?_
   obtain ⟨cl3, Ar3, q3, S3, M3, H3, G3⟩ := id (own_pad1 V_o0)
   refine Home.wr (stC X0 hx hZ e0 Ar3 (j := (own_n l_1)) (inb_of S3 hin) rfl rfl (hb hby d1_17)) fun T3 h3 X3 e3 W3 => ?_
   have W3' := Wr.to W3 (congrArg Value.int (nar_char_id (bnd_lit (45 : Int32)) (by decide +kernel) (by decide +kernel)))
   have V3 : Arv Z h3 o0 k_o0 .char (40 : Int32) (List.map Value.int (l_1 ++ [(45 : Int32)])) (.int 0) := own_setS (vs := (l_1 ++ [0])) (ws := (l_1 ++ [(45 : Int32)])) Ar3 q3 S3 M3 H3 G3 (fits_char_b (bnd_lit (45 : Int32)) (by decide +kernel) (by decide +kernel)) W3' (own_len_mid hm) (own_set_mid hm)
   have k3 : Keep h0 h3 ([o0] : List Addr) := Keep.wr (Keep.refl _ _) W3 (Or.inl (List.mem_of_getElem? (i := 0) rfl))
   have N3 := Fr.snoc X3 N0 g_o0
   refine Rn X3 hx hby sg1_18_4 26 #[sr o0, .val (.int (own_n l_1)), si i2, .val (.int ((own_n l_1) + (1 : Int32))), .val (.long (-(i2.toInt64))), .second, un] [] rfl ?_
   exact J1 X3 N3 e3 k3 (l_1 ++ [(45 : Int32)]) (if_pos c2).symm V3 _ (own_n_snoc _ _) _ (if_pos c2).symm
  ·
   refine Home.go (fun _ => XS.ifYes X0.here hx rfl (pc0 := 10) (pc' := 26) rfl (hb hby d1_10) rfl ((if0 _ _).trans (flt (mt (lw_lt _ _).mp c2)).2.1) (by decide) (by decide)) ?_
   exact J1 X0 N0 e0 (Keep.refl _ _) l_1 (if_neg c2).symm V_o0 _ rfl _ (if_neg c2).symm
 intro TJ1 lcJ1 hJ1 XJ1 NJ1 eJ1 KqJ1 W hW vW a3 ha3 v hv
 have OJ1 := Old.keep O0 KqJ1 (allS g_o0 all0)
 have KJ1 : Keep h0 hJ1 ([o0] : List Addr) := Keep.trans (Keep.refl h0 ([o0] : List Addr)) KqJ1 (allS (Or.inl (List.mem_of_getElem? (i := 0) rfl)) all0)
 have hWl : W.length ≤ l_1.length + 1 := by rw [hW]; exact own_sg_len _ _
 have hv' : v = Int64.ofNat (own_m i2) := by rw [hv]; exact own_abs_m _
 show Home TJ1 (mkF m 26 #[sr o0, .val (.int (own_n l_1)), si i2, si a3, .val (.long v), .second, un] [])
 refine Rn XJ1 hx hby sg1_26_3 31 #[sr o0, .val (.int (own_n l_1)), si i2, si a3, .val (.long v), .second, si 1] [(.long v)] rfl ?_
 refine Home.go (XJ1.ldc2Long hx hown (mvT hZ (w13 hw)) rfl (hb hby d1_31)) ?_
 refine Rn XJ1 hx hby sg1_34_1 35 #[sr o0, .val (.int (own_n l_1)), si i2, si a3, .val (.long v), .second, si 1] [(.int (lcmpW v (10 : Int64)))] rfl ?_
 suffices J5 : ∀ {T : State} {lc : List Loc} (X : Stand p l e ({ frames := 1, cells := 0, slots := 0, locals := 15 } : Room) s m #[(.ref o0), (.int (own_n l_1)), (.int i2)] below meth c T lc 0 0) (N : Fr n0 lc) (eT : T.heap = hJ1) (v6 : Int32) (hv6 : v6 = (if v < (10 : Int64) then (1 : Int32) else (2 : Int32))), @Home p e below _ T (mkF m 41 #[sr o0, .val (.int (own_n l_1)), si i2, si a3, .val (.long v), .second, si v6] []) by
  by_cases c4 : v < (10 : Int64)
  ·
   refine Home.go (fun _ => XS.ifYes XJ1.here hx rfl (pc0 := 35) (pc' := 41) rfl (hb hby d1_35) rfl ((if0 _ _).trans (tlt ((lw_lt _ _).mpr c4)).1) (by decide) (by decide)) ?_
   exact J5 XJ1 NJ1 eJ1 _ (by simp only [if_pos c4])
  ·
   refine Home.go (fun _ => XS.ifNo XJ1.here hx rfl (hb hby d1_35) rfl ((if0 _ _).trans (flt (mt (lw_lt _ _).mp c4)).1)) ?_
   refine Rn XJ1 hx hby sg1_38_2 41 #[sr o0, .val (.int (own_n l_1)), si i2, si a3, .val (.long v), .second, si 2] [] rfl ?_
   exact J5 XJ1 NJ1 eJ1 _ (by simp only [if_neg c4])
 intro TJ5 lcJ5 XJ5 NJ5 eJ5 v6 hv6
 have bv6 : ¬ v6 < (1 : Int32) ∧ ¬ (2 : Int32) < v6 := by rw [hv6]; exact (bnd_ite (bnd_mono (bnd_lit (1 : Int32)) (by decide +kernel) (by decide +kernel)) (bnd_mono (bnd_lit (2 : Int32)) (by decide +kernel) (by decide +kernel)))
 show Home TJ5 (mkF m 41 #[sr o0, .val (.int (own_n l_1)), si i2, si a3, .val (.long v), .second, si v6] [])
 refine Rn XJ5 hx hby sg1_41_1 43 #[sr o0, .val (.int (own_n l_1)), si i2, si a3, .val (.long v), .second, si v6] [(.long v)] rfl ?_
 refine Home.go (XJ5.ldc2Long hx hown (mvT hZ (w14 hw)) rfl (hb hby d1_43)) ?_
 refine Rn XJ5 hx hby sg1_46_1 47 #[sr o0, .val (.int (own_n l_1)), si i2, si a3, .val (.long v), .second, si v6] [(.int (lcmpW v (100 : Int64)))] rfl ?_
 suffices J8 : ∀ {T : State} {lc : List Loc} (X : Stand p l e ({ frames := 1, cells := 0, slots := 0, locals := 15 } : Room) s m #[(.ref o0), (.int (own_n l_1)), (.int i2)] below meth c T lc 0 0) (N : Fr n0 lc) (eT : T.heap = hJ1) (v9 : Int32) (hv9 : v9 = (if v < (100 : Int64) then v6 else (3 : Int32))), @Home p e below _ T (mkF m 53 #[sr o0, .val (.int (own_n l_1)), si i2, si a3, .val (.long v), .second, si v9] []) by
  by_cases c7 : v < (100 : Int64)
  ·
   refine Home.go (fun _ => XS.ifYes XJ5.here hx rfl (pc0 := 47) (pc' := 53) rfl (hb hby d1_47) rfl ((if0 _ _).trans (tlt ((lw_lt _ _).mpr c7)).1) (by decide) (by decide)) ?_
   exact J8 XJ5 NJ5 eJ5 _ (by simp only [if_pos c7])
  ·
   refine Home.go (fun _ => XS.ifNo XJ5.here hx rfl (hb hby d1_47) rfl ((if0 _ _).trans (flt (mt (lw_lt _ _).mp c7)).1)) ?_
   refine Rn XJ5 hx hby sg1_50_2 53 #[sr o0, .val (.int (own_n l_1)), si i2, si a3, .val (.long v), .second, si 3] [] rfl ?_
   exact J8 XJ5 NJ5 eJ5 _ (by simp only [if_neg c7])
 intro TJ8 lcJ8 XJ8 NJ8 eJ8 v9 hv9
 have bv9 : ¬ v9 < (1 : Int32) ∧ ¬ (3 : Int32) < v9 := by rw [hv9]; exact (bnd_ite (bnd_mono bv6 (by decide +kernel) (by decide +kernel)) (bnd_mono (bnd_lit (3 : Int32)) (by decide +kernel) (by decide +kernel)))
 show Home TJ8 (mkF m 53 #[sr o0, .val (.int (own_n l_1)), si i2, si a3, .val (.long v), .second, si v9] [])
 refine Rn XJ8 hx hby sg1_53_1 55 #[sr o0, .val (.int (own_n l_1)), si i2, si a3, .val (.long v), .second, si v9] [(.long v)] rfl ?_
 refine Home.go (XJ8.ldc2Long hx hown (mvT hZ (w15 hw)) rfl (hb hby d1_55)) ?_
 refine Rn XJ8 hx hby sg1_58_1 59 #[sr o0, .val (.int (own_n l_1)), si i2, si a3, .val (.long v), .second, si v9] [(.int (lcmpW v (1000 : Int64)))] rfl ?_
 suffices J11 : ∀ {T : State} {lc : List Loc} (X : Stand p l e ({ frames := 1, cells := 0, slots := 0, locals := 15 } : Room) s m #[(.ref o0), (.int (own_n l_1)), (.int i2)] below meth c T lc 0 0) (N : Fr n0 lc) (eT : T.heap = hJ1) (v12 : Int32) (hv12 : v12 = (if v < (1000 : Int64) then v9 else (4 : Int32))), @Home p e below _ T (mkF m 65 #[sr o0, .val (.int (own_n l_1)), si i2, si a3, .val (.long v), .second, si v12] []) by
  by_cases c10 : v < (1000 : Int64)
  ·
   refine Home.go (fun _ => XS.ifYes XJ8.here hx rfl (pc0 := 59) (pc' := 65) rfl (hb hby d1_59) rfl ((if0 _ _).trans (tlt ((lw_lt _ _).mpr c10)).1) (by decide) (by decide)) ?_
   exact J11 XJ8 NJ8 eJ8 _ (by simp only [if_pos c10])
  ·
   refine Home.go (fun _ => XS.ifNo XJ8.here hx rfl (hb hby d1_59) rfl ((if0 _ _).trans (flt (mt (lw_lt _ _).mp c10)).1)) ?_
   refine Rn XJ8 hx hby sg1_62_2 65 #[sr o0, .val (.int (own_n l_1)), si i2, si a3, .val (.long v), .second, si 4] [] rfl ?_
   exact J11 XJ8 NJ8 eJ8 _ (by simp only [if_neg c10])
 intro TJ11 lcJ11 XJ11 NJ11 eJ11 v12 hv12
 have bv12 : ¬ v12 < (1 : Int32) ∧ ¬ (4 : Int32) < v12 := by rw [hv12]; exact (bnd_ite (bnd_mono bv9 (by decide +kernel) (by decide +kernel)) (bnd_mono (bnd_lit (4 : Int32)) (by decide +kernel) (by decide +kernel)))
 show Home TJ11 (mkF m 65 #[sr o0, .val (.int (own_n l_1)), si i2, si a3, .val (.long v), .second, si v12] [])
 refine Rn XJ11 hx hby sg1_65_1 67 #[sr o0, .val (.int (own_n l_1)), si i2, si a3, .val (.long v), .second, si v12] [(.long v)] rfl ?_
 refine Home.go (XJ11.ldc2Long hx hown (mvT hZ (w16 hw)) rfl (hb hby d1_67)) ?_
 refine Rn XJ11 hx hby sg1_70_1 71 #[sr o0, .val (.int (own_n l_1)), si i2, si a3, .val (.long v), .second, si v12] [(.int (lcmpW v (10000 : Int64)))] rfl ?_
 suffices J14 : ∀ {T : State} {lc : List Loc} (X : Stand p l e ({ frames := 1, cells := 0, slots := 0, locals := 15 } : Room) s m #[(.ref o0), (.int (own_n l_1)), (.int i2)] below meth c T lc 0 0) (N : Fr n0 lc) (eT : T.heap = hJ1) (v15 : Int32) (hv15 : v15 = (if v < (10000 : Int64) then v12 else (5 : Int32))), @Home p e below _ T (mkF m 77 #[sr o0, .val (.int (own_n l_1)), si i2, si a3, .val (.long v), .second, si v15] []) by
  by_cases c13 : v < (10000 : Int64)
  ·
   refine Home.go (fun _ => XS.ifYes XJ11.here hx rfl (pc0 := 71) (pc' := 77) rfl (hb hby d1_71) rfl ((if0 _ _).trans (tlt ((lw_lt _ _).mpr c13)).1) (by decide) (by decide)) ?_
   exact J14 XJ11 NJ11 eJ11 _ (by simp only [if_pos c13])
  ·
   refine Home.go (fun _ => XS.ifNo XJ11.here hx rfl (hb hby d1_71) rfl ((if0 _ _).trans (flt (mt (lw_lt _ _).mp c13)).1)) ?_
   refine Rn XJ11 hx hby sg1_74_2 77 #[sr o0, .val (.int (own_n l_1)), si i2, si a3, .val (.long v), .second, si 5] [] rfl ?_
   exact J14 XJ11 NJ11 eJ11 _ (by simp only [if_neg c13])
 intro TJ14 lcJ14 XJ14 NJ14 eJ14 v15 hv15
 have bv15 : ¬ v15 < (1 : Int32) ∧ ¬ (5 : Int32) < v15 := by rw [hv15]; exact (bnd_ite (bnd_mono bv12 (by decide +kernel) (by decide +kernel)) (bnd_mono (bnd_lit (5 : Int32)) (by decide +kernel) (by decide +kernel)))
 show Home TJ14 (mkF m 77 #[sr o0, .val (.int (own_n l_1)), si i2, si a3, .val (.long v), .second, si v15] [])
 refine Rn XJ14 hx hby sg1_77_1 79 #[sr o0, .val (.int (own_n l_1)), si i2, si a3, .val (.long v), .second, si v15] [(.long v)] rfl ?_
 refine Home.go (XJ14.ldc2Long hx hown (mvT hZ (w17 hw)) rfl (hb hby d1_79)) ?_
 refine Rn XJ14 hx hby sg1_82_1 83 #[sr o0, .val (.int (own_n l_1)), si i2, si a3, .val (.long v), .second, si v15] [(.int (lcmpW v (100000 : Int64)))] rfl ?_
 suffices J17 : ∀ {T : State} {lc : List Loc} (X : Stand p l e ({ frames := 1, cells := 0, slots := 0, locals := 15 } : Room) s m #[(.ref o0), (.int (own_n l_1)), (.int i2)] below meth c T lc 0 0) (N : Fr n0 lc) (eT : T.heap = hJ1) (v18 : Int32) (hv18 : v18 = (if v < (100000 : Int64) then v15 else (6 : Int32))), @Home p e below _ T (mkF m 90 #[sr o0, .val (.int (own_n l_1)), si i2, si a3, .val (.long v), .second, si v18] []) by
  by_cases c16 : v < (100000 : Int64)
  ·
   refine Home.go (fun _ => XS.ifYes XJ14.here hx rfl (pc0 := 83) (pc' := 90) rfl (hb hby d1_83) rfl ((if0 _ _).trans (tlt ((lw_lt _ _).mpr c16)).1) (by decide) (by decide)) ?_
   exact J17 XJ14 NJ14 eJ14 _ (by simp only [if_pos c16])
  ·
   refine Home.go (fun _ => XS.ifNo XJ14.here hx rfl (hb hby d1_83) rfl ((if0 _ _).trans (flt (mt (lw_lt _ _).mp c16)).1)) ?_
   refine Rn XJ14 hx hby sg1_86_2 90 #[sr o0, .val (.int (own_n l_1)), si i2, si a3, .val (.long v), .second, si 6] [] rfl ?_
   exact J17 XJ14 NJ14 eJ14 _ (by simp only [if_neg c16])
 intro TJ17 lcJ17 XJ17 NJ17 eJ17 v18 hv18
 have bv18 : ¬ v18 < (1 : Int32) ∧ ¬ (6 : Int32) < v18 := by rw [hv18]; exact (bnd_ite (bnd_mono bv15 (by decide +kernel) (by decide +kernel)) (bnd_mono (bnd_lit (6 : Int32)) (by decide +kernel) (by decide +kernel)))
 show Home TJ17 (mkF m 90 #[sr o0, .val (.int (own_n l_1)), si i2, si a3, .val (.long v), .second, si v18] [])
 refine Rn XJ17 hx hby sg1_90_1 92 #[sr o0, .val (.int (own_n l_1)), si i2, si a3, .val (.long v), .second, si v18] [(.long v)] rfl ?_
 refine Home.go (XJ17.ldc2Long hx hown (mvT hZ (w18 hw)) rfl (hb hby d1_92)) ?_
 refine Rn XJ17 hx hby sg1_95_1 96 #[sr o0, .val (.int (own_n l_1)), si i2, si a3, .val (.long v), .second, si v18] [(.int (lcmpW v (1000000 : Int64)))] rfl ?_
 suffices J20 : ∀ {T : State} {lc : List Loc} (X : Stand p l e ({ frames := 1, cells := 0, slots := 0, locals := 15 } : Room) s m #[(.ref o0), (.int (own_n l_1)), (.int i2)] below meth c T lc 0 0) (N : Fr n0 lc) (eT : T.heap = hJ1) (v21 : Int32) (hv21 : v21 = (if v < (1000000 : Int64) then v18 else (7 : Int32))), @Home p e below _ T (mkF m 103 #[sr o0, .val (.int (own_n l_1)), si i2, si a3, .val (.long v), .second, si v21] []) by
  by_cases c19 : v < (1000000 : Int64)
  ·
   refine Home.go (fun _ => XS.ifYes XJ17.here hx rfl (pc0 := 96) (pc' := 103) rfl (hb hby d1_96) rfl ((if0 _ _).trans (tlt ((lw_lt _ _).mpr c19)).1) (by decide) (by decide)) ?_
   exact J20 XJ17 NJ17 eJ17 _ (by simp only [if_pos c19])
  ·
   refine Home.go (fun _ => XS.ifNo XJ17.here hx rfl (hb hby d1_96) rfl ((if0 _ _).trans (flt (mt (lw_lt _ _).mp c19)).1)) ?_
   refine Rn XJ17 hx hby sg1_99_2 103 #[sr o0, .val (.int (own_n l_1)), si i2, si a3, .val (.long v), .second, si 7] [] rfl ?_
   exact J20 XJ17 NJ17 eJ17 _ (by simp only [if_neg c19])
 intro TJ20 lcJ20 XJ20 NJ20 eJ20 v21 hv21
 have bv21 : ¬ v21 < (1 : Int32) ∧ ¬ (7 : Int32) < v21 := by rw [hv21]; exact (bnd_ite (bnd_mono bv18 (by decide +kernel) (by decide +kernel)) (bnd_mono (bnd_lit (7 : Int32)) (by decide +kernel) (by decide +kernel)))
 show Home TJ20 (mkF m 103 #[sr o0, .val (.int (own_n l_1)), si i2, si a3, .val (.long v), .second, si v21] [])
 refine Rn XJ20 hx hby sg1_103_1 105 #[sr o0, .val (.int (own_n l_1)), si i2, si a3, .val (.long v), .second, si v21] [(.long v)] rfl ?_
 refine Home.go (XJ20.ldc2Long hx hown (mvT hZ (w19 hw)) rfl (hb hby d1_105)) ?_
 refine Rn XJ20 hx hby sg1_108_1 109 #[sr o0, .val (.int (own_n l_1)), si i2, si a3, .val (.long v), .second, si v21] [(.int (lcmpW v (10000000 : Int64)))] rfl ?_
 suffices J23 : ∀ {T : State} {lc : List Loc} (X : Stand p l e ({ frames := 1, cells := 0, slots := 0, locals := 15 } : Room) s m #[(.ref o0), (.int (own_n l_1)), (.int i2)] below meth c T lc 0 0) (N : Fr n0 lc) (eT : T.heap = hJ1) (v24 : Int32) (hv24 : v24 = (if v < (10000000 : Int64) then v21 else (8 : Int32))), @Home p e below _ T (mkF m 116 #[sr o0, .val (.int (own_n l_1)), si i2, si a3, .val (.long v), .second, si v24] []) by
  by_cases c22 : v < (10000000 : Int64)
  ·
   refine Home.go (fun _ => XS.ifYes XJ20.here hx rfl (pc0 := 109) (pc' := 116) rfl (hb hby d1_109) rfl ((if0 _ _).trans (tlt ((lw_lt _ _).mpr c22)).1) (by decide) (by decide)) ?_
   exact J23 XJ20 NJ20 eJ20 _ (by simp only [if_pos c22])
  ·
   refine Home.go (fun _ => XS.ifNo XJ20.here hx rfl (hb hby d1_109) rfl ((if0 _ _).trans (flt (mt (lw_lt _ _).mp c22)).1)) ?_
   refine Rn XJ20 hx hby sg1_112_2 116 #[sr o0, .val (.int (own_n l_1)), si i2, si a3, .val (.long v), .second, si 8] [] rfl ?_
   exact J23 XJ20 NJ20 eJ20 _ (by simp only [if_neg c22])
 intro TJ23 lcJ23 XJ23 NJ23 eJ23 v24 hv24
 have bv24 : ¬ v24 < (1 : Int32) ∧ ¬ (8 : Int32) < v24 := by rw [hv24]; exact (bnd_ite (bnd_mono bv21 (by decide +kernel) (by decide +kernel)) (bnd_mono (bnd_lit (8 : Int32)) (by decide +kernel) (by decide +kernel)))
 show Home TJ23 (mkF m 116 #[sr o0, .val (.int (own_n l_1)), si i2, si a3, .val (.long v), .second, si v24] [])
 refine Rn XJ23 hx hby sg1_116_1 118 #[sr o0, .val (.int (own_n l_1)), si i2, si a3, .val (.long v), .second, si v24] [(.long v)] rfl ?_
 refine Home.go (XJ23.ldc2Long hx hown (mvT hZ (w20 hw)) rfl (hb hby d1_118)) ?_
 refine Rn XJ23 hx hby sg1_121_1 122 #[sr o0, .val (.int (own_n l_1)), si i2, si a3, .val (.long v), .second, si v24] [(.int (lcmpW v (100000000 : Int64)))] rfl ?_
 suffices J26 : ∀ {T : State} {lc : List Loc} (X : Stand p l e ({ frames := 1, cells := 0, slots := 0, locals := 15 } : Room) s m #[(.ref o0), (.int (own_n l_1)), (.int i2)] below meth c T lc 0 0) (N : Fr n0 lc) (eT : T.heap = hJ1) (v27 : Int32) (hv27 : v27 = (if v < (100000000 : Int64) then v24 else (9 : Int32))), @Home p e below _ T (mkF m 129 #[sr o0, .val (.int (own_n l_1)), si i2, si a3, .val (.long v), .second, si v27] []) by
  by_cases c25 : v < (100000000 : Int64)
  ·
   refine Home.go (fun _ => XS.ifYes XJ23.here hx rfl (pc0 := 122) (pc' := 129) rfl (hb hby d1_122) rfl ((if0 _ _).trans (tlt ((lw_lt _ _).mpr c25)).1) (by decide) (by decide)) ?_
   exact J26 XJ23 NJ23 eJ23 _ (by simp only [if_pos c25])
  ·
   refine Home.go (fun _ => XS.ifNo XJ23.here hx rfl (hb hby d1_122) rfl ((if0 _ _).trans (flt (mt (lw_lt _ _).mp c25)).1)) ?_
   refine Rn XJ23 hx hby sg1_125_2 129 #[sr o0, .val (.int (own_n l_1)), si i2, si a3, .val (.long v), .second, si 9] [] rfl ?_
   exact J26 XJ23 NJ23 eJ23 _ (by simp only [if_neg c25])
 intro TJ26 lcJ26 XJ26 NJ26 eJ26 v27 hv27
 have bv27 : ¬ v27 < (1 : Int32) ∧ ¬ (9 : Int32) < v27 := by rw [hv27]; exact (bnd_ite (bnd_mono bv24 (by decide +kernel) (by decide +kernel)) (bnd_mono (bnd_lit (9 : Int32)) (by decide +kernel) (by decide +kernel)))
 show Home TJ26 (mkF m 129 #[sr o0, .val (.int (own_n l_1)), si i2, si a3, .val (.long v), .second, si v27] [])
 refine Rn XJ26 hx hby sg1_129_1 131 #[sr o0, .val (.int (own_n l_1)), si i2, si a3, .val (.long v), .second, si v27] [(.long v)] rfl ?_
 refine Home.go (XJ26.ldc2Long hx hown (mvT hZ (w21 hw)) rfl (hb hby d1_131)) ?_
 refine Rn XJ26 hx hby sg1_134_1 135 #[sr o0, .val (.int (own_n l_1)), si i2, si a3, .val (.long v), .second, si v27] [(.int (lcmpW v (1000000000 : Int64)))] rfl ?_
 suffices J29 : ∀ {T : State} {lc : List Loc} (X : Stand p l e ({ frames := 1, cells := 0, slots := 0, locals := 15 } : Room) s m #[(.ref o0), (.int (own_n l_1)), (.int i2)] below meth c T lc 0 0) (N : Fr n0 lc) (eT : T.heap = hJ1) (v30 : Int32) (hv30 : v30 = (if v < (1000000000 : Int64) then v27 else (10 : Int32))), @Home p e below _ T (mkF m 142 #[sr o0, .val (.int (own_n l_1)), si i2, si a3, .val (.long v), .second, si v30] []) by
  by_cases c28 : v < (1000000000 : Int64)
  ·
   refine Home.go (fun _ => XS.ifYes XJ26.here hx rfl (pc0 := 135) (pc' := 142) rfl (hb hby d1_135) rfl ((if0 _ _).trans (tlt ((lw_lt _ _).mpr c28)).1) (by decide) (by decide)) ?_
   exact J29 XJ26 NJ26 eJ26 _ (by simp only [if_pos c28])
  ·
   refine Home.go (fun _ => XS.ifNo XJ26.here hx rfl (hb hby d1_135) rfl ((if0 _ _).trans (flt (mt (lw_lt _ _).mp c28)).1)) ?_
   refine Rn XJ26 hx hby sg1_138_2 142 #[sr o0, .val (.int (own_n l_1)), si i2, si a3, .val (.long v), .second, si 10] [] rfl ?_
   exact J29 XJ26 NJ26 eJ26 _ (by simp only [if_neg c28])
 intro TJ29 lcJ29 XJ29 NJ29 eJ29 v30 hv30
 have bv30 : ¬ v30 < (1 : Int32) ∧ ¬ (10 : Int32) < v30 := by rw [hv30]; exact (bnd_ite (bnd_mono bv27 (by decide +kernel) (by decide +kernel)) (bnd_mono (bnd_lit (10 : Int32)) (by decide +kernel) (by decide +kernel)))
 show Home TJ29 (mkF m 142 #[sr o0, .val (.int (own_n l_1)), si i2, si a3, .val (.long v), .second, si v30] [])
 have hnd : v30 = Int32.ofNat (own_D (own_m i2)).length := by subst hv30; subst hv27; subst hv24; subst hv21; subst hv18; subst hv15; subst hv12; subst hv9; subst hv6; rw [show (if v < (1000000000 : Int64) then (if v < (100000000 : Int64) then (if v < (10000000 : Int64) then (if v < (1000000 : Int64) then (if v < (100000 : Int64) then (if v < (10000 : Int64) then (if v < (1000 : Int64) then (if v < (100 : Int64) then (if v < (10 : Int64) then (1 : Int32) else (2 : Int32)) else (3 : Int32)) else (4 : Int32)) else (5 : Int32)) else (6 : Int32)) else (7 : Int32)) else (8 : Int32)) else (9 : Int32)) else (10 : Int32)) = own_nd v from rfl, hv']; exact own_nd_len (own_m_le _)
 have hD := own_D11 i2
 have hDp := own_D_pos (own_m i2)
 obtain ⟨nd, hnq⟩ : ∃ z, z = v30 := ⟨_, rfl⟩
 rw [← hnq]
 rw [← hnq] at hnd
 show Home TJ29 (mkF m 142 #[sr o0, .val (.int (own_n l_1)), si i2, si a3, .val (.long v), .second, si nd] [])
 refine Home.cut (C := fun E => ∀ {T : State} {lc : List Loc} {hJ : Heap} (X : Stand p l e ({ frames := 1, cells := 0, slots := 0, locals := 15 } : Room) s m #[(.ref o0), (.int (own_n l_1)), (.int i2)] below meth c T lc 0 0) (N : Fr n0 lc) (eT : T.heap = hJ) (Kq : Keep hJ1 hJ ([o0] : List Addr)) (W9 : List Int32) (hW9 : W9 = W ++ own_hi (own_m i2) 9) (vB : Arv Z hJ o0 k_o0 .char (40 : Int32) (List.map Value.int W9) (.int 0)), @Home p e below E T (mkF m 167 #[sr o0, .val (.int (own_n l_1)), si i2, si a3, .val (.long v), .second, si nd] [])) (fun _ J31 => ?_) ?_
 ·
  refine Rn XJ29 hx hby sg1_142_2 146 #[sr o0, .val (.int (own_n l_1)), si i2, si a3, .val (.long v), .second, si nd] [(.int 9), (.int nd)] rfl ?_
  by_cases c32 : (9 : Int32) < nd
  ·
   refine Home.go (fun _ => XS.icmpNo XJ29.here hx rfl (hb hby d1_146) rfl (tlt c32).2.2.2) ?_
   refine Rn XJ29 hx hby sg1_149_7 159 #[sr o0, .val (.int (own_n l_1)), si i2, si a3, .val (.long v), .second, si nd] [(.long v), (.int ((a3 + nd) - (10 : Int32))), (.ref o0)] rfl ?_
   refine Home.go (XJ29.ldc2Long hx hown (mvT hZ (w21 hw)) rfl (hb hby d1_159)) ?_
   refine Home.go (fun _ => XS.ldiv XJ29.here hx rfl (hb hby d1_162) rfl (by decide)) ?_
   refine Home.st (own_pure (own_static XJ29 hx hZ hown (w22 hw) (w23 hw) (w11 hw) (w24 hw) (by decide) (rm2_0 l Z a0 hw [] (v / (1000000000 : Int64)) hJ1 n0 OJ1) eJ29 rfl (by rw [hml]; rfl) (argsL := [(.long (v / (1000000000 : Int64)))]) (rest := [(.int ((a3 + nd) - (10 : Int32))), (.ref o0)]) (lenOf own_pd9 rfl) rfl rfl (W := 2) (hb hby d1_163))) fun T35 X35 e35 => ?_
   have hj : ¬ (own_m i2) < 10 ^ 9 := (own_D_iff (by decide)).mp (own_ofNat_lt (by omega) (by rw [hnd] at c32; exact c32))
   have hhl := own_hi_len 9 (own_m i2) hj
   have hgo : own_hi (own_m i2) 9 = own_hi (own_m i2) 10 ++ [(Int32.ofNat (48 + (own_m i2) / 10 ^ 9 % 10))] := own_hi_go hj
   have hval : (((48 : Int32) + (((v / (1000000000 : Int64)) - ((v / (1000000000 : Int64)) / (10 : Int64)) * (10 : Int64)).toInt32)).toUInt32.toUInt16.toUInt32.toInt32) = (Int32.ofNat (48 + (own_m i2) / 10 ^ 9 % 10)) := by rw [hv']; exact own_chv (d := 1000000000) (own_m_le _) (by decide)
   rw [hgo, List.length_append] at hhl
   simp only [List.length_cons, List.length_nil] at hhl
   have hWq : W.length = W.length + (own_hi (own_m i2) 10).length := by rw [own_hi_lo (j := 10) (Nat.lt_of_le_of_lt (own_m_le _) (by decide))]; rfl
   have hix : ((a3 + nd) - (10 : Int32)) = Int32.ofNat W.length ∧ W.length < 2147483648 := ⟨own_ixe 10 ha3 hnd (by omega) (by omega), by omega⟩
   have hin : ¬ ((a3 + nd) - (10 : Int32)) < (0 : Int32) ∧ ((a3 + nd) - (10 : Int32)) < (40 : Int32) := by rw [hix.1]; exact own_lt40 (by omega)
   rw [hval]
   show Home T35 (mkF m 166 #[sr o0, .val (.int (own_n l_1)), si i2, si a3, .val (.long v), .second, si nd] [(.int (Int32.ofNat (48 + (own_m i2) / 10 ^ 9 % 10))), (.int ((a3 + nd) - (10 : Int32))), (.ref o0)])
   obtain ⟨cl36, Ar36, q36, S36, M36, H36, G36⟩ := id (own_pad1 vW)
   refine Home.wr (stC X35 hx hZ e35 Ar36 (j := ((a3 + nd) - (10 : Int32))) (inb_of S36 hin) rfl rfl (hb hby d1_166)) fun T36 h36 X36 e36 W36 => ?_
   have W36' := Wr.to W36 (congrArg Value.int (nar_char_id (own_dcb1 (Nat.mod_lt _ (by decide))) (by decide +kernel) (by decide +kernel)))
   have V36 : Arv Z h36 o0 k_o0 .char (40 : Int32) (List.map Value.int (W ++ [(Int32.ofNat (48 + (own_m i2) / 10 ^ 9 % 10))])) (.int 0) := own_setS (vs := (W ++ [0])) (ws := (W ++ [(Int32.ofNat (48 + (own_m i2) / 10 ^ 9 % 10))])) Ar36 q36 S36 M36 H36 G36 (fits_char_b (own_dcb1 (Nat.mod_lt _ (by decide))) (by decide +kernel) (by decide +kernel)) W36' (own_len_mid hix) (own_set_mid hix)
   have k36 : Keep hJ1 h36 ([o0] : List Addr) := Keep.wr (Keep.refl _ _) W36 (Or.inl (List.mem_of_getElem? (i := 0) rfl))
   have N36 := Fr.snoc X36 NJ29 g_o0
   exact J31 X36 N36 e36 k36 (W ++ [(Int32.ofNat (48 + (own_m i2) / 10 ^ 9 % 10))]) (by rw [hgo, ← List.append_assoc, own_hi_lo (j := 10) (Nat.lt_of_le_of_lt (own_m_le _) (by decide)), List.append_nil]) V36
  ·
   refine Home.go (fun _ => XS.icmpYes XJ29.here hx rfl (pc0 := 146) (pc' := 167) rfl (hb hby d1_146) rfl (flt c32).2.2.2 (by decide) (by decide)) ?_
   have hj : (own_m i2) < 10 ^ 9 := Decidable.byContradiction fun z => c32 (by rw [hnd]; exact own_lt_ofNat (by omega) ((own_D_iff (by decide)).mpr z))
   exact J31 XJ29 NJ29 eJ29 (Keep.refl _ _) W (by rw [own_hi_lo hj, List.append_nil]) vW
 intro TJ31 lcJ31 hJ31 XJ31 NJ31 eJ31 KqJ31 W9 hW9 vW9
 have OJ31 := Old.keep OJ1 KqJ31 (allS g_o0 all0)
 have KJ31 : Keep h0 hJ31 ([o0] : List Addr) := Keep.trans KJ1 KqJ31 (allS (Or.inl (List.mem_of_getElem? (i := 0) rfl)) all0)
 show Home TJ31 (mkF m 167 #[sr o0, .val (.int (own_n l_1)), si i2, si a3, .val (.long v), .second, si nd] [])
 refine Home.cut (C := fun E => ∀ {T : State} {lc : List Loc} {hJ : Heap} (X : Stand p l e ({ frames := 1, cells := 0, slots := 0, locals := 15 } : Room) s m #[(.ref o0), (.int (own_n l_1)), (.int i2)] below meth c T lc 0 0) (N : Fr n0 lc) (eT : T.heap = hJ) (Kq : Keep hJ31 hJ ([o0] : List Addr)) (W8 : List Int32) (hW8 : W8 = W ++ own_hi (own_m i2) 8) (vB : Arv Z hJ o0 k_o0 .char (40 : Int32) (List.map Value.int W8) (.int 0)), @Home p e below E T (mkF m 192 #[sr o0, .val (.int (own_n l_1)), si i2, si a3, .val (.long v), .second, si nd] [])) (fun _ J37 => ?_) ?_
 ·
  refine Rn XJ31 hx hby sg1_167_2 171 #[sr o0, .val (.int (own_n l_1)), si i2, si a3, .val (.long v), .second, si nd] [(.int 8), (.int nd)] rfl ?_
  by_cases c38 : (8 : Int32) < nd
  ·
   refine Home.go (fun _ => XS.icmpNo XJ31.here hx rfl (hb hby d1_171) rfl (tlt c38).2.2.2) ?_
   refine Rn XJ31 hx hby sg1_174_7 184 #[sr o0, .val (.int (own_n l_1)), si i2, si a3, .val (.long v), .second, si nd] [(.long v), (.int ((a3 + nd) - (9 : Int32))), (.ref o0)] rfl ?_
   refine Home.go (XJ31.ldc2Long hx hown (mvT hZ (w20 hw)) rfl (hb hby d1_184)) ?_
   refine Home.go (fun _ => XS.ldiv XJ31.here hx rfl (hb hby d1_187) rfl (by decide)) ?_
   refine Home.st (own_pure (own_static XJ31 hx hZ hown (w22 hw) (w23 hw) (w11 hw) (w24 hw) (by decide) (rm2_0 l Z a0 hw [] (v / (100000000 : Int64)) hJ31 n0 OJ31) eJ31 rfl (by rw [hml]; rfl) (argsL := [(.long (v / (100000000 : Int64)))]) (rest := [(.int ((a3 + nd) - (9 : Int32))), (.ref o0)]) (lenOf own_pd9 rfl) rfl rfl (W := 2) (hb hby d1_188))) fun T41 X41 e41 => ?_
   have hj : ¬ (own_m i2) < 10 ^ 8 := (own_D_iff (by decide)).mp (own_ofNat_lt (by omega) (by rw [hnd] at c38; exact c38))
   have hhl := own_hi_len 8 (own_m i2) hj
   have hgo : own_hi (own_m i2) 8 = own_hi (own_m i2) 9 ++ [(Int32.ofNat (48 + (own_m i2) / 10 ^ 8 % 10))] := own_hi_go hj
   have hval : (((48 : Int32) + (((v / (100000000 : Int64)) - ((v / (100000000 : Int64)) / (10 : Int64)) * (10 : Int64)).toInt32)).toUInt32.toUInt16.toUInt32.toInt32) = (Int32.ofNat (48 + (own_m i2) / 10 ^ 8 % 10)) := by rw [hv']; exact own_chv (d := 100000000) (own_m_le _) (by decide)
   rw [hgo, List.length_append] at hhl
   simp only [List.length_cons, List.length_nil] at hhl
   have hWq : W9.length = W.length + (own_hi (own_m i2) 9).length := by rw [hW9, List.length_append]
   have hix : ((a3 + nd) - (9 : Int32)) = Int32.ofNat W9.length ∧ W9.length < 2147483648 := ⟨own_ixe 9 ha3 hnd (by omega) (by omega), by omega⟩
   have hin : ¬ ((a3 + nd) - (9 : Int32)) < (0 : Int32) ∧ ((a3 + nd) - (9 : Int32)) < (40 : Int32) := by rw [hix.1]; exact own_lt40 (by omega)
   rw [hval]
   show Home T41 (mkF m 191 #[sr o0, .val (.int (own_n l_1)), si i2, si a3, .val (.long v), .second, si nd] [(.int (Int32.ofNat (48 + (own_m i2) / 10 ^ 8 % 10))), (.int ((a3 + nd) - (9 : Int32))), (.ref o0)])
   obtain ⟨cl42, Ar42, q42, S42, M42, H42, G42⟩ := id (own_pad1 vW9)
   refine Home.wr (stC X41 hx hZ e41 Ar42 (j := ((a3 + nd) - (9 : Int32))) (inb_of S42 hin) rfl rfl (hb hby d1_191)) fun T42 h42 X42 e42 W42 => ?_
   have W42' := Wr.to W42 (congrArg Value.int (nar_char_id (own_dcb1 (Nat.mod_lt _ (by decide))) (by decide +kernel) (by decide +kernel)))
   have V42 : Arv Z h42 o0 k_o0 .char (40 : Int32) (List.map Value.int (W9 ++ [(Int32.ofNat (48 + (own_m i2) / 10 ^ 8 % 10))])) (.int 0) := own_setS (vs := (W9 ++ [0])) (ws := (W9 ++ [(Int32.ofNat (48 + (own_m i2) / 10 ^ 8 % 10))])) Ar42 q42 S42 M42 H42 G42 (fits_char_b (own_dcb1 (Nat.mod_lt _ (by decide))) (by decide +kernel) (by decide +kernel)) W42' (own_len_mid hix) (own_set_mid hix)
   have k42 : Keep hJ31 h42 ([o0] : List Addr) := Keep.wr (Keep.refl _ _) W42 (Or.inl (List.mem_of_getElem? (i := 0) rfl))
   have N42 := Fr.snoc X42 NJ31 g_o0
   exact J37 X42 N42 e42 k42 (W9 ++ [(Int32.ofNat (48 + (own_m i2) / 10 ^ 8 % 10))]) (by rw [hgo, ← List.append_assoc, ← hW9]) V42
  ·
   refine Home.go (fun _ => XS.icmpYes XJ31.here hx rfl (pc0 := 171) (pc' := 192) rfl (hb hby d1_171) rfl (flt c38).2.2.2 (by decide) (by decide)) ?_
   have hj : (own_m i2) < 10 ^ 8 := Decidable.byContradiction fun z => c38 (by rw [hnd]; exact own_lt_ofNat (by omega) ((own_D_iff (by decide)).mpr z))
   exact J37 XJ31 NJ31 eJ31 (Keep.refl _ _) W9 (by rw [own_hi_lo hj, hW9, own_hi_lo (Nat.lt_of_lt_of_le hj (Nat.pow_le_pow_right (by decide) (Nat.le_succ _)))]) vW9
 intro TJ37 lcJ37 hJ37 XJ37 NJ37 eJ37 KqJ37 W8 hW8 vW8
 have OJ37 := Old.keep OJ31 KqJ37 (allS g_o0 all0)
 have KJ37 : Keep h0 hJ37 ([o0] : List Addr) := Keep.trans KJ31 KqJ37 (allS (Or.inl (List.mem_of_getElem? (i := 0) rfl)) all0)
 show Home TJ37 (mkF m 192 #[sr o0, .val (.int (own_n l_1)), si i2, si a3, .val (.long v), .second, si nd] [])
 refine Home.cut (C := fun E => ∀ {T : State} {lc : List Loc} {hJ : Heap} (X : Stand p l e ({ frames := 1, cells := 0, slots := 0, locals := 15 } : Room) s m #[(.ref o0), (.int (own_n l_1)), (.int i2)] below meth c T lc 0 0) (N : Fr n0 lc) (eT : T.heap = hJ) (Kq : Keep hJ37 hJ ([o0] : List Addr)) (W7 : List Int32) (hW7 : W7 = W ++ own_hi (own_m i2) 7) (vB : Arv Z hJ o0 k_o0 .char (40 : Int32) (List.map Value.int W7) (.int 0)), @Home p e below E T (mkF m 217 #[sr o0, .val (.int (own_n l_1)), si i2, si a3, .val (.long v), .second, si nd] [])) (fun _ J43 => ?_) ?_
 ·
  refine Rn XJ37 hx hby sg1_192_2 196 #[sr o0, .val (.int (own_n l_1)), si i2, si a3, .val (.long v), .second, si nd] [(.int 7), (.int nd)] rfl ?_
  by_cases c44 : (7 : Int32) < nd
  ·
   refine Home.go (fun _ => XS.icmpNo XJ37.here hx rfl (hb hby d1_196) rfl (tlt c44).2.2.2) ?_
   refine Rn XJ37 hx hby sg1_199_7 209 #[sr o0, .val (.int (own_n l_1)), si i2, si a3, .val (.long v), .second, si nd] [(.long v), (.int ((a3 + nd) - (8 : Int32))), (.ref o0)] rfl ?_
   refine Home.go (XJ37.ldc2Long hx hown (mvT hZ (w19 hw)) rfl (hb hby d1_209)) ?_
   refine Home.go (fun _ => XS.ldiv XJ37.here hx rfl (hb hby d1_212) rfl (by decide)) ?_
   refine Home.st (own_pure (own_static XJ37 hx hZ hown (w22 hw) (w23 hw) (w11 hw) (w24 hw) (by decide) (rm2_0 l Z a0 hw [] (v / (10000000 : Int64)) hJ37 n0 OJ37) eJ37 rfl (by rw [hml]; rfl) (argsL := [(.long (v / (10000000 : Int64)))]) (rest := [(.int ((a3 + nd) - (8 : Int32))), (.ref o0)]) (lenOf own_pd9 rfl) rfl rfl (W := 2) (hb hby d1_213))) fun T47 X47 e47 => ?_
   have hj : ¬ (own_m i2) < 10 ^ 7 := (own_D_iff (by decide)).mp (own_ofNat_lt (by omega) (by rw [hnd] at c44; exact c44))
   have hhl := own_hi_len 7 (own_m i2) hj
   have hgo : own_hi (own_m i2) 7 = own_hi (own_m i2) 8 ++ [(Int32.ofNat (48 + (own_m i2) / 10 ^ 7 % 10))] := own_hi_go hj
   have hval : (((48 : Int32) + (((v / (10000000 : Int64)) - ((v / (10000000 : Int64)) / (10 : Int64)) * (10 : Int64)).toInt32)).toUInt32.toUInt16.toUInt32.toInt32) = (Int32.ofNat (48 + (own_m i2) / 10 ^ 7 % 10)) := by rw [hv']; exact own_chv (d := 10000000) (own_m_le _) (by decide)
   rw [hgo, List.length_append] at hhl
   simp only [List.length_cons, List.length_nil] at hhl
   have hWq : W8.length = W.length + (own_hi (own_m i2) 8).length := by rw [hW8, List.length_append]
   have hix : ((a3 + nd) - (8 : Int32)) = Int32.ofNat W8.length ∧ W8.length < 2147483648 := ⟨own_ixe 8 ha3 hnd (by omega) (by omega), by omega⟩
   have hin : ¬ ((a3 + nd) - (8 : Int32)) < (0 : Int32) ∧ ((a3 + nd) - (8 : Int32)) < (40 : Int32) := by rw [hix.1]; exact own_lt40 (by omega)
   rw [hval]
   show Home T47 (mkF m 216 #[sr o0, .val (.int (own_n l_1)), si i2, si a3, .val (.long v), .second, si nd] [(.int (Int32.ofNat (48 + (own_m i2) / 10 ^ 7 % 10))), (.int ((a3 + nd) - (8 : Int32))), (.ref o0)])
   obtain ⟨cl48, Ar48, q48, S48, M48, H48, G48⟩ := id (own_pad1 vW8)
   refine Home.wr (stC X47 hx hZ e47 Ar48 (j := ((a3 + nd) - (8 : Int32))) (inb_of S48 hin) rfl rfl (hb hby d1_216)) fun T48 h48 X48 e48 W48 => ?_
   have W48' := Wr.to W48 (congrArg Value.int (nar_char_id (own_dcb1 (Nat.mod_lt _ (by decide))) (by decide +kernel) (by decide +kernel)))
   have V48 : Arv Z h48 o0 k_o0 .char (40 : Int32) (List.map Value.int (W8 ++ [(Int32.ofNat (48 + (own_m i2) / 10 ^ 7 % 10))])) (.int 0) := own_setS (vs := (W8 ++ [0])) (ws := (W8 ++ [(Int32.ofNat (48 + (own_m i2) / 10 ^ 7 % 10))])) Ar48 q48 S48 M48 H48 G48 (fits_char_b (own_dcb1 (Nat.mod_lt _ (by decide))) (by decide +kernel) (by decide +kernel)) W48' (own_len_mid hix) (own_set_mid hix)
   have k48 : Keep hJ37 h48 ([o0] : List Addr) := Keep.wr (Keep.refl _ _) W48 (Or.inl (List.mem_of_getElem? (i := 0) rfl))
   have N48 := Fr.snoc X48 NJ37 g_o0
   exact J43 X48 N48 e48 k48 (W8 ++ [(Int32.ofNat (48 + (own_m i2) / 10 ^ 7 % 10))]) (by rw [hgo, ← List.append_assoc, ← hW8]) V48
  ·
   refine Home.go (fun _ => XS.icmpYes XJ37.here hx rfl (pc0 := 196) (pc' := 217) rfl (hb hby d1_196) rfl (flt c44).2.2.2 (by decide) (by decide)) ?_
   have hj : (own_m i2) < 10 ^ 7 := Decidable.byContradiction fun z => c44 (by rw [hnd]; exact own_lt_ofNat (by omega) ((own_D_iff (by decide)).mpr z))
   exact J43 XJ37 NJ37 eJ37 (Keep.refl _ _) W8 (by rw [own_hi_lo hj, hW8, own_hi_lo (Nat.lt_of_lt_of_le hj (Nat.pow_le_pow_right (by decide) (Nat.le_succ _)))]) vW8
 intro TJ43 lcJ43 hJ43 XJ43 NJ43 eJ43 KqJ43 W7 hW7 vW7
 have OJ43 := Old.keep OJ37 KqJ43 (allS g_o0 all0)
 have KJ43 : Keep h0 hJ43 ([o0] : List Addr) := Keep.trans KJ37 KqJ43 (allS (Or.inl (List.mem_of_getElem? (i := 0) rfl)) all0)
 show Home TJ43 (mkF m 217 #[sr o0, .val (.int (own_n l_1)), si i2, si a3, .val (.long v), .second, si nd] [])
 refine Home.cut (C := fun E => ∀ {T : State} {lc : List Loc} {hJ : Heap} (X : Stand p l e ({ frames := 1, cells := 0, slots := 0, locals := 15 } : Room) s m #[(.ref o0), (.int (own_n l_1)), (.int i2)] below meth c T lc 0 0) (N : Fr n0 lc) (eT : T.heap = hJ) (Kq : Keep hJ43 hJ ([o0] : List Addr)) (W6 : List Int32) (hW6 : W6 = W ++ own_hi (own_m i2) 6) (vB : Arv Z hJ o0 k_o0 .char (40 : Int32) (List.map Value.int W6) (.int 0)), @Home p e below E T (mkF m 242 #[sr o0, .val (.int (own_n l_1)), si i2, si a3, .val (.long v), .second, si nd] [])) (fun _ J49 => ?_) ?_
 ·
  refine Rn XJ43 hx hby sg1_217_2 221 #[sr o0, .val (.int (own_n l_1)), si i2, si a3, .val (.long v), .second, si nd] [(.int 6), (.int nd)] rfl ?_
  by_cases c50 : (6 : Int32) < nd
  ·
   refine Home.go (fun _ => XS.icmpNo XJ43.here hx rfl (hb hby d1_221) rfl (tlt c50).2.2.2) ?_
   refine Rn XJ43 hx hby sg1_224_7 234 #[sr o0, .val (.int (own_n l_1)), si i2, si a3, .val (.long v), .second, si nd] [(.long v), (.int ((a3 + nd) - (7 : Int32))), (.ref o0)] rfl ?_
   refine Home.go (XJ43.ldc2Long hx hown (mvT hZ (w18 hw)) rfl (hb hby d1_234)) ?_
   refine Home.go (fun _ => XS.ldiv XJ43.here hx rfl (hb hby d1_237) rfl (by decide)) ?_
   refine Home.st (own_pure (own_static XJ43 hx hZ hown (w22 hw) (w23 hw) (w11 hw) (w24 hw) (by decide) (rm2_0 l Z a0 hw [] (v / (1000000 : Int64)) hJ43 n0 OJ43) eJ43 rfl (by rw [hml]; rfl) (argsL := [(.long (v / (1000000 : Int64)))]) (rest := [(.int ((a3 + nd) - (7 : Int32))), (.ref o0)]) (lenOf own_pd9 rfl) rfl rfl (W := 2) (hb hby d1_238))) fun T53 X53 e53 => ?_
   have hj : ¬ (own_m i2) < 10 ^ 6 := (own_D_iff (by decide)).mp (own_ofNat_lt (by omega) (by rw [hnd] at c50; exact c50))
   have hhl := own_hi_len 6 (own_m i2) hj
   have hgo : own_hi (own_m i2) 6 = own_hi (own_m i2) 7 ++ [(Int32.ofNat (48 + (own_m i2) / 10 ^ 6 % 10))] := own_hi_go hj
   have hval : (((48 : Int32) + (((v / (1000000 : Int64)) - ((v / (1000000 : Int64)) / (10 : Int64)) * (10 : Int64)).toInt32)).toUInt32.toUInt16.toUInt32.toInt32) = (Int32.ofNat (48 + (own_m i2) / 10 ^ 6 % 10)) := by rw [hv']; exact own_chv (d := 1000000) (own_m_le _) (by decide)
   rw [hgo, List.length_append] at hhl
   simp only [List.length_cons, List.length_nil] at hhl
   have hWq : W7.length = W.length + (own_hi (own_m i2) 7).length := by rw [hW7, List.length_append]
   have hix : ((a3 + nd) - (7 : Int32)) = Int32.ofNat W7.length ∧ W7.length < 2147483648 := ⟨own_ixe 7 ha3 hnd (by omega) (by omega), by omega⟩
   have hin : ¬ ((a3 + nd) - (7 : Int32)) < (0 : Int32) ∧ ((a3 + nd) - (7 : Int32)) < (40 : Int32) := by rw [hix.1]; exact own_lt40 (by omega)
   rw [hval]
   show Home T53 (mkF m 241 #[sr o0, .val (.int (own_n l_1)), si i2, si a3, .val (.long v), .second, si nd] [(.int (Int32.ofNat (48 + (own_m i2) / 10 ^ 6 % 10))), (.int ((a3 + nd) - (7 : Int32))), (.ref o0)])
   obtain ⟨cl54, Ar54, q54, S54, M54, H54, G54⟩ := id (own_pad1 vW7)
   refine Home.wr (stC X53 hx hZ e53 Ar54 (j := ((a3 + nd) - (7 : Int32))) (inb_of S54 hin) rfl rfl (hb hby d1_241)) fun T54 h54 X54 e54 W54 => ?_
   have W54' := Wr.to W54 (congrArg Value.int (nar_char_id (own_dcb1 (Nat.mod_lt _ (by decide))) (by decide +kernel) (by decide +kernel)))
   have V54 : Arv Z h54 o0 k_o0 .char (40 : Int32) (List.map Value.int (W7 ++ [(Int32.ofNat (48 + (own_m i2) / 10 ^ 6 % 10))])) (.int 0) := own_setS (vs := (W7 ++ [0])) (ws := (W7 ++ [(Int32.ofNat (48 + (own_m i2) / 10 ^ 6 % 10))])) Ar54 q54 S54 M54 H54 G54 (fits_char_b (own_dcb1 (Nat.mod_lt _ (by decide))) (by decide +kernel) (by decide +kernel)) W54' (own_len_mid hix) (own_set_mid hix)
   have k54 : Keep hJ43 h54 ([o0] : List Addr) := Keep.wr (Keep.refl _ _) W54 (Or.inl (List.mem_of_getElem? (i := 0) rfl))
   have N54 := Fr.snoc X54 NJ43 g_o0
   exact J49 X54 N54 e54 k54 (W7 ++ [(Int32.ofNat (48 + (own_m i2) / 10 ^ 6 % 10))]) (by rw [hgo, ← List.append_assoc, ← hW7]) V54
  ·
   refine Home.go (fun _ => XS.icmpYes XJ43.here hx rfl (pc0 := 221) (pc' := 242) rfl (hb hby d1_221) rfl (flt c50).2.2.2 (by decide) (by decide)) ?_
   have hj : (own_m i2) < 10 ^ 6 := Decidable.byContradiction fun z => c50 (by rw [hnd]; exact own_lt_ofNat (by omega) ((own_D_iff (by decide)).mpr z))
   exact J49 XJ43 NJ43 eJ43 (Keep.refl _ _) W7 (by rw [own_hi_lo hj, hW7, own_hi_lo (Nat.lt_of_lt_of_le hj (Nat.pow_le_pow_right (by decide) (Nat.le_succ _)))]) vW7
 intro TJ49 lcJ49 hJ49 XJ49 NJ49 eJ49 KqJ49 W6 hW6 vW6
 have OJ49 := Old.keep OJ43 KqJ49 (allS g_o0 all0)
 have KJ49 : Keep h0 hJ49 ([o0] : List Addr) := Keep.trans KJ43 KqJ49 (allS (Or.inl (List.mem_of_getElem? (i := 0) rfl)) all0)
 show Home TJ49 (mkF m 242 #[sr o0, .val (.int (own_n l_1)), si i2, si a3, .val (.long v), .second, si nd] [])
 refine Home.cut (C := fun E => ∀ {T : State} {lc : List Loc} {hJ : Heap} (X : Stand p l e ({ frames := 1, cells := 0, slots := 0, locals := 15 } : Room) s m #[(.ref o0), (.int (own_n l_1)), (.int i2)] below meth c T lc 0 0) (N : Fr n0 lc) (eT : T.heap = hJ) (Kq : Keep hJ49 hJ ([o0] : List Addr)) (W5 : List Int32) (hW5 : W5 = W ++ own_hi (own_m i2) 5) (vB : Arv Z hJ o0 k_o0 .char (40 : Int32) (List.map Value.int W5) (.int 0)), @Home p e below E T (mkF m 266 #[sr o0, .val (.int (own_n l_1)), si i2, si a3, .val (.long v), .second, si nd] [])) (fun _ J55 => ?_) ?_
 ·
  refine Rn XJ49 hx hby sg1_242_2 245 #[sr o0, .val (.int (own_n l_1)), si i2, si a3, .val (.long v), .second, si nd] [(.int 5), (.int nd)] rfl ?_
  by_cases c56 : (5 : Int32) < nd
  ·
   refine Home.go (fun _ => XS.icmpNo XJ49.here hx rfl (hb hby d1_245) rfl (tlt c56).2.2.2) ?_
   refine Rn XJ49 hx hby sg1_248_7 258 #[sr o0, .val (.int (own_n l_1)), si i2, si a3, .val (.long v), .second, si nd] [(.long v), (.int ((a3 + nd) - (6 : Int32))), (.ref o0)] rfl ?_
   refine Home.go (XJ49.ldc2Long hx hown (mvT hZ (w17 hw)) rfl (hb hby d1_258)) ?_
   refine Home.go (fun _ => XS.ldiv XJ49.here hx rfl (hb hby d1_261) rfl (by decide)) ?_
   refine Home.st (own_pure (own_static XJ49 hx hZ hown (w22 hw) (w23 hw) (w11 hw) (w24 hw) (by decide) (rm2_0 l Z a0 hw [] (v / (100000 : Int64)) hJ49 n0 OJ49) eJ49 rfl (by rw [hml]; rfl) (argsL := [(.long (v / (100000 : Int64)))]) (rest := [(.int ((a3 + nd) - (6 : Int32))), (.ref o0)]) (lenOf own_pd9 rfl) rfl rfl (W := 2) (hb hby d1_262))) fun T59 X59 e59 => ?_
   have hj : ¬ (own_m i2) < 10 ^ 5 := (own_D_iff (by decide)).mp (own_ofNat_lt (by omega) (by rw [hnd] at c56; exact c56))
   have hhl := own_hi_len 5 (own_m i2) hj
   have hgo : own_hi (own_m i2) 5 = own_hi (own_m i2) 6 ++ [(Int32.ofNat (48 + (own_m i2) / 10 ^ 5 % 10))] := own_hi_go hj
   have hval : (((48 : Int32) + (((v / (100000 : Int64)) - ((v / (100000 : Int64)) / (10 : Int64)) * (10 : Int64)).toInt32)).toUInt32.toUInt16.toUInt32.toInt32) = (Int32.ofNat (48 + (own_m i2) / 10 ^ 5 % 10)) := by rw [hv']; exact own_chv (d := 100000) (own_m_le _) (by decide)
   rw [hgo, List.length_append] at hhl
   simp only [List.length_cons, List.length_nil] at hhl
   have hWq : W6.length = W.length + (own_hi (own_m i2) 6).length := by rw [hW6, List.length_append]
   have hix : ((a3 + nd) - (6 : Int32)) = Int32.ofNat W6.length ∧ W6.length < 2147483648 := ⟨own_ixe 6 ha3 hnd (by omega) (by omega), by omega⟩
   have hin : ¬ ((a3 + nd) - (6 : Int32)) < (0 : Int32) ∧ ((a3 + nd) - (6 : Int32)) < (40 : Int32) := by rw [hix.1]; exact own_lt40 (by omega)
   rw [hval]
   show Home T59 (mkF m 265 #[sr o0, .val (.int (own_n l_1)), si i2, si a3, .val (.long v), .second, si nd] [(.int (Int32.ofNat (48 + (own_m i2) / 10 ^ 5 % 10))), (.int ((a3 + nd) - (6 : Int32))), (.ref o0)])
   obtain ⟨cl60, Ar60, q60, S60, M60, H60, G60⟩ := id (own_pad1 vW6)
   refine Home.wr (stC X59 hx hZ e59 Ar60 (j := ((a3 + nd) - (6 : Int32))) (inb_of S60 hin) rfl rfl (hb hby d1_265)) fun T60 h60 X60 e60 W60 => ?_
   have W60' := Wr.to W60 (congrArg Value.int (nar_char_id (own_dcb1 (Nat.mod_lt _ (by decide))) (by decide +kernel) (by decide +kernel)))
   have V60 : Arv Z h60 o0 k_o0 .char (40 : Int32) (List.map Value.int (W6 ++ [(Int32.ofNat (48 + (own_m i2) / 10 ^ 5 % 10))])) (.int 0) := own_setS (vs := (W6 ++ [0])) (ws := (W6 ++ [(Int32.ofNat (48 + (own_m i2) / 10 ^ 5 % 10))])) Ar60 q60 S60 M60 H60 G60 (fits_char_b (own_dcb1 (Nat.mod_lt _ (by decide))) (by decide +kernel) (by decide +kernel)) W60' (own_len_mid hix) (own_set_mid hix)
   have k60 : Keep hJ49 h60 ([o0] : List Addr) := Keep.wr (Keep.refl _ _) W60 (Or.inl (List.mem_of_getElem? (i := 0) rfl))
   have N60 := Fr.snoc X60 NJ49 g_o0
   exact J55 X60 N60 e60 k60 (W6 ++ [(Int32.ofNat (48 + (own_m i2) / 10 ^ 5 % 10))]) (by rw [hgo, ← List.append_assoc, ← hW6]) V60
  ·
   refine Home.go (fun _ => XS.icmpYes XJ49.here hx rfl (pc0 := 245) (pc' := 266) rfl (hb hby d1_245) rfl (flt c56).2.2.2 (by decide) (by decide)) ?_
   have hj : (own_m i2) < 10 ^ 5 := Decidable.byContradiction fun z => c56 (by rw [hnd]; exact own_lt_ofNat (by omega) ((own_D_iff (by decide)).mpr z))
   exact J55 XJ49 NJ49 eJ49 (Keep.refl _ _) W6 (by rw [own_hi_lo hj, hW6, own_hi_lo (Nat.lt_of_lt_of_le hj (Nat.pow_le_pow_right (by decide) (Nat.le_succ _)))]) vW6
 intro TJ55 lcJ55 hJ55 XJ55 NJ55 eJ55 KqJ55 W5 hW5 vW5
 have OJ55 := Old.keep OJ49 KqJ55 (allS g_o0 all0)
 have KJ55 : Keep h0 hJ55 ([o0] : List Addr) := Keep.trans KJ49 KqJ55 (allS (Or.inl (List.mem_of_getElem? (i := 0) rfl)) all0)
 show Home TJ55 (mkF m 266 #[sr o0, .val (.int (own_n l_1)), si i2, si a3, .val (.long v), .second, si nd] [])
 refine Home.cut (C := fun E => ∀ {T : State} {lc : List Loc} {hJ : Heap} (X : Stand p l e ({ frames := 1, cells := 0, slots := 0, locals := 15 } : Room) s m #[(.ref o0), (.int (own_n l_1)), (.int i2)] below meth c T lc 0 0) (N : Fr n0 lc) (eT : T.heap = hJ) (Kq : Keep hJ55 hJ ([o0] : List Addr)) (W4 : List Int32) (hW4 : W4 = W ++ own_hi (own_m i2) 4) (vB : Arv Z hJ o0 k_o0 .char (40 : Int32) (List.map Value.int W4) (.int 0)), @Home p e below E T (mkF m 289 #[sr o0, .val (.int (own_n l_1)), si i2, si a3, .val (.long v), .second, si nd] [])) (fun _ J61 => ?_) ?_
 ·
  refine Rn XJ55 hx hby sg1_266_2 269 #[sr o0, .val (.int (own_n l_1)), si i2, si a3, .val (.long v), .second, si nd] [(.int 4), (.int nd)] rfl ?_
  by_cases c62 : (4 : Int32) < nd
  ·
   refine Home.go (fun _ => XS.icmpNo XJ55.here hx rfl (hb hby d1_269) rfl (tlt c62).2.2.2) ?_
   refine Rn XJ55 hx hby sg1_272_7 281 #[sr o0, .val (.int (own_n l_1)), si i2, si a3, .val (.long v), .second, si nd] [(.long v), (.int ((a3 + nd) - (5 : Int32))), (.ref o0)] rfl ?_
   refine Home.go (XJ55.ldc2Long hx hown (mvT hZ (w16 hw)) rfl (hb hby d1_281)) ?_
   refine Home.go (fun _ => XS.ldiv XJ55.here hx rfl (hb hby d1_284) rfl (by decide)) ?_
   refine Home.st (own_pure (own_static XJ55 hx hZ hown (w22 hw) (w23 hw) (w11 hw) (w24 hw) (by decide) (rm2_0 l Z a0 hw [] (v / (10000 : Int64)) hJ55 n0 OJ55) eJ55 rfl (by rw [hml]; rfl) (argsL := [(.long (v / (10000 : Int64)))]) (rest := [(.int ((a3 + nd) - (5 : Int32))), (.ref o0)]) (lenOf own_pd9 rfl) rfl rfl (W := 2) (hb hby d1_285))) fun T65 X65 e65 => ?_
   have hj : ¬ (own_m i2) < 10 ^ 4 := (own_D_iff (by decide)).mp (own_ofNat_lt (by omega) (by rw [hnd] at c62; exact c62))
   have hhl := own_hi_len 4 (own_m i2) hj
   have hgo : own_hi (own_m i2) 4 = own_hi (own_m i2) 5 ++ [(Int32.ofNat (48 + (own_m i2) / 10 ^ 4 % 10))] := own_hi_go hj
   have hval : (((48 : Int32) + (((v / (10000 : Int64)) - ((v / (10000 : Int64)) / (10 : Int64)) * (10 : Int64)).toInt32)).toUInt32.toUInt16.toUInt32.toInt32) = (Int32.ofNat (48 + (own_m i2) / 10 ^ 4 % 10)) := by rw [hv']; exact own_chv (d := 10000) (own_m_le _) (by decide)
   rw [hgo, List.length_append] at hhl
   simp only [List.length_cons, List.length_nil] at hhl
   have hWq : W5.length = W.length + (own_hi (own_m i2) 5).length := by rw [hW5, List.length_append]
   have hix : ((a3 + nd) - (5 : Int32)) = Int32.ofNat W5.length ∧ W5.length < 2147483648 := ⟨own_ixe 5 ha3 hnd (by omega) (by omega), by omega⟩
   have hin : ¬ ((a3 + nd) - (5 : Int32)) < (0 : Int32) ∧ ((a3 + nd) - (5 : Int32)) < (40 : Int32) := by rw [hix.1]; exact own_lt40 (by omega)
   rw [hval]
   show Home T65 (mkF m 288 #[sr o0, .val (.int (own_n l_1)), si i2, si a3, .val (.long v), .second, si nd] [(.int (Int32.ofNat (48 + (own_m i2) / 10 ^ 4 % 10))), (.int ((a3 + nd) - (5 : Int32))), (.ref o0)])
   obtain ⟨cl66, Ar66, q66, S66, M66, H66, G66⟩ := id (own_pad1 vW5)
   refine Home.wr (stC X65 hx hZ e65 Ar66 (j := ((a3 + nd) - (5 : Int32))) (inb_of S66 hin) rfl rfl (hb hby d1_288)) fun T66 h66 X66 e66 W66 => ?_
   have W66' := Wr.to W66 (congrArg Value.int (nar_char_id (own_dcb1 (Nat.mod_lt _ (by decide))) (by decide +kernel) (by decide +kernel)))
   have V66 : Arv Z h66 o0 k_o0 .char (40 : Int32) (List.map Value.int (W5 ++ [(Int32.ofNat (48 + (own_m i2) / 10 ^ 4 % 10))])) (.int 0) := own_setS (vs := (W5 ++ [0])) (ws := (W5 ++ [(Int32.ofNat (48 + (own_m i2) / 10 ^ 4 % 10))])) Ar66 q66 S66 M66 H66 G66 (fits_char_b (own_dcb1 (Nat.mod_lt _ (by decide))) (by decide +kernel) (by decide +kernel)) W66' (own_len_mid hix) (own_set_mid hix)
   have k66 : Keep hJ55 h66 ([o0] : List Addr) := Keep.wr (Keep.refl _ _) W66 (Or.inl (List.mem_of_getElem? (i := 0) rfl))
   have N66 := Fr.snoc X66 NJ55 g_o0
   exact J61 X66 N66 e66 k66 (W5 ++ [(Int32.ofNat (48 + (own_m i2) / 10 ^ 4 % 10))]) (by rw [hgo, ← List.append_assoc, ← hW5]) V66
  ·
   refine Home.go (fun _ => XS.icmpYes XJ55.here hx rfl (pc0 := 269) (pc' := 289) rfl (hb hby d1_269) rfl (flt c62).2.2.2 (by decide) (by decide)) ?_
   have hj : (own_m i2) < 10 ^ 4 := Decidable.byContradiction fun z => c62 (by rw [hnd]; exact own_lt_ofNat (by omega) ((own_D_iff (by decide)).mpr z))
   exact J61 XJ55 NJ55 eJ55 (Keep.refl _ _) W5 (by rw [own_hi_lo hj, hW5, own_hi_lo (Nat.lt_of_lt_of_le hj (Nat.pow_le_pow_right (by decide) (Nat.le_succ _)))]) vW5
 intro TJ61 lcJ61 hJ61 XJ61 NJ61 eJ61 KqJ61 W4 hW4 vW4
 have OJ61 := Old.keep OJ55 KqJ61 (allS g_o0 all0)
 have KJ61 : Keep h0 hJ61 ([o0] : List Addr) := Keep.trans KJ55 KqJ61 (allS (Or.inl (List.mem_of_getElem? (i := 0) rfl)) all0)
 show Home TJ61 (mkF m 289 #[sr o0, .val (.int (own_n l_1)), si i2, si a3, .val (.long v), .second, si nd] [])
 refine Home.cut (C := fun E => ∀ {T : State} {lc : List Loc} {hJ : Heap} (X : Stand p l e ({ frames := 1, cells := 0, slots := 0, locals := 15 } : Room) s m #[(.ref o0), (.int (own_n l_1)), (.int i2)] below meth c T lc 0 0) (N : Fr n0 lc) (eT : T.heap = hJ) (Kq : Keep hJ61 hJ ([o0] : List Addr)) (W3 : List Int32) (hW3 : W3 = W ++ own_hi (own_m i2) 3) (vB : Arv Z hJ o0 k_o0 .char (40 : Int32) (List.map Value.int W3) (.int 0)), @Home p e below E T (mkF m 312 #[sr o0, .val (.int (own_n l_1)), si i2, si a3, .val (.long v), .second, si nd] [])) (fun _ J67 => ?_) ?_
 ·
  refine Rn XJ61 hx hby sg1_289_2 292 #[sr o0, .val (.int (own_n l_1)), si i2, si a3, .val (.long v), .second, si nd] [(.int 3), (.int nd)] rfl ?_
  by_cases c68 : (3 : Int32) < nd
  ·
   refine Home.go (fun _ => XS.icmpNo XJ61.here hx rfl (hb hby d1_292) rfl (tlt c68).2.2.2) ?_
   refine Rn XJ61 hx hby sg1_295_7 304 #[sr o0, .val (.int (own_n l_1)), si i2, si a3, .val (.long v), .second, si nd] [(.long v), (.int ((a3 + nd) - (4 : Int32))), (.ref o0)] rfl ?_
   refine Home.go (XJ61.ldc2Long hx hown (mvT hZ (w15 hw)) rfl (hb hby d1_304)) ?_
   refine Home.go (fun _ => XS.ldiv XJ61.here hx rfl (hb hby d1_307) rfl (by decide)) ?_
   refine Home.st (own_pure (own_static XJ61 hx hZ hown (w22 hw) (w23 hw) (w11 hw) (w24 hw) (by decide) (rm2_0 l Z a0 hw [] (v / (1000 : Int64)) hJ61 n0 OJ61) eJ61 rfl (by rw [hml]; rfl) (argsL := [(.long (v / (1000 : Int64)))]) (rest := [(.int ((a3 + nd) - (4 : Int32))), (.ref o0)]) (lenOf own_pd9 rfl) rfl rfl (W := 2) (hb hby d1_308))) fun T71 X71 e71 => ?_
   have hj : ¬ (own_m i2) < 10 ^ 3 := (own_D_iff (by decide)).mp (own_ofNat_lt (by omega) (by rw [hnd] at c68; exact c68))
   have hhl := own_hi_len 3 (own_m i2) hj
   have hgo : own_hi (own_m i2) 3 = own_hi (own_m i2) 4 ++ [(Int32.ofNat (48 + (own_m i2) / 10 ^ 3 % 10))] := own_hi_go hj
   have hval : (((48 : Int32) + (((v / (1000 : Int64)) - ((v / (1000 : Int64)) / (10 : Int64)) * (10 : Int64)).toInt32)).toUInt32.toUInt16.toUInt32.toInt32) = (Int32.ofNat (48 + (own_m i2) / 10 ^ 3 % 10)) := by rw [hv']; exact own_chv (d := 1000) (own_m_le _) (by decide)
   rw [hgo, List.length_append] at hhl
   simp only [List.length_cons, List.length_nil] at hhl
   have hWq : W4.length = W.length + (own_hi (own_m i2) 4).length := by rw [hW4, List.length_append]
   have hix : ((a3 + nd) - (4 : Int32)) = Int32.ofNat W4.length ∧ W4.length < 2147483648 := ⟨own_ixe 4 ha3 hnd (by omega) (by omega), by omega⟩
   have hin : ¬ ((a3 + nd) - (4 : Int32)) < (0 : Int32) ∧ ((a3 + nd) - (4 : Int32)) < (40 : Int32) := by rw [hix.1]; exact own_lt40 (by omega)
   rw [hval]
   show Home T71 (mkF m 311 #[sr o0, .val (.int (own_n l_1)), si i2, si a3, .val (.long v), .second, si nd] [(.int (Int32.ofNat (48 + (own_m i2) / 10 ^ 3 % 10))), (.int ((a3 + nd) - (4 : Int32))), (.ref o0)])
   obtain ⟨cl72, Ar72, q72, S72, M72, H72, G72⟩ := id (own_pad1 vW4)
   refine Home.wr (stC X71 hx hZ e71 Ar72 (j := ((a3 + nd) - (4 : Int32))) (inb_of S72 hin) rfl rfl (hb hby d1_311)) fun T72 h72 X72 e72 W72 => ?_
   have W72' := Wr.to W72 (congrArg Value.int (nar_char_id (own_dcb1 (Nat.mod_lt _ (by decide))) (by decide +kernel) (by decide +kernel)))
   have V72 : Arv Z h72 o0 k_o0 .char (40 : Int32) (List.map Value.int (W4 ++ [(Int32.ofNat (48 + (own_m i2) / 10 ^ 3 % 10))])) (.int 0) := own_setS (vs := (W4 ++ [0])) (ws := (W4 ++ [(Int32.ofNat (48 + (own_m i2) / 10 ^ 3 % 10))])) Ar72 q72 S72 M72 H72 G72 (fits_char_b (own_dcb1 (Nat.mod_lt _ (by decide))) (by decide +kernel) (by decide +kernel)) W72' (own_len_mid hix) (own_set_mid hix)
   have k72 : Keep hJ61 h72 ([o0] : List Addr) := Keep.wr (Keep.refl _ _) W72 (Or.inl (List.mem_of_getElem? (i := 0) rfl))
   have N72 := Fr.snoc X72 NJ61 g_o0
   exact J67 X72 N72 e72 k72 (W4 ++ [(Int32.ofNat (48 + (own_m i2) / 10 ^ 3 % 10))]) (by rw [hgo, ← List.append_assoc, ← hW4]) V72
  ·
   refine Home.go (fun _ => XS.icmpYes XJ61.here hx rfl (pc0 := 292) (pc' := 312) rfl (hb hby d1_292) rfl (flt c68).2.2.2 (by decide) (by decide)) ?_
   have hj : (own_m i2) < 10 ^ 3 := Decidable.byContradiction fun z => c68 (by rw [hnd]; exact own_lt_ofNat (by omega) ((own_D_iff (by decide)).mpr z))
   exact J67 XJ61 NJ61 eJ61 (Keep.refl _ _) W4 (by rw [own_hi_lo hj, hW4, own_hi_lo (Nat.lt_of_lt_of_le hj (Nat.pow_le_pow_right (by decide) (Nat.le_succ _)))]) vW4
 intro TJ67 lcJ67 hJ67 XJ67 NJ67 eJ67 KqJ67 W3 hW3 vW3
 have OJ67 := Old.keep OJ61 KqJ67 (allS g_o0 all0)
 have KJ67 : Keep h0 hJ67 ([o0] : List Addr) := Keep.trans KJ61 KqJ67 (allS (Or.inl (List.mem_of_getElem? (i := 0) rfl)) all0)
 show Home TJ67 (mkF m 312 #[sr o0, .val (.int (own_n l_1)), si i2, si a3, .val (.long v), .second, si nd] [])
 refine Home.cut (C := fun E => ∀ {T : State} {lc : List Loc} {hJ : Heap} (X : Stand p l e ({ frames := 1, cells := 0, slots := 0, locals := 15 } : Room) s m #[(.ref o0), (.int (own_n l_1)), (.int i2)] below meth c T lc 0 0) (N : Fr n0 lc) (eT : T.heap = hJ) (Kq : Keep hJ67 hJ ([o0] : List Addr)) (W2 : List Int32) (hW2 : W2 = W ++ own_hi (own_m i2) 2) (vB : Arv Z hJ o0 k_o0 .char (40 : Int32) (List.map Value.int W2) (.int 0)), @Home p e below E T (mkF m 335 #[sr o0, .val (.int (own_n l_1)), si i2, si a3, .val (.long v), .second, si nd] [])) (fun _ J73 => ?_) ?_
 ·
  refine Rn XJ67 hx hby sg1_312_2 315 #[sr o0, .val (.int (own_n l_1)), si i2, si a3, .val (.long v), .second, si nd] [(.int 2), (.int nd)] rfl ?_
  by_cases c74 : (2 : Int32) < nd
  ·
   refine Home.go (fun _ => XS.icmpNo XJ67.here hx rfl (hb hby d1_315) rfl (tlt c74).2.2.2) ?_
   refine Rn XJ67 hx hby sg1_318_7 327 #[sr o0, .val (.int (own_n l_1)), si i2, si a3, .val (.long v), .second, si nd] [(.long v), (.int ((a3 + nd) - (3 : Int32))), (.ref o0)] rfl ?_
   refine Home.go (XJ67.ldc2Long hx hown (mvT hZ (w14 hw)) rfl (hb hby d1_327)) ?_
   refine Home.go (fun _ => XS.ldiv XJ67.here hx rfl (hb hby d1_330) rfl (by decide)) ?_
   refine Home.st (own_pure (own_static XJ67 hx hZ hown (w22 hw) (w23 hw) (w11 hw) (w24 hw) (by decide) (rm2_0 l Z a0 hw [] (v / (100 : Int64)) hJ67 n0 OJ67) eJ67 rfl (by rw [hml]; rfl) (argsL := [(.long (v / (100 : Int64)))]) (rest := [(.int ((a3 + nd) - (3 : Int32))), (.ref o0)]) (lenOf own_pd9 rfl) rfl rfl (W := 2) (hb hby d1_331))) fun T77 X77 e77 => ?_
   have hj : ¬ (own_m i2) < 10 ^ 2 := (own_D_iff (by decide)).mp (own_ofNat_lt (by omega) (by rw [hnd] at c74; exact c74))
   have hhl := own_hi_len 2 (own_m i2) hj
   have hgo : own_hi (own_m i2) 2 = own_hi (own_m i2) 3 ++ [(Int32.ofNat (48 + (own_m i2) / 10 ^ 2 % 10))] := own_hi_go hj
   have hval : (((48 : Int32) + (((v / (100 : Int64)) - ((v / (100 : Int64)) / (10 : Int64)) * (10 : Int64)).toInt32)).toUInt32.toUInt16.toUInt32.toInt32) = (Int32.ofNat (48 + (own_m i2) / 10 ^ 2 % 10)) := by rw [hv']; exact own_chv (d := 100) (own_m_le _) (by decide)
   rw [hgo, List.length_append] at hhl
   simp only [List.length_cons, List.length_nil] at hhl
   have hWq : W3.length = W.length + (own_hi (own_m i2) 3).length := by rw [hW3, List.length_append]
   have hix : ((a3 + nd) - (3 : Int32)) = Int32.ofNat W3.length ∧ W3.length < 2147483648 := ⟨own_ixe 3 ha3 hnd (by omega) (by omega), by omega⟩
   have hin : ¬ ((a3 + nd) - (3 : Int32)) < (0 : Int32) ∧ ((a3 + nd) - (3 : Int32)) < (40 : Int32) := by rw [hix.1]; exact own_lt40 (by omega)
   rw [hval]
   show Home T77 (mkF m 334 #[sr o0, .val (.int (own_n l_1)), si i2, si a3, .val (.long v), .second, si nd] [(.int (Int32.ofNat (48 + (own_m i2) / 10 ^ 2 % 10))), (.int ((a3 + nd) - (3 : Int32))), (.ref o0)])
   obtain ⟨cl78, Ar78, q78, S78, M78, H78, G78⟩ := id (own_pad1 vW3)
   refine Home.wr (stC X77 hx hZ e77 Ar78 (j := ((a3 + nd) - (3 : Int32))) (inb_of S78 hin) rfl rfl (hb hby d1_334)) fun T78 h78 X78 e78 W78 => ?_
   have W78' := Wr.to W78 (congrArg Value.int (nar_char_id (own_dcb1 (Nat.mod_lt _ (by decide))) (by decide +kernel) (by decide +kernel)))
   have V78 : Arv Z h78 o0 k_o0 .char (40 : Int32) (List.map Value.int (W3 ++ [(Int32.ofNat (48 + (own_m i2) / 10 ^ 2 % 10))])) (.int 0) := own_setS (vs := (W3 ++ [0])) (ws := (W3 ++ [(Int32.ofNat (48 + (own_m i2) / 10 ^ 2 % 10))])) Ar78 q78 S78 M78 H78 G78 (fits_char_b (own_dcb1 (Nat.mod_lt _ (by decide))) (by decide +kernel) (by decide +kernel)) W78' (own_len_mid hix) (own_set_mid hix)
   have k78 : Keep hJ67 h78 ([o0] : List Addr) := Keep.wr (Keep.refl _ _) W78 (Or.inl (List.mem_of_getElem? (i := 0) rfl))
   have N78 := Fr.snoc X78 NJ67 g_o0
   exact J73 X78 N78 e78 k78 (W3 ++ [(Int32.ofNat (48 + (own_m i2) / 10 ^ 2 % 10))]) (by rw [hgo, ← List.append_assoc, ← hW3]) V78
  ·
   refine Home.go (fun _ => XS.icmpYes XJ67.here hx rfl (pc0 := 315) (pc' := 335) rfl (hb hby d1_315) rfl (flt c74).2.2.2 (by decide) (by decide)) ?_
   have hj : (own_m i2) < 10 ^ 2 := Decidable.byContradiction fun z => c74 (by rw [hnd]; exact own_lt_ofNat (by omega) ((own_D_iff (by decide)).mpr z))
   exact J73 XJ67 NJ67 eJ67 (Keep.refl _ _) W3 (by rw [own_hi_lo hj, hW3, own_hi_lo (Nat.lt_of_lt_of_le hj (Nat.pow_le_pow_right (by decide) (Nat.le_succ _)))]) vW3
 intro TJ73 lcJ73 hJ73 XJ73 NJ73 eJ73 KqJ73 W2 hW2 vW2
 have OJ73 := Old.keep OJ67 KqJ73 (allS g_o0 all0)
 have KJ73 : Keep h0 hJ73 ([o0] : List Addr) := Keep.trans KJ67 KqJ73 (allS (Or.inl (List.mem_of_getElem? (i := 0) rfl)) all0)
 show Home TJ73 (mkF m 335 #[sr o0, .val (.int (own_n l_1)), si i2, si a3, .val (.long v), .second, si nd] [])
 refine Home.cut (C := fun E => ∀ {T : State} {lc : List Loc} {hJ : Heap} (X : Stand p l e ({ frames := 1, cells := 0, slots := 0, locals := 15 } : Room) s m #[(.ref o0), (.int (own_n l_1)), (.int i2)] below meth c T lc 0 0) (N : Fr n0 lc) (eT : T.heap = hJ) (Kq : Keep hJ73 hJ ([o0] : List Addr)) (W1 : List Int32) (hW1 : W1 = W ++ own_hi (own_m i2) 1) (vB : Arv Z hJ o0 k_o0 .char (40 : Int32) (List.map Value.int W1) (.int 0)), @Home p e below E T (mkF m 358 #[sr o0, .val (.int (own_n l_1)), si i2, si a3, .val (.long v), .second, si nd] [])) (fun _ J79 => ?_) ?_
 ·
  refine Rn XJ73 hx hby sg1_335_2 338 #[sr o0, .val (.int (own_n l_1)), si i2, si a3, .val (.long v), .second, si nd] [(.int 1), (.int nd)] rfl ?_
  by_cases c80 : (1 : Int32) < nd
  ·
   refine Home.go (fun _ => XS.icmpNo XJ73.here hx rfl (hb hby d1_338) rfl (tlt c80).2.2.2) ?_
   refine Rn XJ73 hx hby sg1_341_7 350 #[sr o0, .val (.int (own_n l_1)), si i2, si a3, .val (.long v), .second, si nd] [(.long v), (.int ((a3 + nd) - (2 : Int32))), (.ref o0)] rfl ?_
   refine Home.go (XJ73.ldc2Long hx hown (mvT hZ (w13 hw)) rfl (hb hby d1_350)) ?_
   refine Home.go (fun _ => XS.ldiv XJ73.here hx rfl (hb hby d1_353) rfl (by decide)) ?_
   refine Home.st (own_pure (own_static XJ73 hx hZ hown (w22 hw) (w23 hw) (w11 hw) (w24 hw) (by decide) (rm2_0 l Z a0 hw [] (v / (10 : Int64)) hJ73 n0 OJ73) eJ73 rfl (by rw [hml]; rfl) (argsL := [(.long (v / (10 : Int64)))]) (rest := [(.int ((a3 + nd) - (2 : Int32))), (.ref o0)]) (lenOf own_pd9 rfl) rfl rfl (W := 2) (hb hby d1_354))) fun T83 X83 e83 => ?_
   have hj : ¬ (own_m i2) < 10 ^ 1 := (own_D_iff (by decide)).mp (own_ofNat_lt (by omega) (by rw [hnd] at c80; exact c80))
   have hhl := own_hi_len 1 (own_m i2) hj
   have hgo : own_hi (own_m i2) 1 = own_hi (own_m i2) 2 ++ [(Int32.ofNat (48 + (own_m i2) / 10 ^ 1 % 10))] := own_hi_go hj
   have hval : (((48 : Int32) + (((v / (10 : Int64)) - ((v / (10 : Int64)) / (10 : Int64)) * (10 : Int64)).toInt32)).toUInt32.toUInt16.toUInt32.toInt32) = (Int32.ofNat (48 + (own_m i2) / 10 ^ 1 % 10)) := by rw [hv']; exact own_chv (d := 10) (own_m_le _) (by decide)
   rw [hgo, List.length_append] at hhl
   simp only [List.length_cons, List.length_nil] at hhl
   have hWq : W2.length = W.length + (own_hi (own_m i2) 2).length := by rw [hW2, List.length_append]
   have hix : ((a3 + nd) - (2 : Int32)) = Int32.ofNat W2.length ∧ W2.length < 2147483648 := ⟨own_ixe 2 ha3 hnd (by omega) (by omega), by omega⟩
   have hin : ¬ ((a3 + nd) - (2 : Int32)) < (0 : Int32) ∧ ((a3 + nd) - (2 : Int32)) < (40 : Int32) := by rw [hix.1]; exact own_lt40 (by omega)
   rw [hval]
   show Home T83 (mkF m 357 #[sr o0, .val (.int (own_n l_1)), si i2, si a3, .val (.long v), .second, si nd] [(.int (Int32.ofNat (48 + (own_m i2) / 10 ^ 1 % 10))), (.int ((a3 + nd) - (2 : Int32))), (.ref o0)])
   obtain ⟨cl84, Ar84, q84, S84, M84, H84, G84⟩ := id (own_pad1 vW2)
   refine Home.wr (stC X83 hx hZ e83 Ar84 (j := ((a3 + nd) - (2 : Int32))) (inb_of S84 hin) rfl rfl (hb hby d1_357)) fun T84 h84 X84 e84 W84 => ?_
   have W84' := Wr.to W84 (congrArg Value.int (nar_char_id (own_dcb1 (Nat.mod_lt _ (by decide))) (by decide +kernel) (by decide +kernel)))
   have V84 : Arv Z h84 o0 k_o0 .char (40 : Int32) (List.map Value.int (W2 ++ [(Int32.ofNat (48 + (own_m i2) / 10 ^ 1 % 10))])) (.int 0) := own_setS (vs := (W2 ++ [0])) (ws := (W2 ++ [(Int32.ofNat (48 + (own_m i2) / 10 ^ 1 % 10))])) Ar84 q84 S84 M84 H84 G84 (fits_char_b (own_dcb1 (Nat.mod_lt _ (by decide))) (by decide +kernel) (by decide +kernel)) W84' (own_len_mid hix) (own_set_mid hix)
   have k84 : Keep hJ73 h84 ([o0] : List Addr) := Keep.wr (Keep.refl _ _) W84 (Or.inl (List.mem_of_getElem? (i := 0) rfl))
   have N84 := Fr.snoc X84 NJ73 g_o0
   exact J79 X84 N84 e84 k84 (W2 ++ [(Int32.ofNat (48 + (own_m i2) / 10 ^ 1 % 10))]) (by rw [hgo, ← List.append_assoc, ← hW2]) V84
  ·
   refine Home.go (fun _ => XS.icmpYes XJ73.here hx rfl (pc0 := 338) (pc' := 358) rfl (hb hby d1_338) rfl (flt c80).2.2.2 (by decide) (by decide)) ?_
   have hj : (own_m i2) < 10 ^ 1 := Decidable.byContradiction fun z => c80 (by rw [hnd]; exact own_lt_ofNat (by omega) ((own_D_iff (by decide)).mpr z))
   exact J79 XJ73 NJ73 eJ73 (Keep.refl _ _) W2 (by rw [own_hi_lo hj, hW2, own_hi_lo (Nat.lt_of_lt_of_le hj (Nat.pow_le_pow_right (by decide) (Nat.le_succ _)))]) vW2
 intro TJ79 lcJ79 hJ79 XJ79 NJ79 eJ79 KqJ79 W1 hW1 vW1
 have OJ79 := Old.keep OJ73 KqJ79 (allS g_o0 all0)
 have KJ79 : Keep h0 hJ79 ([o0] : List Addr) := Keep.trans KJ73 KqJ79 (allS (Or.inl (List.mem_of_getElem? (i := 0) rfl)) all0)
 show Home TJ79 (mkF m 358 #[sr o0, .val (.int (own_n l_1)), si i2, si a3, .val (.long v), .second, si nd] [])
 refine Rn XJ79 hx hby sg1_358_7 367 #[sr o0, .val (.int (own_n l_1)), si i2, si a3, .val (.long v), .second, si nd] [(.long v), (.int ((a3 + nd) - (1 : Int32))), (.ref o0)] rfl ?_
 refine Home.st (own_pure (own_static XJ79 hx hZ hown (w22 hw) (w23 hw) (w11 hw) (w24 hw) (by decide) (rm2_0 l Z a0 hw [] v hJ79 n0 OJ79) eJ79 rfl (by rw [hml]; rfl) (argsL := [(.long v)]) (rest := [(.int ((a3 + nd) - (1 : Int32))), (.ref o0)]) (lenOf own_pd9 rfl) rfl rfl (W := 2) (hb hby d1_367))) fun T85 X85 e85 => ?_
 have hval : (((48 : Int32) + ((v - (v / (10 : Int64)) * (10 : Int64)).toInt32)).toUInt32.toUInt16.toUInt32.toInt32) = (Int32.ofNat (48 + (own_m i2) % 10)) := by rw [hv']; exact own_chv0 (own_m_le _)
 have hhl := congrArg List.length (own_hi_0 (own_m i2))
 rw [List.length_append] at hhl
 simp only [List.length_cons, List.length_nil] at hhl
 have hWq : W1.length = W.length + (own_hi (own_m i2) 1).length := by rw [hW1, List.length_append]
 have hix : ((a3 + nd) - (1 : Int32)) = Int32.ofNat W1.length ∧ W1.length < 2147483648 := ⟨own_ixe 1 ha3 hnd (by omega) (by omega), by omega⟩
 have hin : ¬ ((a3 + nd) - (1 : Int32)) < (0 : Int32) ∧ ((a3 + nd) - (1 : Int32)) < (40 : Int32) := by rw [hix.1]; exact own_lt40 (by omega)
 rw [hval]
 show Home T85 (mkF m 370 #[sr o0, .val (.int (own_n l_1)), si i2, si a3, .val (.long v), .second, si nd] [(.int (Int32.ofNat (48 + (own_m i2) % 10))), (.int ((a3 + nd) - (1 : Int32))), (.ref o0)])
 obtain ⟨cl86, Ar86, q86, S86, M86, H86, G86⟩ := id (own_pad1 vW1)
 refine Home.wr (stC X85 hx hZ e85 Ar86 (j := ((a3 + nd) - (1 : Int32))) (inb_of S86 hin) rfl rfl (hb hby d1_370)) fun T86 h86 X86 e86 W86 => ?_
 have W86' := Wr.to W86 (congrArg Value.int (nar_char_id (own_dcb1 (Nat.mod_lt _ (by decide))) (by decide +kernel) (by decide +kernel)))
 have V86 : Arv Z h86 o0 k_o0 .char (40 : Int32) (List.map Value.int (W1 ++ [(Int32.ofNat (48 + (own_m i2) % 10))])) (.int 0) := own_setS (vs := (W1 ++ [0])) (ws := (W1 ++ [(Int32.ofNat (48 + (own_m i2) % 10))])) Ar86 q86 S86 M86 H86 G86 (fits_char_b (own_dcb1 (Nat.mod_lt _ (by decide))) (by decide +kernel) (by decide +kernel)) W86' (own_len_mid hix) (own_set_mid hix)
 have N86 := Fr.snoc X86 NJ79 g_o0
 have K86 : Keep h0 h86 ([o0] : List Addr) := Keep.wr KJ79 W86 (Or.inl (List.mem_of_getElem? (i := 0) rfl))
 have hR : W1 ++ [(Int32.ofNat (48 + (own_m i2) % 10))] = (l_1 ++ (own_put i2)) := by rw [hW1, List.append_assoc, own_hi_0, hW]; exact own_sg_put _ _
 have hrt : (a3 + nd) = own_n (l_1 ++ (own_put i2)) := by rw [← hR, ← own_n_snoc, show own_n W1 = ((a3 + nd) - (1 : Int32)) from hix.1.symm, own_sub1]
 rw [hR] at V86
 refine Rn X86 hx hby sg1_371_3 375 #[sr o0, .val (.int (own_n l_1)), si i2, si a3, .val (.long v), .second, si nd] [(.int (a3 + nd))] rfl ?_
 rw [hrt]
 exact Home.retI X86 hx hlk hret (hb hby d1_375) (by rw [show T86.heap = h86 from e86]; exact ⟨rfl, N86, K86, V86⟩) (by decide) (by decide)
theorem rm5_0 (l : Launch) (Z : State) (a0 : Array Value) (hw : HW a0 Z) (ws : List Jvm.Cond) (o0 o1 : Addr) (h0 : Heap) (n0 : Nat) (O0 : Old Z n0 h0) :
    Con l Z (⟨"java/util/Objects", "requireNonNull", "(Ljava/lang/Object;Ljava/lang/String;)Ljava/lang/Object;"⟩ : MethodName) jdk_31_method_11_code 2 (some (.object "java/lang/Object")) ws ({ frames := 0, cells := 0, slots := 0, locals := 0 } : Room) #[(.ref o0), (.ref o1)] h0 (Pur (some (.ref o0)) h0) := by
 refine own_body (plainFor_of_name own_pn4) (fun m => ef_rm46_0 m o0 o1) ?_
 intro p e s m below meth c s₁ hx hby hlk hml hret hZ hown hnm X0 e0
 refine Rn X0 hx hby sg5_0_1 1 #[sr o0, sr o1] [(.ref o0)] rfl ?_
 refine Home.go (fun _ => XS.ifnonnullYes X0.here hx rfl (pc0 := 1) (pc' := 13) rfl (hb hby d5_1) rfl (by decide) (by decide)) ?_
 show Home s₁ (mkF m 13 #[sr o0, sr o1] [])
 refine Rn X0 hx hby sg5_13_1 14 #[sr o0, sr o1] [(.ref o0)] rfl ?_
 exact Home.retR X0 hx hlk hret rfl rfl (hb hby d5_14) ⟨rfl, rfl, e0⟩ (by decide) (by decide)
theorem rm3_0 (l : Launch) (Z : State) (a0 : Array Value) (hw : HW a0 Z) (ws : List Jvm.Cond) (o0 : Addr) (i1 : Int32) (o2 : Addr) (i3 i4 : Int32) (h0 : Heap) (n0 : Nat) (O0 : Old Z n0 h0) (E_o0 : Exa Z h0 o0 "com/example/token_relay/tokenrelay/Member") (F_id_o0 : Fld Z h0 o0 "com/example/token_relay/tokenrelay/Member" "id" "I" (.int 0)) (g_o0 : n0 ≤ o0) (E_o2 : Exa Z h0 o2 "java/lang/String") (F_host_o0 : Fld Z h0 o0 "com/example/token_relay/tokenrelay/Member" "host" "Ljava/lang/String;" .null) (F_peerPort_o0 : Fld Z h0 o0 "com/example/token_relay/tokenrelay/Member" "peerPort" "I" (.int 0)) (F_clientPort_o0 : Fld Z h0 o0 "com/example/token_relay/tokenrelay/Member" "clientPort" "I" (.int 0)) :
    ConW l Z own_EL ([] : List Addr) false (⟨"com/example/token_relay/tokenrelay/Member", "<init>", "(ILjava/lang/String;II)V"⟩ : MethodName) prog_8_method_1_code 5 none ws ({ frames := 1, cells := 2, slots := 20, locals := 14 } : Room) #[(.ref o0), (.int i1), (.ref o2), (.int i3), (.int i4)] h0 (fun v h L => v = none ∧ Fr n0 L ∧ Keep h0 h [o0] ∧ Exa Z h o0 "com/example/token_relay/tokenrelay/Member" ∧ Fld Z h o0 "com/example/token_relay/tokenrelay/Member" "id" "I" (.int i1) ∧ Fld Z h o0 "com/example/token_relay/tokenrelay/Member" "host" "Ljava/lang/String;" (.ref o2) ∧ Fld Z h o0 "com/example/token_relay/tokenrelay/Member" "peerPort" "I" (.int i3) ∧ Fld Z h o0 "com/example/token_relay/tokenrelay/Member" "clientPort" "I" (.int i4)) := by
 refine own_bodyW (plainFor_of_name own_pn5) (fun m => ef_rm3_0 m o0 i1 o2 i3 i4) ?_
 intro p e s m below meth c s₁ hx hby hlk hml hret hZ hown hnm X0 e0 Cd0
 have N0 := Fr.nil n0
 refine Rn X0 hx hby sg3_0_1 1 #[sr o0, si i1, sr o2, si i3, si i4] [(.ref o0)] rfl ?_
 refine Home.st (initO X0 hx hZ hown (w31 hw) (w32 hw) (w33 hw) e0 rfl (by rw [hml]; rfl) rfl (hb hby d3_1) (by decide) (W := 0) (by exact hW0) (by decide)) fun T1 X1 e1 => ?_
 refine Rn X1 hx hby sg3_4_2 6 #[sr o0, si i1, sr o2, si i3, si i4] [(.int i1), (.ref o0)] rfl ?_
 refine Home.wr (putF X1 hx hZ hown (host := "") (Or.inl (w34 hw)) Via.refl e1 F_id_o0 E_o0 (Or.inr ⟨(w35 hw), rfl, hnm⟩) (w26 hw) (ty := .int) (by decide) rfl rfl rfl rfl (hb hby d3_6)) fun T2 h2 X2 e2 W2 => ?_
 have Fw2 := F_id_o0.same W2
 have O2 := O0.wr W2 g_o0
 have K2 : Keep h0 h2 ([o0] : List Addr) := Keep.wr (Keep.refl h0 ([o0] : List Addr)) W2 (Or.inl (List.mem_of_getElem? (i := 0) rfl))
 have Cd2 := Cold.wr Cd0 W2 (Safe.exa hZ.alike E_o0 (by decide) (by decide))
 have N2 := Fr.snoc X2 N0 g_o0
 refine Rn X2 hx hby sg3_9_2 11 #[sr o0, si i1, sr o2, si i3, si i4] [(.ref o2), (.ref o0)] rfl ?_
 obtain ⟨ad3, b3, k3, T3, h3, X3, e3, E3, hZ, hown, Cd3, Ea3, Fc3, Fv3, V3, la3, lb3, hne3, Li3, st3⟩ := own_ldcL X2 hx hZ hown (own_hEL hw) Cd2 (w36 hw) (own_wS hw) e2 (List.mem_of_getElem? (i := 0) rfl) (vs := [(.int 104), (.int 111), (.int 115), (.int 116)]) (z := (4 : Int32)) ⟨by decide, by rfl⟩ (by decide) (by decide) (g := (mkF m 11 #[.val (.ref o0), .val (.int i1), .val (.ref o2), .val (.int i3), .val (.int i4)] [(.ref o2), (.ref o0)])) rfl (hb hby d3_11) (n := 16) (by decide) (by decide) (by decide) (by decide)
 refine Home.go st3 ?_
 have O3 := O2.ext E3
 have K3 : Keep h0 h3 ([o0] : List Addr) := Keep.ext K2 E3
 show Home T3 (mkF m 13 #[sr o0, si i1, sr o2, si i3, si i4] [(.ref ad3), (.ref o2), (.ref o0)])
 refine Home.st (own_pure (own_static X3 hx hZ hown (w37 hw) (w38 hw) (w39 hw) (w40 hw) (by decide) (rm5_0 l Z a0 hw [] o2 ad3 h3 n0 O3) e3 rfl (by rw [hml]; rfl) (argsL := [(.ref o2), (.ref ad3)]) (rest := [(.ref o0)]) (lenOf own_pd11 rfl) rfl rfl (W := 1) (hb hby d3_13))) fun T4 X4 e4 => ?_
 refine Home.st (castY X4 hx hZ hown (w41 hw) e4 (Ins.self (E_o2.keep K3)) rfl rfl (hb hby d3_16)) fun T5 X5 e5 => ?_
 have q6 := ((F_host_o0.other W2 (Or.inr (slot_ne (Or.inr (w44 hw)) (Or.inr (w35 hw)) (by decide) (t := (.object "java/lang/String")) (t' := .int) (by decide) (by decide)))).ext E3)
 refine Home.wr (putF X5 hx hZ hown (host := "") (Or.inl (w43 hw)) Via.refl e5 q6 (E_o0.keep K3) (Or.inr ⟨(w44 hw), rfl, hnm⟩) (w26 hw) (ty := (.object "java/lang/String")) (by decide) rfl rfl rfl rfl (hb hby d3_19)) fun T7 h7 X7 e7 W7 => ?_
 have Fw7 := q6.same W7
 have K7 : Keep h0 h7 ([o0] : List Addr) := Keep.wr K3 W7 (Or.inl (List.mem_of_getElem? (i := 0) rfl))
 have Cd7 := Cold.wr Cd3 W7 (Safe.exa hZ.alike (E_o0.keep K3) (by decide) (by decide))
 have N7 := Fr.snoc X7 N2 g_o0
 refine Rn X7 hx hby sg3_22_2 24 #[sr o0, si i1, sr o2, si i3, si i4] [(.int i3), (.ref o0)] rfl ?_
 have q8 := (((F_peerPort_o0.other W2 (Or.inr (slot_ne (Or.inr (w46 hw)) (Or.inr (w35 hw)) (by decide) (t := .int) (t' := .int) (by decide) (by decide)))).ext E3).other W7 (Or.inr (slot_ne (Or.inr (w46 hw)) (Or.inr (w44 hw)) (by decide) (t := .int) (t' := (.object "java/lang/String")) (by decide) (by decide))))
 refine Home.wr (putF X7 hx hZ hown (host := "") (Or.inl (w45 hw)) Via.refl e7 q8 (E_o0.keep K7) (Or.inr ⟨(w46 hw), rfl, hnm⟩) (w26 hw) (ty := .int) (by decide) rfl rfl rfl rfl (hb hby d3_24)) fun T9 h9 X9 e9 W9 => ?_
 have Fw9 := q8.same W9
 have K9 : Keep h0 h9 ([o0] : List Addr) := Keep.wr K7 W9 (Or.inl (List.mem_of_getElem? (i := 0) rfl))
 have Cd9 := Cold.wr Cd7 W9 (Safe.exa hZ.alike (E_o0.keep K7) (by decide) (by decide))
 have N9 := Fr.snoc X9 N7 g_o0
 show Home T9 (mkF m 27 #[sr o0, si i1, sr o2, si i3, si i4] [])
 refine Rn X9 hx hby sg3_27_2 30 #[sr o0, si i1, sr o2, si i3, si i4] [(.int i4), (.ref o0)] rfl ?_
 have q10 := ((((F_clientPort_o0.other W2 (Or.inr (slot_ne (Or.inr (w48 hw)) (Or.inr (w35 hw)) (by decide) (t := .int) (t' := .int) (by decide) (by decide)))).ext E3).other W7 (Or.inr (slot_ne (Or.inr (w48 hw)) (Or.inr (w44 hw)) (by decide) (t := .int) (t' := (.object "java/lang/String")) (by decide) (by decide)))).other W9 (Or.inr (slot_ne (Or.inr (w48 hw)) (Or.inr (w46 hw)) (by decide) (t := .int) (t' := .int) (by decide) (by decide))))
 refine Home.wr (putF X9 hx hZ hown (host := "") (Or.inl (w47 hw)) Via.refl e9 q10 (E_o0.keep K9) (Or.inr ⟨(w48 hw), rfl, hnm⟩) (w26 hw) (ty := .int) (by decide) rfl rfl rfl rfl (hb hby d3_30)) fun T11 h11 X11 e11 W11 => ?_
 have Fw11 := q10.same W11
 have K11 : Keep h0 h11 ([o0] : List Addr) := Keep.wr K9 W11 (Or.inl (List.mem_of_getElem? (i := 0) rfl))
 have Cd11 := Cold.wr Cd9 W11 (Safe.exa hZ.alike (E_o0.keep K9) (by decide) (by decide))
 have N11 := Fr.snoc X11 N9 g_o0
 have q12 := ((((Fw2.ext E3).other W7 (Or.inr (slot_ne (Or.inr (w35 hw)) (Or.inr (w44 hw)) (by decide) (t := .int) (t' := (.object "java/lang/String")) (by decide) (by decide)))).other W9 (Or.inr (slot_ne (Or.inr (w35 hw)) (Or.inr (w46 hw)) (by decide) (t := .int) (t' := .int) (by decide) (by decide)))).other W11 (Or.inr (slot_ne (Or.inr (w35 hw)) (Or.inr (w48 hw)) (by decide) (t := .int) (t' := .int) (by decide) (by decide))))
 have q13 := ((Fw7.other W9 (Or.inr (slot_ne (Or.inr (w44 hw)) (Or.inr (w46 hw)) (by decide) (t := (.object "java/lang/String")) (t' := .int) (by decide) (by decide)))).other W11 (Or.inr (slot_ne (Or.inr (w44 hw)) (Or.inr (w48 hw)) (by decide) (t := (.object "java/lang/String")) (t' := .int) (by decide) (by decide))))
 have q14 := (Fw9.other W11 (Or.inr (slot_ne (Or.inr (w46 hw)) (Or.inr (w48 hw)) (by decide) (t := .int) (t' := .int) (by decide) (by decide))))
 exact HomeW.ret0 X11 hx hlk hZ (own_hEL hw) e11 Cd11 hret (hb hby d3_33) (by rw [show T11.heap = h11 from e11]; exact ⟨rfl, N11, K11, (E_o0.keep K11), q12, q13, q14, Fw11⟩) (by decide) (by decide)
theorem rm8_0 (l : Launch) (Z : State) (a0 : Array Value) (hw : HW a0 Z) (ws : List Jvm.Cond) (o0 : Addr) (sv_COMPACT_STRINGS : Int32) (h0 : Heap) (n0 : Nat) (O0 : Old Z n0 h0) (S_COMPACT_STRINGS : Sta Z Z.heap "java/lang/String" "COMPACT_STRINGS" "Z" (.int sv_COMPACT_STRINGS)) (hCS : ¬ (sv_COMPACT_STRINGS = (0 : Int32))) (E_o0 : Exa Z h0 o0 "java/lang/StringBuilder") (F_value_o0 : Fld Z h0 o0 "java/lang/AbstractStringBuilder" "value" "[B" .null) (g_o0 : n0 ≤ o0) (F_coder_o0 : Fld Z h0 o0 "java/lang/AbstractStringBuilder" "coder" "B" (.int 0)) (F_count_o0 : Fld Z h0 o0 "java/lang/AbstractStringBuilder" "count" "I" (.int 0)) :
    Con l Z (⟨"java/lang/AbstractStringBuilder", "<init>", "(I)V"⟩ : MethodName) jdk_68_method_2_code 2 none ws ({ frames := 1, cells := 1, slots := 16, locals := 12 } : Room) #[(.ref o0), (.int 16)] h0 (fun v h L => ∃ (b3 : Addr), ∃ (k3 : ClassId), v = none ∧ Fr n0 L ∧ h0.size ≤ b3 ∧ Keep h0 h [o0] ∧ Exa Z h o0 "java/lang/StringBuilder" ∧ Fld Z h o0 "java/lang/AbstractStringBuilder" "value" "[B" (.ref b3) ∧ Fld Z h o0 "java/lang/AbstractStringBuilder" "coder" "B" (.int 0) ∧ Fld Z h o0 "java/lang/AbstractStringBuilder" "count" "I" (.int 0) ∧ Exa Z h b3 "[B" ∧ Arv Z h b3 k3 .byte (16 : Int32) (List.map Value.int []) (.int 0)) := by
 refine own_body (plainFor_of_name own_pn6) (fun m => ef_rm50_0 m o0 (16 : Int32)) ?_
 intro p e s m below meth c s₁ hx hby hlk hml hret hZ hown hnm X0 e0
 have N0 := Fr.nil n0
 refine Rn X0 hx hby sg8_0_1 1 #[sr o0, si 16] [(.ref o0)] rfl ?_
 refine Home.st (initO X0 hx hZ hown (w66 hw) (w32 hw) (w33 hw) e0 rfl (by rw [hml]; rfl) rfl (hb hby d8_1) (by decide) (W := 0) (by exact hW0) (by decide)) fun T1 X1 e1 => ?_
 refine Home.st (getS2 X1 hx hZ hown (host := "") (Or.inl (w67 hw)) Via.refl e1 (S_COMPACT_STRINGS.ext O0.2) rfl (hb hby d8_4)) fun T2 X2 e2 => ?_
 refine Home.go (fun _ => XS.ifNo X2.here hx rfl (hb hby d8_7) rfl ((if0 _ _).trans (feq hCS).1)) ?_
 refine Rn X2 hx hby sg8_10_2 12 #[sr o0, si 16] [(.int 16), (.ref o0)] rfl ?_
 refine Home.na (own_newPE (aty := .byte) X2 hx hZ (w3 hw) e2 (g := (mkF m 12 #[.val (.ref o0), .val (.int 16)] [(.int 16), (.ref o0)])) rfl (hb hby d8_12) rfl (by decide) (cap := 16) (by decide) (by decide) (by decide) (by decide)) fun T3 h3 k3 b3 g3 X3 e3 E3 AE3 => ?_
 have A3 := AE3.1
 have Ex3 := AE3.2
 have g_b3 : n0 ≤ b3 := Nat.le_trans (Old.le O0) (Nat.le_of_eq g3.symm)
 have V3 : Arv Z h3 b3 k3 .byte (16 : Int32) (List.map Value.int []) (.int 0) := Arv.new A3 (by decide)
 have K3 : Keep h0 h3 ([o0] : List Addr) := Keep.ext (Keep.refl h0 ([o0] : List Addr)) E3
 have q4 := (F_value_o0.ext E3)
 refine Home.wr (putF X3 hx hZ hown (host := "") (Or.inl (w68 hw)) Via.refl e3 q4 (E_o0.keep K3) (Or.inl (w69 hw)) (w55 hw) (ty := (.array .byte)) (by decide) rfl rfl rfl rfl (hb hby d8_14)) fun T5 h5 X5 e5 W5 => ?_
 have Fw5 := q4.same W5
 have K5 : Keep h0 h5 ([o0] : List Addr) := Keep.wr K3 W5 (Or.inl (List.mem_of_getElem? (i := 0) rfl))
 have N5 := Fr.snoc X5 N0 g_o0
 show Home T5 (mkF m 17 #[sr o0, si 16] [])
 refine Rn X5 hx hby sg8_17_2 19 #[sr o0, si 16] [(.int 0), (.ref o0)] rfl ?_
 have q6 := ((F_coder_o0.ext E3).other W5 (Or.inr (slot_ne (Or.inl (w71 hw)) (Or.inl (w69 hw)) (by decide) (t := .byte) (t' := (.array .byte)) (by decide) (by decide))))
 refine Home.wr (putFN X5 hx hZ hown (w70 hw) Via.refl e5 q6 (E_o0.keep K5) (Or.inl (w71 hw)) (w55 hw) (ty := .byte) (v := (.int 0)) (v' := (.int 0)) (by decide) rfl rfl rfl rfl (hb hby d8_19)) fun T7 h7 X7 e7 W7 => ?_
 have Fw7 := q6.same W7
 have K7 : Keep h0 h7 ([o0] : List Addr) := Keep.wr K5 W7 (Or.inl (List.mem_of_getElem? (i := 0) rfl))
 have N7 := Fr.snoc X7 N5 g_o0
 refine Rn X7 hx hby sg8_22_1 38 #[sr o0, si 16] [] rfl ?_
 have q8 := (Fw5.other W7 (Or.inr (slot_ne (Or.inl (w69 hw)) (Or.inl (w71 hw)) (by decide) (t := (.array .byte)) (t' := .byte) (by decide) (by decide))))
 have q9 := (((F_count_o0.ext E3).other W5 (Or.inr (slot_ne (Or.inl (w83 hw)) (Or.inl (w69 hw)) (by decide) (t := .int) (t' := (.array .byte)) (by decide) (by decide)))).other W7 (Or.inr (slot_ne (Or.inl (w83 hw)) (Or.inl (w71 hw)) (by decide) (t := .int) (t' := .byte) (by decide) (by decide))))
 have q10 := ((Ex3.wr W5).wr W7)
 have ne11 : b3 ≠ o0 := (Ne.symm (Nat.ne_of_lt (Nat.lt_of_lt_of_le E_o0.lt (Nat.le_trans (Nat.le_refl _) (Nat.le_of_eq g3.symm)))))
 have q12 := ((V3.other W5 ne11).other W7 ne11)
 exact Home.ret0 X7 hx hlk hret (hb hby d8_38) (by rw [show T7.heap = h7 from e7]; exact ⟨b3, k3, rfl, N7, (Nat.le_trans (Nat.le_refl _) (Nat.le_of_eq g3.symm)), K7, (E_o0.keep K7), q8, Fw7, q9, q10, q12⟩) (by decide) (by decide)
theorem rm7_0 (l : Launch) (Z : State) (a0 : Array Value) (hw : HW a0 Z) (ws : List Jvm.Cond) (o0 : Addr) (sv_COMPACT_STRINGS : Int32) (h0 : Heap) (n0 : Nat) (O0 : Old Z n0 h0) (S_COMPACT_STRINGS : Sta Z Z.heap "java/lang/String" "COMPACT_STRINGS" "Z" (.int sv_COMPACT_STRINGS)) (E_o0 : Exa Z h0 o0 "java/lang/StringBuilder") (F_value_o0 : Fld Z h0 o0 "java/lang/AbstractStringBuilder" "value" "[B" .null) (F_coder_o0 : Fld Z h0 o0 "java/lang/AbstractStringBuilder" "coder" "B" (.int 0)) (F_count_o0 : Fld Z h0 o0 "java/lang/AbstractStringBuilder" "count" "I" (.int 0)) (g_o0 : n0 ≤ o0) (hCS : ¬ (sv_COMPACT_STRINGS = (0 : Int32))) :
    Con l Z (⟨"java/lang/StringBuilder", "<init>", "()V"⟩ : MethodName) jdk_67_method_1_code 1 none ws ({ frames := 2, cells := 1, slots := 16, locals := 25 } : Room) #[(.ref o0)] h0 (fun v h L => ∃ (b3_1 : Addr), ∃ (k3_1 : ClassId), v = none ∧ Fr n0 L ∧ h0.size ≤ b3_1 ∧ Keep h0 h [o0] ∧ Exa Z h o0 "java/lang/StringBuilder" ∧ Fld Z h o0 "java/lang/AbstractStringBuilder" "value" "[B" (.ref b3_1) ∧ Fld Z h o0 "java/lang/AbstractStringBuilder" "coder" "B" (.int 0) ∧ Fld Z h o0 "java/lang/AbstractStringBuilder" "count" "I" (.int 0) ∧ Exa Z h b3_1 "[B" ∧ Arv Z h b3_1 k3_1 .byte (16 : Int32) (List.map Value.int []) (.int 0)) := by
 refine own_body (plainFor_of_name own_pn7) (fun m => ef_rm7_0 m o0) ?_
 intro p e s m below meth c s₁ hx hby hlk hml hret hZ hown hnm X0 e0
 have N0 := Fr.nil n0
 refine Rn X0 hx hby sg7_0_2 3 #[sr o0] [(.int 16), (.ref o0)] rfl ?_
 refine Home.call (own_special X0 hx hZ hown rfl (w60 hw) (w61 hw) (w64 hw) (w65 hw) (by decide) (rm8_0 l Z a0 hw [] o0 sv_COMPACT_STRINGS h0 n0 O0 S_COMPACT_STRINGS hCS E_o0 F_value_o0 g_o0 F_coder_o0 F_count_o0) e0 rfl (by rw [hml]; rfl) (a := o0) (argsL := [(.int 16)]) (rest := []) (lenOf own_pd13 rfl) rfl rfl (W := 0) (hb hby d7_3)) ?_
 rintro _ T1 L1 X1 ⟨b3_1, k3_1, rfl, N1q, sz_b3_1, K1q, P1_0, P1_1, P1_2, P1_3, P1_4, P1_5⟩
 have g_b3_1 : n0 ≤ b3_1 := Nat.le_trans (Old.le O0) sz_b3_1
 have K1 : Keep h0 T1.heap ([o0] : List Addr) := Keep.trans (Keep.refl h0 ([o0] : List Addr)) K1q (allS (Or.inl (List.mem_of_getElem? (i := 0) rfl)) all0)
 have N1 := Fr.app N0 N1q
 exact Home.ret0 X1 hx hlk hret (hb hby d7_6) ⟨b3_1, k3_1, rfl, N1, (Nat.le_trans (Nat.le_refl _) sz_b3_1), K1, P1_0, P1_1, P1_2, P1_3, P1_4, P1_5⟩ (by decide) (by decide)
theorem rm11_0 (l : Launch) (Z : State) (a0 : Array Value) (hw : HW a0 Z) (ws : List Jvm.Cond) (i0 : Int32) (h0 : Heap) (n0 : Nat) (O0 : Old Z n0 h0) :
    Con l Z (⟨"java/lang/Integer", "stringSize", "(I)I"⟩ : MethodName) jdk_33_method_13_code 4 (some .int) ws ({ frames := 0, cells := 0, slots := 0, locals := 0 } : Room) #[(.int i0)] h0 (Pur (some (.int (f_rm11_0 i0))) h0) := by
 refine own_body (plainFor_of_name own_pn8) (fun m => ef_rm11_0 m i0) ?_
 intro p e s m below meth c s₁ hx hby hlk hml hret hZ hown hnm X0 e0
 refine Rn X0 hx hby sg11_0_3 3 #[si i0, si 1, un, un] [(.int i0)] rfl ?_
 suffices J4 : ∀ {T : State} (X : Stand p l e ({ frames := 0, cells := 0, slots := 0, locals := 0 } : Room) s m #[(.int i0)] below meth c T [] 0 0) (eT : T.heap = h0) (v5 : Int32) (hv5 : v5 = (if i0 < (0 : Int32) then i0 else (-i0))) (v6 : Int32) (hv6 : v6 = (if i0 < (0 : Int32) then (1 : Int32) else (0 : Int32))), @Home p e below _ T (mkF m 11 #[si v5, si v6, un, un] []) by
  by_cases c1 : i0 < (0 : Int32)
  ·
   refine Home.go (fun _ => XS.ifYes X0.here hx rfl (pc0 := 3) (pc' := 11) rfl (hb hby d11_3) rfl ((if0 _ _).trans (tlt c1).1) (by decide) (by decide)) ?_
   exact J4 X0 e0 _ (by simp only [if_pos c1]) _ (by simp only [if_pos c1])
  ·
   refine Home.go (fun _ => XS.ifNo X0.here hx rfl (hb hby d11_3) rfl ((if0 _ _).trans (flt c1).1)) ?_
   refine Rn X0 hx hby sg11_6_5 11 #[.val (.int (-i0)), si 0, un, un] [] rfl ?_
   exact J4 X0 e0 _ (by simp only [if_neg c1]) _ (by simp only [if_neg c1])
 intro TJ4 XJ4 eJ4 v5 hv5 v6 hv6
 have bv6 : ¬ v6 < (0 : Int32) ∧ ¬ (1 : Int32) < v6 := by rw [hv6]; exact (bnd_ite (bnd_mono (bnd_lit (1 : Int32)) (by decide +kernel) (by decide +kernel)) (bnd_mono (bnd_lit (0 : Int32)) (by decide +kernel) (by decide +kernel)))
 show Home TJ4 (mkF m 11 #[si v5, si v6, un, un] [])
 refine Rn XJ4 hx hby sg11_11_6 19 #[si v5, si v6, .val (.int (-10 : Int32)), si 1] [(.int 10), (.int 1)] rfl ?_
 refine Home.go (fun _ => XS.icmpNo XJ4.here hx rfl (hb hby d11_19) rfl (tlt (by decide)).2.1) ?_
 refine Rn XJ4 hx hby sg11_22_2 24 #[si v5, si v6, .val (.int (-10 : Int32)), si 1] [(.int (-10 : Int32)), (.int v5)] rfl ?_
 by_cases c7 : (-10 : Int32) < v5
 ·
  refine Home.go (fun _ => XS.icmpNo XJ4.here hx rfl (hb hby d11_24) rfl (tlt c7).2.2.2) ?_
  refine Rn XJ4 hx hby sg11_27_3 30 #[si v5, si v6, .val (.int (-10 : Int32)), si 1] [(.int ((1 : Int32) + v6))] rfl ?_
  exact Home.retI XJ4 hx hlk hret (hb hby d11_30) ⟨congrArg some (congrArg Value.int (by subst hv6; subst hv5; first | rfl | (simp only [f_rm11_0, if_pos c7, nar_i2c, nar_i2b] <;> rfl) | (simp [f_rm11_0, if_pos c7]; done))), rfl, eJ4⟩ (by decide) (by decide)
 ·
  refine Home.go (fun _ => XS.icmpYes XJ4.here hx rfl (pc0 := 24) (pc' := 31) rfl (hb hby d11_24) rfl (flt c7).2.2.2 (by decide) (by decide)) ?_
  refine Rn XJ4 hx hby sg11_31_8 19 #[si v5, si v6, .val (.int (-100 : Int32)), si 2] [(.int 10), (.int 2)] rfl ?_
  refine Home.go (fun _ => XS.icmpNo XJ4.here hx rfl (hb hby d11_19) rfl (tlt (by decide)).2.1) ?_
  refine Rn XJ4 hx hby sg11_22_2 24 #[si v5, si v6, .val (.int (-100 : Int32)), si 2] [(.int (-100 : Int32)), (.int v5)] rfl ?_
  by_cases c10 : (-100 : Int32) < v5
  ·
   refine Home.go (fun _ => XS.icmpNo XJ4.here hx rfl (hb hby d11_24) rfl (tlt c10).2.2.2) ?_
   refine Rn XJ4 hx hby sg11_27_3 30 #[si v5, si v6, .val (.int (-100 : Int32)), si 2] [(.int ((2 : Int32) + v6))] rfl ?_
   exact Home.retI XJ4 hx hlk hret (hb hby d11_30) ⟨congrArg some (congrArg Value.int (by subst hv6; subst hv5; first | rfl | (simp only [f_rm11_0, if_neg c7, if_pos c10, nar_i2c, nar_i2b] <;> rfl) | (simp [f_rm11_0, if_neg c7, if_pos c10]; done))), rfl, eJ4⟩ (by decide) (by decide)
  ·
   refine Home.go (fun _ => XS.icmpYes XJ4.here hx rfl (pc0 := 24) (pc' := 31) rfl (hb hby d11_24) rfl (flt c10).2.2.2 (by decide) (by decide)) ?_
   refine Rn XJ4 hx hby sg11_31_8 19 #[si v5, si v6, .val (.int (-1000 : Int32)), si 3] [(.int 10), (.int 3)] rfl ?_
   refine Home.go (fun _ => XS.icmpNo XJ4.here hx rfl (hb hby d11_19) rfl (tlt (by decide)).2.1) ?_
   refine Rn XJ4 hx hby sg11_22_2 24 #[si v5, si v6, .val (.int (-1000 : Int32)), si 3] [(.int (-1000 : Int32)), (.int v5)] rfl ?_
   by_cases c13 : (-1000 : Int32) < v5
   ·
    refine Home.go (fun _ => XS.icmpNo XJ4.here hx rfl (hb hby d11_24) rfl (tlt c13).2.2.2) ?_
    refine Rn XJ4 hx hby sg11_27_3 30 #[si v5, si v6, .val (.int (-1000 : Int32)), si 3] [(.int ((3 : Int32) + v6))] rfl ?_
    exact Home.retI XJ4 hx hlk hret (hb hby d11_30) ⟨congrArg some (congrArg Value.int (by subst hv6; subst hv5; first | rfl | (simp only [f_rm11_0, if_neg c7, if_neg c10, if_pos c13, nar_i2c, nar_i2b] <;> rfl) | (simp [f_rm11_0, if_neg c7, if_neg c10, if_pos c13]; done))), rfl, eJ4⟩ (by decide) (by decide)
   ·
    refine Home.go (fun _ => XS.icmpYes XJ4.here hx rfl (pc0 := 24) (pc' := 31) rfl (hb hby d11_24) rfl (flt c13).2.2.2 (by decide) (by decide)) ?_
    refine Rn XJ4 hx hby sg11_31_8 19 #[si v5, si v6, .val (.int (-10000 : Int32)), si 4] [(.int 10), (.int 4)] rfl ?_
    refine Home.go (fun _ => XS.icmpNo XJ4.here hx rfl (hb hby d11_19) rfl (tlt (by decide)).2.1) ?_
    refine Rn XJ4 hx hby sg11_22_2 24 #[si v5, si v6, .val (.int (-10000 : Int32)), si 4] [(.int (-10000 : Int32)), (.int v5)] rfl ?_
    by_cases c16 : (-10000 : Int32) < v5
    ·
     refine Home.go (fun _ => XS.icmpNo XJ4.here hx rfl (hb hby d11_24) rfl (tlt c16).2.2.2) ?_
     refine Rn XJ4 hx hby sg11_27_3 30 #[si v5, si v6, .val (.int (-10000 : Int32)), si 4] [(.int ((4 : Int32) + v6))] rfl ?_
     exact Home.retI XJ4 hx hlk hret (hb hby d11_30) ⟨congrArg some (congrArg Value.int (by subst hv6; subst hv5; first | rfl | (simp only [f_rm11_0, if_neg c7, if_neg c10, if_neg c13, if_pos c16, nar_i2c, nar_i2b] <;> rfl) | (simp [f_rm11_0, if_neg c7, if_neg c10, if_neg c13, if_pos c16]; done))), rfl, eJ4⟩ (by decide) (by decide)
    ·
     refine Home.go (fun _ => XS.icmpYes XJ4.here hx rfl (pc0 := 24) (pc' := 31) rfl (hb hby d11_24) rfl (flt c16).2.2.2 (by decide) (by decide)) ?_
     refine Rn XJ4 hx hby sg11_31_8 19 #[si v5, si v6, .val (.int (-100000 : Int32)), si 5] [(.int 10), (.int 5)] rfl ?_
     refine Home.go (fun _ => XS.icmpNo XJ4.here hx rfl (hb hby d11_19) rfl (tlt (by decide)).2.1) ?_
     refine Rn XJ4 hx hby sg11_22_2 24 #[si v5, si v6, .val (.int (-100000 : Int32)), si 5] [(.int (-100000 : Int32)), (.int v5)] rfl ?_
     by_cases c19 : (-100000 : Int32) < v5
     ·
      refine Home.go (fun _ => XS.icmpNo XJ4.here hx rfl (hb hby d11_24) rfl (tlt c19).2.2.2) ?_
      refine Rn XJ4 hx hby sg11_27_3 30 #[si v5, si v6, .val (.int (-100000 : Int32)), si 5] [(.int ((5 : Int32) + v6))] rfl ?_
      exact Home.retI XJ4 hx hlk hret (hb hby d11_30) ⟨congrArg some (congrArg Value.int (by subst hv6; subst hv5; first | rfl | (simp only [f_rm11_0, if_neg c7, if_neg c10, if_neg c13, if_neg c16, if_pos c19, nar_i2c, nar_i2b] <;> rfl) | (simp [f_rm11_0, if_neg c7, if_neg c10, if_neg c13, if_neg c16, if_pos c19]; done))), rfl, eJ4⟩ (by decide) (by decide)
     ·
      refine Home.go (fun _ => XS.icmpYes XJ4.here hx rfl (pc0 := 24) (pc' := 31) rfl (hb hby d11_24) rfl (flt c19).2.2.2 (by decide) (by decide)) ?_
      refine Rn XJ4 hx hby sg11_31_8 19 #[si v5, si v6, .val (.int (-1000000 : Int32)), si 6] [(.int 10), (.int 6)] rfl ?_
      refine Home.go (fun _ => XS.icmpNo XJ4.here hx rfl (hb hby d11_19) rfl (tlt (by decide)).2.1) ?_
      refine Rn XJ4 hx hby sg11_22_2 24 #[si v5, si v6, .val (.int (-1000000 : Int32)), si 6] [(.int (-1000000 : Int32)), (.int v5)] rfl ?_
      by_cases c22 : (-1000000 : Int32) < v5
      ·
       refine Home.go (fun _ => XS.icmpNo XJ4.here hx rfl (hb hby d11_24) rfl (tlt c22).2.2.2) ?_
       refine Rn XJ4 hx hby sg11_27_3 30 #[si v5, si v6, .val (.int (-1000000 : Int32)), si 6] [(.int ((6 : Int32) + v6))] rfl ?_
       exact Home.retI XJ4 hx hlk hret (hb hby d11_30) ⟨congrArg some (congrArg Value.int (by subst hv6; subst hv5; first | rfl | (simp only [f_rm11_0, if_neg c7, if_neg c10, if_neg c13, if_neg c16, if_neg c19, if_pos c22, nar_i2c, nar_i2b] <;> rfl) | (simp [f_rm11_0, if_neg c7, if_neg c10, if_neg c13, if_neg c16, if_neg c19, if_pos c22]; done))), rfl, eJ4⟩ (by decide) (by decide)
      ·
       refine Home.go (fun _ => XS.icmpYes XJ4.here hx rfl (pc0 := 24) (pc' := 31) rfl (hb hby d11_24) rfl (flt c22).2.2.2 (by decide) (by decide)) ?_
       refine Rn XJ4 hx hby sg11_31_8 19 #[si v5, si v6, .val (.int (-10000000 : Int32)), si 7] [(.int 10), (.int 7)] rfl ?_
       refine Home.go (fun _ => XS.icmpNo XJ4.here hx rfl (hb hby d11_19) rfl (tlt (by decide)).2.1) ?_
       refine Rn XJ4 hx hby sg11_22_2 24 #[si v5, si v6, .val (.int (-10000000 : Int32)), si 7] [(.int (-10000000 : Int32)), (.int v5)] rfl ?_
       by_cases c25 : (-10000000 : Int32) < v5
       ·
        refine Home.go (fun _ => XS.icmpNo XJ4.here hx rfl (hb hby d11_24) rfl (tlt c25).2.2.2) ?_
        refine Rn XJ4 hx hby sg11_27_3 30 #[si v5, si v6, .val (.int (-10000000 : Int32)), si 7] [(.int ((7 : Int32) + v6))] rfl ?_
        exact Home.retI XJ4 hx hlk hret (hb hby d11_30) ⟨congrArg some (congrArg Value.int (by subst hv6; subst hv5; simp only [f_rm11_0, if_neg c7, if_neg c10, if_neg c13, if_neg c16, if_neg c19, if_neg c22, if_pos c25])), rfl, eJ4⟩ (by decide) (by decide)
       ·
        refine Home.go (fun _ => XS.icmpYes XJ4.here hx rfl (pc0 := 24) (pc' := 31) rfl (hb hby d11_24) rfl (flt c25).2.2.2 (by decide) (by decide)) ?_
        refine Rn XJ4 hx hby sg11_31_8 19 #[si v5, si v6, .val (.int (-100000000 : Int32)), si 8] [(.int 10), (.int 8)] rfl ?_
        refine Home.go (fun _ => XS.icmpNo XJ4.here hx rfl (hb hby d11_19) rfl (tlt (by decide)).2.1) ?_
        refine Rn XJ4 hx hby sg11_22_2 24 #[si v5, si v6, .val (.int (-100000000 : Int32)), si 8] [(.int (-100000000 : Int32)), (.int v5)] rfl ?_
        by_cases c28 : (-100000000 : Int32) < v5
        ·
         refine Home.go (fun _ => XS.icmpNo XJ4.here hx rfl (hb hby d11_24) rfl (tlt c28).2.2.2) ?_
         refine Rn XJ4 hx hby sg11_27_3 30 #[si v5, si v6, .val (.int (-100000000 : Int32)), si 8] [(.int ((8 : Int32) + v6))] rfl ?_
         exact Home.retI XJ4 hx hlk hret (hb hby d11_30) ⟨congrArg some (congrArg Value.int (by subst hv6; subst hv5; simp only [f_rm11_0, if_neg c7, if_neg c10, if_neg c13, if_neg c16, if_neg c19, if_neg c22, if_neg c25, if_pos c28])), rfl, eJ4⟩ (by decide) (by decide)
        ·
         refine Home.go (fun _ => XS.icmpYes XJ4.here hx rfl (pc0 := 24) (pc' := 31) rfl (hb hby d11_24) rfl (flt c28).2.2.2 (by decide) (by decide)) ?_
         refine Rn XJ4 hx hby sg11_31_8 19 #[si v5, si v6, .val (.int (-1000000000 : Int32)), si 9] [(.int 10), (.int 9)] rfl ?_
         refine Home.go (fun _ => XS.icmpNo XJ4.here hx rfl (hb hby d11_19) rfl (tlt (by decide)).2.1) ?_
         refine Rn XJ4 hx hby sg11_22_2 24 #[si v5, si v6, .val (.int (-1000000000 : Int32)), si 9] [(.int (-1000000000 : Int32)), (.int v5)] rfl ?_
         by_cases c31 : (-1000000000 : Int32) < v5
         ·
          refine Home.go (fun _ => XS.icmpNo XJ4.here hx rfl (hb hby d11_24) rfl (tlt c31).2.2.2) ?_
          refine Rn XJ4 hx hby sg11_27_3 30 #[si v5, si v6, .val (.int (-1000000000 : Int32)), si 9] [(.int ((9 : Int32) + v6))] rfl ?_
          exact Home.retI XJ4 hx hlk hret (hb hby d11_30) ⟨congrArg some (congrArg Value.int (by subst hv6; subst hv5; simp only [f_rm11_0, if_neg c7, if_neg c10, if_neg c13, if_neg c16, if_neg c19, if_neg c22, if_neg c25, if_neg c28, if_pos c31])), rfl, eJ4⟩ (by decide) (by decide)
         ·
          refine Home.go (fun _ => XS.icmpYes XJ4.here hx rfl (pc0 := 24) (pc' := 31) rfl (hb hby d11_24) rfl (flt c31).2.2.2 (by decide) (by decide)) ?_
          refine Rn XJ4 hx hby sg11_31_8 19 #[si v5, si v6, .val (.int (-1410065408 : Int32)), si 10] [(.int 10), (.int 10)] rfl ?_
          refine Home.go (fun _ => XS.icmpYes XJ4.here hx rfl (pc0 := 19) (pc' := 42) rfl (hb hby d11_19) rfl (flt (by decide)).2.1 (by decide) (by decide)) ?_
          refine Rn XJ4 hx hby sg11_42_3 46 #[si v5, si v6, .val (.int (-1410065408 : Int32)), si 10] [(.int ((10 : Int32) + v6))] rfl ?_
          exact Home.retI XJ4 hx hlk hret (hb hby d11_46) ⟨congrArg some (congrArg Value.int (by subst hv6; subst hv5; simp only [f_rm11_0, if_neg c7, if_neg c10, if_neg c13, if_neg c16, if_neg c19, if_neg c22, if_neg c25, if_neg c28, if_neg c31])), rfl, eJ4⟩ (by decide) (by decide)
theorem rm11s (l : Launch) (Z : State) (a0 : Array Value) (hw : HW a0 Z) (ws : List Jvm.Cond) (i0 : Int32) (h0 : Heap) (n0 : Nat) (O0 : Old Z n0 h0) :
    Con l Z (⟨"java/lang/Integer", "stringSize", "(I)I"⟩ : MethodName) jdk_33_method_13_code 4 (some .int) ws ({ frames := 0, cells := 0, slots := 0, locals := 0 } : Room) #[(.int i0)] h0 (Pur (some (.int (own_n (own_put i0)))) h0) := by
  rw [← own_size]
  exact rm11_0 l Z a0 hw ws i0 h0 n0 O0
theorem rm44_0 (l : Launch) (Z : State) (a0 : Array Value) (hw : HW a0 Z) (ws : List Jvm.Cond) (i0 : Int32) (h0 : Heap) (n0 : Nat) (O0 : Old Z n0 h0) (bnd_i0 : ¬ i0 < (-16 : Int32) ∧ ¬ (11 : Int32) < i0) :
    Con l Z (⟨"java/lang/Math", "max", "(II)I"⟩ : MethodName) jdk_29_method_65_code 2 (some .int) ws ({ frames := 0, cells := 0, slots := 0, locals := 0 } : Room) #[(.int i0), (.int 18)] h0 (Pur (some (.int 18)) h0) := by
 refine own_body (Jvm.Free.JP.mathPlain rfl (by decide +kernel)) (fun m => ef_rm44_0 m i0 (18 : Int32)) ?_
 intro p e s m below meth c s₁ hx hby hlk hml hret hZ hown hnm X0 e0
 refine Rn X0 hx hby sg44_0_2 2 #[si i0, si 18] [(.int 18), (.int i0)] rfl ?_
 refine Home.go (fun _ => XS.icmpYes X0.here hx rfl (pc0 := 2) (pc' := 9) rfl (hb hby d44_2) rfl (tlt (bnd_lt bnd_i0 (bnd_lit (18 : Int32)) (by decide +kernel))).1 (by decide) (by decide)) ?_
 refine Rn X0 hx hby sg44_9_1 10 #[si i0, si 18] [(.int 18)] rfl ?_
 exact Home.retI X0 hx hlk hret (hb hby d44_10) ⟨rfl, rfl, e0⟩ (by decide) (by decide)
theorem rm43_0 (l : Launch) (Z : State) (a0 : Array Value) (hw : HW a0 Z) (ws : List Jvm.Cond) (i1 : Int32) (h0 : Heap) (n0 : Nat) (O0 : Old Z n0 h0) (bnd_i1 : ¬ i1 < (-16 : Int32) ∧ ¬ (11 : Int32) < i1) :
    Con l Z (⟨"jdk/internal/util/ArraysSupport", "newLength", "(III)I"⟩ : MethodName) jdk_48_method_27_code 4 (some .int) ws ({ frames := 1, cells := 0, slots := 0, locals := 14 } : Room) #[(.int 16), (.int i1), (.int 18)] h0 (Pur (some (.int 34)) h0) := by
 refine own_body (plainFor_of_name own_pn9) (fun m => ef_rm43_0 m (16 : Int32) i1 (18 : Int32)) ?_
 intro p e s m below meth c s₁ hx hby hlk hml hret hZ hown hnm X0 e0
 refine Rn X0 hx hby sg43_0_3 3 #[si 16, si i1, si 18, un] [(.int 18), (.int i1), (.int 16)] rfl ?_
 refine Home.st (own_pure (own_static X0 hx hZ hown (w236 hw) (w237 hw) (w184 hw) (w238 hw) (by decide) (rm44_0 l Z a0 hw [] i1 h0 n0 O0 bnd_i1) e0 rfl (by rw [hml]; rfl) (argsL := [(.int i1), (.int 18)]) (rest := [(.int 16)]) (lenOf own_pd16 rfl) rfl rfl (W := 1) (hb hby d43_3))) fun T1 X1 e1 => ?_
 refine Rn X1 hx hby sg43_6_4 10 #[si 16, si i1, si 18, si 34] [(.int 34), (.int 0)] rfl ?_
 refine Home.go (fun _ => XS.icmpNo X1.here hx rfl (hb hby d43_10) rfl (tlt (by decide)).2.1) ?_
 refine Rn X1 hx hby sg43_13_1 14 #[si 16, si i1, si 18, si 34] [(.int 34)] rfl ?_
 refine Home.go (X1.ldcInt hx hown (mvT hZ (w239 hw)) rfl (hb hby d43_14)) ?_
 refine Home.go (fun _ => XS.icmpNo X1.here hx rfl (hb hby d43_16) rfl (flt (by decide)).2.2.1) ?_
 refine Rn X1 hx hby sg43_19_1 20 #[si 16, si i1, si 18, si 34] [(.int 34)] rfl ?_
 exact Home.retI X1 hx hlk hret (hb hby d43_20) ⟨rfl, rfl, e1⟩ (by decide) (by decide)
theorem rm42_0 (l : Launch) (Z : State) (a0 : Array Value) (hw : HW a0 Z) (ws : List Jvm.Cond) (o0 : Addr) (l_1 : List Int32) (p2 : Addr) (k_p2 : ClassId) (l_2 : List Int32) (h0 : Heap) (n0 : Nat) (O0 : Old Z n0 h0) (F_value_o0 : Fld Z h0 o0 "java/lang/AbstractStringBuilder" "value" "[B" (.ref p2)) (V_p2 : Arv Z h0 p2 k_p2 .byte (16 : Int32) (List.map Value.int l_2) (.int 0)) (F_coder_o0 : Fld Z h0 o0 "java/lang/AbstractStringBuilder" "coder" "B" (.int 0)) (sh_l_1 : l_1.length ≤ 27) :
    Con l Z (⟨"java/lang/AbstractStringBuilder", "newCapacity", "(I)I"⟩ : MethodName) jdk_68_method_10_code 6 (some .int) ws ({ frames := 2, cells := 0, slots := 0, locals := 29 } : Room) #[(.ref o0), (.int (own_n l_1))] h0 (Pur (some (.int 34)) h0) := by
 refine own_body (plainFor_of_name own_pn6) (fun m => ef_rm42_0 m o0 (own_n l_1)) ?_
 intro p e s m below meth c s₁ hx hby hlk hml hret hZ hown hnm X0 e0
 refine Rn X0 hx hby sg42_0_1 1 #[sr o0, .val (.int (own_n l_1)), un, un, un, un] [(.ref o0)] rfl ?_
 refine Home.st (getF X0 hx hZ hown (host := "") (Or.inl (w68 hw)) Via.refl e0 F_value_o0 rfl rfl (hb hby d42_1)) fun T1 X1 e1 => ?_
 obtain ⟨cl2, Ar2, q2, S2, M2, H2, G2⟩ := id V_p2
 refine Home.go (own_alen X1 hx hZ e1 Ar2 S2 M2 rfl rfl (hb hby d42_4)) ?_
 refine Rn X1 hx hby sg42_5_3 8 #[sr o0, .val (.int (own_n l_1)), si 16, un, un, un] [(.ref o0), (.int (own_n l_1))] rfl ?_
 refine Home.st (getF X1 hx hZ hown (host := "") (Or.inl (w70 hw)) Via.refl e1 F_coder_o0 rfl rfl (hb hby d42_8)) fun T3 X3 e3 => ?_
 refine Rn X3 hx hby sg42_11_1 12 #[sr o0, .val (.int (own_n l_1)), si 16, un, un, un] [(.int ((own_n l_1) <<< ((0 : Int32) &&& 31)))] rfl ?_
 rw [own_shl0]
 refine Rn X3 hx hby sg42_12_10 24 #[sr o0, .val (.int (own_n l_1)), si 16, .val (.int (own_n l_1)), .val (.int ((own_n l_1) - (16 : Int32))), un] [(.ref o0), (.int 2), (.int 16), (.int ((own_n l_1) - (16 : Int32))), (.int 16)] rfl ?_
 refine Home.st (getF X3 hx hZ hown (host := "") (Or.inl (w70 hw)) Via.refl e3 F_coder_o0 rfl rfl (hb hby d42_24)) fun T4 X4 e4 => ?_
 refine Rn X4 hx hby sg42_27_2 29 #[sr o0, .val (.int (own_n l_1)), si 16, .val (.int (own_n l_1)), .val (.int ((own_n l_1) - (16 : Int32))), un] [(.int 18), (.int ((own_n l_1) - (16 : Int32))), (.int 16)] rfl ?_
 refine Home.st (own_pure (own_static X4 hx hZ hown (w232 hw) (w233 hw) (w234 hw) (w235 hw) (by decide) (rm43_0 l Z a0 hw [] ((own_n l_1) - (16 : Int32)) h0 n0 O0 (bnd_sub (own_n_b (a := 0) (b := 27) (own_len_le sh_l_1) (lo := (0 : Int32)) (hi := (27 : Int32)) (by decide) (by decide) (by decide)) (bnd_lit (16 : Int32)) (lo := (-16 : Int32)) (hi := (11 : Int32)) (by decide +kernel) (by decide +kernel) (by decide +kernel) (by decide +kernel))) e4 rfl (by rw [hml]; rfl) (argsL := [(.int 16), (.int ((own_n l_1) - (16 : Int32))), (.int 18)]) (rest := []) (lenOf own_pd17 rfl) rfl rfl (W := 0) (hb hby d42_29))) fun T5 X5 e5 => ?_
 refine Rn X5 hx hby sg42_32_2 36 #[sr o0, .val (.int (own_n l_1)), si 16, .val (.int (own_n l_1)), .val (.int ((own_n l_1) - (16 : Int32))), si 34] [(.int 34)] rfl ?_
 refine Home.go (X5.ldcInt hx hown (mvT hZ (w240 hw)) rfl (hb hby d42_36)) ?_
 show Home T5 (mkF m 38 #[sr o0, .val (.int (own_n l_1)), si 16, .val (.int (own_n l_1)), .val (.int ((own_n l_1) - (16 : Int32))), si 34] [(.int 2147483647), (.int 34)])
 refine Home.go (fun _ => XS.icmpYes X5.here hx rfl (pc0 := 38) (pc' := 51) rfl (hb hby d42_38) rfl (feq (by decide)).2 (by decide) (by decide)) ?_
 refine Rn X5 hx hby sg42_51_2 54 #[sr o0, .val (.int (own_n l_1)), si 16, .val (.int (own_n l_1)), .val (.int ((own_n l_1) - (16 : Int32))), si 34] [(.ref o0), (.int 34)] rfl ?_
 refine Home.st (getF X5 hx hZ hown (host := "") (Or.inl (w70 hw)) Via.refl e5 F_coder_o0 rfl rfl (hb hby d42_54)) fun T6 X6 e6 => ?_
 refine Rn X6 hx hby sg42_57_1 58 #[sr o0, .val (.int (own_n l_1)), si 16, .val (.int (own_n l_1)), .val (.int ((own_n l_1) - (16 : Int32))), si 34] [(.int 34)] rfl ?_
 exact Home.retI X6 hx hlk hret (hb hby d42_58) ⟨rfl, rfl, e6⟩ (by decide) (by decide)
theorem rm31_0 (l : Launch) (Z : State) (a0 : Array Value) (hw : HW a0 Z) (ws : List Jvm.Cond)  (h0 : Heap) (n0 : Nat) (O0 : Old Z n0 h0) :
    Con l Z (⟨"java/lang/Math", "min", "(II)I"⟩ : MethodName) jdk_29_method_69_code 2 (some .int) ws ({ frames := 0, cells := 0, slots := 0, locals := 0 } : Room) #[(.int 16), (.int 34)] h0 (Pur (some (.int 16)) h0) := by
 refine own_body (Jvm.Free.JP.mathPlain rfl (by decide +kernel)) (fun m => ef_rm44_0 m (16 : Int32) (34 : Int32)) ?_
 intro p e s m below meth c s₁ hx hby hlk hml hret hZ hown hnm X0 e0
 refine Rn X0 hx hby sg31_0_2 2 #[si 16, si 34] [(.int 34), (.int 16)] rfl ?_
 refine Home.go (fun _ => XS.icmpNo X0.here hx rfl (hb hby d31_2) rfl (flt (by decide)).2.2.1) ?_
 refine Rn X0 hx hby sg31_5_2 10 #[si 16, si 34] [(.int 16)] rfl ?_
 exact Home.retI X0 hx hlk hret (hb hby d31_10) ⟨rfl, rfl, e0⟩ (by decide) (by decide)
theorem rm45_0 (l : Launch) (Z : State) (a0 : Array Value) (hw : HW a0 Z) (ws : List Jvm.Cond) (o0 : Addr) (k_o0 : ClassId) (l_1 : List Int32) (h0 : Heap) (n0 : Nat) (O0 : Old Z n0 h0) (V_o0 : Arv Z h0 o0 k_o0 .byte (16 : Int32) (List.map Value.int l_1) (.int 0)) (sh_l_1 : l_1.length ≤ 16) :
    Con l Z (⟨"java/util/Arrays", "copyOf", "([BI)[B"⟩ : MethodName) jdk_65_method_121_code 3 (some (.array .byte)) ws ({ frames := 1, cells := 1, slots := 34, locals := 18 } : Room) #[(.ref o0), (.int 34)] h0 (fun v h L => ∃ (b2 : Addr), ∃ (k2 : ClassId), v = some (.ref b2) ∧ Fr n0 L ∧ h0.size ≤ b2 ∧ Keep h0 h [] ∧ Exa Z h b2 "[B" ∧ Arv Z h b2 k2 .byte (34 : Int32) (List.map Value.int l_1) (.int 0)) := by
 refine own_body (plainFor_of_name own_pn10) (fun m => ef_rm45_0 m o0 (34 : Int32)) ?_
 intro p e s m below meth c s₁ hx hby hlk hml hret hZ hown hnm X0 e0
 have N0 := Fr.nil n0
 refine Rn X0 hx hby sg45_0_2 2 #[sr o0, si 34, un] [(.ref o0), (.int 34)] rfl ?_
 obtain ⟨cl1, Ar1, q1, S1, M1, H1, G1⟩ := id V_o0
 refine Home.go (own_alen X0 hx hZ e0 Ar1 S1 M1 rfl rfl (hb hby d45_2)) ?_
 refine Home.go (fun _ => XS.icmpYes X0.here hx rfl (pc0 := 3) (pc' := 14) rfl (hb hby d45_3) rfl (feq (by decide)).2 (by decide) (by decide)) ?_
 refine Rn X0 hx hby sg45_14_1 15 #[sr o0, si 34, un] [(.int 34)] rfl ?_
 refine Home.na (own_newPE (aty := .byte) X0 hx hZ (w3 hw) e0 (g := (mkF m 15 #[.val (.ref o0), .val (.int 34), .unset] [(.int 34)])) rfl (hb hby d45_15) rfl (by decide) (cap := 34) (by decide) (by decide) (by decide) (by decide)) fun T2 h2 k2 b2 g2 X2 e2 E2 AE2 => ?_
 have A2 := AE2.1
 have Ex2 := AE2.2
 have g_b2 : n0 ≤ b2 := Nat.le_trans (Old.le O0) (Nat.le_of_eq g2.symm)
 have V2 : Arv Z h2 b2 k2 .byte (34 : Int32) (List.map Value.int []) (.int 0) := Arv.new A2 (by decide)
 have O2 := O0.ext E2
 have K2 : Keep h0 h2 ([] : List Addr) := Keep.ext (Keep.refl h0 ([] : List Addr)) E2
 refine Rn X2 hx hby sg45_17_6 23 #[sr o0, si 34, sr b2] [(.ref o0), (.int 0), (.ref b2), (.int 0), (.ref o0)] rfl ?_
 obtain ⟨cl3, Ar3, q3, S3, M3, H3, G3⟩ := id (V_o0.keep K2 nin0)
 refine Home.go (own_alen X2 hx hZ e2 Ar3 S3 M3 rfl rfl (hb hby d45_23)) ?_
 show Home T2 (mkF m 24 #[sr o0, si 34, sr b2] [(.int 16), (.int 0), (.ref b2), (.int 0), (.ref o0)])
 refine Rn X2 hx hby sg45_24_1 25 #[sr o0, si 34, sr b2] [(.int 34), (.int 16), (.int 0), (.ref b2), (.int 0), (.ref o0)] rfl ?_
 refine Home.st (own_pure (own_static X2 hx hZ hown (w182 hw) (w183 hw) (w184 hw) (w185 hw) (by decide) (rm31_0 l Z a0 hw []  h2 n0 O2) e2 rfl (by rw [hml]; rfl) (argsL := [(.int 16), (.int 34)]) (rest := [(.int 0), (.ref b2), (.int 0), (.ref o0)]) (lenOf own_pd16 rfl) rfl rfl (W := 4) (hb hby d45_25))) fun T4 X4 e4 => ?_
 refine Home.cp (own_cpP X4 hx hZ hown (w186 hw) (w144 hw) (w142 hw) (w143 hw) e4 (V_o0.keep K2 nin0) V2 (X := l_1) (K := 16) rfl (by decide) (Nat.le_trans (own_len_le sh_l_1).2 (by decide)) (by decide) N0 g_b2 (g := (mkF m 28 #[.val (.ref o0), .val (.int 34), .val (.ref b2)] [(.int 16), (.int 0), (.ref b2), (.int 0), (.ref o0)])) rfl (by rw [hml]; rfl) rfl (hb hby d45_28) (by decide) (W := 0) (by exact hW0) (by decide)) fun T5 h5 L5 X5 e5 N5 K5q Vq5 => ?_
 have V5 : Arv Z h5 b2 k2 .byte (34 : Int32) (List.map Value.int l_1) (.int 0) := Vq5
 have K5 : Keep h0 h5 ([] : List Addr) := Keep.trans K2 K5q (allS (Or.inr (Nat.le_trans (Nat.le_refl _) (Nat.le_of_eq g2.symm))) all0)
 refine Rn X5 hx hby sg45_31_1 32 #[sr o0, si 34, sr b2] [(.ref b2)] rfl ?_
 have q6 := (Ex2.keep K5q)
 exact Home.retR X5 hx hlk hret rfl rfl (hb hby d45_32) (by rw [show T5.heap = h5 from e5]; exact ⟨b2, k2, rfl, N5, (Nat.le_trans (Nat.le_refl _) (Nat.le_of_eq g2.symm)), K5, q6, V5⟩) (by decide) (by decide)
theorem rm12_0 (l : Launch) (Z : State) (a0 : Array Value) (hw : HW a0 Z) (ws : List Jvm.Cond) (o0 : Addr) (l_1 : List Int32) (p2 : Addr) (k_p2 : ClassId) (l_2 : List Int32) (h0 : Heap) (n0 : Nat) (O0 : Old Z n0 h0) (pt0 : (0 : Int32) < ((own_n l_1) - (16 : Int32))) (F_value_o0 : Fld Z h0 o0 "java/lang/AbstractStringBuilder" "value" "[B" (.ref p2)) (V_p2 : Arv Z h0 p2 k_p2 .byte (16 : Int32) (List.map Value.int l_2) (.int 0)) (F_coder_o0 : Fld Z h0 o0 "java/lang/AbstractStringBuilder" "coder" "B" (.int 0)) (E_o0 : Exa Z h0 o0 "java/lang/StringBuilder") (sh_l_1 : l_1.length ≤ 27) (sh_l_2 : l_2.length ≤ 16) (g_o0 : n0 ≤ o0) (F_count_o0 : Fld Z h0 o0 "java/lang/AbstractStringBuilder" "count" "I" (.int (own_n l_2))) :
    Con l Z (⟨"java/lang/AbstractStringBuilder", "ensureCapacityInternal", "(I)V"⟩ : MethodName) jdk_68_method_9_code 3 none ws ({ frames := 3, cells := 1, slots := 34, locals := 48 } : Room) #[(.ref o0), (.int (own_n l_1))] h0 (fun v h L => ∃ (b2_7 : Addr), ∃ (k2_7 : ClassId), v = none ∧ Fr n0 L ∧ h0.size ≤ b2_7 ∧ Keep h0 h [o0] ∧ Fld Z h o0 "java/lang/AbstractStringBuilder" "value" "[B" (.ref b2_7) ∧ Fld Z h o0 "java/lang/AbstractStringBuilder" "coder" "B" (.int 0) ∧ Exa Z h o0 "java/lang/StringBuilder" ∧ Fld Z h o0 "java/lang/AbstractStringBuilder" "count" "I" (.int (own_n l_2)) ∧ Exa Z h b2_7 "[B" ∧ Arv Z h b2_7 k2_7 .byte (34 : Int32) (List.map Value.int l_2) (.int 0)) := by
 refine own_body (plainFor_of_name own_pn6) (fun m => ef_rm45_0 m o0 (own_n l_1)) ?_
 intro p e s m below meth c s₁ hx hby hlk hml hret hZ hown hnm X0 e0
 have N0 := Fr.nil n0
 refine Rn X0 hx hby sg12_0_1 1 #[sr o0, .val (.int (own_n l_1)), un] [(.ref o0)] rfl ?_
 refine Home.st (getF X0 hx hZ hown (host := "") (Or.inl (w68 hw)) Via.refl e0 F_value_o0 rfl rfl (hb hby d12_1)) fun T1 X1 e1 => ?_
 obtain ⟨cl2, Ar2, q2, S2, M2, H2, G2⟩ := id V_p2
 refine Home.go (own_alen X1 hx hZ e1 Ar2 S2 M2 rfl rfl (hb hby d12_4)) ?_
 refine Rn X1 hx hby sg12_5_1 6 #[sr o0, .val (.int (own_n l_1)), un] [(.ref o0), (.int 16)] rfl ?_
 refine Home.st (getF X1 hx hZ hown (host := "") (Or.inl (w70 hw)) Via.refl e1 F_coder_o0 rfl rfl (hb hby d12_6)) fun T3 X3 e3 => ?_
 refine Rn X3 hx hby sg12_9_5 14 #[sr o0, .val (.int (own_n l_1)), si 16] [(.int ((own_n l_1) - (16 : Int32)))] rfl ?_
 refine Home.go (fun _ => XS.ifNo X3.here hx rfl (hb hby d12_14) rfl ((if0 _ _).trans (tlt pt0).2.2.2)) ?_
 refine Rn X3 hx hby sg12_17_2 19 #[sr o0, .val (.int (own_n l_1)), si 16] [(.ref o0), (.ref o0)] rfl ?_
 refine Home.st (getF X3 hx hZ hown (host := "") (Or.inl (w68 hw)) Via.refl e3 F_value_o0 rfl rfl (hb hby d12_19)) fun T4 X4 e4 => ?_
 refine Rn X4 hx hby sg12_22_2 24 #[sr o0, .val (.int (own_n l_1)), si 16] [(.int (own_n l_1)), (.ref o0), (.ref p2), (.ref o0)] rfl ?_
 refine Home.st (own_pure (own_private X4 hx hZ hown (w227 hw) (w228 hw) (own_selp (w230 hw) (w229 hw) (w228 hw) (by decide)) (Cond.privateMethod_at (mvP hZ (w229 hw) (args := #[]))) (w64 hw) (w231 hw) (by decide) (rm42_0 l Z a0 hw [] o0 l_1 p2 k_p2 l_2 h0 n0 O0 F_value_o0 V_p2 F_coder_o0 (Nat.le_trans (own_len_le sh_l_1).2 (by decide))) e4 E_o0 rfl (by rw [hml]; rfl) (argsL := [(.int (own_n l_1))]) (rest := [(.ref p2), (.ref o0)]) (lenOf own_pd15 rfl) rfl rfl (W := 2) (hb hby d12_24))) fun T5 X5 e5 => ?_
 refine Rn X5 hx hby sg12_27_1 28 #[sr o0, .val (.int (own_n l_1)), si 16] [(.ref o0), (.int 34), (.ref p2), (.ref o0)] rfl ?_
 refine Home.st (getF X5 hx hZ hown (host := "") (Or.inl (w70 hw)) Via.refl e5 F_coder_o0 rfl rfl (hb hby d12_28)) fun T6 X6 e6 => ?_
 show Home T6 (mkF m 31 #[sr o0, .val (.int (own_n l_1)), si 16] [(.int 0), (.int 34), (.ref p2), (.ref o0)])
 refine Rn X6 hx hby sg12_31_1 32 #[sr o0, .val (.int (own_n l_1)), si 16] [(.int 34), (.ref p2), (.ref o0)] rfl ?_
 refine Home.call (own_static X6 hx hZ hown (w241 hw) (w242 hw) (w174 hw) (w243 hw) (by decide) (rm45_0 l Z a0 hw [] p2 k_p2 l_2 h0 n0 O0 V_p2 (Nat.le_trans (own_len_le sh_l_2).2 (by decide))) e6 rfl (by rw [hml]; rfl) (argsL := [(.ref p2), (.int 34)]) (rest := [(.ref o0)]) (lenOf own_pd18 rfl) rfl rfl (W := 1) (hb hby d12_32)) ?_
 rintro _ T7 L7 X7 ⟨b2_7, k2_7, rfl, N7q, sz_b2_7, K7q, P7_0, P7_1⟩
 have g_b2_7 : n0 ≤ b2_7 := Nat.le_trans (Old.le O0) sz_b2_7
 have K7 : Keep h0 T7.heap ([o0] : List Addr) := Keep.trans (Keep.refl h0 ([o0] : List Addr)) K7q all0
 have N7 := Fr.app N0 N7q
 have q8 := (F_value_o0.keep K7q nin0)
 refine Home.wr (putF X7 hx hZ hown (host := "") (Or.inl (w68 hw)) Via.refl rfl q8 (E_o0.keep K7) (Or.inl (w69 hw)) (w55 hw) (ty := (.array .byte)) (by decide) rfl rfl rfl rfl (hb hby d12_35)) fun T9 h9 X9 e9 W9 => ?_
 have Fw9 := q8.same W9
 have K9 : Keep h0 h9 ([o0] : List Addr) := Keep.wr K7 W9 (Or.inl (List.mem_of_getElem? (i := 0) rfl))
 have N9 := Fr.snoc X9 N7 g_o0
 have q10 := ((F_coder_o0.keep K7q nin0).other W9 (Or.inr (slot_ne (Or.inl (w71 hw)) (Or.inl (w69 hw)) (by decide) (t := .byte) (t' := (.array .byte)) (by decide) (by decide))))
 have q11 := ((F_count_o0.keep K7q nin0).other W9 (Or.inr (slot_ne (Or.inl (w83 hw)) (Or.inl (w69 hw)) (by decide) (t := .int) (t' := (.array .byte)) (by decide) (by decide))))
 have q12 := (P7_0.wr W9)
 have ne13 : b2_7 ≠ o0 := (Ne.symm (Nat.ne_of_lt (Nat.lt_of_lt_of_le F_value_o0.lt (Nat.le_trans (Nat.le_refl _) sz_b2_7))))
 have q14 := (P7_1.other W9 ne13)
 exact Home.ret0 X9 hx hlk hret (hb hby d12_38) (by rw [show T9.heap = h9 from e9]; exact ⟨b2_7, k2_7, rfl, N9, (Nat.le_trans (Nat.le_refl _) sz_b2_7), K9, Fw9, q10, (E_o0.keep K9), q11, q12, q14⟩) (by decide) (by decide)
theorem rm13_0 (l : Launch) (Z : State) (a0 : Array Value) (hw : HW a0 Z) (ws : List Jvm.Cond) (o0 : Addr) (sv_COMPACT_STRINGS : Int32) (h0 : Heap) (n0 : Nat) (O0 : Old Z n0 h0) (S_COMPACT_STRINGS : Sta Z Z.heap "java/lang/String" "COMPACT_STRINGS" "Z" (.int sv_COMPACT_STRINGS)) (hCS : ¬ (sv_COMPACT_STRINGS = (0 : Int32))) (F_coder_o0 : Fld Z h0 o0 "java/lang/AbstractStringBuilder" "coder" "B" (.int 0)) :
    Con l Z (⟨"java/lang/AbstractStringBuilder", "isLatin1", "()Z"⟩ : MethodName) jdk_68_method_68_code 1 (some .boolean) ws ({ frames := 0, cells := 0, slots := 0, locals := 0 } : Room) #[(.ref o0)] h0 (Pur (some (.int 1)) h0) := by
 refine own_body (plainFor_of_name own_pn6) (fun m => ef_rm7_0 m o0) ?_
 intro p e s m below meth c s₁ hx hby hlk hml hret hZ hown hnm X0 e0
 refine Home.st (getS2 X0 hx hZ hown (host := "") (Or.inl (w67 hw)) Via.refl e0 (S_COMPACT_STRINGS.ext O0.2) rfl (hb hby d13_0)) fun T1 X1 e1 => ?_
 refine Home.go (fun _ => XS.ifNo X1.here hx rfl (hb hby d13_3) rfl ((if0 _ _).trans (feq hCS).1)) ?_
 refine Rn X1 hx hby sg13_6_1 7 #[sr o0] [(.ref o0)] rfl ?_
 refine Home.st (getF X1 hx hZ hown (host := "") (Or.inl (w70 hw)) Via.refl e1 F_coder_o0 rfl rfl (hb hby d13_7)) fun T2 X2 e2 => ?_
 refine Home.go (fun _ => XS.ifNo X2.here hx rfl (hb hby d13_10) rfl ((if0 _ _).trans (teq (by decide)).2)) ?_
 refine Rn X2 hx hby sg13_13_2 18 #[sr o0] [(.int 1)] rfl ?_
 exact Home.retN X2 hx hlk (t := .boolean) hret (by simp) (hb hby d13_18) ⟨congrArg some (congrArg Value.int (by first | rfl | exact nar_i2c _ | exact nar_i2b _)), rfl, e2⟩ (by decide) (by decide)
theorem rm14_0 (l : Launch) (Z : State) (a0 : Array Value) (hw : HW a0 Z) (ws : List Jvm.Cond) (i0 i1 : Int32) (o2 : Addr) (n_cap : Int32) (l_1 : List Int32) (k_o2 : ClassId) (sv_DigitOnes : Addr) (k_ones : ClassId) (sv_DigitTens : Addr) (k_tens : ClassId) (h0 : Heap) (n0 : Nat) (O0 : Old Z n0 h0) (hix : i1 = own_n (l_1 ++ (own_put i0))) (hcap : (l_1 ++ (own_put i0)).length ≤ n_cap.toNatClampNeg ∧ ¬ n_cap < (0 : Int32)) (V_o2 : Arv Z h0 o2 k_o2 .byte n_cap (List.map Value.int l_1) (.int 0)) (sh_l_1 : l_1.length ≤ 27) (g_o2 : n0 ≤ o2) (S_DigitOnes : Sta Z Z.heap "java/lang/Integer" "DigitOnes" "[B" (.ref sv_DigitOnes)) (V_ones : Arv Z Z.heap sv_DigitOnes k_ones .byte (100 : Int32) (List.map Value.int own_ones) (.int 0)) (S_DigitTens : Sta Z Z.heap "java/lang/Integer" "DigitTens" "[B" (.ref sv_DigitTens)) (V_tens : Arv Z Z.heap sv_DigitTens k_tens .byte (100 : Int32) (List.map Value.int own_tens) (.int 0)) (E_o2 : Exa Z h0 o2 "[B") :
    Con l Z (⟨"java/lang/Integer", "getChars", "(II[B)I"⟩ : MethodName) jdk_33_method_12_code 7 (some .int) ws ({ frames := 0, cells := 0, slots := 0, locals := 0 } : Room) #[(.int i0), (.int i1), (.ref o2)] h0 (fun v h L => v = some (.int (own_n l_1)) ∧ Fr n0 L ∧ Keep h0 h [o2] ∧ Arv Z h o2 k_o2 .byte n_cap (List.map Value.int (l_1 ++ (own_put i0))) (.int 0) ∧ Exa Z h o2 "[B") := by
 refine own_body (plainFor_of_name own_pn8) (fun m => ef_rm14_0 m i0 i1 o2) ?_
 intro p e s m below meth c s₁ hx hby hlk hml hret hZ hown hnm X0 e0
 have N0 := Fr.nil n0
 refine Rn X0 hx hby sg14_0_2 3 #[si i0, si i1, sr o2, un, un, si i1, un] [] rfl ?_
 refine Home.cut (C := fun E => ∀ {T : State} (X : Stand p l e ({ frames := 0, cells := 0, slots := 0, locals := 0 } : Room) s m #[(.int i0), (.int i1), (.ref o2)] below meth c T [] 0 0) (eT : T.heap = h0) (y : Int32) (hy : y = own_ng i0) (s6 : Int32) (hs6 : s6 = (if i0 < (0 : Int32) then (1 : Int32) else (0 : Int32))), @Home p e below E T (mkF m 22 #[si y, si i1, sr o2, un, un, si i1, si s6] [])) (fun _ J1 => ?_) ?_
 ·
  refine Rn X0 hx hby sg14_3_1 4 #[si i0, si i1, sr o2, un, un, si i1, un] [(.int i0)] rfl ?_
  by_cases c2 : i0 < (0 : Int32)
  ·
   refine Home.go (fun _ => XS.ifNo X0.here hx rfl (hb hby d14_4) rfl ((if0 _ _).trans (tlt c2).2.1)) ?_
   refine Rn X0 hx hby sg14_7_4 16 #[si i0, si i1, sr o2, un, un, si i1, si 1] [(.int 1)] rfl ?_
   refine Home.go (fun _ => XS.ifYes X0.here hx rfl (pc0 := 16) (pc' := 22) rfl (hb hby d14_16) rfl ((if0 _ _).trans (feq (by decide)).2) (by decide) (by decide)) ?_
   exact J1 X0 e0 _ (if_pos c2).symm _ (if_pos c2).symm
  ·
   refine Home.go (fun _ => XS.ifYes X0.here hx rfl (pc0 := 4) (pc' := 11) rfl (hb hby d14_4) rfl ((if0 _ _).trans (flt c2).2.1) (by decide) (by decide)) ?_
   refine Rn X0 hx hby sg14_11_3 16 #[si i0, si i1, sr o2, un, un, si i1, si 0] [(.int 0)] rfl ?_
   refine Home.go (fun _ => XS.ifNo X0.here hx rfl (hb hby d14_16) rfl ((if0 _ _).trans (teq (by decide)).2)) ?_
   refine Rn X0 hx hby sg14_19_3 22 #[.val (.int (-i0)), si i1, sr o2, un, un, si i1, si 0] [] rfl ?_
   exact J1 X0 e0 _ (if_neg c2).symm _ (if_neg c2).symm
 intro TJ1 XJ1 eJ1 y hy s6 hs6
 have hM := own_m_le i0
 rw [own_ng_is] at hy
 show Home TJ1 (mkF m 22 #[si y, si i1, sr o2, un, un, si i1, si s6] [])
 refine Home.cut (C := fun E => ∀ {T : State} {lc : List Loc} {hJ : Heap} (X : Stand p l e ({ frames := 0, cells := 0, slots := 0, locals := 0 } : Room) s m #[(.int i0), (.int i1), (.ref o2)] below meth c T lc 0 0) (N : Fr n0 lc) (eT : T.heap = hJ) (Kq : Keep h0 hJ ([o2] : List Addr)) (mm : Nat) (hmm : mm < 100) (y : Int32) (hy : y = Jvm.Free.SBG.negI mm) (dn : List Int32) (hD : own_D (own_m i0) = own_D mm ++ dn) (p5 : Int32) (hp : p5 = Int32.ofNat (l_1.length + ((own_sgn i0).length + (own_D mm).length))) (vB : Arv Z hJ o2 k_o2 .byte n_cap (List.map Value.int (l_1 ++ List.replicate ((own_sgn i0).length + (own_D mm).length) (0 : Int32) ++ dn)) (.int 0)) (s3 : Slot) (hs3 : s3 = .unset ∨ ∃ w, s3 = .val w ∧ w.category = 1) (s4 : Slot) (hs4 : s4 = .unset ∨ ∃ w, s4 = .val w ∧ w.category = 1), @Home p e below E T (mkF m 72 #[si y, si i1, sr o2, s3, s4, si p5, si s6] [])) (fun _ J5 => ?_) ?_
 ·
  refine Home.cut (C := fun E => ∀ (f mm : Nat), mm < 100 ^ (f + 1) → mm ≤ 2147483648 → ∀ {T : State} {lc : List Loc} {hJ : Heap} (X : Stand p l e ({ frames := 0, cells := 0, slots := 0, locals := 0 } : Room) s m #[(.int i0), (.int i1), (.ref o2)] below meth c T lc 0 0) (N : Fr n0 lc) (eT : T.heap = hJ) (Kq : Keep h0 hJ ([o2] : List Addr)) (y : Int32) (hy : y = Jvm.Free.SBG.negI mm) (dn : List Int32) (hD : own_D (own_m i0) = own_D mm ++ dn) (p5 : Int32) (hp : p5 = Int32.ofNat (l_1.length + ((own_sgn i0).length + (own_D mm).length))) (vB : Arv Z hJ o2 k_o2 .byte n_cap (List.map Value.int (l_1 ++ List.replicate ((own_sgn i0).length + (own_D mm).length) (0 : Int32) ++ dn)) (.int 0)) (s3 : Slot) (hs3 : s3 = .unset ∨ ∃ w, s3 = .val w ∧ w.category = 1) (s4 : Slot) (hs4 : s4 = .unset ∨ ∃ w, s4 = .val w ∧ w.category = 1), @Home p e below E T (mkF m 22 #[si y, si i1, sr o2, s3, s4, si p5, si s6] [])) (fun _ LP => ?_) ?_
  · exact LP 4 (own_m i0) (by omega) hM XJ1 N0 eJ1 (Keep.refl _ _) y hy [] (List.append_nil _).symm _ (own_gc0 hix) (own_padk V_o2 ((own_sgn i0).length + (own_D (own_m i0)).length)) .unset (Or.inl rfl) .unset (Or.inl rfl)
  intro f
  induction f with
  | zero =>
    intro mm hf hle TB lcB hB XB NB eB KqB y hy dn hD p5 hp vB s3 hs3 s4 hs4
    have hmm : mm < 100 := by simpa using hf
    have hc : (-100 : Int32) < y := by rw [hy]; exact (Jvm.Free.SBG.negI_lt hle 100 (by decide)).mpr hmm
    refine Rn XB hx hby sg14_22_2 25 #[si y, si i1, sr o2, s3, s4, si p5, si s6] [(.int (-100 : Int32)), (.int y)] rfl ?_
    refine Home.go (fun _ => XS.icmpYes XB.here hx rfl (pc0 := 25) (pc' := 72) rfl (hb hby d14_25) rfl (tlt hc).2.2.1 (by decide) (by decide)) ?_
    exact J5 XB NB eB KqB mm hmm y hy dn hD p5 hp vB s3 hs3 s4 hs4
  | succ f ih =>
    intro mm hf hle TB lcB hB XB NB eB KqB y hy dn hD p5 hp vB s3 hs3 s4 hs4
    by_cases hmm : mm < 100
    ·
     have hc : (-100 : Int32) < y := by rw [hy]; exact (Jvm.Free.SBG.negI_lt hle 100 (by decide)).mpr hmm
     refine Rn XB hx hby sg14_22_2 25 #[si y, si i1, sr o2, s3, s4, si p5, si s6] [(.int (-100 : Int32)), (.int y)] rfl ?_
     refine Home.go (fun _ => XS.icmpYes XB.here hx rfl (pc0 := 25) (pc' := 72) rfl (hb hby d14_25) rfl (tlt hc).2.2.1 (by decide) (by decide)) ?_
     exact J5 XB NB eB KqB mm hmm y hy dn hD p5 hp vB s3 hs3 s4 hs4
    ·
     have OB := Old.keep O0 KqB (allS g_o2 all0)
     have hc : ¬ (-100 : Int32) < y := by rw [hy]; exact fun z => hmm ((Jvm.Free.SBG.negI_lt hle 100 (by decide)).mp z)
     have hq : (y / (100 : Int32)) = (Jvm.Free.SBG.negI (mm / 100)) := by rw [hy]; exact Jvm.Free.SBG.negI_div100 hle
     have hr : (((Jvm.Free.SBG.negI (mm / 100)) * (100 : Int32)) - y) = (Int32.ofNat (mm % 100)) := by rw [hy]; exact Jvm.Free.SBG.negI_rem hle
     have hrb : ¬ (Int32.ofNat (mm % 100)) < (0 : Int32) ∧ (Int32.ofNat (mm % 100)) < (100 : Int32) := own_lt100 (Nat.mod_lt _ (by decide))
     have hone := own_at_ones (mm % 100) (Nat.mod_lt _ (by decide))
     have hten := own_at_tens (mm % 100) (Nat.mod_lt _ (by decide))
     have hd2 := own_D_two hmm
     have hKl : ((own_sgn i0).length + (own_D mm).length) = ((own_sgn i0).length + (own_D (mm / 100)).length) + 1 + 1 := by rw [hd2, List.length_append]; rfl
     have hlen := own_put_len i0
     have hlM : ((own_sgn i0).length + (own_D (own_m i0)).length) = (own_put i0).length := by rw [own_put_is, List.length_append]
     have hdl : (own_D (own_m i0)).length = (own_D mm).length + dn.length := by rw [hD, List.length_append]
     rw [hKl, own_rep_snoc] at vB
     rw [hKl] at hp
     have hx1 : (p5 + (-1 : Int32)) = Int32.ofNat (l_1 ++ List.replicate (((own_sgn i0).length + (own_D (mm / 100)).length) + 1) (0 : Int32)).length ∧ (l_1 ++ List.replicate (((own_sgn i0).length + (own_D (mm / 100)).length) + 1) (0 : Int32)).length < 2147483648 := ⟨by rw [hp, List.length_append, List.length_replicate, show l_1.length + (((own_sgn i0).length + (own_D (mm / 100)).length) + 1 + 1) = (l_1.length + (((own_sgn i0).length + (own_D (mm / 100)).length) + 1)) + 1 from by omega]; exact own_pred, by rw [List.length_append, List.length_replicate]; omega⟩
     have hx2 : ((p5 + (-1 : Int32)) + (-1 : Int32)) = Int32.ofNat (l_1 ++ List.replicate ((own_sgn i0).length + (own_D (mm / 100)).length) (0 : Int32)).length ∧ (l_1 ++ List.replicate ((own_sgn i0).length + (own_D (mm / 100)).length) (0 : Int32)).length < 2147483648 := ⟨by rw [hx1.1, List.length_append, List.length_append, List.length_replicate, List.length_replicate, show l_1.length + (((own_sgn i0).length + (own_D (mm / 100)).length) + 1) = (l_1.length + ((own_sgn i0).length + (own_D (mm / 100)).length)) + 1 from by omega]; exact own_pred, by rw [List.length_append, List.length_replicate]; omega⟩
     refine Rn XB hx hby sg14_22_2 25 #[si y, si i1, sr o2, s3, s4, si p5, si s6] [(.int (-100 : Int32)), (.int y)] rfl ?_
     refine Home.go (fun _ => XS.icmpNo XB.here hx rfl (hb hby d14_25) rfl (flt hc).2.2.1) ?_
     refine Rn XB hx hby sg14_28_2 31 #[si y, si i1, sr o2, s3, s4, si p5, si s6] [(.int 100), (.int y)] rfl ?_
     refine Home.go (fun _ => XS.idiv XB.here hx rfl (hb hby d14_31) rfl (by decide)) ?_
     rw [hq]
     show Home TB (mkF m 32 #[si y, si i1, sr o2, s3, s4, si p5, si s6] [(.int (Jvm.Free.SBG.negI (mm / 100)))])
     refine Home.go (fun _ => XS.istoreN XB.here hx rfl (hb hby d14_32) rfl (l' := #[.val (.int y), .val (.int i1), .val (.ref o2), .val (.int (Jvm.Free.SBG.negI (mm / 100))), s4, .val (.int p5), .val (.int s6)]) (XS.store1 rfl hs3 rfl)) ?_
     refine Rn XB hx hby sg14_33_5 39 #[si y, si i1, sr o2, .val (.int (Jvm.Free.SBG.negI (mm / 100))), s4, si p5, si s6] [(.int (((Jvm.Free.SBG.negI (mm / 100)) * (100 : Int32)) - y))] rfl ?_
     rw [hr]
     show Home TB (mkF m 39 #[si y, si i1, sr o2, .val (.int (Jvm.Free.SBG.negI (mm / 100))), s4, si p5, si s6] [(.int (Int32.ofNat (mm % 100)))])
     refine Home.go (fun _ => XS.istore XB.here hx rfl (hb hby d14_39) rfl (l' := #[.val (.int y), .val (.int i1), .val (.ref o2), .val (.int (Jvm.Free.SBG.negI (mm / 100))), .val (.int (Int32.ofNat (mm % 100))), .val (.int p5), .val (.int s6)]) (XS.store1 rfl hs4 rfl)) ?_
     refine Rn XB hx hby sg14_41_5 49 #[.val (.int (Jvm.Free.SBG.negI (mm / 100))), si i1, sr o2, .val (.int (Jvm.Free.SBG.negI (mm / 100))), .val (.int (Int32.ofNat (mm % 100))), .val (.int (p5 + (-1 : Int32))), si s6] [(.int (p5 + (-1 : Int32))), (.ref o2)] rfl ?_
     refine Home.st (getS2 XB hx hZ hown (host := "") (Or.inl (w101 hw)) Via.refl eB (S_DigitOnes.ext OB.2) rfl (hb hby d14_49)) fun T6 X6 e6 => ?_
     refine Rn X6 hx hby sg14_52_1 54 #[.val (.int (Jvm.Free.SBG.negI (mm / 100))), si i1, sr o2, .val (.int (Jvm.Free.SBG.negI (mm / 100))), .val (.int (Int32.ofNat (mm % 100))), .val (.int (p5 + (-1 : Int32))), si s6] [(.int (Int32.ofNat (mm % 100))), (.ref sv_DigitOnes), (.int (p5 + (-1 : Int32))), (.ref o2)] rfl ?_
     obtain ⟨cl7, Ar7, q7, S7, M7, H7, G7⟩ := id (V_ones.ext OB.2)
     have ib7 : ¬ ((Int32.ofNat (mm % 100)) < 0 ∨ cl7.slots.size ≤ ((Int32.ofNat (mm % 100))).toNatClampNeg) := inb_of S7 ⟨hrb.1, hrb.2⟩
     refine Home.go (X6.baloadBytes hx (j := (Int32.ofNat (mm % 100))) (v := .int (own_at own_ones (Int32.ofNat (mm % 100)))) (by rw [e6]; exact Ar7.1) (State.isArrayOf_alike hZ.alike Ar7.2.1) Ar7.2.2 ib7 (Has.at H7 ib7 (own_getD own_ones _)) rfl rfl (hb hby d14_54)) ?_
     rw [hone]
     show Home T6 (mkF m 55 #[.val (.int (Jvm.Free.SBG.negI (mm / 100))), si i1, sr o2, .val (.int (Jvm.Free.SBG.negI (mm / 100))), .val (.int (Int32.ofNat (mm % 100))), .val (.int (p5 + (-1 : Int32))), si s6] [(.int (Int32.ofNat (48 + mm % 100 % 10))), (.int (p5 + (-1 : Int32))), (.ref o2)])
     have hin1 : ¬ (p5 + (-1 : Int32)) < (0 : Int32) ∧ (p5 + (-1 : Int32)) < n_cap := by rw [hx1.1]; exact own_incap hcap (by simp only [List.length_append, List.length_replicate]; omega)
     obtain ⟨cl8, Ar8, q8, S8, M8, H8, G8⟩ := id vB
     refine Home.wr (stB X6 hx hZ e6 Ar8 (j := (p5 + (-1 : Int32))) (inb_of S8 hin1) rfl rfl (hb hby d14_55)) fun T8 h8 X8 e8 W8 => ?_
     have W8' := Wr.to W8 (congrArg Value.int (nar_byte_id (own_dcb1 (Nat.mod_lt _ (by decide))) (by decide +kernel) (by decide +kernel)))
     have V8 : Arv Z h8 o2 k_o2 .byte n_cap (List.map Value.int ((l_1 ++ List.replicate (((own_sgn i0).length + (own_D (mm / 100)).length) + 1) (0 : Int32)) ++ (Int32.ofNat (48 + mm % 100 % 10)) :: dn)) (.int 0) := own_setS (vs := ((l_1 ++ List.replicate (((own_sgn i0).length + (own_D (mm / 100)).length) + 1) (0 : Int32)) ++ 0 :: dn)) (ws := ((l_1 ++ List.replicate (((own_sgn i0).length + (own_D (mm / 100)).length) + 1) (0 : Int32)) ++ (Int32.ofNat (48 + mm % 100 % 10)) :: dn)) Ar8 q8 S8 M8 H8 G8 (fits_byte_b (own_dcb1 (Nat.mod_lt _ (by decide))) (by decide +kernel) (by decide +kernel)) W8' (own_len_mid hx1) (own_set_mid hx1)
     have k8 : Keep h0 h8 ([o2] : List Addr) := Keep.wr KqB W8 (Or.inl (List.mem_of_getElem? (i := 0) rfl))
     have N8 := Fr.snoc X8 NB g_o2
     have O8 := OB.wr W8 g_o2
     refine Rn X8 hx hby sg14_56_3 62 #[.val (.int (Jvm.Free.SBG.negI (mm / 100))), si i1, sr o2, .val (.int (Jvm.Free.SBG.negI (mm / 100))), .val (.int (Int32.ofNat (mm % 100))), .val (.int ((p5 + (-1 : Int32)) + (-1 : Int32))), si s6] [(.int ((p5 + (-1 : Int32)) + (-1 : Int32))), (.ref o2)] rfl ?_
     refine Home.st (getS2 X8 hx hZ hown (host := "") (Or.inl (w213 hw)) Via.refl e8 (S_DigitTens.ext O8.2) rfl (hb hby d14_62)) fun T9 X9 e9 => ?_
     refine Rn X9 hx hby sg14_65_1 67 #[.val (.int (Jvm.Free.SBG.negI (mm / 100))), si i1, sr o2, .val (.int (Jvm.Free.SBG.negI (mm / 100))), .val (.int (Int32.ofNat (mm % 100))), .val (.int ((p5 + (-1 : Int32)) + (-1 : Int32))), si s6] [(.int (Int32.ofNat (mm % 100))), (.ref sv_DigitTens), (.int ((p5 + (-1 : Int32)) + (-1 : Int32))), (.ref o2)] rfl ?_
     obtain ⟨cl10, Ar10, q10, S10, M10, H10, G10⟩ := id (V_tens.ext O8.2)
     have ib10 : ¬ ((Int32.ofNat (mm % 100)) < 0 ∨ cl10.slots.size ≤ ((Int32.ofNat (mm % 100))).toNatClampNeg) := inb_of S10 ⟨hrb.1, hrb.2⟩
     refine Home.go (X9.baloadBytes hx (j := (Int32.ofNat (mm % 100))) (v := .int (own_at own_tens (Int32.ofNat (mm % 100)))) (by rw [e9]; exact Ar10.1) (State.isArrayOf_alike hZ.alike Ar10.2.1) Ar10.2.2 ib10 (Has.at H10 ib10 (own_getD own_tens _)) rfl rfl (hb hby d14_67)) ?_
     show Home T9 (mkF m 68 #[.val (.int (Jvm.Free.SBG.negI (mm / 100))), si i1, sr o2, .val (.int (Jvm.Free.SBG.negI (mm / 100))), .val (.int (Int32.ofNat (mm % 100))), .val (.int ((p5 + (-1 : Int32)) + (-1 : Int32))), si s6] [(.int (own_at own_tens (Int32.ofNat (mm % 100)))), (.int ((p5 + (-1 : Int32)) + (-1 : Int32))), (.ref o2)])
     rw [hten]
     show Home T9 (mkF m 68 #[.val (.int (Jvm.Free.SBG.negI (mm / 100))), si i1, sr o2, .val (.int (Jvm.Free.SBG.negI (mm / 100))), .val (.int (Int32.ofNat (mm % 100))), .val (.int ((p5 + (-1 : Int32)) + (-1 : Int32))), si s6] [(.int (Int32.ofNat (48 + mm % 100 / 10))), (.int ((p5 + (-1 : Int32)) + (-1 : Int32))), (.ref o2)])
     have hin2 : ¬ ((p5 + (-1 : Int32)) + (-1 : Int32)) < (0 : Int32) ∧ ((p5 + (-1 : Int32)) + (-1 : Int32)) < n_cap := by rw [hx2.1]; exact own_incap hcap (by simp only [List.length_append, List.length_replicate]; omega)
     have vB2 : Arv Z h8 o2 k_o2 .byte n_cap (List.map Value.int ((l_1 ++ List.replicate ((own_sgn i0).length + (own_D (mm / 100)).length) (0 : Int32)) ++ 0 :: ((Int32.ofNat (48 + mm % 100 % 10)) :: dn))) (.int 0) := by have z := V8; rw [show (l_1 ++ List.replicate (((own_sgn i0).length + (own_D (mm / 100)).length) + 1) (0 : Int32)) = (l_1 ++ List.replicate ((own_sgn i0).length + (own_D (mm / 100)).length) (0 : Int32)) ++ 0 :: [] from own_rep1 _ _, List.append_assoc] at z; exact z
     obtain ⟨cl11, Ar11, q11, S11, M11, H11, G11⟩ := id vB2
     refine Home.wr (stB X9 hx hZ e9 Ar11 (j := ((p5 + (-1 : Int32)) + (-1 : Int32))) (inb_of S11 hin2) rfl rfl (hb hby d14_68)) fun T11 h11 X11 e11 W11 => ?_
     have W11' := Wr.to W11 (congrArg Value.int (nar_byte_id (own_dcb1 (by omega)) (by decide +kernel) (by decide +kernel)))
     have V11 : Arv Z h11 o2 k_o2 .byte n_cap (List.map Value.int ((l_1 ++ List.replicate ((own_sgn i0).length + (own_D (mm / 100)).length) (0 : Int32)) ++ (Int32.ofNat (48 + mm % 100 / 10)) :: ((Int32.ofNat (48 + mm % 100 % 10)) :: dn))) (.int 0) := own_setS (vs := ((l_1 ++ List.replicate ((own_sgn i0).length + (own_D (mm / 100)).length) (0 : Int32)) ++ 0 :: ((Int32.ofNat (48 + mm % 100 % 10)) :: dn))) (ws := ((l_1 ++ List.replicate ((own_sgn i0).length + (own_D (mm / 100)).length) (0 : Int32)) ++ (Int32.ofNat (48 + mm % 100 / 10)) :: ((Int32.ofNat (48 + mm % 100 % 10)) :: dn))) Ar11 q11 S11 M11 H11 G11 (fits_byte_b (own_dcb1 (by omega)) (by decide +kernel) (by decide +kernel)) W11' (own_len_mid hx2) (own_set_mid hx2)
     have k11 : Keep h0 h11 ([o2] : List Addr) := Keep.wr k8 W11 (Or.inl (List.mem_of_getElem? (i := 0) rfl))
     have N11 := Fr.snoc X11 N8 g_o2
     refine Rn X11 hx hby sg14_69_1 22 #[.val (.int (Jvm.Free.SBG.negI (mm / 100))), si i1, sr o2, .val (.int (Jvm.Free.SBG.negI (mm / 100))), .val (.int (Int32.ofNat (mm % 100))), .val (.int ((p5 + (-1 : Int32)) + (-1 : Int32))), si s6] [] rfl ?_
     exact ih (mm / 100) (by rw [Nat.div_lt_iff_lt_mul (by decide), ← Nat.pow_succ]; exact hf) (by omega) X11 N11 e11 k11 _ rfl ((Int32.ofNat (48 + mm % 100 / 10)) :: (Int32.ofNat (48 + mm % 100 % 10)) :: dn) (by rw [hD, hd2, List.append_assoc]; rfl) _ (by rw [hx2.1, List.length_append, List.length_replicate]) V11 _ (Or.inr ⟨_, rfl, rfl⟩) _ (Or.inr ⟨_, rfl, rfl⟩)
 intro TJ5 lcJ5 hJ5 XJ5 NJ5 eJ5 KqJ5 mm hmm y hy dn hD p5 hp vB s3 hs3 s4 hs4
 have OJ5 := Old.keep O0 KqJ5 (allS g_o2 all0)
 have KJ5 : Keep h0 hJ5 ([o2] : List Addr) := Keep.trans (Keep.refl h0 ([o2] : List Addr)) KqJ5 (allS (Or.inl (List.mem_of_getElem? (i := 0) rfl)) all0)
 show Home TJ5 (mkF m 72 #[si y, si i1, sr o2, s3, s4, si p5, si s6] [])
 refine Home.cut (C := fun E => ∀ {T : State} {lc : List Loc} {hJ : Heap} (X : Stand p l e ({ frames := 0, cells := 0, slots := 0, locals := 0 } : Room) s m #[(.int i0), (.int i1), (.ref o2)] below meth c T lc 0 0) (N : Fr n0 lc) (eT : T.heap = hJ) (Kq : Keep hJ5 hJ ([o2] : List Addr)) (p6 : Int32) (hp6 : p6 = Int32.ofNat (l_1.length + (own_sgn i0).length)) (vB : Arv Z hJ o2 k_o2 .byte n_cap (List.map Value.int ((l_1 ++ List.replicate (own_sgn i0).length (0 : Int32)) ++ own_D (own_m i0))) (.int 0)), @Home p e below E T (mkF m 104 #[si y, si i1, sr o2, s3, s4, si p6, si s6] [])) (fun _ J12 => ?_) ?_
 ·
  have hle : mm ≤ 2147483648 := by omega
  have hng : (-y) = (Int32.ofNat mm) := by rw [hy]; exact Jvm.Free.SBG.neg_negI (by omega)
  have hnb : ¬ (Int32.ofNat mm) < (0 : Int32) ∧ (Int32.ofNat mm) < (100 : Int32) := own_lt100 hmm
  have hone := own_at_ones mm hmm
  have hten := own_at_tens mm hmm
  have hlen := own_put_len i0
  have hlM : (own_sgn i0).length + (own_D (own_m i0)).length = (own_put i0).length := by rw [own_put_is, List.length_append]
  have hdl : (own_D (own_m i0)).length = (own_D mm).length + dn.length := by rw [hD, List.length_append]
  by_cases h10 : mm < 10
  ·
   have hc : ¬ y < (-9 : Int32) := by rw [hy]; exact own_m9n hle h10
   have hdm := own_D_lo h10
   have hK : (own_sgn i0).length + (own_D mm).length = (own_sgn i0).length + 1 := by rw [hdm]; rfl
   have vB1 := vB
   rw [hK, own_rep_snoc] at vB1
   rw [hK] at hp
   have hx1 : (p5 + (-1 : Int32)) = Int32.ofNat (l_1 ++ List.replicate (own_sgn i0).length (0 : Int32)).length ∧ (l_1 ++ List.replicate (own_sgn i0).length (0 : Int32)).length < 2147483648 := ⟨by rw [hp, List.length_append, List.length_replicate]; exact own_pred, by rw [List.length_append, List.length_replicate]; omega⟩
   have hin1 : ¬ (p5 + (-1 : Int32)) < (0 : Int32) ∧ (p5 + (-1 : Int32)) < n_cap := by rw [hx1.1]; exact own_incap hcap (by simp only [List.length_append, List.length_replicate]; omega)
   refine Rn XJ5 hx hby sg14_72_3 78 #[si y, si i1, sr o2, s3, s4, .val (.int (p5 + (-1 : Int32))), si s6] [(.int (p5 + (-1 : Int32))), (.ref o2)] rfl ?_
   refine Home.st (getS2 XJ5 hx hZ hown (host := "") (Or.inl (w101 hw)) Via.refl eJ5 (S_DigitOnes.ext OJ5.2) rfl (hb hby d14_78)) fun T13 X13 e13 => ?_
   refine Rn X13 hx hby sg14_81_2 83 #[si y, si i1, sr o2, s3, s4, .val (.int (p5 + (-1 : Int32))), si s6] [(.int (-y)), (.ref sv_DigitOnes), (.int (p5 + (-1 : Int32))), (.ref o2)] rfl ?_
   rw [hng]
   show Home T13 (mkF m 83 #[si y, si i1, sr o2, s3, s4, .val (.int (p5 + (-1 : Int32))), si s6] [(.int (Int32.ofNat mm)), (.ref sv_DigitOnes), (.int (p5 + (-1 : Int32))), (.ref o2)])
   obtain ⟨cl14, Ar14, q14, S14, M14, H14, G14⟩ := id (V_ones.ext OJ5.2)
   have ib14 : ¬ ((Int32.ofNat mm) < 0 ∨ cl14.slots.size ≤ ((Int32.ofNat mm)).toNatClampNeg) := inb_of S14 ⟨hnb.1, hnb.2⟩
   refine Home.go (X13.baloadBytes hx (j := (Int32.ofNat mm)) (v := .int (own_at own_ones (Int32.ofNat mm))) (by rw [e13]; exact Ar14.1) (State.isArrayOf_alike hZ.alike Ar14.2.1) Ar14.2.2 ib14 (Has.at H14 ib14 (own_getD own_ones _)) rfl rfl (hb hby d14_83)) ?_
   rw [hone]
   show Home T13 (mkF m 84 #[si y, si i1, sr o2, s3, s4, .val (.int (p5 + (-1 : Int32))), si s6] [(.int (Int32.ofNat (48 + mm % 10))), (.int (p5 + (-1 : Int32))), (.ref o2)])
   obtain ⟨cl15, Ar15, q15, S15, M15, H15, G15⟩ := id vB1
   refine Home.wr (stB X13 hx hZ e13 Ar15 (j := (p5 + (-1 : Int32))) (inb_of S15 hin1) rfl rfl (hb hby d14_84)) fun T15 h15 X15 e15 W15 => ?_
   have W15' := Wr.to W15 (congrArg Value.int (nar_byte_id (own_dcb1 (Nat.mod_lt _ (by decide))) (by decide +kernel) (by decide +kernel)))
   have V15 : Arv Z h15 o2 k_o2 .byte n_cap (List.map Value.int ((l_1 ++ List.replicate (own_sgn i0).length (0 : Int32)) ++ (Int32.ofNat (48 + mm % 10)) :: dn)) (.int 0) := own_setS (vs := ((l_1 ++ List.replicate (own_sgn i0).length (0 : Int32)) ++ 0 :: dn)) (ws := ((l_1 ++ List.replicate (own_sgn i0).length (0 : Int32)) ++ (Int32.ofNat (48 + mm % 10)) :: dn)) Ar15 q15 S15 M15 H15 G15 (fits_byte_b (own_dcb1 (Nat.mod_lt _ (by decide))) (by decide +kernel) (by decide +kernel)) W15' (own_len_mid hx1) (own_set_mid hx1)
   have k15 : Keep hJ5 h15 ([o2] : List Addr) := Keep.wr (Keep.refl _ _) W15 (Or.inl (List.mem_of_getElem? (i := 0) rfl))
   have N15 := Fr.snoc X15 NJ5 g_o2
   refine Rn X15 hx hby sg14_85_2 88 #[si y, si i1, sr o2, s3, s4, .val (.int (p5 + (-1 : Int32))), si s6] [(.int (-9 : Int32)), (.int y)] rfl ?_
   refine Home.go (fun _ => XS.icmpYes X15.here hx rfl (pc0 := 88) (pc' := 104) rfl (hb hby d14_88) rfl (flt hc).2.1 (by decide) (by decide)) ?_
   exact J12 X15 N15 e15 k15 _ (by rw [hx1.1, List.length_append, List.length_replicate]) (by rw [hD, hdm]; exact (by have z := V15; rw [Nat.mod_eq_of_lt h10] at z; exact z))
  ·
   have hc : y < (-9 : Int32) := by rw [hy]; exact own_m9 hle h10
   have hdm := own_D_100 hmm h10
   have hK : (own_sgn i0).length + (own_D mm).length = (own_sgn i0).length + 2 := by rw [hdm]; rfl
   have vB1 := vB
   rw [hK, show (own_sgn i0).length + 2 = ((own_sgn i0).length + 1) + 1 from rfl, own_rep_snoc] at vB1
   rw [hK] at hp
   have hx1 : (p5 + (-1 : Int32)) = Int32.ofNat (l_1 ++ List.replicate ((own_sgn i0).length + 1) (0 : Int32)).length ∧ (l_1 ++ List.replicate ((own_sgn i0).length + 1) (0 : Int32)).length < 2147483648 := ⟨by rw [hp, List.length_append, List.length_replicate, show l_1.length + ((own_sgn i0).length + 2) = (l_1.length + ((own_sgn i0).length + 1)) + 1 from by omega]; exact own_pred, by rw [List.length_append, List.length_replicate]; omega⟩
   have hin1 : ¬ (p5 + (-1 : Int32)) < (0 : Int32) ∧ (p5 + (-1 : Int32)) < n_cap := by rw [hx1.1]; exact own_incap hcap (by simp only [List.length_append, List.length_replicate]; omega)
   have hx2 : ((p5 + (-1 : Int32)) + (-1 : Int32)) = Int32.ofNat (l_1 ++ List.replicate (own_sgn i0).length (0 : Int32)).length ∧ (l_1 ++ List.replicate (own_sgn i0).length (0 : Int32)).length < 2147483648 := ⟨by rw [hx1.1, List.length_append, List.length_append, List.length_replicate, List.length_replicate, show l_1.length + ((own_sgn i0).length + 1) = (l_1.length + (own_sgn i0).length) + 1 from by omega]; exact own_pred, by rw [List.length_append, List.length_replicate]; omega⟩
   have hin2 : ¬ ((p5 + (-1 : Int32)) + (-1 : Int32)) < (0 : Int32) ∧ ((p5 + (-1 : Int32)) + (-1 : Int32)) < n_cap := by rw [hx2.1]; exact own_incap hcap (by simp only [List.length_append, List.length_replicate]; omega)
   refine Rn XJ5 hx hby sg14_72_3 78 #[si y, si i1, sr o2, s3, s4, .val (.int (p5 + (-1 : Int32))), si s6] [(.int (p5 + (-1 : Int32))), (.ref o2)] rfl ?_
   refine Home.st (getS2 XJ5 hx hZ hown (host := "") (Or.inl (w101 hw)) Via.refl eJ5 (S_DigitOnes.ext OJ5.2) rfl (hb hby d14_78)) fun T16 X16 e16 => ?_
   refine Rn X16 hx hby sg14_81_2 83 #[si y, si i1, sr o2, s3, s4, .val (.int (p5 + (-1 : Int32))), si s6] [(.int (-y)), (.ref sv_DigitOnes), (.int (p5 + (-1 : Int32))), (.ref o2)] rfl ?_
   rw [hng]
   show Home T16 (mkF m 83 #[si y, si i1, sr o2, s3, s4, .val (.int (p5 + (-1 : Int32))), si s6] [(.int (Int32.ofNat mm)), (.ref sv_DigitOnes), (.int (p5 + (-1 : Int32))), (.ref o2)])
   obtain ⟨cl17, Ar17, q17, S17, M17, H17, G17⟩ := id (V_ones.ext OJ5.2)
   have ib17 : ¬ ((Int32.ofNat mm) < 0 ∨ cl17.slots.size ≤ ((Int32.ofNat mm)).toNatClampNeg) := inb_of S17 ⟨hnb.1, hnb.2⟩
   refine Home.go (X16.baloadBytes hx (j := (Int32.ofNat mm)) (v := .int (own_at own_ones (Int32.ofNat mm))) (by rw [e16]; exact Ar17.1) (State.isArrayOf_alike hZ.alike Ar17.2.1) Ar17.2.2 ib17 (Has.at H17 ib17 (own_getD own_ones _)) rfl rfl (hb hby d14_83)) ?_
   rw [hone]
   show Home T16 (mkF m 84 #[si y, si i1, sr o2, s3, s4, .val (.int (p5 + (-1 : Int32))), si s6] [(.int (Int32.ofNat (48 + mm % 10))), (.int (p5 + (-1 : Int32))), (.ref o2)])
   obtain ⟨cl18, Ar18, q18, S18, M18, H18, G18⟩ := id vB1
   refine Home.wr (stB X16 hx hZ e16 Ar18 (j := (p5 + (-1 : Int32))) (inb_of S18 hin1) rfl rfl (hb hby d14_84)) fun T18 h18 X18 e18 W18 => ?_
   have W18' := Wr.to W18 (congrArg Value.int (nar_byte_id (own_dcb1 (Nat.mod_lt _ (by decide))) (by decide +kernel) (by decide +kernel)))
   have V18 : Arv Z h18 o2 k_o2 .byte n_cap (List.map Value.int ((l_1 ++ List.replicate ((own_sgn i0).length + 1) (0 : Int32)) ++ (Int32.ofNat (48 + mm % 10)) :: dn)) (.int 0) := own_setS (vs := ((l_1 ++ List.replicate ((own_sgn i0).length + 1) (0 : Int32)) ++ 0 :: dn)) (ws := ((l_1 ++ List.replicate ((own_sgn i0).length + 1) (0 : Int32)) ++ (Int32.ofNat (48 + mm % 10)) :: dn)) Ar18 q18 S18 M18 H18 G18 (fits_byte_b (own_dcb1 (Nat.mod_lt _ (by decide))) (by decide +kernel) (by decide +kernel)) W18' (own_len_mid hx1) (own_set_mid hx1)
   have k18 : Keep hJ5 h18 ([o2] : List Addr) := Keep.wr (Keep.refl _ _) W18 (Or.inl (List.mem_of_getElem? (i := 0) rfl))
   have N18 := Fr.snoc X18 NJ5 g_o2
   have O18 := OJ5.wr W18 g_o2
   refine Rn X18 hx hby sg14_85_2 88 #[si y, si i1, sr o2, s3, s4, .val (.int (p5 + (-1 : Int32))), si s6] [(.int (-9 : Int32)), (.int y)] rfl ?_
   refine Home.go (fun _ => XS.icmpNo X18.here hx rfl (hb hby d14_88) rfl (tlt hc).2.1) ?_
   refine Rn X18 hx hby sg14_91_3 97 #[si y, si i1, sr o2, s3, s4, .val (.int ((p5 + (-1 : Int32)) + (-1 : Int32))), si s6] [(.int ((p5 + (-1 : Int32)) + (-1 : Int32))), (.ref o2)] rfl ?_
   refine Home.st (getS2 X18 hx hZ hown (host := "") (Or.inl (w213 hw)) Via.refl e18 (S_DigitTens.ext O18.2) rfl (hb hby d14_97)) fun T19 X19 e19 => ?_
   refine Rn X19 hx hby sg14_100_2 102 #[si y, si i1, sr o2, s3, s4, .val (.int ((p5 + (-1 : Int32)) + (-1 : Int32))), si s6] [(.int (-y)), (.ref sv_DigitTens), (.int ((p5 + (-1 : Int32)) + (-1 : Int32))), (.ref o2)] rfl ?_
   rw [hng]
   show Home T19 (mkF m 102 #[si y, si i1, sr o2, s3, s4, .val (.int ((p5 + (-1 : Int32)) + (-1 : Int32))), si s6] [(.int (Int32.ofNat mm)), (.ref sv_DigitTens), (.int ((p5 + (-1 : Int32)) + (-1 : Int32))), (.ref o2)])
   obtain ⟨cl20, Ar20, q20, S20, M20, H20, G20⟩ := id (V_tens.ext O18.2)
   have ib20 : ¬ ((Int32.ofNat mm) < 0 ∨ cl20.slots.size ≤ ((Int32.ofNat mm)).toNatClampNeg) := inb_of S20 ⟨hnb.1, hnb.2⟩
   refine Home.go (X19.baloadBytes hx (j := (Int32.ofNat mm)) (v := .int (own_at own_tens (Int32.ofNat mm))) (by rw [e19]; exact Ar20.1) (State.isArrayOf_alike hZ.alike Ar20.2.1) Ar20.2.2 ib20 (Has.at H20 ib20 (own_getD own_tens _)) rfl rfl (hb hby d14_102)) ?_
   rw [hten]
   show Home T19 (mkF m 103 #[si y, si i1, sr o2, s3, s4, .val (.int ((p5 + (-1 : Int32)) + (-1 : Int32))), si s6] [(.int (Int32.ofNat (48 + mm / 10))), (.int ((p5 + (-1 : Int32)) + (-1 : Int32))), (.ref o2)])
   have vB2 : Arv Z h18 o2 k_o2 .byte n_cap (List.map Value.int ((l_1 ++ List.replicate (own_sgn i0).length (0 : Int32)) ++ 0 :: ((Int32.ofNat (48 + mm % 10)) :: dn))) (.int 0) := by have z := V18; rw [show (l_1 ++ List.replicate ((own_sgn i0).length + 1) (0 : Int32)) = (l_1 ++ List.replicate (own_sgn i0).length (0 : Int32)) ++ 0 :: [] from own_rep1 _ _, List.append_assoc] at z; exact z
   obtain ⟨cl21, Ar21, q21, S21, M21, H21, G21⟩ := id vB2
   refine Home.wr (stB X19 hx hZ e19 Ar21 (j := ((p5 + (-1 : Int32)) + (-1 : Int32))) (inb_of S21 hin2) rfl rfl (hb hby d14_103)) fun T21 h21 X21 e21 W21 => ?_
   have W21' := Wr.to W21 (congrArg Value.int (nar_byte_id (own_dcb1 (by omega)) (by decide +kernel) (by decide +kernel)))
   have V21 : Arv Z h21 o2 k_o2 .byte n_cap (List.map Value.int ((l_1 ++ List.replicate (own_sgn i0).length (0 : Int32)) ++ (Int32.ofNat (48 + mm / 10)) :: ((Int32.ofNat (48 + mm % 10)) :: dn))) (.int 0) := own_setS (vs := ((l_1 ++ List.replicate (own_sgn i0).length (0 : Int32)) ++ 0 :: ((Int32.ofNat (48 + mm % 10)) :: dn))) (ws := ((l_1 ++ List.replicate (own_sgn i0).length (0 : Int32)) ++ (Int32.ofNat (48 + mm / 10)) :: ((Int32.ofNat (48 + mm % 10)) :: dn))) Ar21 q21 S21 M21 H21 G21 (fits_byte_b (own_dcb1 (by omega)) (by decide +kernel) (by decide +kernel)) W21' (own_len_mid hx2) (own_set_mid hx2)
   have k21 : Keep hJ5 h21 ([o2] : List Addr) := Keep.wr k18 W21 (Or.inl (List.mem_of_getElem? (i := 0) rfl))
   have N21 := Fr.snoc X21 N18 g_o2
   exact J12 X21 N21 e21 k21 _ (by rw [hx2.1, List.length_append, List.length_replicate]) (by rw [hD, hdm]; exact V21)
 intro TJ12 lcJ12 hJ12 XJ12 NJ12 eJ12 KqJ12 p6 hp6 vB6
 have KJ12 : Keep h0 hJ12 ([o2] : List Addr) := Keep.trans KJ5 KqJ12 (allS (Or.inl (List.mem_of_getElem? (i := 0) rfl)) all0)
 show Home TJ12 (mkF m 104 #[si y, si i1, sr o2, s3, s4, si p6, si s6] [])
 refine Home.cut (C := fun E => ∀ {T : State} {lc : List Loc} {hJ : Heap} (X : Stand p l e ({ frames := 0, cells := 0, slots := 0, locals := 0 } : Room) s m #[(.int i0), (.int i1), (.ref o2)] below meth c T lc 0 0) (N : Fr n0 lc) (eT : T.heap = hJ) (Kq : Keep hJ12 hJ ([o2] : List Addr)) (p7 : Int32) (hp7 : p7 = own_n l_1) (vB : Arv Z hJ o2 k_o2 .byte n_cap (List.map Value.int (l_1 ++ (own_put i0))) (.int 0)), @Home p e below E T (mkF m 118 #[si y, si i1, sr o2, s3, s4, si p7, si s6] [])) (fun _ J22 => ?_) ?_
 ·
  have hlen := own_put_len i0
  by_cases hxn : i0 < (0 : Int32)
  ·
   have hs : own_sgn i0 = [(45 : Int32)] := if_pos hxn
   have hs7 : s6 = (1 : Int32) := hs6.trans (if_pos hxn)
   have vB7 := vB6
   rw [hs] at vB7 hp6
   have hs8 : ¬ (s6 = (0 : Int32)) := by rw [hs7]; decide
   have vB8 : Arv Z hJ12 o2 k_o2 .byte n_cap (List.map Value.int (l_1 ++ 0 :: (own_D (own_m i0)))) (.int 0) := by have z := vB7; rw [show List.replicate ([(45 : Int32)].length) (0 : Int32) = [0] from rfl, List.append_assoc] at z; exact z
   have hx1 : (p6 + (-1 : Int32)) = Int32.ofNat l_1.length ∧ l_1.length < 2147483648 := ⟨by rw [hp6]; exact own_pred, by omega⟩
   have hin1 : ¬ (p6 + (-1 : Int32)) < (0 : Int32) ∧ (p6 + (-1 : Int32)) < n_cap := by rw [hx1.1]; exact own_incap hcap (by simp only [List.length_append]; omega)
   refine Rn XJ12 hx hby sg14_104_1 106 #[si y, si i1, sr o2, s3, s4, si p6, si s6] [(.int s6)] rfl ?_
   refine Home.go (fun _ => XS.ifNo XJ12.here hx rfl (hb hby d14_106) rfl ((if0 _ _).trans (feq hs8).1)) ?_
   refine Rn XJ12 hx hby sg14_109_4 117 #[si y, si i1, sr o2, s3, s4, .val (.int (p6 + (-1 : Int32))), si s6] [(.int 45), (.int (p6 + (-1 : Int32))), (.ref o2)] rfl ?_
   obtain ⟨cl23, Ar23, q23, S23, M23, H23, G23⟩ := id vB8
   refine Home.wr (stB XJ12 hx hZ eJ12 Ar23 (j := (p6 + (-1 : Int32))) (inb_of S23 hin1) rfl rfl (hb hby d14_117)) fun T23 h23 X23 e23 W23 => ?_
   have W23' := Wr.to W23 (congrArg Value.int (nar_byte_id (bnd_lit (45 : Int32)) (by decide +kernel) (by decide +kernel)))
   have V23 : Arv Z h23 o2 k_o2 .byte n_cap (List.map Value.int (l_1 ++ (45 : Int32) :: (own_D (own_m i0)))) (.int 0) := own_setS (vs := (l_1 ++ 0 :: (own_D (own_m i0)))) (ws := (l_1 ++ (45 : Int32) :: (own_D (own_m i0)))) Ar23 q23 S23 M23 H23 G23 (fits_byte_b (bnd_lit (45 : Int32)) (by decide +kernel) (by decide +kernel)) W23' (own_len_mid hx1) (own_set_mid hx1)
   have k23 : Keep hJ12 h23 ([o2] : List Addr) := Keep.wr (Keep.refl _ _) W23 (Or.inl (List.mem_of_getElem? (i := 0) rfl))
   have N23 := Fr.snoc X23 NJ12 g_o2
   exact J22 X23 N23 e23 k23 (p6 + (-1 : Int32)) hx1.1 (by rw [own_put_is, hs]; exact V23)
  ·
   have hs : own_sgn i0 = [] := if_neg hxn
   have hs7 : s6 = (0 : Int32) := hs6.trans (if_neg hxn)
   have vB7 := vB6
   rw [hs] at vB7 hp6
   have hs8 : s6 = (0 : Int32) := hs7
   refine Rn XJ12 hx hby sg14_104_1 106 #[si y, si i1, sr o2, s3, s4, si p6, si s6] [(.int s6)] rfl ?_
   refine Home.go (fun _ => XS.ifYes XJ12.here hx rfl (pc0 := 106) (pc' := 118) rfl (hb hby d14_106) rfl ((if0 _ _).trans (teq hs8).1) (by decide) (by decide)) ?_
   exact J22 XJ12 NJ12 eJ12 (Keep.refl _ _) p6 hp6 (by rw [own_put_is, hs]; have z := vB7; rw [show List.replicate (([] : List Int32).length) (0 : Int32) = [] from rfl, List.append_nil] at z; exact z)
 intro TJ22 lcJ22 hJ22 XJ22 NJ22 eJ22 KqJ22 p7 hp7 vB9
 have KJ22 : Keep h0 hJ22 ([o2] : List Addr) := Keep.trans KJ12 KqJ22 (allS (Or.inl (List.mem_of_getElem? (i := 0) rfl)) all0)
 rw [hp7]
 show Home TJ22 (mkF m 118 #[si y, si i1, sr o2, s3, s4, .val (.int (own_n l_1)), si s6] [])
 refine Rn XJ22 hx hby sg14_118_1 120 #[si y, si i1, sr o2, s3, s4, .val (.int (own_n l_1)), si s6] [(.int (own_n l_1))] rfl ?_
 exact Home.retI XJ22 hx hlk hret (hb hby d14_120) (by rw [show TJ22.heap = hJ22 from eJ22]; exact ⟨rfl, NJ22, KJ22, vB9, (E_o2.keep KJ22)⟩) (by decide) (by decide)
theorem rm12_1 (l : Launch) (Z : State) (a0 : Array Value) (hw : HW a0 Z) (ws : List Jvm.Cond) (o0 : Addr) (l_1 : List Int32) (p2 : Addr) (k_p2 : ClassId) (l_2 : List Int32) (h0 : Heap) (n0 : Nat) (O0 : Old Z n0 h0) (F_value_o0 : Fld Z h0 o0 "java/lang/AbstractStringBuilder" "value" "[B" (.ref p2)) (V_p2 : Arv Z h0 p2 k_p2 .byte (16 : Int32) (List.map Value.int l_2) (.int 0)) (F_coder_o0 : Fld Z h0 o0 "java/lang/AbstractStringBuilder" "coder" "B" (.int 0)) (sh_l_1 : l_1.length ≤ 16) :
    Con l Z (⟨"java/lang/AbstractStringBuilder", "ensureCapacityInternal", "(I)V"⟩ : MethodName) jdk_68_method_9_code 3 none ws ({ frames := 0, cells := 0, slots := 0, locals := 0 } : Room) #[(.ref o0), (.int (own_n l_1))] h0 (Pur none h0) := by
 refine own_body (plainFor_of_name own_pn6) (fun m => ef_rm45_0 m o0 (own_n l_1)) ?_
 intro p e s m below meth c s₁ hx hby hlk hml hret hZ hown hnm X0 e0
 refine Rn X0 hx hby sg12_0_1 1 #[sr o0, .val (.int (own_n l_1)), un] [(.ref o0)] rfl ?_
 refine Home.st (getF X0 hx hZ hown (host := "") (Or.inl (w68 hw)) Via.refl e0 F_value_o0 rfl rfl (hb hby d12_1)) fun T1 X1 e1 => ?_
 obtain ⟨cl2, Ar2, q2, S2, M2, H2, G2⟩ := id V_p2
 refine Home.go (own_alen X1 hx hZ e1 Ar2 S2 M2 rfl rfl (hb hby d12_4)) ?_
 refine Rn X1 hx hby sg12_5_1 6 #[sr o0, .val (.int (own_n l_1)), un] [(.ref o0), (.int 16)] rfl ?_
 refine Home.st (getF X1 hx hZ hown (host := "") (Or.inl (w70 hw)) Via.refl e1 F_coder_o0 rfl rfl (hb hby d12_6)) fun T3 X3 e3 => ?_
 refine Rn X3 hx hby sg12_9_5 14 #[sr o0, .val (.int (own_n l_1)), si 16] [(.int ((own_n l_1) - (16 : Int32)))] rfl ?_
 refine Home.go (fun _ => XS.ifYes X3.here hx rfl (pc0 := 14) (pc' := 38) rfl (hb hby d12_14) rfl ((if0 _ _).trans (flt (bnd_nlt (bnd_lit (0 : Int32)) (bnd_sub (own_n_b (a := 0) (b := 16) (own_len_le sh_l_1) (lo := (0 : Int32)) (hi := (16 : Int32)) (by decide) (by decide) (by decide)) (bnd_lit (16 : Int32)) (lo := (-16 : Int32)) (hi := (0 : Int32)) (by decide +kernel) (by decide +kernel) (by decide +kernel) (by decide +kernel)) (by decide +kernel))).2.2.2) (by decide) (by decide)) ?_
 exact Home.ret0 X3 hx hlk hret (hb hby d12_38) ⟨rfl, rfl, e3⟩ (by decide) (by decide)
theorem rm10_0 (l : Launch) (Z : State) (a0 : Array Value) (hw : HW a0 Z) (ws : List Jvm.Cond) (o0 : Addr) (i1 : Int32) (l_1 : List Int32) (p2 : Addr) (k_p2 : ClassId) (sv_COMPACT_STRINGS : Int32) (sv_DigitOnes : Addr) (k_ones : ClassId) (sv_DigitTens : Addr) (k_tens : ClassId) (h0 : Heap) (n0 : Nat) (O0 : Old Z n0 h0) (pt0 : (0 : Int32) < ((own_n (l_1 ++ (own_put i1))) - (16 : Int32))) (F_count_o0 : Fld Z h0 o0 "java/lang/AbstractStringBuilder" "count" "I" (.int (own_n l_1))) (E_o0 : Exa Z h0 o0 "java/lang/StringBuilder") (F_value_o0 : Fld Z h0 o0 "java/lang/AbstractStringBuilder" "value" "[B" (.ref p2)) (V_p2 : Arv Z h0 p2 k_p2 .byte (16 : Int32) (List.map Value.int l_1) (.int 0)) (F_coder_o0 : Fld Z h0 o0 "java/lang/AbstractStringBuilder" "coder" "B" (.int 0)) (g_o0 : n0 ≤ o0) (sh_l_1 : l_1.length ≤ 16) (S_COMPACT_STRINGS : Sta Z Z.heap "java/lang/String" "COMPACT_STRINGS" "Z" (.int sv_COMPACT_STRINGS)) (hCS : ¬ (sv_COMPACT_STRINGS = (0 : Int32))) (S_DigitOnes : Sta Z Z.heap "java/lang/Integer" "DigitOnes" "[B" (.ref sv_DigitOnes)) (V_ones : Arv Z Z.heap sv_DigitOnes k_ones .byte (100 : Int32) (List.map Value.int own_ones) (.int 0)) (S_DigitTens : Sta Z Z.heap "java/lang/Integer" "DigitTens" "[B" (.ref sv_DigitTens)) (V_tens : Arv Z Z.heap sv_DigitTens k_tens .byte (100 : Int32) (List.map Value.int own_tens) (.int 0)) :
    Con l Z (⟨"java/lang/AbstractStringBuilder", "append", "(I)Ljava/lang/AbstractStringBuilder;"⟩ : MethodName) jdk_68_method_32_code 4 (some (.object "java/lang/AbstractStringBuilder")) ws ({ frames := 4, cells := 1, slots := 34, locals := 62 } : Room) #[(.ref o0), (.int i1)] h0 (fun v h L => ∃ (b2_7_3 : Addr), ∃ (k2_7_3 : ClassId), v = some (.ref o0) ∧ Fr n0 L ∧ h0.size ≤ b2_7_3 ∧ Keep h0 h [o0] ∧ Fld Z h o0 "java/lang/AbstractStringBuilder" "count" "I" (.int (own_n (l_1 ++ (own_put i1)))) ∧ Exa Z h o0 "java/lang/StringBuilder" ∧ Fld Z h o0 "java/lang/AbstractStringBuilder" "value" "[B" (.ref b2_7_3) ∧ Fld Z h o0 "java/lang/AbstractStringBuilder" "coder" "B" (.int 0) ∧ Exa Z h b2_7_3 "[B" ∧ Arv Z h b2_7_3 k2_7_3 .byte (34 : Int32) (List.map Value.int (l_1 ++ (own_put i1))) (.int 0)) := by
 refine own_body (plainFor_of_name own_pn6) (fun m => ef_rm10_0 m o0 i1) ?_
 intro p e s m below meth c s₁ hx hby hlk hml hret hZ hown hnm X0 e0
 have N0 := Fr.nil n0
 refine Rn X0 hx hby sg10_0_1 1 #[sr o0, si i1, un, un] [(.ref o0)] rfl ?_
 refine Home.st (getF X0 hx hZ hown (host := "") (Or.inl (w82 hw)) Via.refl e0 F_count_o0 rfl rfl (hb hby d10_1)) fun T1 X1 e1 => ?_
 refine Rn X1 hx hby sg10_4_3 7 #[sr o0, si i1, .val (.int (own_n l_1)), un] [(.int i1), (.int (own_n l_1))] rfl ?_
 refine Home.st (own_pure (own_static X1 hx hZ hown (w84 hw) (w85 hw) (w86 hw) (w87 hw) (by decide) (rm11s l Z a0 hw [] i1 h0 n0 O0) e1 rfl (by rw [hml]; rfl) (argsL := [(.int i1)]) (rest := [(.int (own_n l_1))]) (lenOf own_pd15 rfl) rfl rfl (W := 1) (hb hby d10_7))) fun T2 X2 e2 => ?_
 refine Rn X2 hx hby sg10_10_1 11 #[sr o0, si i1, .val (.int (own_n l_1)), un] [(.int ((own_n l_1) + (own_n (own_put i1))))] rfl ?_
 rw [own_n_app]
 refine Rn X2 hx hby sg10_11_3 14 #[sr o0, si i1, .val (.int (own_n l_1)), .val (.int (own_n (l_1 ++ (own_put i1))))] [(.int (own_n (l_1 ++ (own_put i1)))), (.ref o0)] rfl ?_
 refine Home.call (own_private X2 hx hZ hown (w88 hw) (w89 hw) (own_selp (w91 hw) (w90 hw) (w89 hw) (by decide)) (Cond.privateMethod_at (mvP hZ (w90 hw) (args := #[]))) (w64 hw) (w92 hw) (by decide) (rm12_0 l Z a0 hw [] o0 (l_1 ++ (own_put i1)) p2 k_p2 l_1 h0 n0 O0 pt0 F_value_o0 V_p2 F_coder_o0 E_o0 (Nat.le_trans (own_len_app (own_len_le sh_l_1) (own_put_len i1)).2 (by decide)) (Nat.le_trans (own_len_le sh_l_1).2 (by decide)) g_o0 F_count_o0) e2 E_o0 rfl (by rw [hml]; rfl) (argsL := [(.int (own_n (l_1 ++ (own_put i1))))]) (rest := []) (lenOf own_pd13 rfl) rfl rfl (W := 0) (hb hby d10_14)) ?_
 rintro _ T3 L3 X3 ⟨b2_7_3, k2_7_3, rfl, N3q, sz_b2_7_3, K3q, P3_0, P3_1, P3_2, P3_3, P3_4, P3_5⟩
 have g_b2_7_3 : n0 ≤ b2_7_3 := Nat.le_trans (Old.le O0) sz_b2_7_3
 have O3 := Old.keep O0 K3q (allS g_o0 all0)
 have K3 : Keep h0 T3.heap ([o0] : List Addr) := Keep.trans (Keep.refl h0 ([o0] : List Addr)) K3q (allS (Or.inl (List.mem_of_getElem? (i := 0) rfl)) all0)
 have N3 := Fr.app N0 N3q
 refine Rn X3 hx hby sg10_17_1 18 #[sr o0, si i1, .val (.int (own_n l_1)), .val (.int (own_n (l_1 ++ (own_put i1))))] [(.ref o0)] rfl ?_
 refine Home.st (own_pure (own_virtual X3 hx hZ hown (w93 hw) (w94 hw) (notFace_of_selects (args := #[]) (mvT hZ (w96 hw))) (w96 hw) (w95 hw) (w64 hw) (w97 hw) (by decide) (rm13_0 l Z a0 hw [] o0 sv_COMPACT_STRINGS T3.heap n0 O3 S_COMPACT_STRINGS hCS P3_1) rfl P3_2 rfl (by rw [hml]; rfl) (argsL := []) (rest := []) (lenOf own_pd19 rfl) rfl rfl (W := 0) (hb hby d10_18))) fun T4 X4 e4 => ?_
 show Home T4 (mkF m 21 #[sr o0, si i1, .val (.int (own_n l_1)), .val (.int (own_n (l_1 ++ (own_put i1))))] [(.int 1)])
 refine Home.go (fun _ => XS.ifNo X4.here hx rfl (hb hby d10_21) rfl ((if0 _ _).trans (feq (by decide)).1)) ?_
 refine Rn X4 hx hby sg10_24_3 27 #[sr o0, si i1, .val (.int (own_n l_1)), .val (.int (own_n (l_1 ++ (own_put i1))))] [(.ref o0), (.int (own_n (l_1 ++ (own_put i1)))), (.int i1)] rfl ?_
 refine Home.st (getF X4 hx hZ hown (host := "") (Or.inl (w68 hw)) Via.refl e4 P3_0 rfl rfl (hb hby d10_27)) fun T5 X5 e5 => ?_
 refine Home.call (own_static X5 hx hZ hown (w98 hw) (w99 hw) (w86 hw) (w100 hw) (by decide) (rm14_0 l Z a0 hw [] i1 (own_n (l_1 ++ (own_put i1))) b2_7_3 (34 : Int32) l_1 k2_7_3 sv_DigitOnes k_ones sv_DigitTens k_tens T3.heap n0 O3 rfl ⟨Nat.le_trans (own_len_app (own_len_le sh_l_1) (own_put_len i1)).2 (by decide), by decide⟩ P3_5 (Nat.le_trans (own_len_le sh_l_1).2 (by decide)) g_b2_7_3 S_DigitOnes V_ones S_DigitTens V_tens P3_4) e5 rfl (by rw [hml]; rfl) (argsL := [(.int i1), (.int (own_n (l_1 ++ (own_put i1)))), (.ref b2_7_3)]) (rest := []) (lenOf own_pd20 rfl) rfl rfl (W := 0) (hb hby d10_30)) ?_
 rintro _ T6 L6 X6 ⟨rfl, N6q, K6q, P6_0, P6_1⟩
 have K6 : Keep h0 T6.heap ([o0] : List Addr) := Keep.trans K3 K6q (allS (Or.inr (Nat.le_trans (Nat.le_refl _) sz_b2_7_3)) all0)
 have N6 := Fr.app N3 N6q
 refine Rn X6 hx hby sg10_33_4 50 #[sr o0, si i1, .val (.int (own_n l_1)), .val (.int (own_n (l_1 ++ (own_put i1))))] [(.int (own_n (l_1 ++ (own_put i1)))), (.ref o0)] rfl ?_
 have ne7 : o0 ≠ b2_7_3 := (Nat.ne_of_lt (Nat.lt_of_lt_of_le F_count_o0.lt (Nat.le_trans (Nat.le_refl _) sz_b2_7_3)))
 have q8 := (P3_3.keep K6q (ninS ne7 nin0))
 refine Home.wr (putF X6 hx hZ hown (host := "") (Or.inl (w82 hw)) Via.refl rfl q8 (E_o0.keep K6) (Or.inl (w83 hw)) (w55 hw) (ty := .int) (by decide) rfl rfl rfl rfl (hb hby d10_50)) fun T9 h9 X9 e9 W9 => ?_
 have Fw9 := q8.same W9
 have K9 : Keep h0 h9 ([o0] : List Addr) := Keep.wr K6 W9 (Or.inl (List.mem_of_getElem? (i := 0) rfl))
 have N9 := Fr.snoc X9 N6 g_o0
 show Home T9 (mkF m 53 #[sr o0, si i1, .val (.int (own_n l_1)), .val (.int (own_n (l_1 ++ (own_put i1))))] [])
 refine Rn X9 hx hby sg10_53_1 54 #[sr o0, si i1, .val (.int (own_n l_1)), .val (.int (own_n (l_1 ++ (own_put i1))))] [(.ref o0)] rfl ?_
 have q10 := ((P3_0.keep K6q (ninS ne7 nin0)).other W9 (Or.inr (slot_ne (Or.inl (w69 hw)) (Or.inl (w83 hw)) (by decide) (t := (.array .byte)) (t' := .int) (by decide) (by decide))))
 have q11 := ((P3_1.keep K6q (ninS ne7 nin0)).other W9 (Or.inr (slot_ne (Or.inl (w71 hw)) (Or.inl (w83 hw)) (by decide) (t := .byte) (t' := .int) (by decide) (by decide))))
 have q12 := (P6_1.wr W9)
 have ne13 : b2_7_3 ≠ o0 := (Ne.symm ne7)
 have q14 := (P6_0.other W9 ne13)
 exact Home.retR X9 hx hlk hret rfl rfl (hb hby d10_54) (by rw [show T9.heap = h9 from e9]; exact ⟨b2_7_3, k2_7_3, rfl, N9, (Nat.le_trans (Nat.le_refl _) sz_b2_7_3), K9, Fw9, (E_o0.keep K9), q10, q11, q12, q14⟩) (by decide) (by decide)
theorem rm10_1 (l : Launch) (Z : State) (a0 : Array Value) (hw : HW a0 Z) (ws : List Jvm.Cond) (o0 : Addr) (i1 : Int32) (l_1 : List Int32) (p2 : Addr) (k_p2 : ClassId) (sv_COMPACT_STRINGS : Int32) (sv_DigitOnes : Addr) (k_ones : ClassId) (sv_DigitTens : Addr) (k_tens : ClassId) (h0 : Heap) (n0 : Nat) (O0 : Old Z n0 h0) (pt0 : ¬ ((0 : Int32) < ((own_n (l_1 ++ (own_put i1))) - (16 : Int32)))) (sh_l_1 : l_1.length ≤ 16) (F_count_o0 : Fld Z h0 o0 "java/lang/AbstractStringBuilder" "count" "I" (.int (own_n l_1))) (E_o0 : Exa Z h0 o0 "java/lang/StringBuilder") (F_value_o0 : Fld Z h0 o0 "java/lang/AbstractStringBuilder" "value" "[B" (.ref p2)) (V_p2 : Arv Z h0 p2 k_p2 .byte (16 : Int32) (List.map Value.int l_1) (.int 0)) (F_coder_o0 : Fld Z h0 o0 "java/lang/AbstractStringBuilder" "coder" "B" (.int 0)) (S_COMPACT_STRINGS : Sta Z Z.heap "java/lang/String" "COMPACT_STRINGS" "Z" (.int sv_COMPACT_STRINGS)) (hCS : ¬ (sv_COMPACT_STRINGS = (0 : Int32))) (S_DigitOnes : Sta Z Z.heap "java/lang/Integer" "DigitOnes" "[B" (.ref sv_DigitOnes)) (V_ones : Arv Z Z.heap sv_DigitOnes k_ones .byte (100 : Int32) (List.map Value.int own_ones) (.int 0)) (S_DigitTens : Sta Z Z.heap "java/lang/Integer" "DigitTens" "[B" (.ref sv_DigitTens)) (V_tens : Arv Z Z.heap sv_DigitTens k_tens .byte (100 : Int32) (List.map Value.int own_tens) (.int 0)) (E_p2 : Exa Z h0 p2 "[B") (g_p2 : n0 ≤ p2) (g_o0 : n0 ≤ o0) :
    Con l Z (⟨"java/lang/AbstractStringBuilder", "append", "(I)Ljava/lang/AbstractStringBuilder;"⟩ : MethodName) jdk_68_method_32_code 4 (some (.object "java/lang/AbstractStringBuilder")) ws ({ frames := 1, cells := 0, slots := 0, locals := 18 } : Room) #[(.ref o0), (.int i1)] h0 (fun v h L => v = some (.ref o0) ∧ Fr n0 L ∧ Keep h0 h [p2, o0] ∧ Arv Z h p2 k_p2 .byte (16 : Int32) (List.map Value.int (l_1 ++ (own_put i1))) (.int 0) ∧ Exa Z h p2 "[B" ∧ Fld Z h o0 "java/lang/AbstractStringBuilder" "count" "I" (.int (own_n (l_1 ++ (own_put i1)))) ∧ Exa Z h o0 "java/lang/StringBuilder" ∧ Fld Z h o0 "java/lang/AbstractStringBuilder" "value" "[B" (.ref p2) ∧ Fld Z h o0 "java/lang/AbstractStringBuilder" "coder" "B" (.int 0)) := by
 refine own_body (plainFor_of_name own_pn6) (fun m => ef_rm10_0 m o0 i1) ?_
 intro p e s m below meth c s₁ hx hby hlk hml hret hZ hown hnm X0 e0
 have N0 := Fr.nil n0
 have lf901 : 1 ≤ (l_1 ++ (own_put i1)).length ∧ (l_1 ++ (own_put i1)).length ≤ 16 := own_fit (K := 16) pt0 (own_len_app (own_len_le sh_l_1) (own_put_len i1)) (by decide) (by decide)
 refine Rn X0 hx hby sg10_0_1 1 #[sr o0, si i1, un, un] [(.ref o0)] rfl ?_
 refine Home.st (getF X0 hx hZ hown (host := "") (Or.inl (w82 hw)) Via.refl e0 F_count_o0 rfl rfl (hb hby d10_1)) fun T1 X1 e1 => ?_
 refine Rn X1 hx hby sg10_4_3 7 #[sr o0, si i1, .val (.int (own_n l_1)), un] [(.int i1), (.int (own_n l_1))] rfl ?_
 refine Home.st (own_pure (own_static X1 hx hZ hown (w84 hw) (w85 hw) (w86 hw) (w87 hw) (by decide) (rm11s l Z a0 hw [] i1 h0 n0 O0) e1 rfl (by rw [hml]; rfl) (argsL := [(.int i1)]) (rest := [(.int (own_n l_1))]) (lenOf own_pd15 rfl) rfl rfl (W := 1) (hb hby d10_7))) fun T2 X2 e2 => ?_
 refine Rn X2 hx hby sg10_10_1 11 #[sr o0, si i1, .val (.int (own_n l_1)), un] [(.int ((own_n l_1) + (own_n (own_put i1))))] rfl ?_
 rw [own_n_app]
 refine Rn X2 hx hby sg10_11_3 14 #[sr o0, si i1, .val (.int (own_n l_1)), .val (.int (own_n (l_1 ++ (own_put i1))))] [(.int (own_n (l_1 ++ (own_put i1)))), (.ref o0)] rfl ?_
 refine Home.st (own_pure (own_private X2 hx hZ hown (w88 hw) (w89 hw) (own_selp (w91 hw) (w90 hw) (w89 hw) (by decide)) (Cond.privateMethod_at (mvP hZ (w90 hw) (args := #[]))) (w64 hw) (w92 hw) (by decide) (rm12_1 l Z a0 hw [] o0 (l_1 ++ (own_put i1)) p2 k_p2 l_1 h0 n0 O0 F_value_o0 V_p2 F_coder_o0 (Nat.le_trans lf901.2 (by decide))) e2 E_o0 rfl (by rw [hml]; rfl) (argsL := [(.int (own_n (l_1 ++ (own_put i1))))]) (rest := []) (lenOf own_pd13 rfl) rfl rfl (W := 0) (hb hby d10_14))) fun T3 X3 e3 => ?_
 refine Rn X3 hx hby sg10_17_1 18 #[sr o0, si i1, .val (.int (own_n l_1)), .val (.int (own_n (l_1 ++ (own_put i1))))] [(.ref o0)] rfl ?_
 refine Home.st (own_pure (own_virtual X3 hx hZ hown (w93 hw) (w94 hw) (notFace_of_selects (args := #[]) (mvT hZ (w96 hw))) (w96 hw) (w95 hw) (w64 hw) (w97 hw) (by decide) (rm13_0 l Z a0 hw [] o0 sv_COMPACT_STRINGS h0 n0 O0 S_COMPACT_STRINGS hCS F_coder_o0) e3 E_o0 rfl (by rw [hml]; rfl) (argsL := []) (rest := []) (lenOf own_pd19 rfl) rfl rfl (W := 0) (hb hby d10_18))) fun T4 X4 e4 => ?_
 refine Home.go (fun _ => XS.ifNo X4.here hx rfl (hb hby d10_21) rfl ((if0 _ _).trans (feq (by decide)).1)) ?_
 refine Rn X4 hx hby sg10_24_3 27 #[sr o0, si i1, .val (.int (own_n l_1)), .val (.int (own_n (l_1 ++ (own_put i1))))] [(.ref o0), (.int (own_n (l_1 ++ (own_put i1)))), (.int i1)] rfl ?_
 refine Home.st (getF X4 hx hZ hown (host := "") (Or.inl (w68 hw)) Via.refl e4 F_value_o0 rfl rfl (hb hby d10_27)) fun T5 X5 e5 => ?_
 refine Home.call (own_static X5 hx hZ hown (w98 hw) (w99 hw) (w86 hw) (w100 hw) (by decide) (rm14_0 l Z a0 hw [] i1 (own_n (l_1 ++ (own_put i1))) p2 (16 : Int32) l_1 k_p2 sv_DigitOnes k_ones sv_DigitTens k_tens h0 n0 O0 rfl ⟨Nat.le_trans lf901.2 (by decide), by decide⟩ V_p2 (Nat.le_trans (own_len_le sh_l_1).2 (by decide)) g_p2 S_DigitOnes V_ones S_DigitTens V_tens E_p2) e5 rfl (by rw [hml]; rfl) (argsL := [(.int i1), (.int (own_n (l_1 ++ (own_put i1)))), (.ref p2)]) (rest := []) (lenOf own_pd20 rfl) rfl rfl (W := 0) (hb hby d10_30)) ?_
 rintro _ T6 L6 X6 ⟨rfl, N6q, K6q, P6_0, P6_1⟩
 have K6 : Keep h0 T6.heap ([p2, o0] : List Addr) := Keep.trans (Keep.refl h0 ([p2, o0] : List Addr)) K6q (allS (Or.inl (List.mem_of_getElem? (i := 0) rfl)) all0)
 have N6 := Fr.app N0 N6q
 show Home T6 (mkF m 33 #[sr o0, si i1, .val (.int (own_n l_1)), .val (.int (own_n (l_1 ++ (own_put i1))))] [(.int (own_n l_1))])
 refine Rn X6 hx hby sg10_33_4 50 #[sr o0, si i1, .val (.int (own_n l_1)), .val (.int (own_n (l_1 ++ (own_put i1))))] [(.int (own_n (l_1 ++ (own_put i1)))), (.ref o0)] rfl ?_
 have ne7 : o0 ≠ p2 := (own_neAV (E_o0.keep K6q) (w55 hw) P6_0)
 have q8 := (F_count_o0.keep K6q (ninS ne7 nin0))
 refine Home.wr (putF X6 hx hZ hown (host := "") (Or.inl (w82 hw)) Via.refl rfl q8 (E_o0.keep K6) (Or.inl (w83 hw)) (w55 hw) (ty := .int) (by decide) rfl rfl rfl rfl (hb hby d10_50)) fun T9 h9 X9 e9 W9 => ?_
 have Fw9 := q8.same W9
 have K9 : Keep h0 h9 ([p2, o0] : List Addr) := Keep.wr K6 W9 (Or.inl (List.mem_of_getElem? (i := 1) rfl))
 have N9 := Fr.snoc X9 N6 g_o0
 refine Rn X9 hx hby sg10_53_1 54 #[sr o0, si i1, .val (.int (own_n l_1)), .val (.int (own_n (l_1 ++ (own_put i1))))] [(.ref o0)] rfl ?_
 have ne10 : p2 ≠ o0 := (Ne.symm ne7)
 have q11 := (P6_0.other W9 ne10)
 have q12 := ((F_value_o0.keep K6q (ninS ne7 nin0)).other W9 (Or.inr (slot_ne (Or.inl (w69 hw)) (Or.inl (w83 hw)) (by decide) (t := (.array .byte)) (t' := .int) (by decide) (by decide))))
 have q13 := ((F_coder_o0.keep K6q (ninS ne7 nin0)).other W9 (Or.inr (slot_ne (Or.inl (w71 hw)) (Or.inl (w83 hw)) (by decide) (t := .byte) (t' := .int) (by decide) (by decide))))
 exact Home.retR X9 hx hlk hret rfl rfl (hb hby d10_54) (by rw [show T9.heap = h9 from e9]; exact ⟨rfl, N9, K9, q11, (E_p2.keep K9), Fw9, (E_o0.keep K9), q12, q13⟩) (by decide) (by decide)
theorem rm9_0 (l : Launch) (Z : State) (a0 : Array Value) (hw : HW a0 Z) (ws : List Jvm.Cond) (o0 : Addr) (i1 : Int32) (p2 : Addr) (k_p2 : ClassId) (l_1 : List Int32) (sv_COMPACT_STRINGS : Int32) (sv_DigitOnes : Addr) (k_ones : ClassId) (sv_DigitTens : Addr) (k_tens : ClassId) (h0 : Heap) (n0 : Nat) (O0 : Old Z n0 h0) (pt0 : (0 : Int32) < ((own_n (l_1 ++ (own_put i1))) - (16 : Int32))) (E_o0 : Exa Z h0 o0 "java/lang/StringBuilder") (F_value_o0 : Fld Z h0 o0 "java/lang/AbstractStringBuilder" "value" "[B" (.ref p2)) (V_p2 : Arv Z h0 p2 k_p2 .byte (16 : Int32) (List.map Value.int l_1) (.int 0)) (F_coder_o0 : Fld Z h0 o0 "java/lang/AbstractStringBuilder" "coder" "B" (.int 0)) (S_COMPACT_STRINGS : Sta Z Z.heap "java/lang/String" "COMPACT_STRINGS" "Z" (.int sv_COMPACT_STRINGS)) (S_DigitOnes : Sta Z Z.heap "java/lang/Integer" "DigitOnes" "[B" (.ref sv_DigitOnes)) (V_ones : Arv Z Z.heap sv_DigitOnes k_ones .byte (100 : Int32) (List.map Value.int own_ones) (.int 0)) (S_DigitTens : Sta Z Z.heap "java/lang/Integer" "DigitTens" "[B" (.ref sv_DigitTens)) (V_tens : Arv Z Z.heap sv_DigitTens k_tens .byte (100 : Int32) (List.map Value.int own_tens) (.int 0)) (F_count_o0 : Fld Z h0 o0 "java/lang/AbstractStringBuilder" "count" "I" (.int (own_n l_1))) (g_o0 : n0 ≤ o0) (sh_l_1 : l_1.length ≤ 16) (hCS : ¬ (sv_COMPACT_STRINGS = (0 : Int32))) :
    Con l Z (⟨"java/lang/StringBuilder", "append", "(I)Ljava/lang/StringBuilder;"⟩ : MethodName) jdk_67_method_15_code 2 (some (.object "java/lang/StringBuilder")) ws ({ frames := 5, cells := 1, slots := 34, locals := 77 } : Room) #[(.ref o0), (.int i1)] h0 (fun v h L => ∃ (b2_7_3_1 : Addr), ∃ (k2_7_3_1 : ClassId), v = some (.ref o0) ∧ Fr n0 L ∧ h0.size ≤ b2_7_3_1 ∧ Keep h0 h [o0] ∧ Exa Z h o0 "java/lang/StringBuilder" ∧ Fld Z h o0 "java/lang/AbstractStringBuilder" "value" "[B" (.ref b2_7_3_1) ∧ Fld Z h o0 "java/lang/AbstractStringBuilder" "coder" "B" (.int 0) ∧ Fld Z h o0 "java/lang/AbstractStringBuilder" "count" "I" (.int (own_n (l_1 ++ (own_put i1)))) ∧ Exa Z h b2_7_3_1 "[B" ∧ Arv Z h b2_7_3_1 k2_7_3_1 .byte (34 : Int32) (List.map Value.int (l_1 ++ (own_put i1))) (.int 0)) := by
 refine own_body (plainFor_of_name own_pn7) (fun m => ef_rm50_0 m o0 i1) ?_
 intro p e s m below meth c s₁ hx hby hlk hml hret hZ hown hnm X0 e0
 have N0 := Fr.nil n0
 refine Rn X0 hx hby sg9_0_2 2 #[sr o0, si i1] [(.int i1), (.ref o0)] rfl ?_
 refine Home.call (own_super X0 hx hZ hown (w77 hw) (own_samem (w78 hw) (w91 hw) rfl (by decide)) (w78 hw) (w79 hw) (by decide) (w64 hw) (w81 hw) (rm10_0 l Z a0 hw [] o0 i1 l_1 p2 k_p2 sv_COMPACT_STRINGS sv_DigitOnes k_ones sv_DigitTens k_tens h0 n0 O0 pt0 F_count_o0 E_o0 F_value_o0 V_p2 F_coder_o0 g_o0 (Nat.le_trans (own_len_le sh_l_1).2 (by decide)) S_COMPACT_STRINGS hCS S_DigitOnes V_ones S_DigitTens V_tens) e0 E_o0 rfl (by rw [hml]; rfl) (argsL := [(.int i1)]) (rest := []) (lenOf own_pd21 rfl) rfl rfl (W := 0) (hb hby d9_2)) ?_
 rintro _ T1 L1 X1 ⟨b2_7_3_1, k2_7_3_1, rfl, N1q, sz_b2_7_3_1, K1q, P1_0, P1_1, P1_2, P1_3, P1_4, P1_5⟩
 have g_b2_7_3_1 : n0 ≤ b2_7_3_1 := Nat.le_trans (Old.le O0) sz_b2_7_3_1
 have K1 : Keep h0 T1.heap ([o0] : List Addr) := Keep.trans (Keep.refl h0 ([o0] : List Addr)) K1q (allS (Or.inl (List.mem_of_getElem? (i := 0) rfl)) all0)
 have N1 := Fr.app N0 N1q
 refine Rn X1 hx hby sg9_5_2 7 #[sr o0, si i1] [(.ref o0)] rfl ?_
 exact Home.retR X1 hx hlk hret rfl rfl (hb hby d9_7) ⟨b2_7_3_1, k2_7_3_1, rfl, N1, (Nat.le_trans (Nat.le_refl _) sz_b2_7_3_1), K1, P1_1, P1_2, P1_3, P1_0, P1_4, P1_5⟩ (by decide) (by decide)
theorem rm18_0 (l : Launch) (Z : State) (a0 : Array Value) (hw : HW a0 Z) (ws : List Jvm.Cond) (o0 : Addr) (sv_COMPACT_STRINGS : Int32) (h0 : Heap) (n0 : Nat) (O0 : Old Z n0 h0) (S_COMPACT_STRINGS : Sta Z Z.heap "java/lang/String" "COMPACT_STRINGS" "Z" (.int sv_COMPACT_STRINGS)) (hCS : ¬ (sv_COMPACT_STRINGS = (0 : Int32))) (F_coder_o0 : Fld Z h0 o0 "java/lang/String" "coder" "B" (.int 0)) :
    Con l Z (⟨"java/lang/String", "coder", "()B"⟩ : MethodName) jdk_42_method_152_code 1 (some .byte) ws ({ frames := 0, cells := 0, slots := 0, locals := 0 } : Room) #[(.ref o0)] h0 (Pur (some (.int 0)) h0) := by
 refine own_body (plainFor_of_name own_pn1) (fun m => ef_rm7_0 m o0) ?_
 intro p e s m below meth c s₁ hx hby hlk hml hret hZ hown hnm X0 e0
 refine Home.st (getS2 X0 hx hZ hown (host := "") (Or.inl (w123 hw)) Via.refl e0 (S_COMPACT_STRINGS.ext O0.2) rfl (hb hby d18_0)) fun T1 X1 e1 => ?_
 refine Home.go (fun _ => XS.ifNo X1.here hx rfl (hb hby d18_3) rfl ((if0 _ _).trans (feq hCS).1)) ?_
 refine Rn X1 hx hby sg18_6_1 7 #[sr o0] [(.ref o0)] rfl ?_
 refine Home.st (getF X1 hx hZ hown (host := "") (Or.inl (w124 hw)) Via.refl e1 F_coder_o0 rfl rfl (hb hby d18_7)) fun T2 X2 e2 => ?_
 refine Rn X2 hx hby sg18_10_1 14 #[sr o0] [(.int 0)] rfl ?_
 exact Home.retN X2 hx hlk (t := .byte) hret (by simp) (hb hby d18_14) ⟨congrArg some (congrArg Value.int (by first | rfl | exact nar_i2c _ | exact nar_i2b _)), rfl, e2⟩ (by decide) (by decide)
theorem rm17_0 (l : Launch) (Z : State) (a0 : Array Value) (hw : HW a0 Z) (ws : List Jvm.Cond) (o0 p2 : Addr) (k_p2 : ClassId) (l_1 : List Int32) (sv_COMPACT_STRINGS : Int32) (h0 : Heap) (n0 : Nat) (O0 : Old Z n0 h0) (F_value_o0 : Fld Z h0 o0 "java/lang/String" "value" "[B" (.ref p2)) (V_p2 : Arv Z h0 p2 k_p2 .byte (own_n l_1) (List.map Value.int l_1) (.int 0)) (E_o0 : Exa Z h0 o0 "java/lang/String") (S_COMPACT_STRINGS : Sta Z Z.heap "java/lang/String" "COMPACT_STRINGS" "Z" (.int sv_COMPACT_STRINGS)) (F_coder_o0 : Fld Z h0 o0 "java/lang/String" "coder" "B" (.int 0)) (hCS : ¬ (sv_COMPACT_STRINGS = (0 : Int32))) (sh_l_1 : l_1.length ≤ 2) :
    Con l Z (⟨"java/lang/String", "length", "()I"⟩ : MethodName) jdk_42_method_54_code 1 (some .int) ws ({ frames := 1, cells := 0, slots := 0, locals := 13 } : Room) #[(.ref o0)] h0 (Pur (some (.int (own_n l_1))) h0) := by
 refine own_body (plainFor_of_name own_pn1) (fun m => ef_rm7_0 m o0) ?_
 intro p e s m below meth c s₁ hx hby hlk hml hret hZ hown hnm X0 e0
 refine Rn X0 hx hby sg17_0_1 1 #[sr o0] [(.ref o0)] rfl ?_
 refine Home.st (getF X0 hx hZ hown (host := "") (Or.inl (w117 hw)) Via.refl e0 F_value_o0 rfl rfl (hb hby d17_1)) fun T1 X1 e1 => ?_
 obtain ⟨cl2, Ar2, q2, S2, M2, H2, G2⟩ := id V_p2
 refine Home.go (own_alen X1 hx hZ e1 Ar2 S2 M2 rfl rfl (hb hby d17_4)) ?_
 refine Rn X1 hx hby sg17_5_1 6 #[sr o0] [(.ref o0), (.int (own_n l_1))] rfl ?_
 refine Home.st (own_pure (own_virtual X1 hx hZ hown (w118 hw) (w119 hw) (notFace_of_selects (args := #[]) (mvT hZ (w121 hw))) (w121 hw) (w120 hw) (w1 hw) (w122 hw) (by decide) (rm18_0 l Z a0 hw [] o0 sv_COMPACT_STRINGS h0 n0 O0 S_COMPACT_STRINGS hCS F_coder_o0) e1 E_o0 rfl (by rw [hml]; rfl) (argsL := []) (rest := [(.int (own_n l_1))]) (lenOf own_pd23 rfl) rfl rfl (W := 1) (hb hby d17_6))) fun T3 X3 e3 => ?_
 refine Rn X3 hx hby sg17_9_1 10 #[sr o0] [(.int ((own_n l_1) >>> ((0 : Int32) &&& 31)))] rfl ?_
 rw [own_shr0]
 exact Home.retI X3 hx hlk hret (hb hby d17_10) ⟨rfl, rfl, e3⟩ (by decide) (by decide)
theorem rm12_2 (l : Launch) (Z : State) (a0 : Array Value) (hw : HW a0 Z) (ws : List Jvm.Cond) (o0 : Addr) (l_1 : List Int32) (p2 : Addr) (k_p2 : ClassId) (l_2 : List Int32) (h0 : Heap) (n0 : Nat) (O0 : Old Z n0 h0) (F_value_o0 : Fld Z h0 o0 "java/lang/AbstractStringBuilder" "value" "[B" (.ref p2)) (V_p2 : Arv Z h0 p2 k_p2 .byte (34 : Int32) (List.map Value.int l_2) (.int 0)) (F_coder_o0 : Fld Z h0 o0 "java/lang/AbstractStringBuilder" "coder" "B" (.int 0)) (sh_l_1 : l_1.length ≤ 27) :
    Con l Z (⟨"java/lang/AbstractStringBuilder", "ensureCapacityInternal", "(I)V"⟩ : MethodName) jdk_68_method_9_code 3 none ws ({ frames := 0, cells := 0, slots := 0, locals := 0 } : Room) #[(.ref o0), (.int (own_n l_1))] h0 (Pur none h0) := by
 refine own_body (plainFor_of_name own_pn6) (fun m => ef_rm45_0 m o0 (own_n l_1)) ?_
 intro p e s m below meth c s₁ hx hby hlk hml hret hZ hown hnm X0 e0
 refine Rn X0 hx hby sg12_0_1 1 #[sr o0, .val (.int (own_n l_1)), un] [(.ref o0)] rfl ?_
 refine Home.st (getF X0 hx hZ hown (host := "") (Or.inl (w68 hw)) Via.refl e0 F_value_o0 rfl rfl (hb hby d12_1)) fun T1 X1 e1 => ?_
 obtain ⟨cl2, Ar2, q2, S2, M2, H2, G2⟩ := id V_p2
 refine Home.go (own_alen X1 hx hZ e1 Ar2 S2 M2 rfl rfl (hb hby d12_4)) ?_
 refine Rn X1 hx hby sg12_5_1 6 #[sr o0, .val (.int (own_n l_1)), un] [(.ref o0), (.int 34)] rfl ?_
 refine Home.st (getF X1 hx hZ hown (host := "") (Or.inl (w70 hw)) Via.refl e1 F_coder_o0 rfl rfl (hb hby d12_6)) fun T3 X3 e3 => ?_
 refine Rn X3 hx hby sg12_9_5 14 #[sr o0, .val (.int (own_n l_1)), si 34] [(.int ((own_n l_1) - (34 : Int32)))] rfl ?_
 refine Home.go (fun _ => XS.ifYes X3.here hx rfl (pc0 := 14) (pc' := 38) rfl (hb hby d12_14) rfl ((if0 _ _).trans (flt (bnd_nlt (bnd_lit (0 : Int32)) (bnd_sub (own_n_b (a := 0) (b := 27) (own_len_le sh_l_1) (lo := (0 : Int32)) (hi := (27 : Int32)) (by decide) (by decide) (by decide)) (bnd_lit (34 : Int32)) (lo := (-34 : Int32)) (hi := (-7 : Int32)) (by decide +kernel) (by decide +kernel) (by decide +kernel) (by decide +kernel)) (by decide +kernel))).2.2.2) (by decide) (by decide)) ?_
 exact Home.ret0 X3 hx hlk hret (hb hby d12_38) ⟨rfl, rfl, e3⟩ (by decide) (by decide)
theorem rm20_0 (l : Launch) (Z : State) (a0 : Array Value) (hw : HW a0 Z) (ws : List Jvm.Cond) (o0 o1 : Addr) (sv_COMPACT_STRINGS : Int32) (h0 : Heap) (n0 : Nat) (O0 : Old Z n0 h0) (S_COMPACT_STRINGS : Sta Z Z.heap "java/lang/String" "COMPACT_STRINGS" "Z" (.int sv_COMPACT_STRINGS)) (hCS : ¬ (sv_COMPACT_STRINGS = (0 : Int32))) (F_coder_o0 : Fld Z h0 o0 "java/lang/AbstractStringBuilder" "coder" "B" (.int 0)) (E_o1 : Exa Z h0 o1 "java/lang/String") (F_coder_o1 : Fld Z h0 o1 "java/lang/String" "coder" "B" (.int 0)) :
    Con l Z (⟨"java/lang/AbstractStringBuilder", "inflateIfNeededFor", "(Ljava/lang/String;)V"⟩ : MethodName) jdk_68_method_71_code 2 none ws ({ frames := 1, cells := 0, slots := 0, locals := 13 } : Room) #[(.ref o0), (.ref o1)] h0 (Pur none h0) := by
 refine own_body (plainFor_of_name own_pn6) (fun m => ef_rm46_0 m o0 o1) ?_
 intro p e s m below meth c s₁ hx hby hlk hml hret hZ hown hnm X0 e0
 refine Home.st (getS2 X0 hx hZ hown (host := "") (Or.inl (w67 hw)) Via.refl e0 (S_COMPACT_STRINGS.ext O0.2) rfl (hb hby d20_0)) fun T1 X1 e1 => ?_
 refine Home.go (fun _ => XS.ifNo X1.here hx rfl (hb hby d20_3) rfl ((if0 _ _).trans (feq hCS).1)) ?_
 refine Rn X1 hx hby sg20_6_1 7 #[sr o0, sr o1] [(.ref o0)] rfl ?_
 refine Home.st (getF X1 hx hZ hown (host := "") (Or.inl (w70 hw)) Via.refl e1 F_coder_o0 rfl rfl (hb hby d20_7)) fun T2 X2 e2 => ?_
 refine Rn X2 hx hby sg20_10_1 11 #[sr o0, sr o1] [(.ref o1), (.int 0)] rfl ?_
 refine Home.st (own_pure (own_virtual X2 hx hZ hown (w135 hw) (w119 hw) (notFace_of_selects (args := #[]) (mvT hZ (w121 hw))) (w121 hw) (w120 hw) (w1 hw) (w122 hw) (by decide) (rm18_0 l Z a0 hw [] o1 sv_COMPACT_STRINGS h0 n0 O0 S_COMPACT_STRINGS hCS F_coder_o1) e2 E_o1 rfl (by rw [hml]; rfl) (argsL := []) (rest := [(.int 0)]) (lenOf own_pd23 rfl) rfl rfl (W := 1) (hb hby d20_11))) fun T3 X3 e3 => ?_
 refine Home.go (fun _ => XS.icmpYes X3.here hx rfl (pc0 := 14) (pc' := 21) rfl (hb hby d20_14) rfl (teq (by decide)).1 (by decide) (by decide)) ?_
 exact Home.ret0 X3 hx hlk hret (hb hby d20_21) ⟨rfl, rfl, e3⟩ (by decide) (by decide)
theorem rm21_0 (l : Launch) (Z : State) (a0 : Array Value) (hw : HW a0 Z) (ws : List Jvm.Cond) (o0 o1 : Addr) (l_1 : List Int32) (sv_COMPACT_STRINGS : Int32) (p3 : Addr) (k_p3 : ClassId) (l_2 : List Int32) (k_o1 : ClassId) (h0 : Heap) (n0 : Nat) (O0 : Old Z n0 h0) (E_o0 : Exa Z h0 o0 "java/lang/String") (S_COMPACT_STRINGS : Sta Z Z.heap "java/lang/String" "COMPACT_STRINGS" "Z" (.int sv_COMPACT_STRINGS)) (F_coder_o0 : Fld Z h0 o0 "java/lang/String" "coder" "B" (.int 0)) (hCS : ¬ (sv_COMPACT_STRINGS = (0 : Int32))) (F_value_o0 : Fld Z h0 o0 "java/lang/String" "value" "[B" (.ref p3)) (sh_l_1 : l_1.length ≤ 16) (V_p3 : Arv Z h0 p3 k_p3 .byte (own_n l_2) (List.map Value.int l_2) (.int 0)) (V_o1 : Arv Z h0 o1 k_o1 .byte (34 : Int32) (List.map Value.int l_1) (.int 0)) (sh_l_2 : l_2.length ≤ 2) (g_o1 : n0 ≤ o1) (E_o1 : Exa Z h0 o1 "[B") :
    Con l Z (⟨"java/lang/String", "getBytes", "([BIB)V"⟩ : MethodName) jdk_42_method_147_code 4 none ws ({ frames := 1, cells := 0, slots := 0, locals := 18 } : Room) #[(.ref o0), (.ref o1), (.int (own_n l_1)), (.int 0)] h0 (fun v h L => v = none ∧ Fr n0 L ∧ Keep h0 h [o1] ∧ Arv Z h o1 k_o1 .byte (34 : Int32) (List.map Value.int (l_1 ++ l_2)) (.int 0) ∧ Exa Z h o1 "[B") := by
 refine own_body (plainFor_of_name own_pn1) (fun m => ef_rm21_0 m o0 o1 (own_n l_1) (0 : Int32)) ?_
 intro p e s m below meth c s₁ hx hby hlk hml hret hZ hown hnm X0 e0
 have N0 := Fr.nil n0
 refine Rn X0 hx hby sg21_0_1 1 #[sr o0, sr o1, .val (.int (own_n l_1)), si 0] [(.ref o0)] rfl ?_
 refine Home.st (own_pure (own_virtual X0 hx hZ hown (w118 hw) (w119 hw) (notFace_of_selects (args := #[]) (mvT hZ (w121 hw))) (w121 hw) (w120 hw) (w1 hw) (w122 hw) (by decide) (rm18_0 l Z a0 hw [] o0 sv_COMPACT_STRINGS h0 n0 O0 S_COMPACT_STRINGS hCS F_coder_o0) e0 E_o0 rfl (by rw [hml]; rfl) (argsL := []) (rest := []) (lenOf own_pd23 rfl) rfl rfl (W := 0) (hb hby d21_1))) fun T1 X1 e1 => ?_
 refine Rn X1 hx hby sg21_4_1 5 #[sr o0, sr o1, .val (.int (own_n l_1)), si 0] [(.int 0), (.int 0)] rfl ?_
 refine Home.go (fun _ => XS.icmpNo X1.here hx rfl (hb hby d21_5) rfl (teq (by decide)).2) ?_
 refine Rn X1 hx hby sg21_8_1 9 #[sr o0, sr o1, .val (.int (own_n l_1)), si 0] [(.ref o0)] rfl ?_
 refine Home.st (getF X1 hx hZ hown (host := "") (Or.inl (w117 hw)) Via.refl e1 F_value_o0 rfl rfl (hb hby d21_9)) fun T2 X2 e2 => ?_
 refine Rn X2 hx hby sg21_12_5 17 #[sr o0, sr o1, .val (.int (own_n l_1)), si 0] [(.int ((own_n l_1) <<< ((0 : Int32) &&& 31))), (.ref o1), (.int 0), (.ref p3)] rfl ?_
 rw [own_shl0]
 refine Rn X2 hx hby sg21_17_1 18 #[sr o0, sr o1, .val (.int (own_n l_1)), si 0] [(.ref o0), (.int (own_n l_1)), (.ref o1), (.int 0), (.ref p3)] rfl ?_
 refine Home.st (getF X2 hx hZ hown (host := "") (Or.inl (w117 hw)) Via.refl e2 F_value_o0 rfl rfl (hb hby d21_18)) fun T3 X3 e3 => ?_
 obtain ⟨cl4, Ar4, q4, S4, M4, H4, G4⟩ := id V_p3
 refine Home.go (own_alen X3 hx hZ e3 Ar4 S4 M4 rfl rfl (hb hby d21_21)) ?_
 refine Home.cp (own_cpS X3 hx hZ hown (w141 hw) (w144 hw) (w142 hw) (w143 hw) e3 V_p3 V_o1 (Y := l_1) (X := l_2) (own_n_le (own_len_le sh_l_2)) (Nat.le_trans (Nat.le_of_eq (List.length_append).symm) (Nat.le_trans (own_len_app (own_len_le sh_l_1) (own_len_le sh_l_2)).2 (by decide))) (Nat.lt_of_le_of_lt (own_len_app (own_len_le sh_l_1) (own_len_le sh_l_2)).2 (by decide)) (dp := (own_n l_1)) rfl N0 g_o1 (g := (mkF m 22 #[.val (.ref o0), .val (.ref o1), .val (.int (own_n l_1)), .val (.int 0)] [(.int (own_n l_2)), (.int (own_n l_1)), (.ref o1), (.int 0), (.ref p3)])) rfl (by rw [hml]; rfl) rfl (hb hby d21_22) (by decide) (W := 0) (by exact hW0) (by decide)) fun T5 h5 L5 X5 e5 N5 K5q Vq5 => ?_
 have V5 : Arv Z h5 o1 k_o1 .byte (34 : Int32) (List.map Value.int (l_1 ++ l_2)) (.int 0) := Vq5
 have K5 : Keep h0 h5 ([o1] : List Addr) := Keep.trans (Keep.refl h0 ([o1] : List Addr)) K5q (allS (Or.inl (List.mem_of_getElem? (i := 0) rfl)) all0)
 show Home T5 (mkF m 25 #[sr o0, sr o1, .val (.int (own_n l_1)), si 0] [])
 refine Rn X5 hx hby sg21_25_1 43 #[sr o0, sr o1, .val (.int (own_n l_1)), si 0] [] rfl ?_
 exact Home.ret0 X5 hx hlk hret (hb hby d21_43) (by rw [show T5.heap = h5 from e5]; exact ⟨rfl, N5, K5, V5, (E_o1.keep K5)⟩) (by decide) (by decide)
theorem rm19_0 (l : Launch) (Z : State) (a0 : Array Value) (hw : HW a0 Z) (ws : List Jvm.Cond) (o0 o2 : Addr) (l_1 : List Int32) (sv_COMPACT_STRINGS : Int32) (p3 p4 : Addr) (k_p4 : ClassId) (l_2 : List Int32) (k_p3 : ClassId) (h0 : Heap) (n0 : Nat) (O0 : Old Z n0 h0) (E_o0 : Exa Z h0 o0 "java/lang/StringBuilder") (S_COMPACT_STRINGS : Sta Z Z.heap "java/lang/String" "COMPACT_STRINGS" "Z" (.int sv_COMPACT_STRINGS)) (F_coder_o0 : Fld Z h0 o0 "java/lang/AbstractStringBuilder" "coder" "B" (.int 0)) (E_o2 : Exa Z h0 o2 "java/lang/String") (F_coder_o2 : Fld Z h0 o2 "java/lang/String" "coder" "B" (.int 0)) (hCS : ¬ (sv_COMPACT_STRINGS = (0 : Int32))) (F_value_o0 : Fld Z h0 o0 "java/lang/AbstractStringBuilder" "value" "[B" (.ref p3)) (F_value_o2 : Fld Z h0 o2 "java/lang/String" "value" "[B" (.ref p4)) (V_p4 : Arv Z h0 p4 k_p4 .byte (own_n l_2) (List.map Value.int l_2) (.int 0)) (V_p3 : Arv Z h0 p3 k_p3 .byte (34 : Int32) (List.map Value.int l_1) (.int 0)) (E_p3 : Exa Z h0 p3 "[B") (g_p3 : n0 ≤ p3) (sh_l_1 : l_1.length ≤ 16) (sh_l_2 : l_2.length ≤ 2) :
    Con l Z (⟨"java/lang/AbstractStringBuilder", "putStringAt", "(ILjava/lang/String;)V"⟩ : MethodName) jdk_68_method_73_code 3 none ws ({ frames := 2, cells := 0, slots := 0, locals := 33 } : Room) #[(.ref o0), (.int (own_n l_1)), (.ref o2)] h0 (fun v h L => v = none ∧ Fr n0 L ∧ Keep h0 h [p3] ∧ Arv Z h p3 k_p3 .byte (34 : Int32) (List.map Value.int (l_1 ++ l_2)) (.int 0) ∧ Exa Z h p3 "[B") := by
 refine own_body (plainFor_of_name own_pn6) (fun m => ef_rm19_0 m o0 (own_n l_1) o2) ?_
 intro p e s m below meth c s₁ hx hby hlk hml hret hZ hown hnm X0 e0
 have N0 := Fr.nil n0
 refine Rn X0 hx hby sg19_0_2 2 #[sr o0, .val (.int (own_n l_1)), sr o2] [(.ref o2), (.ref o0)] rfl ?_
 refine Home.st (own_pure (own_private X0 hx hZ hown (w130 hw) (w131 hw) (own_selp (w133 hw) (w132 hw) (w131 hw) (by decide)) (Cond.privateMethod_at (mvP hZ (w132 hw) (args := #[]))) (w64 hw) (w134 hw) (by decide) (rm20_0 l Z a0 hw [] o0 o2 sv_COMPACT_STRINGS h0 n0 O0 S_COMPACT_STRINGS hCS F_coder_o0 E_o2 F_coder_o2) e0 E_o0 rfl (by rw [hml]; rfl) (argsL := [(.ref o2)]) (rest := []) (lenOf own_pd25 rfl) rfl rfl (W := 0) (hb hby d19_2))) fun T1 X1 e1 => ?_
 refine Rn X1 hx hby sg19_5_2 7 #[sr o0, .val (.int (own_n l_1)), sr o2] [(.ref o0), (.ref o2)] rfl ?_
 refine Home.st (getF X1 hx hZ hown (host := "") (Or.inl (w68 hw)) Via.refl e1 F_value_o0 rfl rfl (hb hby d19_7)) fun T2 X2 e2 => ?_
 refine Rn X2 hx hby sg19_10_2 12 #[sr o0, .val (.int (own_n l_1)), sr o2] [(.ref o0), (.int (own_n l_1)), (.ref p3), (.ref o2)] rfl ?_
 refine Home.st (getF X2 hx hZ hown (host := "") (Or.inl (w70 hw)) Via.refl e2 F_coder_o0 rfl rfl (hb hby d19_12)) fun T3 X3 e3 => ?_
 refine Home.call (own_virtual X3 hx hZ hown (w136 hw) (w137 hw) (notFace_of_selects (args := #[]) (mvT hZ (w139 hw))) (w139 hw) (w138 hw) (w1 hw) (w140 hw) (by decide) (rm21_0 l Z a0 hw [] o2 p3 l_1 sv_COMPACT_STRINGS p4 k_p4 l_2 k_p3 h0 n0 O0 E_o2 S_COMPACT_STRINGS F_coder_o2 hCS F_value_o2 (Nat.le_trans (own_len_le sh_l_1).2 (by decide)) V_p4 V_p3 (Nat.le_trans (own_len_le sh_l_2).2 (by decide)) g_p3 E_p3) e3 E_o2 rfl (by rw [hml]; rfl) (argsL := [(.ref p3), (.int (own_n l_1)), (.int 0)]) (rest := []) (lenOf own_pd26 rfl) rfl rfl (W := 0) (hb hby d19_15)) ?_
 rintro _ T4 L4 X4 ⟨rfl, N4q, K4q, P4_0, P4_1⟩
 have K4 : Keep h0 T4.heap ([p3] : List Addr) := Keep.trans (Keep.refl h0 ([p3] : List Addr)) K4q (allS (Or.inl (List.mem_of_getElem? (i := 0) rfl)) all0)
 have N4 := Fr.app N0 N4q
 exact Home.ret0 X4 hx hlk hret (hb hby d19_18) ⟨rfl, N4, K4, P4_0, P4_1⟩ (by decide) (by decide)
theorem rm16_0 (l : Launch) (Z : State) (a0 : Array Value) (hw : HW a0 Z) (ws : List Jvm.Cond) (o0 o1 p4 : Addr) (k_p4 : ClassId) (l_2 : List Int32) (sv_COMPACT_STRINGS : Int32) (l_1 : List Int32) (p3 : Addr) (k_p3 : ClassId) (h0 : Heap) (n0 : Nat) (O0 : Old Z n0 h0) (E_o1 : Exa Z h0 o1 "java/lang/String") (F_value_o1 : Fld Z h0 o1 "java/lang/String" "value" "[B" (.ref p4)) (V_p4 : Arv Z h0 p4 k_p4 .byte (own_n l_2) (List.map Value.int l_2) (.int 0)) (S_COMPACT_STRINGS : Sta Z Z.heap "java/lang/String" "COMPACT_STRINGS" "Z" (.int sv_COMPACT_STRINGS)) (F_coder_o1 : Fld Z h0 o1 "java/lang/String" "coder" "B" (.int 0)) (hCS : ¬ (sv_COMPACT_STRINGS = (0 : Int32))) (sh_l_2 : l_2.length ≤ 2) (F_count_o0 : Fld Z h0 o0 "java/lang/AbstractStringBuilder" "count" "I" (.int (own_n l_1))) (E_o0 : Exa Z h0 o0 "java/lang/StringBuilder") (F_value_o0 : Fld Z h0 o0 "java/lang/AbstractStringBuilder" "value" "[B" (.ref p3)) (V_p3 : Arv Z h0 p3 k_p3 .byte (34 : Int32) (List.map Value.int l_1) (.int 0)) (F_coder_o0 : Fld Z h0 o0 "java/lang/AbstractStringBuilder" "coder" "B" (.int 0)) (sh_l_1 : l_1.length ≤ 16) (E_p3 : Exa Z h0 p3 "[B") (g_p3 : n0 ≤ p3) (g_o0 : n0 ≤ o0) :
    Con l Z (⟨"java/lang/AbstractStringBuilder", "append", "(Ljava/lang/String;)Ljava/lang/AbstractStringBuilder;"⟩ : MethodName) jdk_68_method_22_code 3 (some (.object "java/lang/AbstractStringBuilder")) ws ({ frames := 3, cells := 0, slots := 0, locals := 47 } : Room) #[(.ref o0), (.ref o1)] h0 (fun v h L => v = some (.ref o0) ∧ Fr n0 L ∧ Keep h0 h [p3, o0] ∧ Arv Z h p3 k_p3 .byte (34 : Int32) (List.map Value.int (l_1 ++ l_2)) (.int 0) ∧ Exa Z h p3 "[B" ∧ Fld Z h o0 "java/lang/AbstractStringBuilder" "count" "I" (.int (own_n (l_1 ++ l_2))) ∧ Exa Z h o0 "java/lang/StringBuilder" ∧ Fld Z h o0 "java/lang/AbstractStringBuilder" "value" "[B" (.ref p3) ∧ Fld Z h o0 "java/lang/AbstractStringBuilder" "coder" "B" (.int 0)) := by
 refine own_body (plainFor_of_name own_pn6) (fun m => ef_rm16_0 m o0 o1) ?_
 intro p e s m below meth c s₁ hx hby hlk hml hret hZ hown hnm X0 e0
 have N0 := Fr.nil n0
 refine Rn X0 hx hby sg16_0_1 1 #[sr o0, sr o1, un] [(.ref o1)] rfl ?_
 refine Home.go (fun _ => XS.ifnonnullYes X0.here hx rfl (pc0 := 1) (pc' := 9) rfl (hb hby d16_1) rfl (by decide) (by decide)) ?_
 show Home s₁ (mkF m 9 #[sr o0, sr o1, un] [])
 refine Rn X0 hx hby sg16_9_1 10 #[sr o0, sr o1, un] [(.ref o1)] rfl ?_
 refine Home.st (own_pure (own_virtual X0 hx hZ hown (w112 hw) (w113 hw) (notFace_of_selects (args := #[]) (mvT hZ (w115 hw))) (w115 hw) (w114 hw) (w1 hw) (w116 hw) (by decide) (rm17_0 l Z a0 hw [] o1 p4 k_p4 l_2 sv_COMPACT_STRINGS h0 n0 O0 F_value_o1 V_p4 E_o1 S_COMPACT_STRINGS F_coder_o1 hCS (Nat.le_trans (own_len_le sh_l_2).2 (by decide))) e0 E_o1 rfl (by rw [hml]; rfl) (argsL := []) (rest := []) (lenOf own_pd24 rfl) rfl rfl (W := 0) (hb hby d16_10))) fun T1 X1 e1 => ?_
 refine Rn X1 hx hby sg16_13_3 16 #[sr o0, sr o1, .val (.int (own_n l_2))] [(.ref o0), (.ref o0)] rfl ?_
 refine Home.st (getF X1 hx hZ hown (host := "") (Or.inl (w82 hw)) Via.refl e1 F_count_o0 rfl rfl (hb hby d16_16)) fun T2 X2 e2 => ?_
 refine Rn X2 hx hby sg16_19_2 21 #[sr o0, sr o1, .val (.int (own_n l_2))] [(.int ((own_n l_1) + (own_n l_2))), (.ref o0)] rfl ?_
 rw [own_n_app]
 refine Home.st (own_pure (own_private X2 hx hZ hown (w88 hw) (w89 hw) (own_selp (w91 hw) (w90 hw) (w89 hw) (by decide)) (Cond.privateMethod_at (mvP hZ (w90 hw) (args := #[]))) (w64 hw) (w92 hw) (by decide) (rm12_2 l Z a0 hw [] o0 (l_1 ++ l_2) p3 k_p3 l_1 h0 n0 O0 F_value_o0 V_p3 F_coder_o0 (Nat.le_trans (own_len_app (own_len_le sh_l_1) (own_len_le sh_l_2)).2 (by decide))) e2 E_o0 rfl (by rw [hml]; rfl) (argsL := [(.int (own_n (l_1 ++ l_2)))]) (rest := []) (lenOf own_pd13 rfl) rfl rfl (W := 0) (hb hby d16_21))) fun T3 X3 e3 => ?_
 refine Rn X3 hx hby sg16_24_2 26 #[sr o0, sr o1, .val (.int (own_n l_2))] [(.ref o0), (.ref o0)] rfl ?_
 refine Home.st (getF X3 hx hZ hown (host := "") (Or.inl (w82 hw)) Via.refl e3 F_count_o0 rfl rfl (hb hby d16_26)) fun T4 X4 e4 => ?_
 refine Rn X4 hx hby sg16_29_1 30 #[sr o0, sr o1, .val (.int (own_n l_2))] [(.ref o1), (.int (own_n l_1)), (.ref o0)] rfl ?_
 refine Home.call (own_private X4 hx hZ hown (w125 hw) (w126 hw) (own_selp (w128 hw) (w127 hw) (w126 hw) (by decide)) (Cond.privateMethod_at (mvP hZ (w127 hw) (args := #[]))) (w64 hw) (w129 hw) (by decide) (rm19_0 l Z a0 hw [] o0 o1 l_1 sv_COMPACT_STRINGS p3 p4 k_p4 l_2 k_p3 h0 n0 O0 E_o0 S_COMPACT_STRINGS F_coder_o0 E_o1 F_coder_o1 hCS F_value_o0 F_value_o1 V_p4 V_p3 E_p3 g_p3 (Nat.le_trans (own_len_le sh_l_1).2 (by decide)) (Nat.le_trans (own_len_le sh_l_2).2 (by decide))) e4 E_o0 rfl (by rw [hml]; rfl) (argsL := [(.int (own_n l_1)), (.ref o1)]) (rest := []) (lenOf own_pd27 rfl) rfl rfl (W := 0) (hb hby d16_30)) ?_
 rintro _ T5 L5 X5 ⟨rfl, N5q, K5q, P5_0, P5_1⟩
 have K5 : Keep h0 T5.heap ([p3, o0] : List Addr) := Keep.trans (Keep.refl h0 ([p3, o0] : List Addr)) K5q (allS (Or.inl (List.mem_of_getElem? (i := 0) rfl)) all0)
 have N5 := Fr.app N0 N5q
 show Home T5 (mkF m 33 #[sr o0, sr o1, .val (.int (own_n l_2))] [])
 refine Rn X5 hx hby sg16_33_2 35 #[sr o0, sr o1, .val (.int (own_n l_2))] [(.ref o0), (.ref o0)] rfl ?_
 have ne6 : o0 ≠ p3 := (own_neAV (E_o0.keep K5q) (w55 hw) P5_0)
 have q7 := (F_count_o0.keep K5q (ninS ne6 nin0))
 refine Home.st (getF X5 hx hZ hown (host := "") (Or.inl (w82 hw)) Via.refl rfl q7 rfl rfl (hb hby d16_35)) fun T8 X8 e8 => ?_
 refine Rn X8 hx hby sg16_38_2 40 #[sr o0, sr o1, .val (.int (own_n l_2))] [(.int ((own_n l_1) + (own_n l_2))), (.ref o0)] rfl ?_
 rw [own_n_app]
 refine Home.wr (putF X8 hx hZ hown (host := "") (Or.inl (w82 hw)) Via.refl e8 q7 (E_o0.keep K5) (Or.inl (w83 hw)) (w55 hw) (ty := .int) (by decide) rfl rfl rfl rfl (hb hby d16_40)) fun T9 h9 X9 e9 W9 => ?_
 have Fw9 := q7.same W9
 have K9 : Keep h0 h9 ([p3, o0] : List Addr) := Keep.wr K5 W9 (Or.inl (List.mem_of_getElem? (i := 1) rfl))
 have N9 := Fr.snoc X9 N5 g_o0
 refine Rn X9 hx hby sg16_43_1 44 #[sr o0, sr o1, .val (.int (own_n l_2))] [(.ref o0)] rfl ?_
 have ne10 : p3 ≠ o0 := (Ne.symm ne6)
 have q11 := (P5_0.other W9 ne10)
 have q12 := ((F_value_o0.keep K5q (ninS ne6 nin0)).other W9 (Or.inr (slot_ne (Or.inl (w69 hw)) (Or.inl (w83 hw)) (by decide) (t := (.array .byte)) (t' := .int) (by decide) (by decide))))
 have q13 := ((F_coder_o0.keep K5q (ninS ne6 nin0)).other W9 (Or.inr (slot_ne (Or.inl (w71 hw)) (Or.inl (w83 hw)) (by decide) (t := .byte) (t' := .int) (by decide) (by decide))))
 exact Home.retR X9 hx hlk hret rfl rfl (hb hby d16_44) (by rw [show T9.heap = h9 from e9]; exact ⟨rfl, N9, K9, q11, (E_p3.keep K9), Fw9, (E_o0.keep K9), q12, q13⟩) (by decide) (by decide)
theorem rm15_0 (l : Launch) (Z : State) (a0 : Array Value) (hw : HW a0 Z) (ws : List Jvm.Cond) (o0 o1 p4 : Addr) (k_p4 : ClassId) (l_2 : List Int32) (sv_COMPACT_STRINGS : Int32) (p3 : Addr) (k_p3 : ClassId) (l_1 : List Int32) (h0 : Heap) (n0 : Nat) (O0 : Old Z n0 h0) (E_o0 : Exa Z h0 o0 "java/lang/StringBuilder") (E_o1 : Exa Z h0 o1 "java/lang/String") (F_value_o1 : Fld Z h0 o1 "java/lang/String" "value" "[B" (.ref p4)) (V_p4 : Arv Z h0 p4 k_p4 .byte (own_n l_2) (List.map Value.int l_2) (.int 0)) (S_COMPACT_STRINGS : Sta Z Z.heap "java/lang/String" "COMPACT_STRINGS" "Z" (.int sv_COMPACT_STRINGS)) (F_coder_o1 : Fld Z h0 o1 "java/lang/String" "coder" "B" (.int 0)) (F_value_o0 : Fld Z h0 o0 "java/lang/AbstractStringBuilder" "value" "[B" (.ref p3)) (V_p3 : Arv Z h0 p3 k_p3 .byte (34 : Int32) (List.map Value.int l_1) (.int 0)) (F_coder_o0 : Fld Z h0 o0 "java/lang/AbstractStringBuilder" "coder" "B" (.int 0)) (E_p3 : Exa Z h0 p3 "[B") (F_count_o0 : Fld Z h0 o0 "java/lang/AbstractStringBuilder" "count" "I" (.int (own_n l_1))) (g_p3 : n0 ≤ p3) (g_o0 : n0 ≤ o0) (hCS : ¬ (sv_COMPACT_STRINGS = (0 : Int32))) (sh_l_2 : l_2.length ≤ 2) (sh_l_1 : l_1.length ≤ 16) :
    Con l Z (⟨"java/lang/StringBuilder", "append", "(Ljava/lang/String;)Ljava/lang/StringBuilder;"⟩ : MethodName) jdk_67_method_7_code 2 (some (.object "java/lang/StringBuilder")) ws ({ frames := 4, cells := 0, slots := 0, locals := 61 } : Room) #[(.ref o0), (.ref o1)] h0 (fun v h L => v = some (.ref o0) ∧ Fr n0 L ∧ Keep h0 h [o0, p3] ∧ Exa Z h o0 "java/lang/StringBuilder" ∧ Fld Z h o0 "java/lang/AbstractStringBuilder" "value" "[B" (.ref p3) ∧ Fld Z h o0 "java/lang/AbstractStringBuilder" "coder" "B" (.int 0) ∧ Fld Z h o0 "java/lang/AbstractStringBuilder" "count" "I" (.int (own_n (l_1 ++ l_2))) ∧ Arv Z h p3 k_p3 .byte (34 : Int32) (List.map Value.int (l_1 ++ l_2)) (.int 0) ∧ Exa Z h p3 "[B") := by
 refine own_body (plainFor_of_name own_pn7) (fun m => ef_rm46_0 m o0 o1) ?_
 intro p e s m below meth c s₁ hx hby hlk hml hret hZ hown hnm X0 e0
 have N0 := Fr.nil n0
 refine Rn X0 hx hby sg15_0_2 2 #[sr o0, sr o1] [(.ref o1), (.ref o0)] rfl ?_
 refine Home.call (own_super X0 hx hZ hown (w108 hw) (own_samem (w109 hw) (w91 hw) rfl (by decide)) (w109 hw) (w79 hw) (by decide) (w64 hw) (w111 hw) (rm16_0 l Z a0 hw [] o0 o1 p4 k_p4 l_2 sv_COMPACT_STRINGS l_1 p3 k_p3 h0 n0 O0 E_o1 F_value_o1 V_p4 S_COMPACT_STRINGS F_coder_o1 hCS (Nat.le_trans (own_len_le sh_l_2).2 (by decide)) F_count_o0 E_o0 F_value_o0 V_p3 F_coder_o0 (Nat.le_trans (own_len_le sh_l_1).2 (by decide)) E_p3 g_p3 g_o0) e0 E_o0 rfl (by rw [hml]; rfl) (argsL := [(.ref o1)]) (rest := []) (lenOf own_pd28 rfl) rfl rfl (W := 0) (hb hby d15_2)) ?_
 rintro _ T1 L1 X1 ⟨rfl, N1q, K1q, P1_0, P1_1, P1_2, P1_3, P1_4, P1_5⟩
 have K1 : Keep h0 T1.heap ([o0, p3] : List Addr) := Keep.trans (Keep.refl h0 ([o0, p3] : List Addr)) K1q (allS (Or.inl (List.mem_of_getElem? (i := 1) rfl)) (allS (Or.inl (List.mem_of_getElem? (i := 0) rfl)) all0))
 have N1 := Fr.app N0 N1q
 refine Rn X1 hx hby sg15_5_2 7 #[sr o0, sr o1] [(.ref o0)] rfl ?_
 exact Home.retR X1 hx hlk hret rfl rfl (hb hby d15_7) ⟨rfl, N1, K1, P1_3, P1_4, P1_5, P1_2, P1_0, P1_1⟩ (by decide) (by decide)
theorem rm10_2 (l : Launch) (Z : State) (a0 : Array Value) (hw : HW a0 Z) (ws : List Jvm.Cond) (o0 : Addr) (i1 : Int32) (l_1 : List Int32) (p2 : Addr) (k_p2 : ClassId) (sv_COMPACT_STRINGS : Int32) (sv_DigitOnes : Addr) (k_ones : ClassId) (sv_DigitTens : Addr) (k_tens : ClassId) (h0 : Heap) (n0 : Nat) (O0 : Old Z n0 h0) (F_count_o0 : Fld Z h0 o0 "java/lang/AbstractStringBuilder" "count" "I" (.int (own_n l_1))) (E_o0 : Exa Z h0 o0 "java/lang/StringBuilder") (F_value_o0 : Fld Z h0 o0 "java/lang/AbstractStringBuilder" "value" "[B" (.ref p2)) (V_p2 : Arv Z h0 p2 k_p2 .byte (34 : Int32) (List.map Value.int l_1) (.int 0)) (F_coder_o0 : Fld Z h0 o0 "java/lang/AbstractStringBuilder" "coder" "B" (.int 0)) (sh_l_1 : l_1.length ≤ 16) (S_COMPACT_STRINGS : Sta Z Z.heap "java/lang/String" "COMPACT_STRINGS" "Z" (.int sv_COMPACT_STRINGS)) (hCS : ¬ (sv_COMPACT_STRINGS = (0 : Int32))) (S_DigitOnes : Sta Z Z.heap "java/lang/Integer" "DigitOnes" "[B" (.ref sv_DigitOnes)) (V_ones : Arv Z Z.heap sv_DigitOnes k_ones .byte (100 : Int32) (List.map Value.int own_ones) (.int 0)) (S_DigitTens : Sta Z Z.heap "java/lang/Integer" "DigitTens" "[B" (.ref sv_DigitTens)) (V_tens : Arv Z Z.heap sv_DigitTens k_tens .byte (100 : Int32) (List.map Value.int own_tens) (.int 0)) (E_p2 : Exa Z h0 p2 "[B") (g_p2 : n0 ≤ p2) (g_o0 : n0 ≤ o0) :
    Con l Z (⟨"java/lang/AbstractStringBuilder", "append", "(I)Ljava/lang/AbstractStringBuilder;"⟩ : MethodName) jdk_68_method_32_code 4 (some (.object "java/lang/AbstractStringBuilder")) ws ({ frames := 1, cells := 0, slots := 0, locals := 18 } : Room) #[(.ref o0), (.int i1)] h0 (fun v h L => v = some (.ref o0) ∧ Fr n0 L ∧ Keep h0 h [p2, o0] ∧ Arv Z h p2 k_p2 .byte (34 : Int32) (List.map Value.int (l_1 ++ (own_put i1))) (.int 0) ∧ Exa Z h p2 "[B" ∧ Fld Z h o0 "java/lang/AbstractStringBuilder" "count" "I" (.int (own_n (l_1 ++ (own_put i1)))) ∧ Exa Z h o0 "java/lang/StringBuilder" ∧ Fld Z h o0 "java/lang/AbstractStringBuilder" "value" "[B" (.ref p2) ∧ Fld Z h o0 "java/lang/AbstractStringBuilder" "coder" "B" (.int 0)) := by
 refine own_body (plainFor_of_name own_pn6) (fun m => ef_rm10_0 m o0 i1) ?_
 intro p e s m below meth c s₁ hx hby hlk hml hret hZ hown hnm X0 e0
 have N0 := Fr.nil n0
 refine Rn X0 hx hby sg10_0_1 1 #[sr o0, si i1, un, un] [(.ref o0)] rfl ?_
 refine Home.st (getF X0 hx hZ hown (host := "") (Or.inl (w82 hw)) Via.refl e0 F_count_o0 rfl rfl (hb hby d10_1)) fun T1 X1 e1 => ?_
 refine Rn X1 hx hby sg10_4_3 7 #[sr o0, si i1, .val (.int (own_n l_1)), un] [(.int i1), (.int (own_n l_1))] rfl ?_
 refine Home.st (own_pure (own_static X1 hx hZ hown (w84 hw) (w85 hw) (w86 hw) (w87 hw) (by decide) (rm11s l Z a0 hw [] i1 h0 n0 O0) e1 rfl (by rw [hml]; rfl) (argsL := [(.int i1)]) (rest := [(.int (own_n l_1))]) (lenOf own_pd15 rfl) rfl rfl (W := 1) (hb hby d10_7))) fun T2 X2 e2 => ?_
 refine Rn X2 hx hby sg10_10_1 11 #[sr o0, si i1, .val (.int (own_n l_1)), un] [(.int ((own_n l_1) + (own_n (own_put i1))))] rfl ?_
 rw [own_n_app]
 refine Rn X2 hx hby sg10_11_3 14 #[sr o0, si i1, .val (.int (own_n l_1)), .val (.int (own_n (l_1 ++ (own_put i1))))] [(.int (own_n (l_1 ++ (own_put i1)))), (.ref o0)] rfl ?_
 refine Home.st (own_pure (own_private X2 hx hZ hown (w88 hw) (w89 hw) (own_selp (w91 hw) (w90 hw) (w89 hw) (by decide)) (Cond.privateMethod_at (mvP hZ (w90 hw) (args := #[]))) (w64 hw) (w92 hw) (by decide) (rm12_2 l Z a0 hw [] o0 (l_1 ++ (own_put i1)) p2 k_p2 l_1 h0 n0 O0 F_value_o0 V_p2 F_coder_o0 (Nat.le_trans (own_len_app (own_len_le sh_l_1) (own_put_len i1)).2 (by decide))) e2 E_o0 rfl (by rw [hml]; rfl) (argsL := [(.int (own_n (l_1 ++ (own_put i1))))]) (rest := []) (lenOf own_pd13 rfl) rfl rfl (W := 0) (hb hby d10_14))) fun T3 X3 e3 => ?_
 refine Rn X3 hx hby sg10_17_1 18 #[sr o0, si i1, .val (.int (own_n l_1)), .val (.int (own_n (l_1 ++ (own_put i1))))] [(.ref o0)] rfl ?_
 refine Home.st (own_pure (own_virtual X3 hx hZ hown (w93 hw) (w94 hw) (notFace_of_selects (args := #[]) (mvT hZ (w96 hw))) (w96 hw) (w95 hw) (w64 hw) (w97 hw) (by decide) (rm13_0 l Z a0 hw [] o0 sv_COMPACT_STRINGS h0 n0 O0 S_COMPACT_STRINGS hCS F_coder_o0) e3 E_o0 rfl (by rw [hml]; rfl) (argsL := []) (rest := []) (lenOf own_pd19 rfl) rfl rfl (W := 0) (hb hby d10_18))) fun T4 X4 e4 => ?_
 refine Home.go (fun _ => XS.ifNo X4.here hx rfl (hb hby d10_21) rfl ((if0 _ _).trans (feq (by decide)).1)) ?_
 refine Rn X4 hx hby sg10_24_3 27 #[sr o0, si i1, .val (.int (own_n l_1)), .val (.int (own_n (l_1 ++ (own_put i1))))] [(.ref o0), (.int (own_n (l_1 ++ (own_put i1)))), (.int i1)] rfl ?_
 refine Home.st (getF X4 hx hZ hown (host := "") (Or.inl (w68 hw)) Via.refl e4 F_value_o0 rfl rfl (hb hby d10_27)) fun T5 X5 e5 => ?_
 refine Home.call (own_static X5 hx hZ hown (w98 hw) (w99 hw) (w86 hw) (w100 hw) (by decide) (rm14_0 l Z a0 hw [] i1 (own_n (l_1 ++ (own_put i1))) p2 (34 : Int32) l_1 k_p2 sv_DigitOnes k_ones sv_DigitTens k_tens h0 n0 O0 rfl ⟨Nat.le_trans (own_len_app (own_len_le sh_l_1) (own_put_len i1)).2 (by decide), by decide⟩ V_p2 (Nat.le_trans (own_len_le sh_l_1).2 (by decide)) g_p2 S_DigitOnes V_ones S_DigitTens V_tens E_p2) e5 rfl (by rw [hml]; rfl) (argsL := [(.int i1), (.int (own_n (l_1 ++ (own_put i1)))), (.ref p2)]) (rest := []) (lenOf own_pd20 rfl) rfl rfl (W := 0) (hb hby d10_30)) ?_
 rintro _ T6 L6 X6 ⟨rfl, N6q, K6q, P6_0, P6_1⟩
 have K6 : Keep h0 T6.heap ([p2, o0] : List Addr) := Keep.trans (Keep.refl h0 ([p2, o0] : List Addr)) K6q (allS (Or.inl (List.mem_of_getElem? (i := 0) rfl)) all0)
 have N6 := Fr.app N0 N6q
 show Home T6 (mkF m 33 #[sr o0, si i1, .val (.int (own_n l_1)), .val (.int (own_n (l_1 ++ (own_put i1))))] [(.int (own_n l_1))])
 refine Rn X6 hx hby sg10_33_4 50 #[sr o0, si i1, .val (.int (own_n l_1)), .val (.int (own_n (l_1 ++ (own_put i1))))] [(.int (own_n (l_1 ++ (own_put i1)))), (.ref o0)] rfl ?_
 have ne7 : o0 ≠ p2 := (own_neAV (E_o0.keep K6q) (w55 hw) P6_0)
 have q8 := (F_count_o0.keep K6q (ninS ne7 nin0))
 refine Home.wr (putF X6 hx hZ hown (host := "") (Or.inl (w82 hw)) Via.refl rfl q8 (E_o0.keep K6) (Or.inl (w83 hw)) (w55 hw) (ty := .int) (by decide) rfl rfl rfl rfl (hb hby d10_50)) fun T9 h9 X9 e9 W9 => ?_
 have Fw9 := q8.same W9
 have K9 : Keep h0 h9 ([p2, o0] : List Addr) := Keep.wr K6 W9 (Or.inl (List.mem_of_getElem? (i := 1) rfl))
 have N9 := Fr.snoc X9 N6 g_o0
 refine Rn X9 hx hby sg10_53_1 54 #[sr o0, si i1, .val (.int (own_n l_1)), .val (.int (own_n (l_1 ++ (own_put i1))))] [(.ref o0)] rfl ?_
 have ne10 : p2 ≠ o0 := (Ne.symm ne7)
 have q11 := (P6_0.other W9 ne10)
 have q12 := ((F_value_o0.keep K6q (ninS ne7 nin0)).other W9 (Or.inr (slot_ne (Or.inl (w69 hw)) (Or.inl (w83 hw)) (by decide) (t := (.array .byte)) (t' := .int) (by decide) (by decide))))
 have q13 := ((F_coder_o0.keep K6q (ninS ne7 nin0)).other W9 (Or.inr (slot_ne (Or.inl (w71 hw)) (Or.inl (w83 hw)) (by decide) (t := .byte) (t' := .int) (by decide) (by decide))))
 exact Home.retR X9 hx hlk hret rfl rfl (hb hby d10_54) (by rw [show T9.heap = h9 from e9]; exact ⟨rfl, N9, K9, q11, (E_p2.keep K9), Fw9, (E_o0.keep K9), q12, q13⟩) (by decide) (by decide)
theorem rm9_1 (l : Launch) (Z : State) (a0 : Array Value) (hw : HW a0 Z) (ws : List Jvm.Cond) (o0 : Addr) (i1 : Int32) (p2 : Addr) (k_p2 : ClassId) (l_1 : List Int32) (sv_COMPACT_STRINGS : Int32) (sv_DigitOnes : Addr) (k_ones : ClassId) (sv_DigitTens : Addr) (k_tens : ClassId) (h0 : Heap) (n0 : Nat) (O0 : Old Z n0 h0) (E_o0 : Exa Z h0 o0 "java/lang/StringBuilder") (F_value_o0 : Fld Z h0 o0 "java/lang/AbstractStringBuilder" "value" "[B" (.ref p2)) (V_p2 : Arv Z h0 p2 k_p2 .byte (34 : Int32) (List.map Value.int l_1) (.int 0)) (F_coder_o0 : Fld Z h0 o0 "java/lang/AbstractStringBuilder" "coder" "B" (.int 0)) (S_COMPACT_STRINGS : Sta Z Z.heap "java/lang/String" "COMPACT_STRINGS" "Z" (.int sv_COMPACT_STRINGS)) (S_DigitOnes : Sta Z Z.heap "java/lang/Integer" "DigitOnes" "[B" (.ref sv_DigitOnes)) (V_ones : Arv Z Z.heap sv_DigitOnes k_ones .byte (100 : Int32) (List.map Value.int own_ones) (.int 0)) (S_DigitTens : Sta Z Z.heap "java/lang/Integer" "DigitTens" "[B" (.ref sv_DigitTens)) (V_tens : Arv Z Z.heap sv_DigitTens k_tens .byte (100 : Int32) (List.map Value.int own_tens) (.int 0)) (E_p2 : Exa Z h0 p2 "[B") (F_count_o0 : Fld Z h0 o0 "java/lang/AbstractStringBuilder" "count" "I" (.int (own_n l_1))) (g_p2 : n0 ≤ p2) (g_o0 : n0 ≤ o0) (sh_l_1 : l_1.length ≤ 16) (hCS : ¬ (sv_COMPACT_STRINGS = (0 : Int32))) :
    Con l Z (⟨"java/lang/StringBuilder", "append", "(I)Ljava/lang/StringBuilder;"⟩ : MethodName) jdk_67_method_15_code 2 (some (.object "java/lang/StringBuilder")) ws ({ frames := 2, cells := 0, slots := 0, locals := 33 } : Room) #[(.ref o0), (.int i1)] h0 (fun v h L => v = some (.ref o0) ∧ Fr n0 L ∧ Keep h0 h [o0, p2] ∧ Exa Z h o0 "java/lang/StringBuilder" ∧ Fld Z h o0 "java/lang/AbstractStringBuilder" "value" "[B" (.ref p2) ∧ Fld Z h o0 "java/lang/AbstractStringBuilder" "coder" "B" (.int 0) ∧ Fld Z h o0 "java/lang/AbstractStringBuilder" "count" "I" (.int (own_n (l_1 ++ (own_put i1)))) ∧ Arv Z h p2 k_p2 .byte (34 : Int32) (List.map Value.int (l_1 ++ (own_put i1))) (.int 0) ∧ Exa Z h p2 "[B") := by
 refine own_body (plainFor_of_name own_pn7) (fun m => ef_rm50_0 m o0 i1) ?_
 intro p e s m below meth c s₁ hx hby hlk hml hret hZ hown hnm X0 e0
 have N0 := Fr.nil n0
 refine Rn X0 hx hby sg9_0_2 2 #[sr o0, si i1] [(.int i1), (.ref o0)] rfl ?_
 refine Home.call (own_super X0 hx hZ hown (w77 hw) (own_samem (w78 hw) (w91 hw) rfl (by decide)) (w78 hw) (w79 hw) (by decide) (w64 hw) (w81 hw) (rm10_2 l Z a0 hw [] o0 i1 l_1 p2 k_p2 sv_COMPACT_STRINGS sv_DigitOnes k_ones sv_DigitTens k_tens h0 n0 O0 F_count_o0 E_o0 F_value_o0 V_p2 F_coder_o0 (Nat.le_trans (own_len_le sh_l_1).2 (by decide)) S_COMPACT_STRINGS hCS S_DigitOnes V_ones S_DigitTens V_tens E_p2 g_p2 g_o0) e0 E_o0 rfl (by rw [hml]; rfl) (argsL := [(.int i1)]) (rest := []) (lenOf own_pd21 rfl) rfl rfl (W := 0) (hb hby d9_2)) ?_
 rintro _ T1 L1 X1 ⟨rfl, N1q, K1q, P1_0, P1_1, P1_2, P1_3, P1_4, P1_5⟩
 have K1 : Keep h0 T1.heap ([o0, p2] : List Addr) := Keep.trans (Keep.refl h0 ([o0, p2] : List Addr)) K1q (allS (Or.inl (List.mem_of_getElem? (i := 1) rfl)) (allS (Or.inl (List.mem_of_getElem? (i := 0) rfl)) all0))
 have N1 := Fr.app N0 N1q
 refine Rn X1 hx hby sg9_5_2 7 #[sr o0, si i1] [(.ref o0)] rfl ?_
 exact Home.retR X1 hx hlk hret rfl rfl (hb hby d9_7) ⟨rfl, N1, K1, P1_3, P1_4, P1_5, P1_2, P1_0, P1_1⟩ (by decide) (by decide)
theorem rm12_3 (l : Launch) (Z : State) (a0 : Array Value) (hw : HW a0 Z) (ws : List Jvm.Cond) (o0 : Addr) (l_1 : List Int32) (p2 : Addr) (k_p2 : ClassId) (l_2 : List Int32) (h0 : Heap) (n0 : Nat) (O0 : Old Z n0 h0) (F_value_o0 : Fld Z h0 o0 "java/lang/AbstractStringBuilder" "value" "[B" (.ref p2)) (V_p2 : Arv Z h0 p2 k_p2 .byte (34 : Int32) (List.map Value.int l_2) (.int 0)) (F_coder_o0 : Fld Z h0 o0 "java/lang/AbstractStringBuilder" "coder" "B" (.int 0)) (sh_l_1 : l_1.length ≤ 34) :
    Con l Z (⟨"java/lang/AbstractStringBuilder", "ensureCapacityInternal", "(I)V"⟩ : MethodName) jdk_68_method_9_code 3 none ws ({ frames := 0, cells := 0, slots := 0, locals := 0 } : Room) #[(.ref o0), (.int (own_n l_1))] h0 (Pur none h0) := by
 refine own_body (plainFor_of_name own_pn6) (fun m => ef_rm45_0 m o0 (own_n l_1)) ?_
 intro p e s m below meth c s₁ hx hby hlk hml hret hZ hown hnm X0 e0
 refine Rn X0 hx hby sg12_0_1 1 #[sr o0, .val (.int (own_n l_1)), un] [(.ref o0)] rfl ?_
 refine Home.st (getF X0 hx hZ hown (host := "") (Or.inl (w68 hw)) Via.refl e0 F_value_o0 rfl rfl (hb hby d12_1)) fun T1 X1 e1 => ?_
 obtain ⟨cl2, Ar2, q2, S2, M2, H2, G2⟩ := id V_p2
 refine Home.go (own_alen X1 hx hZ e1 Ar2 S2 M2 rfl rfl (hb hby d12_4)) ?_
 refine Rn X1 hx hby sg12_5_1 6 #[sr o0, .val (.int (own_n l_1)), un] [(.ref o0), (.int 34)] rfl ?_
 refine Home.st (getF X1 hx hZ hown (host := "") (Or.inl (w70 hw)) Via.refl e1 F_coder_o0 rfl rfl (hb hby d12_6)) fun T3 X3 e3 => ?_
 refine Rn X3 hx hby sg12_9_5 14 #[sr o0, .val (.int (own_n l_1)), si 34] [(.int ((own_n l_1) - (34 : Int32)))] rfl ?_
 refine Home.go (fun _ => XS.ifYes X3.here hx rfl (pc0 := 14) (pc' := 38) rfl (hb hby d12_14) rfl ((if0 _ _).trans (flt (bnd_nlt (bnd_lit (0 : Int32)) (bnd_sub (own_n_b (a := 0) (b := 34) (own_len_le sh_l_1) (lo := (0 : Int32)) (hi := (34 : Int32)) (by decide) (by decide) (by decide)) (bnd_lit (34 : Int32)) (lo := (-34 : Int32)) (hi := (0 : Int32)) (by decide +kernel) (by decide +kernel) (by decide +kernel) (by decide +kernel)) (by decide +kernel))).2.2.2) (by decide) (by decide)) ?_
 exact Home.ret0 X3 hx hlk hret (hb hby d12_38) ⟨rfl, rfl, e3⟩ (by decide) (by decide)
theorem rm21_1 (l : Launch) (Z : State) (a0 : Array Value) (hw : HW a0 Z) (ws : List Jvm.Cond) (o0 o1 : Addr) (l_1 : List Int32) (sv_COMPACT_STRINGS : Int32) (p3 : Addr) (k_p3 : ClassId) (l_2 : List Int32) (k_o1 : ClassId) (h0 : Heap) (n0 : Nat) (O0 : Old Z n0 h0) (E_o0 : Exa Z h0 o0 "java/lang/String") (S_COMPACT_STRINGS : Sta Z Z.heap "java/lang/String" "COMPACT_STRINGS" "Z" (.int sv_COMPACT_STRINGS)) (F_coder_o0 : Fld Z h0 o0 "java/lang/String" "coder" "B" (.int 0)) (hCS : ¬ (sv_COMPACT_STRINGS = (0 : Int32))) (F_value_o0 : Fld Z h0 o0 "java/lang/String" "value" "[B" (.ref p3)) (sh_l_1 : l_1.length ≤ 27) (V_p3 : Arv Z h0 p3 k_p3 .byte (own_n l_2) (List.map Value.int l_2) (.int 0)) (V_o1 : Arv Z h0 o1 k_o1 .byte (34 : Int32) (List.map Value.int l_1) (.int 0)) (sh_l_2 : l_2.length ≤ 2) (g_o1 : n0 ≤ o1) (E_o1 : Exa Z h0 o1 "[B") :
    Con l Z (⟨"java/lang/String", "getBytes", "([BIB)V"⟩ : MethodName) jdk_42_method_147_code 4 none ws ({ frames := 1, cells := 0, slots := 0, locals := 18 } : Room) #[(.ref o0), (.ref o1), (.int (own_n l_1)), (.int 0)] h0 (fun v h L => v = none ∧ Fr n0 L ∧ Keep h0 h [o1] ∧ Arv Z h o1 k_o1 .byte (34 : Int32) (List.map Value.int (l_1 ++ l_2)) (.int 0) ∧ Exa Z h o1 "[B") := by
 refine own_body (plainFor_of_name own_pn1) (fun m => ef_rm21_0 m o0 o1 (own_n l_1) (0 : Int32)) ?_
 intro p e s m below meth c s₁ hx hby hlk hml hret hZ hown hnm X0 e0
 have N0 := Fr.nil n0
 refine Rn X0 hx hby sg21_0_1 1 #[sr o0, sr o1, .val (.int (own_n l_1)), si 0] [(.ref o0)] rfl ?_
 refine Home.st (own_pure (own_virtual X0 hx hZ hown (w118 hw) (w119 hw) (notFace_of_selects (args := #[]) (mvT hZ (w121 hw))) (w121 hw) (w120 hw) (w1 hw) (w122 hw) (by decide) (rm18_0 l Z a0 hw [] o0 sv_COMPACT_STRINGS h0 n0 O0 S_COMPACT_STRINGS hCS F_coder_o0) e0 E_o0 rfl (by rw [hml]; rfl) (argsL := []) (rest := []) (lenOf own_pd23 rfl) rfl rfl (W := 0) (hb hby d21_1))) fun T1 X1 e1 => ?_
 refine Rn X1 hx hby sg21_4_1 5 #[sr o0, sr o1, .val (.int (own_n l_1)), si 0] [(.int 0), (.int 0)] rfl ?_
 refine Home.go (fun _ => XS.icmpNo X1.here hx rfl (hb hby d21_5) rfl (teq (by decide)).2) ?_
 refine Rn X1 hx hby sg21_8_1 9 #[sr o0, sr o1, .val (.int (own_n l_1)), si 0] [(.ref o0)] rfl ?_
 refine Home.st (getF X1 hx hZ hown (host := "") (Or.inl (w117 hw)) Via.refl e1 F_value_o0 rfl rfl (hb hby d21_9)) fun T2 X2 e2 => ?_
 refine Rn X2 hx hby sg21_12_5 17 #[sr o0, sr o1, .val (.int (own_n l_1)), si 0] [(.int ((own_n l_1) <<< ((0 : Int32) &&& 31))), (.ref o1), (.int 0), (.ref p3)] rfl ?_
 rw [own_shl0]
 refine Rn X2 hx hby sg21_17_1 18 #[sr o0, sr o1, .val (.int (own_n l_1)), si 0] [(.ref o0), (.int (own_n l_1)), (.ref o1), (.int 0), (.ref p3)] rfl ?_
 refine Home.st (getF X2 hx hZ hown (host := "") (Or.inl (w117 hw)) Via.refl e2 F_value_o0 rfl rfl (hb hby d21_18)) fun T3 X3 e3 => ?_
 obtain ⟨cl4, Ar4, q4, S4, M4, H4, G4⟩ := id V_p3
 refine Home.go (own_alen X3 hx hZ e3 Ar4 S4 M4 rfl rfl (hb hby d21_21)) ?_
 refine Home.cp (own_cpS X3 hx hZ hown (w141 hw) (w144 hw) (w142 hw) (w143 hw) e3 V_p3 V_o1 (Y := l_1) (X := l_2) (own_n_le (own_len_le sh_l_2)) (Nat.le_trans (Nat.le_of_eq (List.length_append).symm) (Nat.le_trans (own_len_app (own_len_le sh_l_1) (own_len_le sh_l_2)).2 (by decide))) (Nat.lt_of_le_of_lt (own_len_app (own_len_le sh_l_1) (own_len_le sh_l_2)).2 (by decide)) (dp := (own_n l_1)) rfl N0 g_o1 (g := (mkF m 22 #[.val (.ref o0), .val (.ref o1), .val (.int (own_n l_1)), .val (.int 0)] [(.int (own_n l_2)), (.int (own_n l_1)), (.ref o1), (.int 0), (.ref p3)])) rfl (by rw [hml]; rfl) rfl (hb hby d21_22) (by decide) (W := 0) (by exact hW0) (by decide)) fun T5 h5 L5 X5 e5 N5 K5q Vq5 => ?_
 have V5 : Arv Z h5 o1 k_o1 .byte (34 : Int32) (List.map Value.int (l_1 ++ l_2)) (.int 0) := Vq5
 have K5 : Keep h0 h5 ([o1] : List Addr) := Keep.trans (Keep.refl h0 ([o1] : List Addr)) K5q (allS (Or.inl (List.mem_of_getElem? (i := 0) rfl)) all0)
 show Home T5 (mkF m 25 #[sr o0, sr o1, .val (.int (own_n l_1)), si 0] [])
 refine Rn X5 hx hby sg21_25_1 43 #[sr o0, sr o1, .val (.int (own_n l_1)), si 0] [] rfl ?_
 exact Home.ret0 X5 hx hlk hret (hb hby d21_43) (by rw [show T5.heap = h5 from e5]; exact ⟨rfl, N5, K5, V5, (E_o1.keep K5)⟩) (by decide) (by decide)
theorem rm19_1 (l : Launch) (Z : State) (a0 : Array Value) (hw : HW a0 Z) (ws : List Jvm.Cond) (o0 o2 : Addr) (l_1 : List Int32) (sv_COMPACT_STRINGS : Int32) (p3 p4 : Addr) (k_p4 : ClassId) (l_2 : List Int32) (k_p3 : ClassId) (h0 : Heap) (n0 : Nat) (O0 : Old Z n0 h0) (E_o0 : Exa Z h0 o0 "java/lang/StringBuilder") (S_COMPACT_STRINGS : Sta Z Z.heap "java/lang/String" "COMPACT_STRINGS" "Z" (.int sv_COMPACT_STRINGS)) (F_coder_o0 : Fld Z h0 o0 "java/lang/AbstractStringBuilder" "coder" "B" (.int 0)) (E_o2 : Exa Z h0 o2 "java/lang/String") (F_coder_o2 : Fld Z h0 o2 "java/lang/String" "coder" "B" (.int 0)) (hCS : ¬ (sv_COMPACT_STRINGS = (0 : Int32))) (F_value_o0 : Fld Z h0 o0 "java/lang/AbstractStringBuilder" "value" "[B" (.ref p3)) (F_value_o2 : Fld Z h0 o2 "java/lang/String" "value" "[B" (.ref p4)) (V_p4 : Arv Z h0 p4 k_p4 .byte (own_n l_2) (List.map Value.int l_2) (.int 0)) (V_p3 : Arv Z h0 p3 k_p3 .byte (34 : Int32) (List.map Value.int l_1) (.int 0)) (E_p3 : Exa Z h0 p3 "[B") (g_p3 : n0 ≤ p3) (sh_l_1 : l_1.length ≤ 27) (sh_l_2 : l_2.length ≤ 2) :
    Con l Z (⟨"java/lang/AbstractStringBuilder", "putStringAt", "(ILjava/lang/String;)V"⟩ : MethodName) jdk_68_method_73_code 3 none ws ({ frames := 2, cells := 0, slots := 0, locals := 33 } : Room) #[(.ref o0), (.int (own_n l_1)), (.ref o2)] h0 (fun v h L => v = none ∧ Fr n0 L ∧ Keep h0 h [p3] ∧ Arv Z h p3 k_p3 .byte (34 : Int32) (List.map Value.int (l_1 ++ l_2)) (.int 0) ∧ Exa Z h p3 "[B") := by
 refine own_body (plainFor_of_name own_pn6) (fun m => ef_rm19_0 m o0 (own_n l_1) o2) ?_
 intro p e s m below meth c s₁ hx hby hlk hml hret hZ hown hnm X0 e0
 have N0 := Fr.nil n0
 refine Rn X0 hx hby sg19_0_2 2 #[sr o0, .val (.int (own_n l_1)), sr o2] [(.ref o2), (.ref o0)] rfl ?_
 refine Home.st (own_pure (own_private X0 hx hZ hown (w130 hw) (w131 hw) (own_selp (w133 hw) (w132 hw) (w131 hw) (by decide)) (Cond.privateMethod_at (mvP hZ (w132 hw) (args := #[]))) (w64 hw) (w134 hw) (by decide) (rm20_0 l Z a0 hw [] o0 o2 sv_COMPACT_STRINGS h0 n0 O0 S_COMPACT_STRINGS hCS F_coder_o0 E_o2 F_coder_o2) e0 E_o0 rfl (by rw [hml]; rfl) (argsL := [(.ref o2)]) (rest := []) (lenOf own_pd25 rfl) rfl rfl (W := 0) (hb hby d19_2))) fun T1 X1 e1 => ?_
 refine Rn X1 hx hby sg19_5_2 7 #[sr o0, .val (.int (own_n l_1)), sr o2] [(.ref o0), (.ref o2)] rfl ?_
 refine Home.st (getF X1 hx hZ hown (host := "") (Or.inl (w68 hw)) Via.refl e1 F_value_o0 rfl rfl (hb hby d19_7)) fun T2 X2 e2 => ?_
 refine Rn X2 hx hby sg19_10_2 12 #[sr o0, .val (.int (own_n l_1)), sr o2] [(.ref o0), (.int (own_n l_1)), (.ref p3), (.ref o2)] rfl ?_
 refine Home.st (getF X2 hx hZ hown (host := "") (Or.inl (w70 hw)) Via.refl e2 F_coder_o0 rfl rfl (hb hby d19_12)) fun T3 X3 e3 => ?_
 refine Home.call (own_virtual X3 hx hZ hown (w136 hw) (w137 hw) (notFace_of_selects (args := #[]) (mvT hZ (w139 hw))) (w139 hw) (w138 hw) (w1 hw) (w140 hw) (by decide) (rm21_1 l Z a0 hw [] o2 p3 l_1 sv_COMPACT_STRINGS p4 k_p4 l_2 k_p3 h0 n0 O0 E_o2 S_COMPACT_STRINGS F_coder_o2 hCS F_value_o2 (Nat.le_trans (own_len_le sh_l_1).2 (by decide)) V_p4 V_p3 (Nat.le_trans (own_len_le sh_l_2).2 (by decide)) g_p3 E_p3) e3 E_o2 rfl (by rw [hml]; rfl) (argsL := [(.ref p3), (.int (own_n l_1)), (.int 0)]) (rest := []) (lenOf own_pd26 rfl) rfl rfl (W := 0) (hb hby d19_15)) ?_
 rintro _ T4 L4 X4 ⟨rfl, N4q, K4q, P4_0, P4_1⟩
 have K4 : Keep h0 T4.heap ([p3] : List Addr) := Keep.trans (Keep.refl h0 ([p3] : List Addr)) K4q (allS (Or.inl (List.mem_of_getElem? (i := 0) rfl)) all0)
 have N4 := Fr.app N0 N4q
 exact Home.ret0 X4 hx hlk hret (hb hby d19_18) ⟨rfl, N4, K4, P4_0, P4_1⟩ (by decide) (by decide)
theorem rm16_1 (l : Launch) (Z : State) (a0 : Array Value) (hw : HW a0 Z) (ws : List Jvm.Cond) (o0 o1 p4 : Addr) (k_p4 : ClassId) (l_2 : List Int32) (sv_COMPACT_STRINGS : Int32) (l_1 : List Int32) (p3 : Addr) (k_p3 : ClassId) (h0 : Heap) (n0 : Nat) (O0 : Old Z n0 h0) (E_o1 : Exa Z h0 o1 "java/lang/String") (F_value_o1 : Fld Z h0 o1 "java/lang/String" "value" "[B" (.ref p4)) (V_p4 : Arv Z h0 p4 k_p4 .byte (own_n l_2) (List.map Value.int l_2) (.int 0)) (S_COMPACT_STRINGS : Sta Z Z.heap "java/lang/String" "COMPACT_STRINGS" "Z" (.int sv_COMPACT_STRINGS)) (F_coder_o1 : Fld Z h0 o1 "java/lang/String" "coder" "B" (.int 0)) (hCS : ¬ (sv_COMPACT_STRINGS = (0 : Int32))) (sh_l_2 : l_2.length ≤ 2) (F_count_o0 : Fld Z h0 o0 "java/lang/AbstractStringBuilder" "count" "I" (.int (own_n l_1))) (E_o0 : Exa Z h0 o0 "java/lang/StringBuilder") (F_value_o0 : Fld Z h0 o0 "java/lang/AbstractStringBuilder" "value" "[B" (.ref p3)) (V_p3 : Arv Z h0 p3 k_p3 .byte (34 : Int32) (List.map Value.int l_1) (.int 0)) (F_coder_o0 : Fld Z h0 o0 "java/lang/AbstractStringBuilder" "coder" "B" (.int 0)) (sh_l_1 : l_1.length ≤ 27) (E_p3 : Exa Z h0 p3 "[B") (g_p3 : n0 ≤ p3) (g_o0 : n0 ≤ o0) :
    Con l Z (⟨"java/lang/AbstractStringBuilder", "append", "(Ljava/lang/String;)Ljava/lang/AbstractStringBuilder;"⟩ : MethodName) jdk_68_method_22_code 3 (some (.object "java/lang/AbstractStringBuilder")) ws ({ frames := 3, cells := 0, slots := 0, locals := 47 } : Room) #[(.ref o0), (.ref o1)] h0 (fun v h L => v = some (.ref o0) ∧ Fr n0 L ∧ Keep h0 h [p3, o0] ∧ Arv Z h p3 k_p3 .byte (34 : Int32) (List.map Value.int (l_1 ++ l_2)) (.int 0) ∧ Exa Z h p3 "[B" ∧ Fld Z h o0 "java/lang/AbstractStringBuilder" "count" "I" (.int (own_n (l_1 ++ l_2))) ∧ Exa Z h o0 "java/lang/StringBuilder" ∧ Fld Z h o0 "java/lang/AbstractStringBuilder" "value" "[B" (.ref p3) ∧ Fld Z h o0 "java/lang/AbstractStringBuilder" "coder" "B" (.int 0)) := by
 refine own_body (plainFor_of_name own_pn6) (fun m => ef_rm16_0 m o0 o1) ?_
 intro p e s m below meth c s₁ hx hby hlk hml hret hZ hown hnm X0 e0
 have N0 := Fr.nil n0
 refine Rn X0 hx hby sg16_0_1 1 #[sr o0, sr o1, un] [(.ref o1)] rfl ?_
 refine Home.go (fun _ => XS.ifnonnullYes X0.here hx rfl (pc0 := 1) (pc' := 9) rfl (hb hby d16_1) rfl (by decide) (by decide)) ?_
 show Home s₁ (mkF m 9 #[sr o0, sr o1, un] [])
 refine Rn X0 hx hby sg16_9_1 10 #[sr o0, sr o1, un] [(.ref o1)] rfl ?_
 refine Home.st (own_pure (own_virtual X0 hx hZ hown (w112 hw) (w113 hw) (notFace_of_selects (args := #[]) (mvT hZ (w115 hw))) (w115 hw) (w114 hw) (w1 hw) (w116 hw) (by decide) (rm17_0 l Z a0 hw [] o1 p4 k_p4 l_2 sv_COMPACT_STRINGS h0 n0 O0 F_value_o1 V_p4 E_o1 S_COMPACT_STRINGS F_coder_o1 hCS (Nat.le_trans (own_len_le sh_l_2).2 (by decide))) e0 E_o1 rfl (by rw [hml]; rfl) (argsL := []) (rest := []) (lenOf own_pd24 rfl) rfl rfl (W := 0) (hb hby d16_10))) fun T1 X1 e1 => ?_
 refine Rn X1 hx hby sg16_13_3 16 #[sr o0, sr o1, .val (.int (own_n l_2))] [(.ref o0), (.ref o0)] rfl ?_
 refine Home.st (getF X1 hx hZ hown (host := "") (Or.inl (w82 hw)) Via.refl e1 F_count_o0 rfl rfl (hb hby d16_16)) fun T2 X2 e2 => ?_
 refine Rn X2 hx hby sg16_19_2 21 #[sr o0, sr o1, .val (.int (own_n l_2))] [(.int ((own_n l_1) + (own_n l_2))), (.ref o0)] rfl ?_
 rw [own_n_app]
 refine Home.st (own_pure (own_private X2 hx hZ hown (w88 hw) (w89 hw) (own_selp (w91 hw) (w90 hw) (w89 hw) (by decide)) (Cond.privateMethod_at (mvP hZ (w90 hw) (args := #[]))) (w64 hw) (w92 hw) (by decide) (rm12_3 l Z a0 hw [] o0 (l_1 ++ l_2) p3 k_p3 l_1 h0 n0 O0 F_value_o0 V_p3 F_coder_o0 (Nat.le_trans (own_len_app (own_len_le sh_l_1) (own_len_le sh_l_2)).2 (by decide))) e2 E_o0 rfl (by rw [hml]; rfl) (argsL := [(.int (own_n (l_1 ++ l_2)))]) (rest := []) (lenOf own_pd13 rfl) rfl rfl (W := 0) (hb hby d16_21))) fun T3 X3 e3 => ?_
 refine Rn X3 hx hby sg16_24_2 26 #[sr o0, sr o1, .val (.int (own_n l_2))] [(.ref o0), (.ref o0)] rfl ?_
 refine Home.st (getF X3 hx hZ hown (host := "") (Or.inl (w82 hw)) Via.refl e3 F_count_o0 rfl rfl (hb hby d16_26)) fun T4 X4 e4 => ?_
 refine Rn X4 hx hby sg16_29_1 30 #[sr o0, sr o1, .val (.int (own_n l_2))] [(.ref o1), (.int (own_n l_1)), (.ref o0)] rfl ?_
 refine Home.call (own_private X4 hx hZ hown (w125 hw) (w126 hw) (own_selp (w128 hw) (w127 hw) (w126 hw) (by decide)) (Cond.privateMethod_at (mvP hZ (w127 hw) (args := #[]))) (w64 hw) (w129 hw) (by decide) (rm19_1 l Z a0 hw [] o0 o1 l_1 sv_COMPACT_STRINGS p3 p4 k_p4 l_2 k_p3 h0 n0 O0 E_o0 S_COMPACT_STRINGS F_coder_o0 E_o1 F_coder_o1 hCS F_value_o0 F_value_o1 V_p4 V_p3 E_p3 g_p3 (Nat.le_trans (own_len_le sh_l_1).2 (by decide)) (Nat.le_trans (own_len_le sh_l_2).2 (by decide))) e4 E_o0 rfl (by rw [hml]; rfl) (argsL := [(.int (own_n l_1)), (.ref o1)]) (rest := []) (lenOf own_pd27 rfl) rfl rfl (W := 0) (hb hby d16_30)) ?_
 rintro _ T5 L5 X5 ⟨rfl, N5q, K5q, P5_0, P5_1⟩
 have K5 : Keep h0 T5.heap ([p3, o0] : List Addr) := Keep.trans (Keep.refl h0 ([p3, o0] : List Addr)) K5q (allS (Or.inl (List.mem_of_getElem? (i := 0) rfl)) all0)
 have N5 := Fr.app N0 N5q
 show Home T5 (mkF m 33 #[sr o0, sr o1, .val (.int (own_n l_2))] [])
 refine Rn X5 hx hby sg16_33_2 35 #[sr o0, sr o1, .val (.int (own_n l_2))] [(.ref o0), (.ref o0)] rfl ?_
 have ne6 : o0 ≠ p3 := (own_neAV (E_o0.keep K5q) (w55 hw) P5_0)
 have q7 := (F_count_o0.keep K5q (ninS ne6 nin0))
 refine Home.st (getF X5 hx hZ hown (host := "") (Or.inl (w82 hw)) Via.refl rfl q7 rfl rfl (hb hby d16_35)) fun T8 X8 e8 => ?_
 refine Rn X8 hx hby sg16_38_2 40 #[sr o0, sr o1, .val (.int (own_n l_2))] [(.int ((own_n l_1) + (own_n l_2))), (.ref o0)] rfl ?_
 rw [own_n_app]
 refine Home.wr (putF X8 hx hZ hown (host := "") (Or.inl (w82 hw)) Via.refl e8 q7 (E_o0.keep K5) (Or.inl (w83 hw)) (w55 hw) (ty := .int) (by decide) rfl rfl rfl rfl (hb hby d16_40)) fun T9 h9 X9 e9 W9 => ?_
 have Fw9 := q7.same W9
 have K9 : Keep h0 h9 ([p3, o0] : List Addr) := Keep.wr K5 W9 (Or.inl (List.mem_of_getElem? (i := 1) rfl))
 have N9 := Fr.snoc X9 N5 g_o0
 refine Rn X9 hx hby sg16_43_1 44 #[sr o0, sr o1, .val (.int (own_n l_2))] [(.ref o0)] rfl ?_
 have ne10 : p3 ≠ o0 := (Ne.symm ne6)
 have q11 := (P5_0.other W9 ne10)
 have q12 := ((F_value_o0.keep K5q (ninS ne6 nin0)).other W9 (Or.inr (slot_ne (Or.inl (w69 hw)) (Or.inl (w83 hw)) (by decide) (t := (.array .byte)) (t' := .int) (by decide) (by decide))))
 have q13 := ((F_coder_o0.keep K5q (ninS ne6 nin0)).other W9 (Or.inr (slot_ne (Or.inl (w71 hw)) (Or.inl (w83 hw)) (by decide) (t := .byte) (t' := .int) (by decide) (by decide))))
 exact Home.retR X9 hx hlk hret rfl rfl (hb hby d16_44) (by rw [show T9.heap = h9 from e9]; exact ⟨rfl, N9, K9, q11, (E_p3.keep K9), Fw9, (E_o0.keep K9), q12, q13⟩) (by decide) (by decide)
theorem rm15_1 (l : Launch) (Z : State) (a0 : Array Value) (hw : HW a0 Z) (ws : List Jvm.Cond) (o0 o1 p4 : Addr) (k_p4 : ClassId) (l_2 : List Int32) (sv_COMPACT_STRINGS : Int32) (p3 : Addr) (k_p3 : ClassId) (l_1 : List Int32) (h0 : Heap) (n0 : Nat) (O0 : Old Z n0 h0) (E_o0 : Exa Z h0 o0 "java/lang/StringBuilder") (E_o1 : Exa Z h0 o1 "java/lang/String") (F_value_o1 : Fld Z h0 o1 "java/lang/String" "value" "[B" (.ref p4)) (V_p4 : Arv Z h0 p4 k_p4 .byte (own_n l_2) (List.map Value.int l_2) (.int 0)) (S_COMPACT_STRINGS : Sta Z Z.heap "java/lang/String" "COMPACT_STRINGS" "Z" (.int sv_COMPACT_STRINGS)) (F_coder_o1 : Fld Z h0 o1 "java/lang/String" "coder" "B" (.int 0)) (F_value_o0 : Fld Z h0 o0 "java/lang/AbstractStringBuilder" "value" "[B" (.ref p3)) (V_p3 : Arv Z h0 p3 k_p3 .byte (34 : Int32) (List.map Value.int l_1) (.int 0)) (F_coder_o0 : Fld Z h0 o0 "java/lang/AbstractStringBuilder" "coder" "B" (.int 0)) (E_p3 : Exa Z h0 p3 "[B") (F_count_o0 : Fld Z h0 o0 "java/lang/AbstractStringBuilder" "count" "I" (.int (own_n l_1))) (g_p3 : n0 ≤ p3) (g_o0 : n0 ≤ o0) (hCS : ¬ (sv_COMPACT_STRINGS = (0 : Int32))) (sh_l_2 : l_2.length ≤ 2) (sh_l_1 : l_1.length ≤ 27) :
    Con l Z (⟨"java/lang/StringBuilder", "append", "(Ljava/lang/String;)Ljava/lang/StringBuilder;"⟩ : MethodName) jdk_67_method_7_code 2 (some (.object "java/lang/StringBuilder")) ws ({ frames := 4, cells := 0, slots := 0, locals := 61 } : Room) #[(.ref o0), (.ref o1)] h0 (fun v h L => v = some (.ref o0) ∧ Fr n0 L ∧ Keep h0 h [o0, p3] ∧ Exa Z h o0 "java/lang/StringBuilder" ∧ Fld Z h o0 "java/lang/AbstractStringBuilder" "value" "[B" (.ref p3) ∧ Fld Z h o0 "java/lang/AbstractStringBuilder" "coder" "B" (.int 0) ∧ Fld Z h o0 "java/lang/AbstractStringBuilder" "count" "I" (.int (own_n (l_1 ++ l_2))) ∧ Arv Z h p3 k_p3 .byte (34 : Int32) (List.map Value.int (l_1 ++ l_2)) (.int 0) ∧ Exa Z h p3 "[B") := by
 refine own_body (plainFor_of_name own_pn7) (fun m => ef_rm46_0 m o0 o1) ?_
 intro p e s m below meth c s₁ hx hby hlk hml hret hZ hown hnm X0 e0
 have N0 := Fr.nil n0
 refine Rn X0 hx hby sg15_0_2 2 #[sr o0, sr o1] [(.ref o1), (.ref o0)] rfl ?_
 refine Home.call (own_super X0 hx hZ hown (w108 hw) (own_samem (w109 hw) (w91 hw) rfl (by decide)) (w109 hw) (w79 hw) (by decide) (w64 hw) (w111 hw) (rm16_1 l Z a0 hw [] o0 o1 p4 k_p4 l_2 sv_COMPACT_STRINGS l_1 p3 k_p3 h0 n0 O0 E_o1 F_value_o1 V_p4 S_COMPACT_STRINGS F_coder_o1 hCS (Nat.le_trans (own_len_le sh_l_2).2 (by decide)) F_count_o0 E_o0 F_value_o0 V_p3 F_coder_o0 (Nat.le_trans (own_len_le sh_l_1).2 (by decide)) E_p3 g_p3 g_o0) e0 E_o0 rfl (by rw [hml]; rfl) (argsL := [(.ref o1)]) (rest := []) (lenOf own_pd28 rfl) rfl rfl (W := 0) (hb hby d15_2)) ?_
 rintro _ T1 L1 X1 ⟨rfl, N1q, K1q, P1_0, P1_1, P1_2, P1_3, P1_4, P1_5⟩
 have K1 : Keep h0 T1.heap ([o0, p3] : List Addr) := Keep.trans (Keep.refl h0 ([o0, p3] : List Addr)) K1q (allS (Or.inl (List.mem_of_getElem? (i := 1) rfl)) (allS (Or.inl (List.mem_of_getElem? (i := 0) rfl)) all0))
 have N1 := Fr.app N0 N1q
 refine Rn X1 hx hby sg15_5_2 7 #[sr o0, sr o1] [(.ref o0)] rfl ?_
 exact Home.retR X1 hx hlk hret rfl rfl (hb hby d15_7) ⟨rfl, N1, K1, P1_3, P1_4, P1_5, P1_2, P1_0, P1_1⟩ (by decide) (by decide)
theorem rm44_1 (l : Launch) (Z : State) (a0 : Array Value) (hw : HW a0 Z) (ws : List Jvm.Cond) (i0 : Int32) (h0 : Heap) (n0 : Nat) (O0 : Old Z n0 h0) (bnd_i0 : ¬ i0 < (-34 : Int32) ∧ ¬ (4 : Int32) < i0) :
    Con l Z (⟨"java/lang/Math", "max", "(II)I"⟩ : MethodName) jdk_29_method_65_code 2 (some .int) ws ({ frames := 0, cells := 0, slots := 0, locals := 0 } : Room) #[(.int i0), (.int 36)] h0 (Pur (some (.int 36)) h0) := by
 refine own_body (Jvm.Free.JP.mathPlain rfl (by decide +kernel)) (fun m => ef_rm44_0 m i0 (36 : Int32)) ?_
 intro p e s m below meth c s₁ hx hby hlk hml hret hZ hown hnm X0 e0
 refine Rn X0 hx hby sg44_0_2 2 #[si i0, si 36] [(.int 36), (.int i0)] rfl ?_
 refine Home.go (fun _ => XS.icmpYes X0.here hx rfl (pc0 := 2) (pc' := 9) rfl (hb hby d44_2) rfl (tlt (bnd_lt bnd_i0 (bnd_lit (36 : Int32)) (by decide +kernel))).1 (by decide) (by decide)) ?_
 refine Rn X0 hx hby sg44_9_1 10 #[si i0, si 36] [(.int 36)] rfl ?_
 exact Home.retI X0 hx hlk hret (hb hby d44_10) ⟨rfl, rfl, e0⟩ (by decide) (by decide)
theorem rm43_1 (l : Launch) (Z : State) (a0 : Array Value) (hw : HW a0 Z) (ws : List Jvm.Cond) (i1 : Int32) (h0 : Heap) (n0 : Nat) (O0 : Old Z n0 h0) (bnd_i1 : ¬ i1 < (-34 : Int32) ∧ ¬ (4 : Int32) < i1) :
    Con l Z (⟨"jdk/internal/util/ArraysSupport", "newLength", "(III)I"⟩ : MethodName) jdk_48_method_27_code 4 (some .int) ws ({ frames := 1, cells := 0, slots := 0, locals := 14 } : Room) #[(.int 34), (.int i1), (.int 36)] h0 (Pur (some (.int 70)) h0) := by
 refine own_body (plainFor_of_name own_pn9) (fun m => ef_rm43_0 m (34 : Int32) i1 (36 : Int32)) ?_
 intro p e s m below meth c s₁ hx hby hlk hml hret hZ hown hnm X0 e0
 refine Rn X0 hx hby sg43_0_3 3 #[si 34, si i1, si 36, un] [(.int 36), (.int i1), (.int 34)] rfl ?_
 refine Home.st (own_pure (own_static X0 hx hZ hown (w236 hw) (w237 hw) (w184 hw) (w238 hw) (by decide) (rm44_1 l Z a0 hw [] i1 h0 n0 O0 bnd_i1) e0 rfl (by rw [hml]; rfl) (argsL := [(.int i1), (.int 36)]) (rest := [(.int 34)]) (lenOf own_pd16 rfl) rfl rfl (W := 1) (hb hby d43_3))) fun T1 X1 e1 => ?_
 refine Rn X1 hx hby sg43_6_4 10 #[si 34, si i1, si 36, si 70] [(.int 70), (.int 0)] rfl ?_
 refine Home.go (fun _ => XS.icmpNo X1.here hx rfl (hb hby d43_10) rfl (tlt (by decide)).2.1) ?_
 refine Rn X1 hx hby sg43_13_1 14 #[si 34, si i1, si 36, si 70] [(.int 70)] rfl ?_
 refine Home.go (X1.ldcInt hx hown (mvT hZ (w239 hw)) rfl (hb hby d43_14)) ?_
 refine Home.go (fun _ => XS.icmpNo X1.here hx rfl (hb hby d43_16) rfl (flt (by decide)).2.2.1) ?_
 refine Rn X1 hx hby sg43_19_1 20 #[si 34, si i1, si 36, si 70] [(.int 70)] rfl ?_
 exact Home.retI X1 hx hlk hret (hb hby d43_20) ⟨rfl, rfl, e1⟩ (by decide) (by decide)
theorem rm42_1 (l : Launch) (Z : State) (a0 : Array Value) (hw : HW a0 Z) (ws : List Jvm.Cond) (o0 : Addr) (l_1 : List Int32) (p2 : Addr) (k_p2 : ClassId) (l_2 : List Int32) (h0 : Heap) (n0 : Nat) (O0 : Old Z n0 h0) (F_value_o0 : Fld Z h0 o0 "java/lang/AbstractStringBuilder" "value" "[B" (.ref p2)) (V_p2 : Arv Z h0 p2 k_p2 .byte (34 : Int32) (List.map Value.int l_2) (.int 0)) (F_coder_o0 : Fld Z h0 o0 "java/lang/AbstractStringBuilder" "coder" "B" (.int 0)) (sh_l_1 : l_1.length ≤ 38) :
    Con l Z (⟨"java/lang/AbstractStringBuilder", "newCapacity", "(I)I"⟩ : MethodName) jdk_68_method_10_code 6 (some .int) ws ({ frames := 2, cells := 0, slots := 0, locals := 29 } : Room) #[(.ref o0), (.int (own_n l_1))] h0 (Pur (some (.int 70)) h0) := by
 refine own_body (plainFor_of_name own_pn6) (fun m => ef_rm42_0 m o0 (own_n l_1)) ?_
 intro p e s m below meth c s₁ hx hby hlk hml hret hZ hown hnm X0 e0
 refine Rn X0 hx hby sg42_0_1 1 #[sr o0, .val (.int (own_n l_1)), un, un, un, un] [(.ref o0)] rfl ?_
 refine Home.st (getF X0 hx hZ hown (host := "") (Or.inl (w68 hw)) Via.refl e0 F_value_o0 rfl rfl (hb hby d42_1)) fun T1 X1 e1 => ?_
 obtain ⟨cl2, Ar2, q2, S2, M2, H2, G2⟩ := id V_p2
 refine Home.go (own_alen X1 hx hZ e1 Ar2 S2 M2 rfl rfl (hb hby d42_4)) ?_
 refine Rn X1 hx hby sg42_5_3 8 #[sr o0, .val (.int (own_n l_1)), si 34, un, un, un] [(.ref o0), (.int (own_n l_1))] rfl ?_
 refine Home.st (getF X1 hx hZ hown (host := "") (Or.inl (w70 hw)) Via.refl e1 F_coder_o0 rfl rfl (hb hby d42_8)) fun T3 X3 e3 => ?_
 refine Rn X3 hx hby sg42_11_1 12 #[sr o0, .val (.int (own_n l_1)), si 34, un, un, un] [(.int ((own_n l_1) <<< ((0 : Int32) &&& 31)))] rfl ?_
 rw [own_shl0]
 refine Rn X3 hx hby sg42_12_10 24 #[sr o0, .val (.int (own_n l_1)), si 34, .val (.int (own_n l_1)), .val (.int ((own_n l_1) - (34 : Int32))), un] [(.ref o0), (.int 2), (.int 34), (.int ((own_n l_1) - (34 : Int32))), (.int 34)] rfl ?_
 refine Home.st (getF X3 hx hZ hown (host := "") (Or.inl (w70 hw)) Via.refl e3 F_coder_o0 rfl rfl (hb hby d42_24)) fun T4 X4 e4 => ?_
 refine Rn X4 hx hby sg42_27_2 29 #[sr o0, .val (.int (own_n l_1)), si 34, .val (.int (own_n l_1)), .val (.int ((own_n l_1) - (34 : Int32))), un] [(.int 36), (.int ((own_n l_1) - (34 : Int32))), (.int 34)] rfl ?_
 refine Home.st (own_pure (own_static X4 hx hZ hown (w232 hw) (w233 hw) (w234 hw) (w235 hw) (by decide) (rm43_1 l Z a0 hw [] ((own_n l_1) - (34 : Int32)) h0 n0 O0 (bnd_sub (own_n_b (a := 0) (b := 38) (own_len_le sh_l_1) (lo := (0 : Int32)) (hi := (38 : Int32)) (by decide) (by decide) (by decide)) (bnd_lit (34 : Int32)) (lo := (-34 : Int32)) (hi := (4 : Int32)) (by decide +kernel) (by decide +kernel) (by decide +kernel) (by decide +kernel))) e4 rfl (by rw [hml]; rfl) (argsL := [(.int 34), (.int ((own_n l_1) - (34 : Int32))), (.int 36)]) (rest := []) (lenOf own_pd17 rfl) rfl rfl (W := 0) (hb hby d42_29))) fun T5 X5 e5 => ?_
 refine Rn X5 hx hby sg42_32_2 36 #[sr o0, .val (.int (own_n l_1)), si 34, .val (.int (own_n l_1)), .val (.int ((own_n l_1) - (34 : Int32))), si 70] [(.int 70)] rfl ?_
 refine Home.go (X5.ldcInt hx hown (mvT hZ (w240 hw)) rfl (hb hby d42_36)) ?_
 show Home T5 (mkF m 38 #[sr o0, .val (.int (own_n l_1)), si 34, .val (.int (own_n l_1)), .val (.int ((own_n l_1) - (34 : Int32))), si 70] [(.int 2147483647), (.int 70)])
 refine Home.go (fun _ => XS.icmpYes X5.here hx rfl (pc0 := 38) (pc' := 51) rfl (hb hby d42_38) rfl (feq (by decide)).2 (by decide) (by decide)) ?_
 refine Rn X5 hx hby sg42_51_2 54 #[sr o0, .val (.int (own_n l_1)), si 34, .val (.int (own_n l_1)), .val (.int ((own_n l_1) - (34 : Int32))), si 70] [(.ref o0), (.int 70)] rfl ?_
 refine Home.st (getF X5 hx hZ hown (host := "") (Or.inl (w70 hw)) Via.refl e5 F_coder_o0 rfl rfl (hb hby d42_54)) fun T6 X6 e6 => ?_
 refine Rn X6 hx hby sg42_57_1 58 #[sr o0, .val (.int (own_n l_1)), si 34, .val (.int (own_n l_1)), .val (.int ((own_n l_1) - (34 : Int32))), si 70] [(.int 70)] rfl ?_
 exact Home.retI X6 hx hlk hret (hb hby d42_58) ⟨rfl, rfl, e6⟩ (by decide) (by decide)
theorem rm31_1 (l : Launch) (Z : State) (a0 : Array Value) (hw : HW a0 Z) (ws : List Jvm.Cond)  (h0 : Heap) (n0 : Nat) (O0 : Old Z n0 h0) :
    Con l Z (⟨"java/lang/Math", "min", "(II)I"⟩ : MethodName) jdk_29_method_69_code 2 (some .int) ws ({ frames := 0, cells := 0, slots := 0, locals := 0 } : Room) #[(.int 34), (.int 70)] h0 (Pur (some (.int 34)) h0) := by
 refine own_body (Jvm.Free.JP.mathPlain rfl (by decide +kernel)) (fun m => ef_rm44_0 m (34 : Int32) (70 : Int32)) ?_
 intro p e s m below meth c s₁ hx hby hlk hml hret hZ hown hnm X0 e0
 refine Rn X0 hx hby sg31_0_2 2 #[si 34, si 70] [(.int 70), (.int 34)] rfl ?_
 refine Home.go (fun _ => XS.icmpNo X0.here hx rfl (hb hby d31_2) rfl (flt (by decide)).2.2.1) ?_
 refine Rn X0 hx hby sg31_5_2 10 #[si 34, si 70] [(.int 34)] rfl ?_
 exact Home.retI X0 hx hlk hret (hb hby d31_10) ⟨rfl, rfl, e0⟩ (by decide) (by decide)
theorem rm45_1 (l : Launch) (Z : State) (a0 : Array Value) (hw : HW a0 Z) (ws : List Jvm.Cond) (o0 : Addr) (k_o0 : ClassId) (l_1 : List Int32) (h0 : Heap) (n0 : Nat) (O0 : Old Z n0 h0) (V_o0 : Arv Z h0 o0 k_o0 .byte (34 : Int32) (List.map Value.int l_1) (.int 0)) (sh_l_1 : l_1.length ≤ 27) :
    Con l Z (⟨"java/util/Arrays", "copyOf", "([BI)[B"⟩ : MethodName) jdk_65_method_121_code 3 (some (.array .byte)) ws ({ frames := 1, cells := 1, slots := 70, locals := 18 } : Room) #[(.ref o0), (.int 70)] h0 (fun v h L => ∃ (b2 : Addr), ∃ (k2 : ClassId), v = some (.ref b2) ∧ Fr n0 L ∧ h0.size ≤ b2 ∧ Keep h0 h [] ∧ Exa Z h b2 "[B" ∧ Arv Z h b2 k2 .byte (70 : Int32) (List.map Value.int l_1) (.int 0)) := by
 refine own_body (plainFor_of_name own_pn10) (fun m => ef_rm45_0 m o0 (70 : Int32)) ?_
 intro p e s m below meth c s₁ hx hby hlk hml hret hZ hown hnm X0 e0
 have N0 := Fr.nil n0
 refine Rn X0 hx hby sg45_0_2 2 #[sr o0, si 70, un] [(.ref o0), (.int 70)] rfl ?_
 obtain ⟨cl1, Ar1, q1, S1, M1, H1, G1⟩ := id V_o0
 refine Home.go (own_alen X0 hx hZ e0 Ar1 S1 M1 rfl rfl (hb hby d45_2)) ?_
 refine Home.go (fun _ => XS.icmpYes X0.here hx rfl (pc0 := 3) (pc' := 14) rfl (hb hby d45_3) rfl (feq (by decide)).2 (by decide) (by decide)) ?_
 refine Rn X0 hx hby sg45_14_1 15 #[sr o0, si 70, un] [(.int 70)] rfl ?_
 refine Home.na (own_newPE (aty := .byte) X0 hx hZ (w3 hw) e0 (g := (mkF m 15 #[.val (.ref o0), .val (.int 70), .unset] [(.int 70)])) rfl (hb hby d45_15) rfl (by decide) (cap := 70) (by decide) (by decide) (by decide) (by decide)) fun T2 h2 k2 b2 g2 X2 e2 E2 AE2 => ?_
 have A2 := AE2.1
 have Ex2 := AE2.2
 have g_b2 : n0 ≤ b2 := Nat.le_trans (Old.le O0) (Nat.le_of_eq g2.symm)
 have V2 : Arv Z h2 b2 k2 .byte (70 : Int32) (List.map Value.int []) (.int 0) := Arv.new A2 (by decide)
 have O2 := O0.ext E2
 have K2 : Keep h0 h2 ([] : List Addr) := Keep.ext (Keep.refl h0 ([] : List Addr)) E2
 refine Rn X2 hx hby sg45_17_6 23 #[sr o0, si 70, sr b2] [(.ref o0), (.int 0), (.ref b2), (.int 0), (.ref o0)] rfl ?_
 obtain ⟨cl3, Ar3, q3, S3, M3, H3, G3⟩ := id (V_o0.keep K2 nin0)
 refine Home.go (own_alen X2 hx hZ e2 Ar3 S3 M3 rfl rfl (hb hby d45_23)) ?_
 show Home T2 (mkF m 24 #[sr o0, si 70, sr b2] [(.int 34), (.int 0), (.ref b2), (.int 0), (.ref o0)])
 refine Rn X2 hx hby sg45_24_1 25 #[sr o0, si 70, sr b2] [(.int 70), (.int 34), (.int 0), (.ref b2), (.int 0), (.ref o0)] rfl ?_
 refine Home.st (own_pure (own_static X2 hx hZ hown (w182 hw) (w183 hw) (w184 hw) (w185 hw) (by decide) (rm31_1 l Z a0 hw []  h2 n0 O2) e2 rfl (by rw [hml]; rfl) (argsL := [(.int 34), (.int 70)]) (rest := [(.int 0), (.ref b2), (.int 0), (.ref o0)]) (lenOf own_pd16 rfl) rfl rfl (W := 4) (hb hby d45_25))) fun T4 X4 e4 => ?_
 refine Home.cp (own_cpP X4 hx hZ hown (w186 hw) (w144 hw) (w142 hw) (w143 hw) e4 (V_o0.keep K2 nin0) V2 (X := l_1) (K := 34) rfl (by decide) (Nat.le_trans (own_len_le sh_l_1).2 (by decide)) (by decide) N0 g_b2 (g := (mkF m 28 #[.val (.ref o0), .val (.int 70), .val (.ref b2)] [(.int 34), (.int 0), (.ref b2), (.int 0), (.ref o0)])) rfl (by rw [hml]; rfl) rfl (hb hby d45_28) (by decide) (W := 0) (by exact hW0) (by decide)) fun T5 h5 L5 X5 e5 N5 K5q Vq5 => ?_
 have V5 : Arv Z h5 b2 k2 .byte (70 : Int32) (List.map Value.int l_1) (.int 0) := Vq5
 have K5 : Keep h0 h5 ([] : List Addr) := Keep.trans K2 K5q (allS (Or.inr (Nat.le_trans (Nat.le_refl _) (Nat.le_of_eq g2.symm))) all0)
 refine Rn X5 hx hby sg45_31_1 32 #[sr o0, si 70, sr b2] [(.ref b2)] rfl ?_
 have q6 := (Ex2.keep K5q)
 exact Home.retR X5 hx hlk hret rfl rfl (hb hby d45_32) (by rw [show T5.heap = h5 from e5]; exact ⟨b2, k2, rfl, N5, (Nat.le_trans (Nat.le_refl _) (Nat.le_of_eq g2.symm)), K5, q6, V5⟩) (by decide) (by decide)
theorem rm12_4 (l : Launch) (Z : State) (a0 : Array Value) (hw : HW a0 Z) (ws : List Jvm.Cond) (o0 : Addr) (l_1 : List Int32) (p2 : Addr) (k_p2 : ClassId) (l_2 : List Int32) (h0 : Heap) (n0 : Nat) (O0 : Old Z n0 h0) (pt0 : (0 : Int32) < ((own_n l_1) - (34 : Int32))) (F_value_o0 : Fld Z h0 o0 "java/lang/AbstractStringBuilder" "value" "[B" (.ref p2)) (V_p2 : Arv Z h0 p2 k_p2 .byte (34 : Int32) (List.map Value.int l_2) (.int 0)) (F_coder_o0 : Fld Z h0 o0 "java/lang/AbstractStringBuilder" "coder" "B" (.int 0)) (E_o0 : Exa Z h0 o0 "java/lang/StringBuilder") (sh_l_1 : l_1.length ≤ 38) (sh_l_2 : l_2.length ≤ 27) (g_o0 : n0 ≤ o0) (F_count_o0 : Fld Z h0 o0 "java/lang/AbstractStringBuilder" "count" "I" (.int (own_n l_2))) :
    Con l Z (⟨"java/lang/AbstractStringBuilder", "ensureCapacityInternal", "(I)V"⟩ : MethodName) jdk_68_method_9_code 3 none ws ({ frames := 3, cells := 1, slots := 70, locals := 48 } : Room) #[(.ref o0), (.int (own_n l_1))] h0 (fun v h L => ∃ (b2_7 : Addr), ∃ (k2_7 : ClassId), v = none ∧ Fr n0 L ∧ h0.size ≤ b2_7 ∧ Keep h0 h [o0] ∧ Fld Z h o0 "java/lang/AbstractStringBuilder" "value" "[B" (.ref b2_7) ∧ Fld Z h o0 "java/lang/AbstractStringBuilder" "coder" "B" (.int 0) ∧ Exa Z h o0 "java/lang/StringBuilder" ∧ Fld Z h o0 "java/lang/AbstractStringBuilder" "count" "I" (.int (own_n l_2)) ∧ Exa Z h b2_7 "[B" ∧ Arv Z h b2_7 k2_7 .byte (70 : Int32) (List.map Value.int l_2) (.int 0)) := by
 refine own_body (plainFor_of_name own_pn6) (fun m => ef_rm45_0 m o0 (own_n l_1)) ?_
 intro p e s m below meth c s₁ hx hby hlk hml hret hZ hown hnm X0 e0
 have N0 := Fr.nil n0
 refine Rn X0 hx hby sg12_0_1 1 #[sr o0, .val (.int (own_n l_1)), un] [(.ref o0)] rfl ?_
 refine Home.st (getF X0 hx hZ hown (host := "") (Or.inl (w68 hw)) Via.refl e0 F_value_o0 rfl rfl (hb hby d12_1)) fun T1 X1 e1 => ?_
 obtain ⟨cl2, Ar2, q2, S2, M2, H2, G2⟩ := id V_p2
 refine Home.go (own_alen X1 hx hZ e1 Ar2 S2 M2 rfl rfl (hb hby d12_4)) ?_
 refine Rn X1 hx hby sg12_5_1 6 #[sr o0, .val (.int (own_n l_1)), un] [(.ref o0), (.int 34)] rfl ?_
 refine Home.st (getF X1 hx hZ hown (host := "") (Or.inl (w70 hw)) Via.refl e1 F_coder_o0 rfl rfl (hb hby d12_6)) fun T3 X3 e3 => ?_
 refine Rn X3 hx hby sg12_9_5 14 #[sr o0, .val (.int (own_n l_1)), si 34] [(.int ((own_n l_1) - (34 : Int32)))] rfl ?_
 refine Home.go (fun _ => XS.ifNo X3.here hx rfl (hb hby d12_14) rfl ((if0 _ _).trans (tlt pt0).2.2.2)) ?_
 refine Rn X3 hx hby sg12_17_2 19 #[sr o0, .val (.int (own_n l_1)), si 34] [(.ref o0), (.ref o0)] rfl ?_
 refine Home.st (getF X3 hx hZ hown (host := "") (Or.inl (w68 hw)) Via.refl e3 F_value_o0 rfl rfl (hb hby d12_19)) fun T4 X4 e4 => ?_
 refine Rn X4 hx hby sg12_22_2 24 #[sr o0, .val (.int (own_n l_1)), si 34] [(.int (own_n l_1)), (.ref o0), (.ref p2), (.ref o0)] rfl ?_
 refine Home.st (own_pure (own_private X4 hx hZ hown (w227 hw) (w228 hw) (own_selp (w230 hw) (w229 hw) (w228 hw) (by decide)) (Cond.privateMethod_at (mvP hZ (w229 hw) (args := #[]))) (w64 hw) (w231 hw) (by decide) (rm42_1 l Z a0 hw [] o0 l_1 p2 k_p2 l_2 h0 n0 O0 F_value_o0 V_p2 F_coder_o0 (Nat.le_trans (own_len_le sh_l_1).2 (by decide))) e4 E_o0 rfl (by rw [hml]; rfl) (argsL := [(.int (own_n l_1))]) (rest := [(.ref p2), (.ref o0)]) (lenOf own_pd15 rfl) rfl rfl (W := 2) (hb hby d12_24))) fun T5 X5 e5 => ?_
 refine Rn X5 hx hby sg12_27_1 28 #[sr o0, .val (.int (own_n l_1)), si 34] [(.ref o0), (.int 70), (.ref p2), (.ref o0)] rfl ?_
 refine Home.st (getF X5 hx hZ hown (host := "") (Or.inl (w70 hw)) Via.refl e5 F_coder_o0 rfl rfl (hb hby d12_28)) fun T6 X6 e6 => ?_
 show Home T6 (mkF m 31 #[sr o0, .val (.int (own_n l_1)), si 34] [(.int 0), (.int 70), (.ref p2), (.ref o0)])
 refine Rn X6 hx hby sg12_31_1 32 #[sr o0, .val (.int (own_n l_1)), si 34] [(.int 70), (.ref p2), (.ref o0)] rfl ?_
 refine Home.call (own_static X6 hx hZ hown (w241 hw) (w242 hw) (w174 hw) (w243 hw) (by decide) (rm45_1 l Z a0 hw [] p2 k_p2 l_2 h0 n0 O0 V_p2 (Nat.le_trans (own_len_le sh_l_2).2 (by decide))) e6 rfl (by rw [hml]; rfl) (argsL := [(.ref p2), (.int 70)]) (rest := [(.ref o0)]) (lenOf own_pd18 rfl) rfl rfl (W := 1) (hb hby d12_32)) ?_
 rintro _ T7 L7 X7 ⟨b2_7, k2_7, rfl, N7q, sz_b2_7, K7q, P7_0, P7_1⟩
 have g_b2_7 : n0 ≤ b2_7 := Nat.le_trans (Old.le O0) sz_b2_7
 have K7 : Keep h0 T7.heap ([o0] : List Addr) := Keep.trans (Keep.refl h0 ([o0] : List Addr)) K7q all0
 have N7 := Fr.app N0 N7q
 have q8 := (F_value_o0.keep K7q nin0)
 refine Home.wr (putF X7 hx hZ hown (host := "") (Or.inl (w68 hw)) Via.refl rfl q8 (E_o0.keep K7) (Or.inl (w69 hw)) (w55 hw) (ty := (.array .byte)) (by decide) rfl rfl rfl rfl (hb hby d12_35)) fun T9 h9 X9 e9 W9 => ?_
 have Fw9 := q8.same W9
 have K9 : Keep h0 h9 ([o0] : List Addr) := Keep.wr K7 W9 (Or.inl (List.mem_of_getElem? (i := 0) rfl))
 have N9 := Fr.snoc X9 N7 g_o0
 have q10 := ((F_coder_o0.keep K7q nin0).other W9 (Or.inr (slot_ne (Or.inl (w71 hw)) (Or.inl (w69 hw)) (by decide) (t := .byte) (t' := (.array .byte)) (by decide) (by decide))))
 have q11 := ((F_count_o0.keep K7q nin0).other W9 (Or.inr (slot_ne (Or.inl (w83 hw)) (Or.inl (w69 hw)) (by decide) (t := .int) (t' := (.array .byte)) (by decide) (by decide))))
 have q12 := (P7_0.wr W9)
 have ne13 : b2_7 ≠ o0 := (Ne.symm (Nat.ne_of_lt (Nat.lt_of_lt_of_le F_value_o0.lt (Nat.le_trans (Nat.le_refl _) sz_b2_7))))
 have q14 := (P7_1.other W9 ne13)
 exact Home.ret0 X9 hx hlk hret (hb hby d12_38) (by rw [show T9.heap = h9 from e9]; exact ⟨b2_7, k2_7, rfl, N9, (Nat.le_trans (Nat.le_refl _) sz_b2_7), K9, Fw9, q10, (E_o0.keep K9), q11, q12, q14⟩) (by decide) (by decide)
theorem rm10_3 (l : Launch) (Z : State) (a0 : Array Value) (hw : HW a0 Z) (ws : List Jvm.Cond) (o0 : Addr) (i1 : Int32) (l_1 : List Int32) (p2 : Addr) (k_p2 : ClassId) (sv_COMPACT_STRINGS : Int32) (sv_DigitOnes : Addr) (k_ones : ClassId) (sv_DigitTens : Addr) (k_tens : ClassId) (h0 : Heap) (n0 : Nat) (O0 : Old Z n0 h0) (pt0 : (0 : Int32) < ((own_n (l_1 ++ (own_put i1))) - (34 : Int32))) (F_count_o0 : Fld Z h0 o0 "java/lang/AbstractStringBuilder" "count" "I" (.int (own_n l_1))) (E_o0 : Exa Z h0 o0 "java/lang/StringBuilder") (F_value_o0 : Fld Z h0 o0 "java/lang/AbstractStringBuilder" "value" "[B" (.ref p2)) (V_p2 : Arv Z h0 p2 k_p2 .byte (34 : Int32) (List.map Value.int l_1) (.int 0)) (F_coder_o0 : Fld Z h0 o0 "java/lang/AbstractStringBuilder" "coder" "B" (.int 0)) (g_o0 : n0 ≤ o0) (sh_l_1 : l_1.length ≤ 27) (S_COMPACT_STRINGS : Sta Z Z.heap "java/lang/String" "COMPACT_STRINGS" "Z" (.int sv_COMPACT_STRINGS)) (hCS : ¬ (sv_COMPACT_STRINGS = (0 : Int32))) (S_DigitOnes : Sta Z Z.heap "java/lang/Integer" "DigitOnes" "[B" (.ref sv_DigitOnes)) (V_ones : Arv Z Z.heap sv_DigitOnes k_ones .byte (100 : Int32) (List.map Value.int own_ones) (.int 0)) (S_DigitTens : Sta Z Z.heap "java/lang/Integer" "DigitTens" "[B" (.ref sv_DigitTens)) (V_tens : Arv Z Z.heap sv_DigitTens k_tens .byte (100 : Int32) (List.map Value.int own_tens) (.int 0)) :
    Con l Z (⟨"java/lang/AbstractStringBuilder", "append", "(I)Ljava/lang/AbstractStringBuilder;"⟩ : MethodName) jdk_68_method_32_code 4 (some (.object "java/lang/AbstractStringBuilder")) ws ({ frames := 4, cells := 1, slots := 70, locals := 62 } : Room) #[(.ref o0), (.int i1)] h0 (fun v h L => ∃ (b2_7_3 : Addr), ∃ (k2_7_3 : ClassId), v = some (.ref o0) ∧ Fr n0 L ∧ h0.size ≤ b2_7_3 ∧ Keep h0 h [o0] ∧ Fld Z h o0 "java/lang/AbstractStringBuilder" "count" "I" (.int (own_n (l_1 ++ (own_put i1)))) ∧ Exa Z h o0 "java/lang/StringBuilder" ∧ Fld Z h o0 "java/lang/AbstractStringBuilder" "value" "[B" (.ref b2_7_3) ∧ Fld Z h o0 "java/lang/AbstractStringBuilder" "coder" "B" (.int 0) ∧ Exa Z h b2_7_3 "[B" ∧ Arv Z h b2_7_3 k2_7_3 .byte (70 : Int32) (List.map Value.int (l_1 ++ (own_put i1))) (.int 0)) := by
 refine own_body (plainFor_of_name own_pn6) (fun m => ef_rm10_0 m o0 i1) ?_
 intro p e s m below meth c s₁ hx hby hlk hml hret hZ hown hnm X0 e0
 have N0 := Fr.nil n0
 refine Rn X0 hx hby sg10_0_1 1 #[sr o0, si i1, un, un] [(.ref o0)] rfl ?_
 refine Home.st (getF X0 hx hZ hown (host := "") (Or.inl (w82 hw)) Via.refl e0 F_count_o0 rfl rfl (hb hby d10_1)) fun T1 X1 e1 => ?_
 refine Rn X1 hx hby sg10_4_3 7 #[sr o0, si i1, .val (.int (own_n l_1)), un] [(.int i1), (.int (own_n l_1))] rfl ?_
 refine Home.st (own_pure (own_static X1 hx hZ hown (w84 hw) (w85 hw) (w86 hw) (w87 hw) (by decide) (rm11s l Z a0 hw [] i1 h0 n0 O0) e1 rfl (by rw [hml]; rfl) (argsL := [(.int i1)]) (rest := [(.int (own_n l_1))]) (lenOf own_pd15 rfl) rfl rfl (W := 1) (hb hby d10_7))) fun T2 X2 e2 => ?_
 refine Rn X2 hx hby sg10_10_1 11 #[sr o0, si i1, .val (.int (own_n l_1)), un] [(.int ((own_n l_1) + (own_n (own_put i1))))] rfl ?_
 rw [own_n_app]
 refine Rn X2 hx hby sg10_11_3 14 #[sr o0, si i1, .val (.int (own_n l_1)), .val (.int (own_n (l_1 ++ (own_put i1))))] [(.int (own_n (l_1 ++ (own_put i1)))), (.ref o0)] rfl ?_
 refine Home.call (own_private X2 hx hZ hown (w88 hw) (w89 hw) (own_selp (w91 hw) (w90 hw) (w89 hw) (by decide)) (Cond.privateMethod_at (mvP hZ (w90 hw) (args := #[]))) (w64 hw) (w92 hw) (by decide) (rm12_4 l Z a0 hw [] o0 (l_1 ++ (own_put i1)) p2 k_p2 l_1 h0 n0 O0 pt0 F_value_o0 V_p2 F_coder_o0 E_o0 (Nat.le_trans (own_len_app (own_len_le sh_l_1) (own_put_len i1)).2 (by decide)) (Nat.le_trans (own_len_le sh_l_1).2 (by decide)) g_o0 F_count_o0) e2 E_o0 rfl (by rw [hml]; rfl) (argsL := [(.int (own_n (l_1 ++ (own_put i1))))]) (rest := []) (lenOf own_pd13 rfl) rfl rfl (W := 0) (hb hby d10_14)) ?_
 rintro _ T3 L3 X3 ⟨b2_7_3, k2_7_3, rfl, N3q, sz_b2_7_3, K3q, P3_0, P3_1, P3_2, P3_3, P3_4, P3_5⟩
 have g_b2_7_3 : n0 ≤ b2_7_3 := Nat.le_trans (Old.le O0) sz_b2_7_3
 have O3 := Old.keep O0 K3q (allS g_o0 all0)
 have K3 : Keep h0 T3.heap ([o0] : List Addr) := Keep.trans (Keep.refl h0 ([o0] : List Addr)) K3q (allS (Or.inl (List.mem_of_getElem? (i := 0) rfl)) all0)
 have N3 := Fr.app N0 N3q
 refine Rn X3 hx hby sg10_17_1 18 #[sr o0, si i1, .val (.int (own_n l_1)), .val (.int (own_n (l_1 ++ (own_put i1))))] [(.ref o0)] rfl ?_
 refine Home.st (own_pure (own_virtual X3 hx hZ hown (w93 hw) (w94 hw) (notFace_of_selects (args := #[]) (mvT hZ (w96 hw))) (w96 hw) (w95 hw) (w64 hw) (w97 hw) (by decide) (rm13_0 l Z a0 hw [] o0 sv_COMPACT_STRINGS T3.heap n0 O3 S_COMPACT_STRINGS hCS P3_1) rfl P3_2 rfl (by rw [hml]; rfl) (argsL := []) (rest := []) (lenOf own_pd19 rfl) rfl rfl (W := 0) (hb hby d10_18))) fun T4 X4 e4 => ?_
 show Home T4 (mkF m 21 #[sr o0, si i1, .val (.int (own_n l_1)), .val (.int (own_n (l_1 ++ (own_put i1))))] [(.int 1)])
 refine Home.go (fun _ => XS.ifNo X4.here hx rfl (hb hby d10_21) rfl ((if0 _ _).trans (feq (by decide)).1)) ?_
 refine Rn X4 hx hby sg10_24_3 27 #[sr o0, si i1, .val (.int (own_n l_1)), .val (.int (own_n (l_1 ++ (own_put i1))))] [(.ref o0), (.int (own_n (l_1 ++ (own_put i1)))), (.int i1)] rfl ?_
 refine Home.st (getF X4 hx hZ hown (host := "") (Or.inl (w68 hw)) Via.refl e4 P3_0 rfl rfl (hb hby d10_27)) fun T5 X5 e5 => ?_
 refine Home.call (own_static X5 hx hZ hown (w98 hw) (w99 hw) (w86 hw) (w100 hw) (by decide) (rm14_0 l Z a0 hw [] i1 (own_n (l_1 ++ (own_put i1))) b2_7_3 (70 : Int32) l_1 k2_7_3 sv_DigitOnes k_ones sv_DigitTens k_tens T3.heap n0 O3 rfl ⟨Nat.le_trans (own_len_app (own_len_le sh_l_1) (own_put_len i1)).2 (by decide), by decide⟩ P3_5 (Nat.le_trans (own_len_le sh_l_1).2 (by decide)) g_b2_7_3 S_DigitOnes V_ones S_DigitTens V_tens P3_4) e5 rfl (by rw [hml]; rfl) (argsL := [(.int i1), (.int (own_n (l_1 ++ (own_put i1)))), (.ref b2_7_3)]) (rest := []) (lenOf own_pd20 rfl) rfl rfl (W := 0) (hb hby d10_30)) ?_
 rintro _ T6 L6 X6 ⟨rfl, N6q, K6q, P6_0, P6_1⟩
 have K6 : Keep h0 T6.heap ([o0] : List Addr) := Keep.trans K3 K6q (allS (Or.inr (Nat.le_trans (Nat.le_refl _) sz_b2_7_3)) all0)
 have N6 := Fr.app N3 N6q
 refine Rn X6 hx hby sg10_33_4 50 #[sr o0, si i1, .val (.int (own_n l_1)), .val (.int (own_n (l_1 ++ (own_put i1))))] [(.int (own_n (l_1 ++ (own_put i1)))), (.ref o0)] rfl ?_
 have ne7 : o0 ≠ b2_7_3 := (Nat.ne_of_lt (Nat.lt_of_lt_of_le F_count_o0.lt (Nat.le_trans (Nat.le_refl _) sz_b2_7_3)))
 have q8 := (P3_3.keep K6q (ninS ne7 nin0))
 refine Home.wr (putF X6 hx hZ hown (host := "") (Or.inl (w82 hw)) Via.refl rfl q8 (E_o0.keep K6) (Or.inl (w83 hw)) (w55 hw) (ty := .int) (by decide) rfl rfl rfl rfl (hb hby d10_50)) fun T9 h9 X9 e9 W9 => ?_
 have Fw9 := q8.same W9
 have K9 : Keep h0 h9 ([o0] : List Addr) := Keep.wr K6 W9 (Or.inl (List.mem_of_getElem? (i := 0) rfl))
 have N9 := Fr.snoc X9 N6 g_o0
 show Home T9 (mkF m 53 #[sr o0, si i1, .val (.int (own_n l_1)), .val (.int (own_n (l_1 ++ (own_put i1))))] [])
 refine Rn X9 hx hby sg10_53_1 54 #[sr o0, si i1, .val (.int (own_n l_1)), .val (.int (own_n (l_1 ++ (own_put i1))))] [(.ref o0)] rfl ?_
 have q10 := ((P3_0.keep K6q (ninS ne7 nin0)).other W9 (Or.inr (slot_ne (Or.inl (w69 hw)) (Or.inl (w83 hw)) (by decide) (t := (.array .byte)) (t' := .int) (by decide) (by decide))))
 have q11 := ((P3_1.keep K6q (ninS ne7 nin0)).other W9 (Or.inr (slot_ne (Or.inl (w71 hw)) (Or.inl (w83 hw)) (by decide) (t := .byte) (t' := .int) (by decide) (by decide))))
 have q12 := (P6_1.wr W9)
 have ne13 : b2_7_3 ≠ o0 := (Ne.symm ne7)
 have q14 := (P6_0.other W9 ne13)
 exact Home.retR X9 hx hlk hret rfl rfl (hb hby d10_54) (by rw [show T9.heap = h9 from e9]; exact ⟨b2_7_3, k2_7_3, rfl, N9, (Nat.le_trans (Nat.le_refl _) sz_b2_7_3), K9, Fw9, (E_o0.keep K9), q10, q11, q12, q14⟩) (by decide) (by decide)
theorem rm10_4 (l : Launch) (Z : State) (a0 : Array Value) (hw : HW a0 Z) (ws : List Jvm.Cond) (o0 : Addr) (i1 : Int32) (l_1 : List Int32) (p2 : Addr) (k_p2 : ClassId) (sv_COMPACT_STRINGS : Int32) (sv_DigitOnes : Addr) (k_ones : ClassId) (sv_DigitTens : Addr) (k_tens : ClassId) (h0 : Heap) (n0 : Nat) (O0 : Old Z n0 h0) (pt0 : ¬ ((0 : Int32) < ((own_n (l_1 ++ (own_put i1))) - (34 : Int32)))) (sh_l_1 : l_1.length ≤ 27) (F_count_o0 : Fld Z h0 o0 "java/lang/AbstractStringBuilder" "count" "I" (.int (own_n l_1))) (E_o0 : Exa Z h0 o0 "java/lang/StringBuilder") (F_value_o0 : Fld Z h0 o0 "java/lang/AbstractStringBuilder" "value" "[B" (.ref p2)) (V_p2 : Arv Z h0 p2 k_p2 .byte (34 : Int32) (List.map Value.int l_1) (.int 0)) (F_coder_o0 : Fld Z h0 o0 "java/lang/AbstractStringBuilder" "coder" "B" (.int 0)) (S_COMPACT_STRINGS : Sta Z Z.heap "java/lang/String" "COMPACT_STRINGS" "Z" (.int sv_COMPACT_STRINGS)) (hCS : ¬ (sv_COMPACT_STRINGS = (0 : Int32))) (S_DigitOnes : Sta Z Z.heap "java/lang/Integer" "DigitOnes" "[B" (.ref sv_DigitOnes)) (V_ones : Arv Z Z.heap sv_DigitOnes k_ones .byte (100 : Int32) (List.map Value.int own_ones) (.int 0)) (S_DigitTens : Sta Z Z.heap "java/lang/Integer" "DigitTens" "[B" (.ref sv_DigitTens)) (V_tens : Arv Z Z.heap sv_DigitTens k_tens .byte (100 : Int32) (List.map Value.int own_tens) (.int 0)) (E_p2 : Exa Z h0 p2 "[B") (g_p2 : n0 ≤ p2) (g_o0 : n0 ≤ o0) :
    Con l Z (⟨"java/lang/AbstractStringBuilder", "append", "(I)Ljava/lang/AbstractStringBuilder;"⟩ : MethodName) jdk_68_method_32_code 4 (some (.object "java/lang/AbstractStringBuilder")) ws ({ frames := 1, cells := 0, slots := 0, locals := 18 } : Room) #[(.ref o0), (.int i1)] h0 (fun v h L => v = some (.ref o0) ∧ Fr n0 L ∧ Keep h0 h [p2, o0] ∧ Arv Z h p2 k_p2 .byte (34 : Int32) (List.map Value.int (l_1 ++ (own_put i1))) (.int 0) ∧ Exa Z h p2 "[B" ∧ Fld Z h o0 "java/lang/AbstractStringBuilder" "count" "I" (.int (own_n (l_1 ++ (own_put i1)))) ∧ Exa Z h o0 "java/lang/StringBuilder" ∧ Fld Z h o0 "java/lang/AbstractStringBuilder" "value" "[B" (.ref p2) ∧ Fld Z h o0 "java/lang/AbstractStringBuilder" "coder" "B" (.int 0)) := by
 refine own_body (plainFor_of_name own_pn6) (fun m => ef_rm10_0 m o0 i1) ?_
 intro p e s m below meth c s₁ hx hby hlk hml hret hZ hown hnm X0 e0
 have N0 := Fr.nil n0
 have lf901 : 1 ≤ (l_1 ++ (own_put i1)).length ∧ (l_1 ++ (own_put i1)).length ≤ 34 := own_fit (K := 34) pt0 (own_len_app (own_len_le sh_l_1) (own_put_len i1)) (by decide) (by decide)
 refine Rn X0 hx hby sg10_0_1 1 #[sr o0, si i1, un, un] [(.ref o0)] rfl ?_
 refine Home.st (getF X0 hx hZ hown (host := "") (Or.inl (w82 hw)) Via.refl e0 F_count_o0 rfl rfl (hb hby d10_1)) fun T1 X1 e1 => ?_
 refine Rn X1 hx hby sg10_4_3 7 #[sr o0, si i1, .val (.int (own_n l_1)), un] [(.int i1), (.int (own_n l_1))] rfl ?_
 refine Home.st (own_pure (own_static X1 hx hZ hown (w84 hw) (w85 hw) (w86 hw) (w87 hw) (by decide) (rm11s l Z a0 hw [] i1 h0 n0 O0) e1 rfl (by rw [hml]; rfl) (argsL := [(.int i1)]) (rest := [(.int (own_n l_1))]) (lenOf own_pd15 rfl) rfl rfl (W := 1) (hb hby d10_7))) fun T2 X2 e2 => ?_
 refine Rn X2 hx hby sg10_10_1 11 #[sr o0, si i1, .val (.int (own_n l_1)), un] [(.int ((own_n l_1) + (own_n (own_put i1))))] rfl ?_
 rw [own_n_app]
 refine Rn X2 hx hby sg10_11_3 14 #[sr o0, si i1, .val (.int (own_n l_1)), .val (.int (own_n (l_1 ++ (own_put i1))))] [(.int (own_n (l_1 ++ (own_put i1)))), (.ref o0)] rfl ?_
 refine Home.st (own_pure (own_private X2 hx hZ hown (w88 hw) (w89 hw) (own_selp (w91 hw) (w90 hw) (w89 hw) (by decide)) (Cond.privateMethod_at (mvP hZ (w90 hw) (args := #[]))) (w64 hw) (w92 hw) (by decide) (rm12_3 l Z a0 hw [] o0 (l_1 ++ (own_put i1)) p2 k_p2 l_1 h0 n0 O0 F_value_o0 V_p2 F_coder_o0 (Nat.le_trans lf901.2 (by decide))) e2 E_o0 rfl (by rw [hml]; rfl) (argsL := [(.int (own_n (l_1 ++ (own_put i1))))]) (rest := []) (lenOf own_pd13 rfl) rfl rfl (W := 0) (hb hby d10_14))) fun T3 X3 e3 => ?_
 refine Rn X3 hx hby sg10_17_1 18 #[sr o0, si i1, .val (.int (own_n l_1)), .val (.int (own_n (l_1 ++ (own_put i1))))] [(.ref o0)] rfl ?_
 refine Home.st (own_pure (own_virtual X3 hx hZ hown (w93 hw) (w94 hw) (notFace_of_selects (args := #[]) (mvT hZ (w96 hw))) (w96 hw) (w95 hw) (w64 hw) (w97 hw) (by decide) (rm13_0 l Z a0 hw [] o0 sv_COMPACT_STRINGS h0 n0 O0 S_COMPACT_STRINGS hCS F_coder_o0) e3 E_o0 rfl (by rw [hml]; rfl) (argsL := []) (rest := []) (lenOf own_pd19 rfl) rfl rfl (W := 0) (hb hby d10_18))) fun T4 X4 e4 => ?_
 refine Home.go (fun _ => XS.ifNo X4.here hx rfl (hb hby d10_21) rfl ((if0 _ _).trans (feq (by decide)).1)) ?_
 refine Rn X4 hx hby sg10_24_3 27 #[sr o0, si i1, .val (.int (own_n l_1)), .val (.int (own_n (l_1 ++ (own_put i1))))] [(.ref o0), (.int (own_n (l_1 ++ (own_put i1)))), (.int i1)] rfl ?_
 refine Home.st (getF X4 hx hZ hown (host := "") (Or.inl (w68 hw)) Via.refl e4 F_value_o0 rfl rfl (hb hby d10_27)) fun T5 X5 e5 => ?_
 refine Home.call (own_static X5 hx hZ hown (w98 hw) (w99 hw) (w86 hw) (w100 hw) (by decide) (rm14_0 l Z a0 hw [] i1 (own_n (l_1 ++ (own_put i1))) p2 (34 : Int32) l_1 k_p2 sv_DigitOnes k_ones sv_DigitTens k_tens h0 n0 O0 rfl ⟨Nat.le_trans lf901.2 (by decide), by decide⟩ V_p2 (Nat.le_trans (own_len_le sh_l_1).2 (by decide)) g_p2 S_DigitOnes V_ones S_DigitTens V_tens E_p2) e5 rfl (by rw [hml]; rfl) (argsL := [(.int i1), (.int (own_n (l_1 ++ (own_put i1)))), (.ref p2)]) (rest := []) (lenOf own_pd20 rfl) rfl rfl (W := 0) (hb hby d10_30)) ?_
 rintro _ T6 L6 X6 ⟨rfl, N6q, K6q, P6_0, P6_1⟩
 have K6 : Keep h0 T6.heap ([p2, o0] : List Addr) := Keep.trans (Keep.refl h0 ([p2, o0] : List Addr)) K6q (allS (Or.inl (List.mem_of_getElem? (i := 0) rfl)) all0)
 have N6 := Fr.app N0 N6q
 show Home T6 (mkF m 33 #[sr o0, si i1, .val (.int (own_n l_1)), .val (.int (own_n (l_1 ++ (own_put i1))))] [(.int (own_n l_1))])
 refine Rn X6 hx hby sg10_33_4 50 #[sr o0, si i1, .val (.int (own_n l_1)), .val (.int (own_n (l_1 ++ (own_put i1))))] [(.int (own_n (l_1 ++ (own_put i1)))), (.ref o0)] rfl ?_
 have ne7 : o0 ≠ p2 := (own_neAV (E_o0.keep K6q) (w55 hw) P6_0)
 have q8 := (F_count_o0.keep K6q (ninS ne7 nin0))
 refine Home.wr (putF X6 hx hZ hown (host := "") (Or.inl (w82 hw)) Via.refl rfl q8 (E_o0.keep K6) (Or.inl (w83 hw)) (w55 hw) (ty := .int) (by decide) rfl rfl rfl rfl (hb hby d10_50)) fun T9 h9 X9 e9 W9 => ?_
 have Fw9 := q8.same W9
 have K9 : Keep h0 h9 ([p2, o0] : List Addr) := Keep.wr K6 W9 (Or.inl (List.mem_of_getElem? (i := 1) rfl))
 have N9 := Fr.snoc X9 N6 g_o0
 refine Rn X9 hx hby sg10_53_1 54 #[sr o0, si i1, .val (.int (own_n l_1)), .val (.int (own_n (l_1 ++ (own_put i1))))] [(.ref o0)] rfl ?_
 have ne10 : p2 ≠ o0 := (Ne.symm ne7)
 have q11 := (P6_0.other W9 ne10)
 have q12 := ((F_value_o0.keep K6q (ninS ne7 nin0)).other W9 (Or.inr (slot_ne (Or.inl (w69 hw)) (Or.inl (w83 hw)) (by decide) (t := (.array .byte)) (t' := .int) (by decide) (by decide))))
 have q13 := ((F_coder_o0.keep K6q (ninS ne7 nin0)).other W9 (Or.inr (slot_ne (Or.inl (w71 hw)) (Or.inl (w83 hw)) (by decide) (t := .byte) (t' := .int) (by decide) (by decide))))
 exact Home.retR X9 hx hlk hret rfl rfl (hb hby d10_54) (by rw [show T9.heap = h9 from e9]; exact ⟨rfl, N9, K9, q11, (E_p2.keep K9), Fw9, (E_o0.keep K9), q12, q13⟩) (by decide) (by decide)
theorem rm9_2 (l : Launch) (Z : State) (a0 : Array Value) (hw : HW a0 Z) (ws : List Jvm.Cond) (o0 : Addr) (i1 : Int32) (p2 : Addr) (k_p2 : ClassId) (l_1 : List Int32) (sv_COMPACT_STRINGS : Int32) (sv_DigitOnes : Addr) (k_ones : ClassId) (sv_DigitTens : Addr) (k_tens : ClassId) (h0 : Heap) (n0 : Nat) (O0 : Old Z n0 h0) (pt0 : (0 : Int32) < ((own_n (l_1 ++ (own_put i1))) - (34 : Int32))) (E_o0 : Exa Z h0 o0 "java/lang/StringBuilder") (F_value_o0 : Fld Z h0 o0 "java/lang/AbstractStringBuilder" "value" "[B" (.ref p2)) (V_p2 : Arv Z h0 p2 k_p2 .byte (34 : Int32) (List.map Value.int l_1) (.int 0)) (F_coder_o0 : Fld Z h0 o0 "java/lang/AbstractStringBuilder" "coder" "B" (.int 0)) (S_COMPACT_STRINGS : Sta Z Z.heap "java/lang/String" "COMPACT_STRINGS" "Z" (.int sv_COMPACT_STRINGS)) (S_DigitOnes : Sta Z Z.heap "java/lang/Integer" "DigitOnes" "[B" (.ref sv_DigitOnes)) (V_ones : Arv Z Z.heap sv_DigitOnes k_ones .byte (100 : Int32) (List.map Value.int own_ones) (.int 0)) (S_DigitTens : Sta Z Z.heap "java/lang/Integer" "DigitTens" "[B" (.ref sv_DigitTens)) (V_tens : Arv Z Z.heap sv_DigitTens k_tens .byte (100 : Int32) (List.map Value.int own_tens) (.int 0)) (F_count_o0 : Fld Z h0 o0 "java/lang/AbstractStringBuilder" "count" "I" (.int (own_n l_1))) (g_o0 : n0 ≤ o0) (sh_l_1 : l_1.length ≤ 27) (hCS : ¬ (sv_COMPACT_STRINGS = (0 : Int32))) :
    Con l Z (⟨"java/lang/StringBuilder", "append", "(I)Ljava/lang/StringBuilder;"⟩ : MethodName) jdk_67_method_15_code 2 (some (.object "java/lang/StringBuilder")) ws ({ frames := 5, cells := 1, slots := 70, locals := 77 } : Room) #[(.ref o0), (.int i1)] h0 (fun v h L => ∃ (b2_7_3_1 : Addr), ∃ (k2_7_3_1 : ClassId), v = some (.ref o0) ∧ Fr n0 L ∧ h0.size ≤ b2_7_3_1 ∧ Keep h0 h [o0] ∧ Exa Z h o0 "java/lang/StringBuilder" ∧ Fld Z h o0 "java/lang/AbstractStringBuilder" "value" "[B" (.ref b2_7_3_1) ∧ Fld Z h o0 "java/lang/AbstractStringBuilder" "coder" "B" (.int 0) ∧ Fld Z h o0 "java/lang/AbstractStringBuilder" "count" "I" (.int (own_n (l_1 ++ (own_put i1)))) ∧ Exa Z h b2_7_3_1 "[B" ∧ Arv Z h b2_7_3_1 k2_7_3_1 .byte (70 : Int32) (List.map Value.int (l_1 ++ (own_put i1))) (.int 0)) := by
 refine own_body (plainFor_of_name own_pn7) (fun m => ef_rm50_0 m o0 i1) ?_
 intro p e s m below meth c s₁ hx hby hlk hml hret hZ hown hnm X0 e0
 have N0 := Fr.nil n0
 refine Rn X0 hx hby sg9_0_2 2 #[sr o0, si i1] [(.int i1), (.ref o0)] rfl ?_
 refine Home.call (own_super X0 hx hZ hown (w77 hw) (own_samem (w78 hw) (w91 hw) rfl (by decide)) (w78 hw) (w79 hw) (by decide) (w64 hw) (w81 hw) (rm10_3 l Z a0 hw [] o0 i1 l_1 p2 k_p2 sv_COMPACT_STRINGS sv_DigitOnes k_ones sv_DigitTens k_tens h0 n0 O0 pt0 F_count_o0 E_o0 F_value_o0 V_p2 F_coder_o0 g_o0 (Nat.le_trans (own_len_le sh_l_1).2 (by decide)) S_COMPACT_STRINGS hCS S_DigitOnes V_ones S_DigitTens V_tens) e0 E_o0 rfl (by rw [hml]; rfl) (argsL := [(.int i1)]) (rest := []) (lenOf own_pd21 rfl) rfl rfl (W := 0) (hb hby d9_2)) ?_
 rintro _ T1 L1 X1 ⟨b2_7_3_1, k2_7_3_1, rfl, N1q, sz_b2_7_3_1, K1q, P1_0, P1_1, P1_2, P1_3, P1_4, P1_5⟩
 have g_b2_7_3_1 : n0 ≤ b2_7_3_1 := Nat.le_trans (Old.le O0) sz_b2_7_3_1
 have K1 : Keep h0 T1.heap ([o0] : List Addr) := Keep.trans (Keep.refl h0 ([o0] : List Addr)) K1q (allS (Or.inl (List.mem_of_getElem? (i := 0) rfl)) all0)
 have N1 := Fr.app N0 N1q
 refine Rn X1 hx hby sg9_5_2 7 #[sr o0, si i1] [(.ref o0)] rfl ?_
 exact Home.retR X1 hx hlk hret rfl rfl (hb hby d9_7) ⟨b2_7_3_1, k2_7_3_1, rfl, N1, (Nat.le_trans (Nat.le_refl _) sz_b2_7_3_1), K1, P1_1, P1_2, P1_3, P1_0, P1_4, P1_5⟩ (by decide) (by decide)
theorem rm25_0 (l : Launch) (Z : State) (a0 : Array Value) (hw : HW a0 Z) (ws : List Jvm.Cond) (o0 p2 : Addr) (h0 : Heap) (n0 : Nat) (O0 : Old Z n0 h0) (F_value_o0 : Fld Z h0 o0 "java/lang/AbstractStringBuilder" "value" "[B" (.ref p2)) :
    Con l Z (⟨"java/lang/AbstractStringBuilder", "getValue", "()[B"⟩ : MethodName) jdk_68_method_64_code 1 (some (.array .byte)) ws ({ frames := 0, cells := 0, slots := 0, locals := 0 } : Room) #[(.ref o0)] h0 (Pur (some (.ref p2)) h0) := by
 refine own_body (plainFor_of_name own_pn6) (fun m => ef_rm7_0 m o0) ?_
 intro p e s m below meth c s₁ hx hby hlk hml hret hZ hown hnm X0 e0
 refine Rn X0 hx hby sg25_0_1 1 #[sr o0] [(.ref o0)] rfl ?_
 refine Home.st (getF X0 hx hZ hown (host := "") (Or.inl (w68 hw)) Via.refl e0 F_value_o0 rfl rfl (hb hby d25_1)) fun T1 X1 e1 => ?_
 exact Home.retR X1 hx hlk hret rfl rfl (hb hby d25_4) ⟨rfl, rfl, e1⟩ (by decide) (by decide)
theorem rm27_0 (l : Launch) (Z : State) (a0 : Array Value) (hw : HW a0 Z) (ws : List Jvm.Cond) (o0 : Addr) (l_1 : List Int32) (h0 : Heap) (n0 : Nat) (O0 : Old Z n0 h0) (F_count_o0 : Fld Z h0 o0 "java/lang/AbstractStringBuilder" "count" "I" (.int (own_n l_1))) (sh_l_1 : l_1.length ≤ 38) :
    Con l Z (⟨"java/lang/AbstractStringBuilder", "length", "()I"⟩ : MethodName) jdk_68_method_6_code 1 (some .int) ws ({ frames := 0, cells := 0, slots := 0, locals := 0 } : Room) #[(.ref o0)] h0 (Pur (some (.int (own_n l_1))) h0) := by
 refine own_body (plainFor_of_name own_pn6) (fun m => ef_rm7_0 m o0) ?_
 intro p e s m below meth c s₁ hx hby hlk hml hret hZ hown hnm X0 e0
 refine Rn X0 hx hby sg27_0_1 1 #[sr o0] [(.ref o0)] rfl ?_
 refine Home.st (getF X0 hx hZ hown (host := "") (Or.inl (w82 hw)) Via.refl e0 F_count_o0 rfl rfl (hb hby d27_1)) fun T1 X1 e1 => ?_
 exact Home.retI X1 hx hlk hret (hb hby d27_4) ⟨rfl, rfl, e1⟩ (by decide) (by decide)
theorem rm26_0 (l : Launch) (Z : State) (a0 : Array Value) (hw : HW a0 Z) (ws : List Jvm.Cond) (o0 : Addr) (l_1 : List Int32) (h0 : Heap) (n0 : Nat) (O0 : Old Z n0 h0) (E_o0 : Exa Z h0 o0 "java/lang/StringBuilder") (F_count_o0 : Fld Z h0 o0 "java/lang/AbstractStringBuilder" "count" "I" (.int (own_n l_1))) (sh_l_1 : l_1.length ≤ 38) :
    Con l Z (⟨"java/lang/StringBuilder", "length", "()I"⟩ : MethodName) jdk_67_method_93_code 1 (some .int) ws ({ frames := 1, cells := 0, slots := 0, locals := 12 } : Room) #[(.ref o0)] h0 (Pur (some (.int (own_n l_1))) h0) := by
 refine own_body (plainFor_of_name own_pn7) (fun m => ef_rm7_0 m o0) ?_
 intro p e s m below meth c s₁ hx hby hlk hml hret hZ hown hnm X0 e0
 refine Rn X0 hx hby sg26_0_1 1 #[sr o0] [(.ref o0)] rfl ?_
 refine Home.st (own_pure (own_super X0 hx hZ hown (w169 hw) (own_samem (w165 hw) (w91 hw) rfl (by decide)) (w165 hw) (w79 hw) (by decide) (w64 hw) (w170 hw) (rm27_0 l Z a0 hw [] o0 l_1 h0 n0 O0 F_count_o0 (Nat.le_trans (own_len_le sh_l_1).2 (by decide))) e0 E_o0 rfl (by rw [hml]; rfl) (argsL := []) (rest := []) (lenOf own_pd24 rfl) rfl rfl (W := 0) (hb hby d26_1))) fun T1 X1 e1 => ?_
 exact Home.retI X1 hx hlk hret (hb hby d26_4) ⟨rfl, rfl, e1⟩ (by decide) (by decide)
theorem rm30_0 (l : Launch) (Z : State) (a0 : Array Value) (hw : HW a0 Z) (ws : List Jvm.Cond) (l_1 : List Int32) (h0 : Heap) (n0 : Nat) (O0 : Old Z n0 h0) (sh_l_1 : l_1.length ≤ 38) :
    Con l Z (⟨"java/util/Arrays", "checkLength", "(II)V"⟩ : MethodName) jdk_65_method_131_code 2 none ws ({ frames := 0, cells := 0, slots := 0, locals := 0 } : Room) #[(.int 0), (.int (own_n l_1))] h0 (Pur none h0) := by
 refine own_body (plainFor_of_name own_pn10) (fun m => ef_rm44_0 m (0 : Int32) (own_n l_1)) ?_
 intro p e s m below meth c s₁ hx hby hlk hml hret hZ hown hnm X0 e0
 refine Rn X0 hx hby sg30_0_2 2 #[si 0, .val (.int (own_n l_1))] [(.int 0), (.int (own_n l_1))] rfl ?_
 refine Home.go (fun _ => XS.icmpYes X0.here hx rfl (pc0 := 2) (pc' := 37) rfl (hb hby d30_2) rfl (flt (bnd_nlt (own_n_b (a := 0) (b := 38) (own_len_le sh_l_1) (lo := (0 : Int32)) (hi := (38 : Int32)) (by decide) (by decide) (by decide)) (bnd_lit (0 : Int32)) (by decide +kernel))).2.1 (by decide) (by decide)) ?_
 exact Home.ret0 X0 hx hlk hret (hb hby d30_37) ⟨rfl, rfl, e0⟩ (by decide) (by decide)
theorem rm31_2 (l : Launch) (Z : State) (a0 : Array Value) (hw : HW a0 Z) (ws : List Jvm.Cond) (l_1 : List Int32) (h0 : Heap) (n0 : Nat) (O0 : Old Z n0 h0) (sh_l_1 : l_1.length ≤ 38) :
    Con l Z (⟨"java/lang/Math", "min", "(II)I"⟩ : MethodName) jdk_29_method_69_code 2 (some .int) ws ({ frames := 0, cells := 0, slots := 0, locals := 0 } : Room) #[(.int 70), (.int (own_n l_1))] h0 (Pur (some (.int (own_n l_1))) h0) := by
 refine own_body (Jvm.Free.JP.mathPlain rfl (by decide +kernel)) (fun m => ef_rm44_0 m (70 : Int32) (own_n l_1)) ?_
 intro p e s m below meth c s₁ hx hby hlk hml hret hZ hown hnm X0 e0
 refine Rn X0 hx hby sg31_0_2 2 #[si 70, .val (.int (own_n l_1))] [(.int (own_n l_1)), (.int 70)] rfl ?_
 refine Home.go (fun _ => XS.icmpYes X0.here hx rfl (pc0 := 2) (pc' := 9) rfl (hb hby d31_2) rfl (tlt (bnd_lt (own_n_b (a := 0) (b := 38) (own_len_le sh_l_1) (lo := (0 : Int32)) (hi := (38 : Int32)) (by decide) (by decide) (by decide)) (bnd_lit (70 : Int32)) (by decide +kernel))).2.2.1 (by decide) (by decide)) ?_
 refine Rn X0 hx hby sg31_9_1 10 #[si 70, .val (.int (own_n l_1))] [(.int (own_n l_1))] rfl ?_
 exact Home.retI X0 hx hlk hret (hb hby d31_10) ⟨rfl, rfl, e0⟩ (by decide) (by decide)
theorem rm29_0 (l : Launch) (Z : State) (a0 : Array Value) (hw : HW a0 Z) (ws : List Jvm.Cond) (o0 : Addr) (l_1 : List Int32) (k_o0 : ClassId) (h0 : Heap) (n0 : Nat) (O0 : Old Z n0 h0) (sh_l_1 : l_1.length ≤ 38) (V_o0 : Arv Z h0 o0 k_o0 .byte (70 : Int32) (List.map Value.int l_1) (.int 0)) :
    Con l Z (⟨"java/util/Arrays", "copyOfRangeByte", "([BII)[B"⟩ : MethodName) jdk_65_method_133_code 5 (some (.array .byte)) ws ({ frames := 1, cells := 1, slots := 38, locals := 18 } : Room) #[(.ref o0), (.int 0), (.int (own_n l_1))] h0 (fun v h L => ∃ (b2 : Addr), ∃ (k2 : ClassId), v = some (.ref b2) ∧ Fr n0 L ∧ h0.size ≤ b2 ∧ Keep h0 h [] ∧ Exa Z h b2 "[B" ∧ Arv Z h b2 k2 .byte (own_n l_1) (List.map Value.int l_1) (.int 0)) := by
 refine own_body (plainFor_of_name own_pn10) (fun m => ef_rm29_0 m o0 (0 : Int32) (own_n l_1)) ?_
 intro p e s m below meth c s₁ hx hby hlk hml hret hZ hown hnm X0 e0
 have N0 := Fr.nil n0
 refine Rn X0 hx hby sg29_0_2 2 #[sr o0, si 0, .val (.int (own_n l_1)), un, un] [(.int (own_n l_1)), (.int 0)] rfl ?_
 refine Home.st (own_pure (own_static X0 hx hZ hown (w179 hw) (w180 hw) (w174 hw) (w181 hw) (by decide) (rm30_0 l Z a0 hw [] l_1 h0 n0 O0 (Nat.le_trans (own_len_le sh_l_1).2 (by decide))) e0 rfl (by rw [hml]; rfl) (argsL := [(.int 0), (.int (own_n l_1))]) (rest := []) (lenOf own_pd31 rfl) rfl rfl (W := 0) (hb hby d29_2))) fun T1 X1 e1 => ?_
 refine Rn X1 hx hby sg29_5_3 8 #[sr o0, si 0, .val (.int (own_n l_1)), un, un] [(.int ((own_n l_1) - (0 : Int32)))] rfl ?_
 rw [own_sub0]
 refine Rn X1 hx hby sg29_8_2 10 #[sr o0, si 0, .val (.int (own_n l_1)), .val (.int (own_n l_1)), un] [(.int (own_n l_1))] rfl ?_
 refine Home.na (own_newPE (aty := .byte) X1 hx hZ (w3 hw) e1 (g := (mkF m 10 #[.val (.ref o0), .val (.int 0), .val (.int (own_n l_1)), .val (.int (own_n l_1)), .unset] [(.int (own_n l_1))])) rfl (hb hby d29_10) rfl (bnd_nlt (own_n_b (a := 0) (b := 38) (own_len_le sh_l_1) (lo := (0 : Int32)) (hi := (38 : Int32)) (by decide) (by decide) (by decide)) (bnd_lit (0 : Int32)) (by decide +kernel)) (cap := 38) (own_capb (own_n_b (a := 0) (b := 38) (own_len_le sh_l_1) (lo := (0 : Int32)) (hi := (38 : Int32)) (by decide) (by decide) (by decide)) (by decide)) (by decide) (by decide) (by decide)) fun T2 h2 k2 b2 g2 X2 e2 E2 AE2 => ?_
 have A2 := AE2.1
 have Ex2 := AE2.2
 have g_b2 : n0 ≤ b2 := Nat.le_trans (Old.le O0) (Nat.le_of_eq g2.symm)
 have V2 : Arv Z h2 b2 k2 .byte (own_n l_1) (List.map Value.int []) (.int 0) := Arv.new A2 (bnd_nlt (own_n_b (a := 0) (b := 38) (own_len_le sh_l_1) (lo := (0 : Int32)) (hi := (38 : Int32)) (by decide) (by decide) (by decide)) (bnd_lit (0 : Int32)) (by decide +kernel))
 have O2 := O0.ext E2
 have K2 : Keep h0 h2 ([] : List Addr) := Keep.ext (Keep.refl h0 ([] : List Addr)) E2
 refine Rn X2 hx hby sg29_12_6 20 #[sr o0, si 0, .val (.int (own_n l_1)), .val (.int (own_n l_1)), sr b2] [(.ref o0), (.int 0), (.ref b2), (.int 0), (.ref o0)] rfl ?_
 obtain ⟨cl3, Ar3, q3, S3, M3, H3, G3⟩ := id (V_o0.keep K2 nin0)
 refine Home.go (own_alen X2 hx hZ e2 Ar3 S3 M3 rfl rfl (hb hby d29_20)) ?_
 show Home T2 (mkF m 21 #[sr o0, si 0, .val (.int (own_n l_1)), .val (.int (own_n l_1)), sr b2] [(.int 70), (.int 0), (.ref b2), (.int 0), (.ref o0)])
 refine Rn X2 hx hby sg29_21_3 24 #[sr o0, si 0, .val (.int (own_n l_1)), .val (.int (own_n l_1)), sr b2] [(.int (own_n l_1)), (.int 70), (.int 0), (.ref b2), (.int 0), (.ref o0)] rfl ?_
 refine Home.st (own_pure (own_static X2 hx hZ hown (w182 hw) (w183 hw) (w184 hw) (w185 hw) (by decide) (rm31_2 l Z a0 hw [] l_1 h2 n0 O2 (Nat.le_trans (own_len_le sh_l_1).2 (by decide))) e2 rfl (by rw [hml]; rfl) (argsL := [(.int 70), (.int (own_n l_1))]) (rest := [(.int 0), (.ref b2), (.int 0), (.ref o0)]) (lenOf own_pd16 rfl) rfl rfl (W := 4) (hb hby d29_24))) fun T4 X4 e4 => ?_
 refine Home.cp (own_cpS X4 hx hZ hown (w186 hw) (w144 hw) (w142 hw) (w143 hw) e4 (V_o0.keep K2 nin0) V2 (Y := []) (X := l_1) (Nat.le_trans (own_len_le sh_l_1).2 (by decide)) (Nat.le_trans (Nat.le_of_eq (Nat.zero_add _)) (own_n_le (own_len_le sh_l_1))) (Nat.lt_of_le_of_lt (own_len_app (own_len_lit (l := []) (n := 0) rfl) (own_len_le sh_l_1)).2 (by decide)) (dp := (0 : Int32)) rfl N0 g_b2 (g := (mkF m 27 #[.val (.ref o0), .val (.int 0), .val (.int (own_n l_1)), .val (.int (own_n l_1)), .val (.ref b2)] [(.int (own_n l_1)), (.int 0), (.ref b2), (.int 0), (.ref o0)])) rfl (by rw [hml]; rfl) rfl (hb hby d29_27) (by decide) (W := 0) (by exact hW0) (by decide)) fun T5 h5 L5 X5 e5 N5 K5q Vq5 => ?_
 have V5 : Arv Z h5 b2 k2 .byte (own_n l_1) (List.map Value.int l_1) (.int 0) := Vq5
 have K5 : Keep h0 h5 ([] : List Addr) := Keep.trans K2 K5q (allS (Or.inr (Nat.le_trans (Nat.le_refl _) (Nat.le_of_eq g2.symm))) all0)
 refine Rn X5 hx hby sg29_30_1 32 #[sr o0, si 0, .val (.int (own_n l_1)), .val (.int (own_n l_1)), sr b2] [(.ref b2)] rfl ?_
 have q6 := (Ex2.keep K5q)
 exact Home.retR X5 hx hlk hret rfl rfl (hb hby d29_32) (by rw [show T5.heap = h5 from e5]; exact ⟨b2, k2, rfl, N5, (Nat.le_trans (Nat.le_refl _) (Nat.le_of_eq g2.symm)), K5, q6, V5⟩) (by decide) (by decide)
theorem rm28_0 (l : Launch) (Z : State) (a0 : Array Value) (hw : HW a0 Z) (ws : List Jvm.Cond) (o0 : Addr) (l_1 : List Int32) (k_o0 : ClassId) (h0 : Heap) (n0 : Nat) (O0 : Old Z n0 h0) (V_o0 : Arv Z h0 o0 k_o0 .byte (70 : Int32) (List.map Value.int l_1) (.int 0)) (sh_l_1 : l_1.length ≤ 38) :
    Con l Z (⟨"java/util/Arrays", "copyOfRange", "([BII)[B"⟩ : MethodName) jdk_65_method_132_code 3 (some (.array .byte)) ws ({ frames := 2, cells := 1, slots := 38, locals := 34 } : Room) #[(.ref o0), (.int 0), (.int (own_n l_1))] h0 (fun v h L => ∃ (b2_2 : Addr), ∃ (k2_2 : ClassId), v = some (.ref b2_2) ∧ Fr n0 L ∧ h0.size ≤ b2_2 ∧ Keep h0 h [] ∧ Exa Z h b2_2 "[B" ∧ Arv Z h b2_2 k2_2 .byte (own_n l_1) (List.map Value.int l_1) (.int 0)) := by
 refine own_body (plainFor_of_name own_pn10) (fun m => ef_rm28_0 m o0 (0 : Int32) (own_n l_1)) ?_
 intro p e s m below meth c s₁ hx hby hlk hml hret hZ hown hnm X0 e0
 have N0 := Fr.nil n0
 refine Rn X0 hx hby sg28_0_1 1 #[sr o0, si 0, .val (.int (own_n l_1))] [(.int 0)] rfl ?_
 refine Home.go (fun _ => XS.ifNo X0.here hx rfl (hb hby d28_1) rfl ((if0 _ _).trans (teq (by decide)).2)) ?_
 refine Rn X0 hx hby sg28_4_2 6 #[sr o0, si 0, .val (.int (own_n l_1))] [(.ref o0), (.int (own_n l_1))] rfl ?_
 obtain ⟨cl1, Ar1, q1, S1, M1, H1, G1⟩ := id V_o0
 refine Home.go (own_alen X0 hx hZ e0 Ar1 S1 M1 rfl rfl (hb hby d28_6)) ?_
 refine Home.go (fun _ => XS.icmpNo X0.here hx rfl (hb hby d28_7) rfl (feq (bnd_ne (own_n_b (a := 0) (b := 38) (own_len_le sh_l_1) (lo := (0 : Int32)) (hi := (38 : Int32)) (by decide) (by decide) (by decide)) (bnd_lit (70 : Int32)) (by decide +kernel))).1) ?_
 refine Rn X0 hx hby sg28_10_3 13 #[sr o0, si 0, .val (.int (own_n l_1))] [(.int (own_n l_1)), (.int 0), (.ref o0)] rfl ?_
 refine Home.call (own_static X0 hx hZ hown (w176 hw) (w177 hw) (w174 hw) (w178 hw) (by decide) (rm29_0 l Z a0 hw [] o0 l_1 k_o0 h0 n0 O0 (Nat.le_trans (own_len_le sh_l_1).2 (by decide)) V_o0) e0 rfl (by rw [hml]; rfl) (argsL := [(.ref o0), (.int 0), (.int (own_n l_1))]) (rest := []) (lenOf own_pd32 rfl) rfl rfl (W := 0) (hb hby d28_13)) ?_
 rintro _ T2 L2 X2 ⟨b2_2, k2_2, rfl, N2q, sz_b2_2, K2q, P2_0, P2_1⟩
 have g_b2_2 : n0 ≤ b2_2 := Nat.le_trans (Old.le O0) sz_b2_2
 have K2 : Keep h0 T2.heap ([] : List Addr) := Keep.trans (Keep.refl h0 ([] : List Addr)) K2q all0
 have N2 := Fr.app N0 N2q
 exact Home.retR X2 hx hlk hret rfl rfl (hb hby d28_16) ⟨b2_2, k2_2, rfl, N2, (Nat.le_trans (Nat.le_refl _) sz_b2_2), K2, P2_0, P2_1⟩ (by decide) (by decide)
theorem rm24_0 (l : Launch) (Z : State) (a0 : Array Value) (hw : HW a0 Z) (ws : List Jvm.Cond) (o0 o1 p3 : Addr) (l_1 : List Int32) (sv_COMPACT_STRINGS : Int32) (k_p3 : ClassId) (h0 : Heap) (n0 : Nat) (O0 : Old Z n0 h0) (E_o1 : Exa Z h0 o1 "java/lang/StringBuilder") (F_value_o1 : Fld Z h0 o1 "java/lang/AbstractStringBuilder" "value" "[B" (.ref p3)) (F_count_o1 : Fld Z h0 o1 "java/lang/AbstractStringBuilder" "count" "I" (.int (own_n l_1))) (sh_l_1 : l_1.length ≤ 38) (S_COMPACT_STRINGS : Sta Z Z.heap "java/lang/String" "COMPACT_STRINGS" "Z" (.int sv_COMPACT_STRINGS)) (F_coder_o1 : Fld Z h0 o1 "java/lang/AbstractStringBuilder" "coder" "B" (.int 0)) (hCS : ¬ (sv_COMPACT_STRINGS = (0 : Int32))) (E_o0 : Exa Z h0 o0 "java/lang/String") (F_coder_o0 : Fld Z h0 o0 "java/lang/String" "coder" "B" (.int 0)) (g_o0 : n0 ≤ o0) (V_p3 : Arv Z h0 p3 k_p3 .byte (70 : Int32) (List.map Value.int l_1) (.int 0)) (E_p3 : Exa Z h0 p3 "[B") (F_value_o0 : Fld Z h0 o0 "java/lang/String" "value" "[B" .null) :
    Con l Z (⟨"java/lang/String", "<init>", "(Ljava/lang/AbstractStringBuilder;Ljava/lang/Void;)V"⟩ : MethodName) jdk_42_method_150_code 5 none ws ({ frames := 3, cells := 1, slots := 38, locals := 49 } : Room) #[(.ref o0), (.ref o1), .null] h0 (fun v h L => ∃ (b2_2_8 : Addr), ∃ (k2_2_8 : ClassId), v = none ∧ Fr n0 L ∧ h0.size ≤ b2_2_8 ∧ Keep h0 h [o0] ∧ Exa Z h o0 "java/lang/String" ∧ Fld Z h o0 "java/lang/String" "coder" "B" (.int 0) ∧ Fld Z h o0 "java/lang/String" "value" "[B" (.ref b2_2_8) ∧ Exa Z h b2_2_8 "[B" ∧ Arv Z h b2_2_8 k2_2_8 .byte (own_n l_1) (List.map Value.int l_1) (.int 0)) := by
 refine own_body (plainFor_of_name own_pn1) (fun m => ef_rm24_0 m o0 o1) ?_
 intro p e s m below meth c s₁ hx hby hlk hml hret hZ hown hnm X0 e0
 have N0 := Fr.nil n0
 refine Rn X0 hx hby sg24_0_1 1 #[sr o0, sr o1, .val .null, un, un] [(.ref o0)] rfl ?_
 refine Home.st (initO X0 hx hZ hown (w157 hw) (w32 hw) (w33 hw) e0 rfl (by rw [hml]; rfl) rfl (hb hby d24_1) (by decide) (W := 0) (by exact hW0) (by decide)) fun T1 X1 e1 => ?_
 refine Rn X1 hx hby sg24_4_1 5 #[sr o0, sr o1, .val .null, un, un] [(.ref o1)] rfl ?_
 refine Home.st (own_pure (own_virtual X1 hx hZ hown (w158 hw) (w159 hw) (notFace_of_selects (args := #[]) (mvT hZ (w161 hw))) (w161 hw) (w160 hw) (w64 hw) (w162 hw) (by decide) (rm25_0 l Z a0 hw [] o1 p3 h0 n0 O0 F_value_o1) e1 E_o1 rfl (by rw [hml]; rfl) (argsL := []) (rest := []) (lenOf own_pd30 rfl) rfl rfl (W := 0) (hb hby d24_5))) fun T2 X2 e2 => ?_
 refine Rn X2 hx hby sg24_8_2 10 #[sr o0, sr o1, .val .null, sr p3, un] [(.ref o1)] rfl ?_
 refine Home.st (own_pure (own_virtual X2 hx hZ hown (w163 hw) (w164 hw) (own_nfz (args := #[]) (mvT hZ (w91 hw)) rfl) (w166 hw) (w167 hw) (w56 hw) (w168 hw) (by decide) (rm26_0 l Z a0 hw [] o1 l_1 h0 n0 O0 E_o1 F_count_o1 (Nat.le_trans (own_len_le sh_l_1).2 (by decide))) e2 E_o1 rfl (by rw [hml]; rfl) (argsL := []) (rest := []) (lenOf own_pd24 rfl) rfl rfl (W := 0) (hb hby d24_10))) fun T3 X3 e3 => ?_
 refine Rn X3 hx hby sg24_13_2 16 #[sr o0, sr o1, .val .null, sr p3, .val (.int (own_n l_1))] [(.ref o1)] rfl ?_
 refine Home.st (own_pure (own_virtual X3 hx hZ hown (w171 hw) (w94 hw) (notFace_of_selects (args := #[]) (mvT hZ (w96 hw))) (w96 hw) (w95 hw) (w64 hw) (w97 hw) (by decide) (rm13_0 l Z a0 hw [] o1 sv_COMPACT_STRINGS h0 n0 O0 S_COMPACT_STRINGS hCS F_coder_o1) e3 E_o1 rfl (by rw [hml]; rfl) (argsL := []) (rest := []) (lenOf own_pd19 rfl) rfl rfl (W := 0) (hb hby d24_16))) fun T4 X4 e4 => ?_
 refine Home.go (fun _ => XS.ifNo X4.here hx rfl (hb hby d24_19) rfl ((if0 _ _).trans (feq (by decide)).1)) ?_
 refine Rn X4 hx hby sg24_22_2 24 #[sr o0, sr o1, .val .null, sr p3, .val (.int (own_n l_1))] [(.int 0), (.ref o0)] rfl ?_
 refine Home.wr (putFN X4 hx hZ hown (w124 hw) Via.refl e4 F_coder_o0 E_o0 (Or.inr ⟨(w5 hw), rfl, hnm⟩) (w2 hw) (ty := .byte) (v := (.int 0)) (v' := (.int 0)) (by decide) rfl rfl rfl rfl (hb hby d24_24)) fun T5 h5 X5 e5 W5 => ?_
 have Fw5 := F_coder_o0.same W5
 have O5 := O0.wr W5 g_o0
 have K5 : Keep h0 h5 ([o0] : List Addr) := Keep.wr (Keep.refl h0 ([o0] : List Addr)) W5 (Or.inl (List.mem_of_getElem? (i := 0) rfl))
 have N5 := Fr.snoc X5 N0 g_o0
 show Home T5 (mkF m 27 #[sr o0, sr o1, .val .null, sr p3, .val (.int (own_n l_1))] [])
 refine Rn X5 hx hby sg24_27_4 32 #[sr o0, sr o1, .val .null, sr p3, .val (.int (own_n l_1))] [(.int (own_n l_1)), (.int 0), (.ref p3), (.ref o0)] rfl ?_
 have ne6 : p3 ≠ o0 := (Ne.symm (own_neAV E_o0 (w2 hw) V_p3))
 have q7 := (V_p3.other W5 ne6)
 refine Home.call (own_static X5 hx hZ hown (w172 hw) (w173 hw) (w174 hw) (w175 hw) (by decide) (rm28_0 l Z a0 hw [] p3 l_1 k_p3 h5 n0 O5 q7 (Nat.le_trans (own_len_le sh_l_1).2 (by decide))) e5 rfl (by rw [hml]; rfl) (argsL := [(.ref p3), (.int 0), (.int (own_n l_1))]) (rest := [(.ref o0)]) (lenOf own_pd32 rfl) rfl rfl (W := 1) (hb hby d24_32)) ?_
 rintro _ T8 L8 X8 ⟨b2_2_8, k2_2_8, rfl, N8q, sz_b2_2_8, K8q, P8_0, P8_1⟩
 have g_b2_2_8 : n0 ≤ b2_2_8 := Nat.le_trans (Old.le O5) sz_b2_2_8
 have K8 : Keep h0 T8.heap ([o0] : List Addr) := Keep.trans K5 K8q all0
 have N8 := Fr.app N5 N8q
 have q9 := ((F_value_o0.other W5 (Or.inr (slot_ne (Or.inr (w4 hw)) (Or.inr (w5 hw)) (by decide) (t := (.array .byte)) (t' := .byte) (by decide) (by decide)))).keep K8q nin0)
 refine Home.wr (putF X8 hx hZ hown (host := "") (Or.inl (w117 hw)) Via.refl rfl q9 (E_o0.keep K8) (Or.inr ⟨(w4 hw), rfl, hnm⟩) (w2 hw) (ty := (.array .byte)) (by decide) rfl rfl rfl rfl (hb hby d24_35)) fun T10 h10 X10 e10 W10 => ?_
 have Fw10 := q9.same W10
 have K10 : Keep h0 h10 ([o0] : List Addr) := Keep.wr K8 W10 (Or.inl (List.mem_of_getElem? (i := 0) rfl))
 have N10 := Fr.snoc X10 N8 g_o0
 show Home T10 (mkF m 38 #[sr o0, sr o1, .val .null, sr p3, .val (.int (own_n l_1))] [])
 refine Rn X10 hx hby sg24_38_1 97 #[sr o0, sr o1, .val .null, sr p3, .val (.int (own_n l_1))] [] rfl ?_
 have q11 := ((Fw5.keep K8q nin0).other W10 (Or.inr (slot_ne (Or.inr (w5 hw)) (Or.inr (w4 hw)) (by decide) (t := .byte) (t' := (.array .byte)) (by decide) (by decide))))
 have q12 := (P8_0.wr W10)
 have ne13 : b2_2_8 ≠ o0 := (Ne.symm (Nat.ne_of_lt (Nat.lt_of_lt_of_le Fw5.lt (Nat.le_trans (Nat.le_refl _) sz_b2_2_8))))
 have q14 := (P8_1.other W10 ne13)
 exact Home.ret0 X10 hx hlk hret (hb hby d24_97) (by rw [show T10.heap = h10 from e10]; exact ⟨b2_2_8, k2_2_8, rfl, N10, (Nat.le_trans (Nat.le_of_eq W5.size.symm) sz_b2_2_8), K10, (E_o0.keep K10), q11, Fw10, q12, q14⟩) (by decide) (by decide)
theorem rm23_0 (l : Launch) (Z : State) (a0 : Array Value) (hw : HW a0 Z) (ws : List Jvm.Cond) (o0 o1 p3 : Addr) (sv_COMPACT_STRINGS : Int32) (k_p3 : ClassId) (l_1 : List Int32) (h0 : Heap) (n0 : Nat) (O0 : Old Z n0 h0) (E_o1 : Exa Z h0 o1 "java/lang/StringBuilder") (F_value_o1 : Fld Z h0 o1 "java/lang/AbstractStringBuilder" "value" "[B" (.ref p3)) (S_COMPACT_STRINGS : Sta Z Z.heap "java/lang/String" "COMPACT_STRINGS" "Z" (.int sv_COMPACT_STRINGS)) (F_coder_o1 : Fld Z h0 o1 "java/lang/AbstractStringBuilder" "coder" "B" (.int 0)) (E_o0 : Exa Z h0 o0 "java/lang/String") (F_coder_o0 : Fld Z h0 o0 "java/lang/String" "coder" "B" (.int 0)) (V_p3 : Arv Z h0 p3 k_p3 .byte (70 : Int32) (List.map Value.int l_1) (.int 0)) (E_p3 : Exa Z h0 p3 "[B") (F_value_o0 : Fld Z h0 o0 "java/lang/String" "value" "[B" .null) (F_count_o1 : Fld Z h0 o1 "java/lang/AbstractStringBuilder" "count" "I" (.int (own_n l_1))) (g_o0 : n0 ≤ o0) (sh_l_1 : l_1.length ≤ 38) (hCS : ¬ (sv_COMPACT_STRINGS = (0 : Int32))) :
    Con l Z (⟨"java/lang/String", "<init>", "(Ljava/lang/StringBuilder;)V"⟩ : MethodName) jdk_42_method_53_code 2 none ws ({ frames := 4, cells := 1, slots := 38, locals := 65 } : Room) #[(.ref o0), (.ref o1)] h0 (fun v h L => ∃ (b2_2_8_1 : Addr), ∃ (k2_2_8_1 : ClassId), v = none ∧ Fr n0 L ∧ h0.size ≤ b2_2_8_1 ∧ Keep h0 h [o0] ∧ Exa Z h o0 "java/lang/String" ∧ Fld Z h o0 "java/lang/String" "coder" "B" (.int 0) ∧ Fld Z h o0 "java/lang/String" "value" "[B" (.ref b2_2_8_1) ∧ Exa Z h b2_2_8_1 "[B" ∧ Arv Z h b2_2_8_1 k2_2_8_1 .byte (own_n l_1) (List.map Value.int l_1) (.int 0)) := by
 refine own_body (plainFor_of_name own_pn1) (fun m => ef_rm46_0 m o0 o1) ?_
 intro p e s m below meth c s₁ hx hby hlk hml hret hZ hown hnm X0 e0
 have N0 := Fr.nil n0
 refine Rn X0 hx hby sg23_0_3 3 #[sr o0, sr o1] [.null, (.ref o1), (.ref o0)] rfl ?_
 refine Home.call (own_special X0 hx hZ hown rfl (w154 hw) (w155 hw) (w1 hw) (w156 hw) (by decide) (rm24_0 l Z a0 hw [] o0 o1 p3 l_1 sv_COMPACT_STRINGS k_p3 h0 n0 O0 E_o1 F_value_o1 F_count_o1 (Nat.le_trans (own_len_le sh_l_1).2 (by decide)) S_COMPACT_STRINGS F_coder_o1 hCS E_o0 F_coder_o0 g_o0 V_p3 E_p3 F_value_o0) e0 rfl (by rw [hml]; rfl) (a := o0) (argsL := [(.ref o1), .null]) (rest := []) (lenOf own_pd33 rfl) rfl rfl (W := 0) (hb hby d23_3)) ?_
 rintro _ T1 L1 X1 ⟨b2_2_8_1, k2_2_8_1, rfl, N1q, sz_b2_2_8_1, K1q, P1_0, P1_1, P1_2, P1_3, P1_4⟩
 have g_b2_2_8_1 : n0 ≤ b2_2_8_1 := Nat.le_trans (Old.le O0) sz_b2_2_8_1
 have K1 : Keep h0 T1.heap ([o0] : List Addr) := Keep.trans (Keep.refl h0 ([o0] : List Addr)) K1q (allS (Or.inl (List.mem_of_getElem? (i := 0) rfl)) all0)
 have N1 := Fr.app N0 N1q
 exact Home.ret0 X1 hx hlk hret (hb hby d23_6) ⟨b2_2_8_1, k2_2_8_1, rfl, N1, (Nat.le_trans (Nat.le_refl _) sz_b2_2_8_1), K1, P1_0, P1_1, P1_2, P1_3, P1_4⟩ (by decide) (by decide)
theorem rm22_0 (l : Launch) (Z : State) (a0 : Array Value) (hw : HW a0 Z) (ws : List Jvm.Cond) (o0 p2 : Addr) (sv_COMPACT_STRINGS : Int32) (k_p2 : ClassId) (l_1 : List Int32) (h0 : Heap) (n0 : Nat) (O0 : Old Z n0 h0) (E_o0 : Exa Z h0 o0 "java/lang/StringBuilder") (F_value_o0 : Fld Z h0 o0 "java/lang/AbstractStringBuilder" "value" "[B" (.ref p2)) (S_COMPACT_STRINGS : Sta Z Z.heap "java/lang/String" "COMPACT_STRINGS" "Z" (.int sv_COMPACT_STRINGS)) (F_coder_o0 : Fld Z h0 o0 "java/lang/AbstractStringBuilder" "coder" "B" (.int 0)) (V_p2 : Arv Z h0 p2 k_p2 .byte (70 : Int32) (List.map Value.int l_1) (.int 0)) (E_p2 : Exa Z h0 p2 "[B") (F_count_o0 : Fld Z h0 o0 "java/lang/AbstractStringBuilder" "count" "I" (.int (own_n l_1))) (sh_l_1 : l_1.length ≤ 38) (hCS : ¬ (sv_COMPACT_STRINGS = (0 : Int32))) :
    Con l Z (⟨"java/lang/StringBuilder", "toString", "()Ljava/lang/String;"⟩ : MethodName) jdk_67_method_42_code 1 (some (.object "java/lang/String")) ws ({ frames := 5, cells := 2, slots := 42, locals := 79 } : Room) #[(.ref o0)] h0 (fun v h L => ∃ (b1 : Addr), ∃ (b2_2_8_1_2 : Addr), ∃ (k2_2_8_1_2 : ClassId), v = some (.ref b1) ∧ Fr n0 L ∧ h0.size ≤ b1 ∧ h0.size ≤ b2_2_8_1_2 ∧ Keep h0 h [] ∧ Exa Z h b1 "java/lang/String" ∧ Fld Z h b1 "java/lang/String" "value" "[B" (.ref b2_2_8_1_2) ∧ Fld Z h b1 "java/lang/String" "coder" "B" (.int 0) ∧ Exa Z h b2_2_8_1_2 "[B" ∧ Arv Z h b2_2_8_1_2 k2_2_8_1_2 .byte (own_n l_1) (List.map Value.int l_1) (.int 0)) := by
 refine own_body (plainFor_of_name own_pn7) (fun m => ef_rm7_0 m o0) ?_
 intro p e s m below meth c s₁ hx hby hlk hml hret hZ hown hnm X0 e0
 have N0 := Fr.nil n0
 refine Home.nw (own_newO X0 hx hZ hown (w150 hw) (w2 hw) (w1 hw) e0 rfl (hb hby d22_0) (by decide) (by decide)) fun T1 h1 b1 g1 X1 e1 E1 A1 D1 => ?_
 have g_b1 : n0 ≤ b1 := Nat.le_trans (Old.le O0) (Nat.le_of_eq g1.symm)
 have F_value_b1 : Fld Z h1 b1 "java/lang/String" "value" "[B" .null := D1 (Or.inr (w4 hw)) (ty := (.array .byte)) (by decide)
 have F_coder_b1 : Fld Z h1 b1 "java/lang/String" "coder" "B" (.int 0) := D1 (Or.inr (w5 hw)) (ty := .byte) (by decide)
 have O1 := O0.ext E1
 have K1 : Keep h0 h1 ([] : List Addr) := Keep.ext (Keep.refl h0 ([] : List Addr)) E1
 refine Rn X1 hx hby sg22_3_2 5 #[sr o0] [(.ref o0), (.ref b1), (.ref b1)] rfl ?_
 refine Home.call (own_special X1 hx hZ hown rfl (w151 hw) (w152 hw) (w1 hw) (w153 hw) (by decide) (rm23_0 l Z a0 hw [] b1 o0 p2 sv_COMPACT_STRINGS k_p2 l_1 h1 n0 O1 (E_o0.keep K1) (F_value_o0.keep K1 nin0) S_COMPACT_STRINGS (F_coder_o0.keep K1 nin0) A1 F_coder_b1 (V_p2.keep K1 nin0) (E_p2.keep K1) F_value_b1 (F_count_o0.keep K1 nin0) g_b1 (Nat.le_trans (own_len_le sh_l_1).2 (by decide)) hCS) e1 rfl (by rw [hml]; rfl) (a := b1) (argsL := [(.ref o0)]) (rest := [(.ref b1)]) (lenOf own_pd34 rfl) rfl rfl (W := 1) (hb hby d22_5)) ?_
 rintro _ T2 L2 X2 ⟨b2_2_8_1_2, k2_2_8_1_2, rfl, N2q, sz_b2_2_8_1_2, K2q, P2_0, P2_1, P2_2, P2_3, P2_4⟩
 have g_b2_2_8_1_2 : n0 ≤ b2_2_8_1_2 := Nat.le_trans (Old.le O1) sz_b2_2_8_1_2
 have K2 : Keep h0 T2.heap ([] : List Addr) := Keep.trans K1 K2q (allS (Or.inr (Nat.le_trans (Nat.le_refl _) (Nat.le_of_eq g1.symm))) all0)
 have N2 := Fr.app N0 N2q
 exact Home.retR X2 hx hlk hret rfl rfl (hb hby d22_8) ⟨b1, b2_2_8_1_2, k2_2_8_1_2, rfl, N2, (Nat.le_trans (Nat.le_refl _) (Nat.le_of_eq g1.symm)), (Nat.le_trans E1.1 sz_b2_2_8_1_2), K2, P2_0, P2_2, P2_1, P2_3, P2_4⟩ (by decide) (by decide)
theorem rm9_3 (l : Launch) (Z : State) (a0 : Array Value) (hw : HW a0 Z) (ws : List Jvm.Cond) (o0 : Addr) (i1 : Int32) (p2 : Addr) (k_p2 : ClassId) (l_1 : List Int32) (sv_COMPACT_STRINGS : Int32) (sv_DigitOnes : Addr) (k_ones : ClassId) (sv_DigitTens : Addr) (k_tens : ClassId) (h0 : Heap) (n0 : Nat) (O0 : Old Z n0 h0) (pt0 : ¬ ((0 : Int32) < ((own_n (l_1 ++ (own_put i1))) - (34 : Int32)))) (sh_l_1 : l_1.length ≤ 27) (E_o0 : Exa Z h0 o0 "java/lang/StringBuilder") (F_value_o0 : Fld Z h0 o0 "java/lang/AbstractStringBuilder" "value" "[B" (.ref p2)) (V_p2 : Arv Z h0 p2 k_p2 .byte (34 : Int32) (List.map Value.int l_1) (.int 0)) (F_coder_o0 : Fld Z h0 o0 "java/lang/AbstractStringBuilder" "coder" "B" (.int 0)) (S_COMPACT_STRINGS : Sta Z Z.heap "java/lang/String" "COMPACT_STRINGS" "Z" (.int sv_COMPACT_STRINGS)) (S_DigitOnes : Sta Z Z.heap "java/lang/Integer" "DigitOnes" "[B" (.ref sv_DigitOnes)) (V_ones : Arv Z Z.heap sv_DigitOnes k_ones .byte (100 : Int32) (List.map Value.int own_ones) (.int 0)) (S_DigitTens : Sta Z Z.heap "java/lang/Integer" "DigitTens" "[B" (.ref sv_DigitTens)) (V_tens : Arv Z Z.heap sv_DigitTens k_tens .byte (100 : Int32) (List.map Value.int own_tens) (.int 0)) (E_p2 : Exa Z h0 p2 "[B") (F_count_o0 : Fld Z h0 o0 "java/lang/AbstractStringBuilder" "count" "I" (.int (own_n l_1))) (g_p2 : n0 ≤ p2) (g_o0 : n0 ≤ o0) (hCS : ¬ (sv_COMPACT_STRINGS = (0 : Int32))) :
    Con l Z (⟨"java/lang/StringBuilder", "append", "(I)Ljava/lang/StringBuilder;"⟩ : MethodName) jdk_67_method_15_code 2 (some (.object "java/lang/StringBuilder")) ws ({ frames := 2, cells := 0, slots := 0, locals := 33 } : Room) #[(.ref o0), (.int i1)] h0 (fun v h L => v = some (.ref o0) ∧ Fr n0 L ∧ Keep h0 h [o0, p2] ∧ Exa Z h o0 "java/lang/StringBuilder" ∧ Fld Z h o0 "java/lang/AbstractStringBuilder" "value" "[B" (.ref p2) ∧ Fld Z h o0 "java/lang/AbstractStringBuilder" "coder" "B" (.int 0) ∧ Fld Z h o0 "java/lang/AbstractStringBuilder" "count" "I" (.int (own_n (l_1 ++ (own_put i1)))) ∧ Arv Z h p2 k_p2 .byte (34 : Int32) (List.map Value.int (l_1 ++ (own_put i1))) (.int 0) ∧ Exa Z h p2 "[B") := by
 refine own_body (plainFor_of_name own_pn7) (fun m => ef_rm50_0 m o0 i1) ?_
 intro p e s m below meth c s₁ hx hby hlk hml hret hZ hown hnm X0 e0
 have N0 := Fr.nil n0
 have lf901 : 1 ≤ (l_1 ++ (own_put i1)).length ∧ (l_1 ++ (own_put i1)).length ≤ 34 := own_fit (K := 34) pt0 (own_len_app (own_len_le sh_l_1) (own_put_len i1)) (by decide) (by decide)
 refine Rn X0 hx hby sg9_0_2 2 #[sr o0, si i1] [(.int i1), (.ref o0)] rfl ?_
 refine Home.call (own_super X0 hx hZ hown (w77 hw) (own_samem (w78 hw) (w91 hw) rfl (by decide)) (w78 hw) (w79 hw) (by decide) (w64 hw) (w81 hw) (rm10_4 l Z a0 hw [] o0 i1 l_1 p2 k_p2 sv_COMPACT_STRINGS sv_DigitOnes k_ones sv_DigitTens k_tens h0 n0 O0 pt0 (Nat.le_trans (own_len_le sh_l_1).2 (by decide)) F_count_o0 E_o0 F_value_o0 V_p2 F_coder_o0 S_COMPACT_STRINGS hCS S_DigitOnes V_ones S_DigitTens V_tens E_p2 g_p2 g_o0) e0 E_o0 rfl (by rw [hml]; rfl) (argsL := [(.int i1)]) (rest := []) (lenOf own_pd21 rfl) rfl rfl (W := 0) (hb hby d9_2)) ?_
 rintro _ T1 L1 X1 ⟨rfl, N1q, K1q, P1_0, P1_1, P1_2, P1_3, P1_4, P1_5⟩
 have K1 : Keep h0 T1.heap ([o0, p2] : List Addr) := Keep.trans (Keep.refl h0 ([o0, p2] : List Addr)) K1q (allS (Or.inl (List.mem_of_getElem? (i := 1) rfl)) (allS (Or.inl (List.mem_of_getElem? (i := 0) rfl)) all0))
 have N1 := Fr.app N0 N1q
 refine Rn X1 hx hby sg9_5_2 7 #[sr o0, si i1] [(.ref o0)] rfl ?_
 exact Home.retR X1 hx hlk hret rfl rfl (hb hby d9_7) ⟨rfl, N1, K1, P1_3, P1_4, P1_5, P1_2, P1_0, P1_1⟩ (by decide) (by decide)
theorem rm31_3 (l : Launch) (Z : State) (a0 : Array Value) (hw : HW a0 Z) (ws : List Jvm.Cond) (l_1 : List Int32) (h0 : Heap) (n0 : Nat) (O0 : Old Z n0 h0) (pt0 : (own_n l_1) < (34 : Int32)) (sh_l_1 : l_1.length ≤ 34) :
    Con l Z (⟨"java/lang/Math", "min", "(II)I"⟩ : MethodName) jdk_29_method_69_code 2 (some .int) ws ({ frames := 0, cells := 0, slots := 0, locals := 0 } : Room) #[(.int 34), (.int (own_n l_1))] h0 (Pur (some (.int (own_n l_1))) h0) := by
 refine own_body (Jvm.Free.JP.mathPlain rfl (by decide +kernel)) (fun m => ef_rm44_0 m (34 : Int32) (own_n l_1)) ?_
 intro p e s m below meth c s₁ hx hby hlk hml hret hZ hown hnm X0 e0
 refine Rn X0 hx hby sg31_0_2 2 #[si 34, .val (.int (own_n l_1))] [(.int (own_n l_1)), (.int 34)] rfl ?_
 refine Home.go (fun _ => XS.icmpYes X0.here hx rfl (pc0 := 2) (pc' := 9) rfl (hb hby d31_2) rfl (tlt pt0).2.2.1 (by decide) (by decide)) ?_
 refine Rn X0 hx hby sg31_9_1 10 #[si 34, .val (.int (own_n l_1))] [(.int (own_n l_1))] rfl ?_
 exact Home.retI X0 hx hlk hret (hb hby d31_10) ⟨rfl, rfl, e0⟩ (by decide) (by decide)
theorem rm31_4 (l : Launch) (Z : State) (a0 : Array Value) (hw : HW a0 Z) (ws : List Jvm.Cond) (l_1 : List Int32) (h0 : Heap) (n0 : Nat) (O0 : Old Z n0 h0) (pt0 : ¬ ((own_n l_1) < (34 : Int32))) (sh_l_1 : l_1.length ≤ 34) :
    Con l Z (⟨"java/lang/Math", "min", "(II)I"⟩ : MethodName) jdk_29_method_69_code 2 (some .int) ws ({ frames := 0, cells := 0, slots := 0, locals := 0 } : Room) #[(.int 34), (.int (own_n l_1))] h0 (Pur (some (.int 34)) h0) := by
 refine own_body (Jvm.Free.JP.mathPlain rfl (by decide +kernel)) (fun m => ef_rm44_0 m (34 : Int32) (own_n l_1)) ?_
 intro p e s m below meth c s₁ hx hby hlk hml hret hZ hown hnm X0 e0
 refine Rn X0 hx hby sg31_0_2 2 #[si 34, .val (.int (own_n l_1))] [(.int (own_n l_1)), (.int 34)] rfl ?_
 refine Home.go (fun _ => XS.icmpNo X0.here hx rfl (hb hby d31_2) rfl (flt pt0).2.2.1) ?_
 refine Rn X0 hx hby sg31_5_2 10 #[si 34, .val (.int (own_n l_1))] [(.int 34)] rfl ?_
 exact Home.retI X0 hx hlk hret (hb hby d31_10) ⟨rfl, rfl, e0⟩ (by decide) (by decide)
theorem rm29_1 (l : Launch) (Z : State) (a0 : Array Value) (hw : HW a0 Z) (ws : List Jvm.Cond) (o0 : Addr) (l_1 : List Int32) (k_o0 : ClassId) (h0 : Heap) (n0 : Nat) (O0 : Old Z n0 h0) (pt0 : (own_n l_1) < (34 : Int32)) (sh_l_1 : l_1.length ≤ 34) (V_o0 : Arv Z h0 o0 k_o0 .byte (34 : Int32) (List.map Value.int l_1) (.int 0)) :
    Con l Z (⟨"java/util/Arrays", "copyOfRangeByte", "([BII)[B"⟩ : MethodName) jdk_65_method_133_code 5 (some (.array .byte)) ws ({ frames := 1, cells := 1, slots := 33, locals := 18 } : Room) #[(.ref o0), (.int 0), (.int (own_n l_1))] h0 (fun v h L => ∃ (b2 : Addr), ∃ (k2 : ClassId), v = some (.ref b2) ∧ Fr n0 L ∧ h0.size ≤ b2 ∧ Keep h0 h [] ∧ Exa Z h b2 "[B" ∧ Arv Z h b2 k2 .byte (own_n l_1) (List.map Value.int l_1) (.int 0)) := by
 refine own_body (plainFor_of_name own_pn10) (fun m => ef_rm29_0 m o0 (0 : Int32) (own_n l_1)) ?_
 intro p e s m below meth c s₁ hx hby hlk hml hret hZ hown hnm X0 e0
 have N0 := Fr.nil n0
 have bd901 : ¬ (own_n l_1) < (0 : Int32) ∧ ¬ (33 : Int32) < (own_n l_1) := ⟨(own_n_b (a := 0) (b := 34) (own_len_le sh_l_1) (lo := (0 : Int32)) (hi := (34 : Int32)) (by decide) (by decide) (by decide)).1, (bnd_dn pt0 (by decide +kernel))⟩
 refine Rn X0 hx hby sg29_0_2 2 #[sr o0, si 0, .val (.int (own_n l_1)), un, un] [(.int (own_n l_1)), (.int 0)] rfl ?_
 refine Home.st (own_pure (own_static X0 hx hZ hown (w179 hw) (w180 hw) (w174 hw) (w181 hw) (by decide) (rm30_0 l Z a0 hw [] l_1 h0 n0 O0 (Nat.le_trans (own_len_le sh_l_1).2 (by decide))) e0 rfl (by rw [hml]; rfl) (argsL := [(.int 0), (.int (own_n l_1))]) (rest := []) (lenOf own_pd31 rfl) rfl rfl (W := 0) (hb hby d29_2))) fun T1 X1 e1 => ?_
 refine Rn X1 hx hby sg29_5_3 8 #[sr o0, si 0, .val (.int (own_n l_1)), un, un] [(.int ((own_n l_1) - (0 : Int32)))] rfl ?_
 rw [own_sub0]
 refine Rn X1 hx hby sg29_8_2 10 #[sr o0, si 0, .val (.int (own_n l_1)), .val (.int (own_n l_1)), un] [(.int (own_n l_1))] rfl ?_
 refine Home.na (own_newPE (aty := .byte) X1 hx hZ (w3 hw) e1 (g := (mkF m 10 #[.val (.ref o0), .val (.int 0), .val (.int (own_n l_1)), .val (.int (own_n l_1)), .unset] [(.int (own_n l_1))])) rfl (hb hby d29_10) rfl (bnd_nlt bd901 (bnd_lit (0 : Int32)) (by decide +kernel)) (cap := 33) (own_capb bd901 (by decide)) (by decide) (by decide) (by decide)) fun T2 h2 k2 b2 g2 X2 e2 E2 AE2 => ?_
 have A2 := AE2.1
 have Ex2 := AE2.2
 have g_b2 : n0 ≤ b2 := Nat.le_trans (Old.le O0) (Nat.le_of_eq g2.symm)
 have V2 : Arv Z h2 b2 k2 .byte (own_n l_1) (List.map Value.int []) (.int 0) := Arv.new A2 (bnd_nlt bd901 (bnd_lit (0 : Int32)) (by decide +kernel))
 have O2 := O0.ext E2
 have K2 : Keep h0 h2 ([] : List Addr) := Keep.ext (Keep.refl h0 ([] : List Addr)) E2
 refine Rn X2 hx hby sg29_12_6 20 #[sr o0, si 0, .val (.int (own_n l_1)), .val (.int (own_n l_1)), sr b2] [(.ref o0), (.int 0), (.ref b2), (.int 0), (.ref o0)] rfl ?_
 obtain ⟨cl3, Ar3, q3, S3, M3, H3, G3⟩ := id (V_o0.keep K2 nin0)
 refine Home.go (own_alen X2 hx hZ e2 Ar3 S3 M3 rfl rfl (hb hby d29_20)) ?_
 show Home T2 (mkF m 21 #[sr o0, si 0, .val (.int (own_n l_1)), .val (.int (own_n l_1)), sr b2] [(.int 34), (.int 0), (.ref b2), (.int 0), (.ref o0)])
 refine Rn X2 hx hby sg29_21_3 24 #[sr o0, si 0, .val (.int (own_n l_1)), .val (.int (own_n l_1)), sr b2] [(.int (own_n l_1)), (.int 34), (.int 0), (.ref b2), (.int 0), (.ref o0)] rfl ?_
 refine Home.st (own_pure (own_static X2 hx hZ hown (w182 hw) (w183 hw) (w184 hw) (w185 hw) (by decide) (rm31_3 l Z a0 hw [] l_1 h2 n0 O2 pt0 (Nat.le_trans (own_len_le sh_l_1).2 (by decide))) e2 rfl (by rw [hml]; rfl) (argsL := [(.int 34), (.int (own_n l_1))]) (rest := [(.int 0), (.ref b2), (.int 0), (.ref o0)]) (lenOf own_pd16 rfl) rfl rfl (W := 4) (hb hby d29_24))) fun T4 X4 e4 => ?_
 refine Home.cp (own_cpS X4 hx hZ hown (w186 hw) (w144 hw) (w142 hw) (w143 hw) e4 (V_o0.keep K2 nin0) V2 (Y := []) (X := l_1) (Nat.le_trans (own_len_le sh_l_1).2 (by decide)) (Nat.le_trans (Nat.le_of_eq (Nat.zero_add _)) (own_n_le (own_len_le sh_l_1))) (Nat.lt_of_le_of_lt (own_len_app (own_len_lit (l := []) (n := 0) rfl) (own_len_le sh_l_1)).2 (by decide)) (dp := (0 : Int32)) rfl N0 g_b2 (g := (mkF m 27 #[.val (.ref o0), .val (.int 0), .val (.int (own_n l_1)), .val (.int (own_n l_1)), .val (.ref b2)] [(.int (own_n l_1)), (.int 0), (.ref b2), (.int 0), (.ref o0)])) rfl (by rw [hml]; rfl) rfl (hb hby d29_27) (by decide) (W := 0) (by exact hW0) (by decide)) fun T5 h5 L5 X5 e5 N5 K5q Vq5 => ?_
 have V5 : Arv Z h5 b2 k2 .byte (own_n l_1) (List.map Value.int l_1) (.int 0) := Vq5
 have K5 : Keep h0 h5 ([] : List Addr) := Keep.trans K2 K5q (allS (Or.inr (Nat.le_trans (Nat.le_refl _) (Nat.le_of_eq g2.symm))) all0)
 refine Rn X5 hx hby sg29_30_1 32 #[sr o0, si 0, .val (.int (own_n l_1)), .val (.int (own_n l_1)), sr b2] [(.ref b2)] rfl ?_
 have q6 := (Ex2.keep K5q)
 exact Home.retR X5 hx hlk hret rfl rfl (hb hby d29_32) (by rw [show T5.heap = h5 from e5]; exact ⟨b2, k2, rfl, N5, (Nat.le_trans (Nat.le_refl _) (Nat.le_of_eq g2.symm)), K5, q6, V5⟩) (by decide) (by decide)
theorem rm28_1 (l : Launch) (Z : State) (a0 : Array Value) (hw : HW a0 Z) (ws : List Jvm.Cond) (o0 : Addr) (l_1 : List Int32) (k_o0 : ClassId) (h0 : Heap) (n0 : Nat) (O0 : Old Z n0 h0) (pt0 : (own_n l_1) = (34 : Int32)) (sh_l_1 : l_1.length ≤ 34) (V_o0 : Arv Z h0 o0 k_o0 .byte (34 : Int32) (List.map Value.int l_1) (.int 0)) (E_o0 : Exa Z h0 o0 "[B") :
    Con l Z (⟨"java/util/Arrays", "copyOfRange", "([BII)[B"⟩ : MethodName) jdk_65_method_132_code 3 (some (.array .byte)) ws ({ frames := 1, cells := 1, slots := 34, locals := 14 } : Room) #[(.ref o0), (.int 0), (.int (own_n l_1))] h0 (fun v h L => ∃ (b2 : Addr), v = some (.ref b2) ∧ Fr n0 L ∧ h0.size ≤ b2 ∧ Keep h0 h [] ∧ Arv Z h b2 k_o0 .byte (own_n l_1) (List.map Value.int l_1) (.int 0) ∧ Exa Z h b2 "[B") := by
 refine own_body (plainFor_of_name own_pn10) (fun m => ef_rm28_0 m o0 (0 : Int32) (own_n l_1)) ?_
 intro p e s m below meth c s₁ hx hby hlk hml hret hZ hown hnm X0 e0
 have N0 := Fr.nil n0
 refine Rn X0 hx hby sg28_0_1 1 #[sr o0, si 0, .val (.int (own_n l_1))] [(.int 0)] rfl ?_
 refine Home.go (fun _ => XS.ifNo X0.here hx rfl (hb hby d28_1) rfl ((if0 _ _).trans (teq (by decide)).2)) ?_
 refine Rn X0 hx hby sg28_4_2 6 #[sr o0, si 0, .val (.int (own_n l_1))] [(.ref o0), (.int (own_n l_1))] rfl ?_
 obtain ⟨cl1, Ar1, q1, S1, M1, H1, G1⟩ := id V_o0
 refine Home.go (own_alen X0 hx hZ e0 Ar1 S1 M1 rfl rfl (hb hby d28_6)) ?_
 refine Home.go (fun _ => XS.icmpYes X0.here hx rfl (pc0 := 7) (pc' := 17) rfl (hb hby d28_7) rfl (teq pt0).1 (by decide) (by decide)) ?_
 refine Rn X0 hx hby sg28_17_1 18 #[sr o0, si 0, .val (.int (own_n l_1))] [(.ref o0)] rfl ?_
 refine Home.nw (own_clone X0 hx hZ hown (w244 hw) (w245 hw) (w249 hw) (w247 hw) (w248 hw) (w250 hw) e0 V_o0 E_o0 (g := (mkF m 18 #[.val (.ref o0), .val (.int 0), .val (.int (own_n l_1))] [(.ref o0)])) rfl (by rw [hml]; rfl) rfl (hb hby d28_18) (by decide) (W := 0) (by exact hW0) (by decide) (cap := 34) (by decide) (by decide) (by decide)) fun T2 h2 b2 g2 X2 e2 E2 V2 A2 => ?_
 have g_b2 : n0 ≤ b2 := Nat.le_trans (Old.le O0) (Nat.le_of_eq g2.symm)
 have K2 : Keep h0 h2 ([] : List Addr) := Keep.ext (Keep.refl h0 ([] : List Addr)) E2
 refine Home.st (castY X2 hx hZ hown (w251 hw) e2 (Ins.self A2) rfl rfl (hb hby d28_21)) fun T3 X3 e3 => ?_
 have V4 : Arv Z h2 b2 k_o0 .byte (own_n l_1) (List.map Value.int l_1) (.int 0) := by have q := V2; rw [← (pt0 : (own_n l_1) = (34 : Int32))] at q; exact q
 exact Home.retR X3 hx hlk hret rfl rfl (hb hby d28_24) (by rw [show T3.heap = h2 from e3]; exact ⟨b2, rfl, N0, (Nat.le_trans (Nat.le_refl _) (Nat.le_of_eq g2.symm)), K2, V4, A2⟩) (by decide) (by decide)
theorem rm28_2 (l : Launch) (Z : State) (a0 : Array Value) (hw : HW a0 Z) (ws : List Jvm.Cond) (o0 : Addr) (l_1 : List Int32) (k_o0 : ClassId) (h0 : Heap) (n0 : Nat) (O0 : Old Z n0 h0) (pt0 : ¬ ((own_n l_1) = (34 : Int32))) (sh_l_1 : l_1.length ≤ 34) (V_o0 : Arv Z h0 o0 k_o0 .byte (34 : Int32) (List.map Value.int l_1) (.int 0)) :
    Con l Z (⟨"java/util/Arrays", "copyOfRange", "([BII)[B"⟩ : MethodName) jdk_65_method_132_code 3 (some (.array .byte)) ws ({ frames := 2, cells := 1, slots := 33, locals := 34 } : Room) #[(.ref o0), (.int 0), (.int (own_n l_1))] h0 (fun v h L => ∃ (b2_2 : Addr), ∃ (k2_2 : ClassId), v = some (.ref b2_2) ∧ Fr n0 L ∧ h0.size ≤ b2_2 ∧ Keep h0 h [] ∧ Exa Z h b2_2 "[B" ∧ Arv Z h b2_2 k2_2 .byte (own_n l_1) (List.map Value.int l_1) (.int 0)) := by
 refine own_body (plainFor_of_name own_pn10) (fun m => ef_rm28_0 m o0 (0 : Int32) (own_n l_1)) ?_
 intro p e s m below meth c s₁ hx hby hlk hml hret hZ hown hnm X0 e0
 have N0 := Fr.nil n0
 have bd901 : ¬ (own_n l_1) < (0 : Int32) ∧ ¬ (33 : Int32) < (own_n l_1) := ⟨(own_n_b (a := 0) (b := 34) (own_len_le sh_l_1) (lo := (0 : Int32)) (hi := (34 : Int32)) (by decide) (by decide) (by decide)).1, (bnd_ner (own_n_b (a := 0) (b := 34) (own_len_le sh_l_1) (lo := (0 : Int32)) (hi := (34 : Int32)) (by decide) (by decide) (by decide)).2 pt0 (by decide +kernel))⟩
 refine Rn X0 hx hby sg28_0_1 1 #[sr o0, si 0, .val (.int (own_n l_1))] [(.int 0)] rfl ?_
 refine Home.go (fun _ => XS.ifNo X0.here hx rfl (hb hby d28_1) rfl ((if0 _ _).trans (teq (by decide)).2)) ?_
 refine Rn X0 hx hby sg28_4_2 6 #[sr o0, si 0, .val (.int (own_n l_1))] [(.ref o0), (.int (own_n l_1))] rfl ?_
 obtain ⟨cl1, Ar1, q1, S1, M1, H1, G1⟩ := id V_o0
 refine Home.go (own_alen X0 hx hZ e0 Ar1 S1 M1 rfl rfl (hb hby d28_6)) ?_
 refine Home.go (fun _ => XS.icmpNo X0.here hx rfl (hb hby d28_7) rfl (feq pt0).1) ?_
 refine Rn X0 hx hby sg28_10_3 13 #[sr o0, si 0, .val (.int (own_n l_1))] [(.int (own_n l_1)), (.int 0), (.ref o0)] rfl ?_
 refine Home.call (own_static X0 hx hZ hown (w176 hw) (w177 hw) (w174 hw) (w178 hw) (by decide) (rm29_1 l Z a0 hw [] o0 l_1 k_o0 h0 n0 O0 (bnd_lt bd901 (bnd_lit (34 : Int32)) (by decide +kernel)) (Nat.le_trans (own_len_le sh_l_1).2 (by decide)) V_o0) e0 rfl (by rw [hml]; rfl) (argsL := [(.ref o0), (.int 0), (.int (own_n l_1))]) (rest := []) (lenOf own_pd32 rfl) rfl rfl (W := 0) (hb hby d28_13)) ?_
 rintro _ T2 L2 X2 ⟨b2_2, k2_2, rfl, N2q, sz_b2_2, K2q, P2_0, P2_1⟩
 have g_b2_2 : n0 ≤ b2_2 := Nat.le_trans (Old.le O0) sz_b2_2
 have K2 : Keep h0 T2.heap ([] : List Addr) := Keep.trans (Keep.refl h0 ([] : List Addr)) K2q all0
 have N2 := Fr.app N0 N2q
 exact Home.retR X2 hx hlk hret rfl rfl (hb hby d28_16) ⟨b2_2, k2_2, rfl, N2, (Nat.le_trans (Nat.le_refl _) sz_b2_2), K2, P2_0, P2_1⟩ (by decide) (by decide)
theorem rm24_1 (l : Launch) (Z : State) (a0 : Array Value) (hw : HW a0 Z) (ws : List Jvm.Cond) (o0 o1 p3 : Addr) (l_1 : List Int32) (sv_COMPACT_STRINGS : Int32) (k_p3 : ClassId) (h0 : Heap) (n0 : Nat) (O0 : Old Z n0 h0) (pt0 : (own_n l_1) = (34 : Int32)) (sh_l_1 : l_1.length ≤ 34) (E_o1 : Exa Z h0 o1 "java/lang/StringBuilder") (F_value_o1 : Fld Z h0 o1 "java/lang/AbstractStringBuilder" "value" "[B" (.ref p3)) (F_count_o1 : Fld Z h0 o1 "java/lang/AbstractStringBuilder" "count" "I" (.int (own_n l_1))) (S_COMPACT_STRINGS : Sta Z Z.heap "java/lang/String" "COMPACT_STRINGS" "Z" (.int sv_COMPACT_STRINGS)) (F_coder_o1 : Fld Z h0 o1 "java/lang/AbstractStringBuilder" "coder" "B" (.int 0)) (hCS : ¬ (sv_COMPACT_STRINGS = (0 : Int32))) (E_o0 : Exa Z h0 o0 "java/lang/String") (F_coder_o0 : Fld Z h0 o0 "java/lang/String" "coder" "B" (.int 0)) (g_o0 : n0 ≤ o0) (V_p3 : Arv Z h0 p3 k_p3 .byte (34 : Int32) (List.map Value.int l_1) (.int 0)) (E_p3 : Exa Z h0 p3 "[B") (F_value_o0 : Fld Z h0 o0 "java/lang/String" "value" "[B" .null) :
    Con l Z (⟨"java/lang/String", "<init>", "(Ljava/lang/AbstractStringBuilder;Ljava/lang/Void;)V"⟩ : MethodName) jdk_42_method_150_code 5 none ws ({ frames := 2, cells := 1, slots := 34, locals := 29 } : Room) #[(.ref o0), (.ref o1), .null] h0 (fun v h L => ∃ (b2_8 : Addr), v = none ∧ Fr n0 L ∧ h0.size ≤ b2_8 ∧ Keep h0 h [o0] ∧ Exa Z h o0 "java/lang/String" ∧ Fld Z h o0 "java/lang/String" "coder" "B" (.int 0) ∧ Fld Z h o0 "java/lang/String" "value" "[B" (.ref b2_8) ∧ Arv Z h b2_8 k_p3 .byte (own_n l_1) (List.map Value.int l_1) (.int 0) ∧ Exa Z h b2_8 "[B") := by
 refine own_body (plainFor_of_name own_pn1) (fun m => ef_rm24_0 m o0 o1) ?_
 intro p e s m below meth c s₁ hx hby hlk hml hret hZ hown hnm X0 e0
 have N0 := Fr.nil n0
 refine Rn X0 hx hby sg24_0_1 1 #[sr o0, sr o1, .val .null, un, un] [(.ref o0)] rfl ?_
 refine Home.st (initO X0 hx hZ hown (w157 hw) (w32 hw) (w33 hw) e0 rfl (by rw [hml]; rfl) rfl (hb hby d24_1) (by decide) (W := 0) (by exact hW0) (by decide)) fun T1 X1 e1 => ?_
 refine Rn X1 hx hby sg24_4_1 5 #[sr o0, sr o1, .val .null, un, un] [(.ref o1)] rfl ?_
 refine Home.st (own_pure (own_virtual X1 hx hZ hown (w158 hw) (w159 hw) (notFace_of_selects (args := #[]) (mvT hZ (w161 hw))) (w161 hw) (w160 hw) (w64 hw) (w162 hw) (by decide) (rm25_0 l Z a0 hw [] o1 p3 h0 n0 O0 F_value_o1) e1 E_o1 rfl (by rw [hml]; rfl) (argsL := []) (rest := []) (lenOf own_pd30 rfl) rfl rfl (W := 0) (hb hby d24_5))) fun T2 X2 e2 => ?_
 refine Rn X2 hx hby sg24_8_2 10 #[sr o0, sr o1, .val .null, sr p3, un] [(.ref o1)] rfl ?_
 refine Home.st (own_pure (own_virtual X2 hx hZ hown (w163 hw) (w164 hw) (own_nfz (args := #[]) (mvT hZ (w91 hw)) rfl) (w166 hw) (w167 hw) (w56 hw) (w168 hw) (by decide) (rm26_0 l Z a0 hw [] o1 l_1 h0 n0 O0 E_o1 F_count_o1 (Nat.le_trans (own_len_le sh_l_1).2 (by decide))) e2 E_o1 rfl (by rw [hml]; rfl) (argsL := []) (rest := []) (lenOf own_pd24 rfl) rfl rfl (W := 0) (hb hby d24_10))) fun T3 X3 e3 => ?_
 refine Rn X3 hx hby sg24_13_2 16 #[sr o0, sr o1, .val .null, sr p3, .val (.int (own_n l_1))] [(.ref o1)] rfl ?_
 refine Home.st (own_pure (own_virtual X3 hx hZ hown (w171 hw) (w94 hw) (notFace_of_selects (args := #[]) (mvT hZ (w96 hw))) (w96 hw) (w95 hw) (w64 hw) (w97 hw) (by decide) (rm13_0 l Z a0 hw [] o1 sv_COMPACT_STRINGS h0 n0 O0 S_COMPACT_STRINGS hCS F_coder_o1) e3 E_o1 rfl (by rw [hml]; rfl) (argsL := []) (rest := []) (lenOf own_pd19 rfl) rfl rfl (W := 0) (hb hby d24_16))) fun T4 X4 e4 => ?_
 refine Home.go (fun _ => XS.ifNo X4.here hx rfl (hb hby d24_19) rfl ((if0 _ _).trans (feq (by decide)).1)) ?_
 refine Rn X4 hx hby sg24_22_2 24 #[sr o0, sr o1, .val .null, sr p3, .val (.int (own_n l_1))] [(.int 0), (.ref o0)] rfl ?_
 refine Home.wr (putFN X4 hx hZ hown (w124 hw) Via.refl e4 F_coder_o0 E_o0 (Or.inr ⟨(w5 hw), rfl, hnm⟩) (w2 hw) (ty := .byte) (v := (.int 0)) (v' := (.int 0)) (by decide) rfl rfl rfl rfl (hb hby d24_24)) fun T5 h5 X5 e5 W5 => ?_
 have Fw5 := F_coder_o0.same W5
 have O5 := O0.wr W5 g_o0
 have K5 : Keep h0 h5 ([o0] : List Addr) := Keep.wr (Keep.refl h0 ([o0] : List Addr)) W5 (Or.inl (List.mem_of_getElem? (i := 0) rfl))
 have N5 := Fr.snoc X5 N0 g_o0
 show Home T5 (mkF m 27 #[sr o0, sr o1, .val .null, sr p3, .val (.int (own_n l_1))] [])
 refine Rn X5 hx hby sg24_27_4 32 #[sr o0, sr o1, .val .null, sr p3, .val (.int (own_n l_1))] [(.int (own_n l_1)), (.int 0), (.ref p3), (.ref o0)] rfl ?_
 have ne6 : p3 ≠ o0 := (Ne.symm (own_neAV E_o0 (w2 hw) V_p3))
 have q7 := (V_p3.other W5 ne6)
 refine Home.call (own_static X5 hx hZ hown (w172 hw) (w173 hw) (w174 hw) (w175 hw) (by decide) (rm28_1 l Z a0 hw [] p3 l_1 k_p3 h5 n0 O5 pt0 (Nat.le_trans (own_len_le sh_l_1).2 (by decide)) q7 (E_p3.keep K5)) e5 rfl (by rw [hml]; rfl) (argsL := [(.ref p3), (.int 0), (.int (own_n l_1))]) (rest := [(.ref o0)]) (lenOf own_pd32 rfl) rfl rfl (W := 1) (hb hby d24_32)) ?_
 rintro _ T8 L8 X8 ⟨b2_8, rfl, N8q, sz_b2_8, K8q, P8_0, P8_1⟩
 have g_b2_8 : n0 ≤ b2_8 := Nat.le_trans (Old.le O5) sz_b2_8
 have K8 : Keep h0 T8.heap ([o0] : List Addr) := Keep.trans K5 K8q all0
 have N8 := Fr.app N5 N8q
 have q9 := ((F_value_o0.other W5 (Or.inr (slot_ne (Or.inr (w4 hw)) (Or.inr (w5 hw)) (by decide) (t := (.array .byte)) (t' := .byte) (by decide) (by decide)))).keep K8q nin0)
 refine Home.wr (putF X8 hx hZ hown (host := "") (Or.inl (w117 hw)) Via.refl rfl q9 (E_o0.keep K8) (Or.inr ⟨(w4 hw), rfl, hnm⟩) (w2 hw) (ty := (.array .byte)) (by decide) rfl rfl rfl rfl (hb hby d24_35)) fun T10 h10 X10 e10 W10 => ?_
 have Fw10 := q9.same W10
 have K10 : Keep h0 h10 ([o0] : List Addr) := Keep.wr K8 W10 (Or.inl (List.mem_of_getElem? (i := 0) rfl))
 have N10 := Fr.snoc X10 N8 g_o0
 show Home T10 (mkF m 38 #[sr o0, sr o1, .val .null, sr p3, .val (.int (own_n l_1))] [])
 refine Rn X10 hx hby sg24_38_1 97 #[sr o0, sr o1, .val .null, sr p3, .val (.int (own_n l_1))] [] rfl ?_
 have q11 := ((Fw5.keep K8q nin0).other W10 (Or.inr (slot_ne (Or.inr (w5 hw)) (Or.inr (w4 hw)) (by decide) (t := .byte) (t' := (.array .byte)) (by decide) (by decide))))
 have ne12 : b2_8 ≠ o0 := (Ne.symm (Nat.ne_of_lt (Nat.lt_of_lt_of_le Fw5.lt (Nat.le_trans (Nat.le_refl _) sz_b2_8))))
 have q13 := (P8_0.other W10 ne12)
 have q14 := (P8_1.wr W10)
 exact Home.ret0 X10 hx hlk hret (hb hby d24_97) (by rw [show T10.heap = h10 from e10]; exact ⟨b2_8, rfl, N10, (Nat.le_trans (Nat.le_of_eq W5.size.symm) sz_b2_8), K10, (E_o0.keep K10), q11, Fw10, q13, q14⟩) (by decide) (by decide)
theorem rm24_2 (l : Launch) (Z : State) (a0 : Array Value) (hw : HW a0 Z) (ws : List Jvm.Cond) (o0 o1 p3 : Addr) (l_1 : List Int32) (sv_COMPACT_STRINGS : Int32) (k_p3 : ClassId) (h0 : Heap) (n0 : Nat) (O0 : Old Z n0 h0) (pt0 : ¬ ((own_n l_1) = (34 : Int32))) (sh_l_1 : l_1.length ≤ 34) (E_o1 : Exa Z h0 o1 "java/lang/StringBuilder") (F_value_o1 : Fld Z h0 o1 "java/lang/AbstractStringBuilder" "value" "[B" (.ref p3)) (F_count_o1 : Fld Z h0 o1 "java/lang/AbstractStringBuilder" "count" "I" (.int (own_n l_1))) (S_COMPACT_STRINGS : Sta Z Z.heap "java/lang/String" "COMPACT_STRINGS" "Z" (.int sv_COMPACT_STRINGS)) (F_coder_o1 : Fld Z h0 o1 "java/lang/AbstractStringBuilder" "coder" "B" (.int 0)) (hCS : ¬ (sv_COMPACT_STRINGS = (0 : Int32))) (E_o0 : Exa Z h0 o0 "java/lang/String") (F_coder_o0 : Fld Z h0 o0 "java/lang/String" "coder" "B" (.int 0)) (g_o0 : n0 ≤ o0) (V_p3 : Arv Z h0 p3 k_p3 .byte (34 : Int32) (List.map Value.int l_1) (.int 0)) (E_p3 : Exa Z h0 p3 "[B") (F_value_o0 : Fld Z h0 o0 "java/lang/String" "value" "[B" .null) :
    Con l Z (⟨"java/lang/String", "<init>", "(Ljava/lang/AbstractStringBuilder;Ljava/lang/Void;)V"⟩ : MethodName) jdk_42_method_150_code 5 none ws ({ frames := 3, cells := 1, slots := 33, locals := 49 } : Room) #[(.ref o0), (.ref o1), .null] h0 (fun v h L => ∃ (b2_2_8 : Addr), ∃ (k2_2_8 : ClassId), v = none ∧ Fr n0 L ∧ h0.size ≤ b2_2_8 ∧ Keep h0 h [o0] ∧ Exa Z h o0 "java/lang/String" ∧ Fld Z h o0 "java/lang/String" "coder" "B" (.int 0) ∧ Fld Z h o0 "java/lang/String" "value" "[B" (.ref b2_2_8) ∧ Exa Z h b2_2_8 "[B" ∧ Arv Z h b2_2_8 k2_2_8 .byte (own_n l_1) (List.map Value.int l_1) (.int 0)) := by
 refine own_body (plainFor_of_name own_pn1) (fun m => ef_rm24_0 m o0 o1) ?_
 intro p e s m below meth c s₁ hx hby hlk hml hret hZ hown hnm X0 e0
 have N0 := Fr.nil n0
 refine Rn X0 hx hby sg24_0_1 1 #[sr o0, sr o1, .val .null, un, un] [(.ref o0)] rfl ?_
 refine Home.st (initO X0 hx hZ hown (w157 hw) (w32 hw) (w33 hw) e0 rfl (by rw [hml]; rfl) rfl (hb hby d24_1) (by decide) (W := 0) (by exact hW0) (by decide)) fun T1 X1 e1 => ?_
 refine Rn X1 hx hby sg24_4_1 5 #[sr o0, sr o1, .val .null, un, un] [(.ref o1)] rfl ?_
 refine Home.st (own_pure (own_virtual X1 hx hZ hown (w158 hw) (w159 hw) (notFace_of_selects (args := #[]) (mvT hZ (w161 hw))) (w161 hw) (w160 hw) (w64 hw) (w162 hw) (by decide) (rm25_0 l Z a0 hw [] o1 p3 h0 n0 O0 F_value_o1) e1 E_o1 rfl (by rw [hml]; rfl) (argsL := []) (rest := []) (lenOf own_pd30 rfl) rfl rfl (W := 0) (hb hby d24_5))) fun T2 X2 e2 => ?_
 refine Rn X2 hx hby sg24_8_2 10 #[sr o0, sr o1, .val .null, sr p3, un] [(.ref o1)] rfl ?_
 refine Home.st (own_pure (own_virtual X2 hx hZ hown (w163 hw) (w164 hw) (own_nfz (args := #[]) (mvT hZ (w91 hw)) rfl) (w166 hw) (w167 hw) (w56 hw) (w168 hw) (by decide) (rm26_0 l Z a0 hw [] o1 l_1 h0 n0 O0 E_o1 F_count_o1 (Nat.le_trans (own_len_le sh_l_1).2 (by decide))) e2 E_o1 rfl (by rw [hml]; rfl) (argsL := []) (rest := []) (lenOf own_pd24 rfl) rfl rfl (W := 0) (hb hby d24_10))) fun T3 X3 e3 => ?_
 refine Rn X3 hx hby sg24_13_2 16 #[sr o0, sr o1, .val .null, sr p3, .val (.int (own_n l_1))] [(.ref o1)] rfl ?_
 refine Home.st (own_pure (own_virtual X3 hx hZ hown (w171 hw) (w94 hw) (notFace_of_selects (args := #[]) (mvT hZ (w96 hw))) (w96 hw) (w95 hw) (w64 hw) (w97 hw) (by decide) (rm13_0 l Z a0 hw [] o1 sv_COMPACT_STRINGS h0 n0 O0 S_COMPACT_STRINGS hCS F_coder_o1) e3 E_o1 rfl (by rw [hml]; rfl) (argsL := []) (rest := []) (lenOf own_pd19 rfl) rfl rfl (W := 0) (hb hby d24_16))) fun T4 X4 e4 => ?_
 refine Home.go (fun _ => XS.ifNo X4.here hx rfl (hb hby d24_19) rfl ((if0 _ _).trans (feq (by decide)).1)) ?_
 refine Rn X4 hx hby sg24_22_2 24 #[sr o0, sr o1, .val .null, sr p3, .val (.int (own_n l_1))] [(.int 0), (.ref o0)] rfl ?_
 refine Home.wr (putFN X4 hx hZ hown (w124 hw) Via.refl e4 F_coder_o0 E_o0 (Or.inr ⟨(w5 hw), rfl, hnm⟩) (w2 hw) (ty := .byte) (v := (.int 0)) (v' := (.int 0)) (by decide) rfl rfl rfl rfl (hb hby d24_24)) fun T5 h5 X5 e5 W5 => ?_
 have Fw5 := F_coder_o0.same W5
 have O5 := O0.wr W5 g_o0
 have K5 : Keep h0 h5 ([o0] : List Addr) := Keep.wr (Keep.refl h0 ([o0] : List Addr)) W5 (Or.inl (List.mem_of_getElem? (i := 0) rfl))
 have N5 := Fr.snoc X5 N0 g_o0
 show Home T5 (mkF m 27 #[sr o0, sr o1, .val .null, sr p3, .val (.int (own_n l_1))] [])
 refine Rn X5 hx hby sg24_27_4 32 #[sr o0, sr o1, .val .null, sr p3, .val (.int (own_n l_1))] [(.int (own_n l_1)), (.int 0), (.ref p3), (.ref o0)] rfl ?_
 have ne6 : p3 ≠ o0 := (Ne.symm (own_neAV E_o0 (w2 hw) V_p3))
 have q7 := (V_p3.other W5 ne6)
 refine Home.call (own_static X5 hx hZ hown (w172 hw) (w173 hw) (w174 hw) (w175 hw) (by decide) (rm28_2 l Z a0 hw [] p3 l_1 k_p3 h5 n0 O5 pt0 (Nat.le_trans (own_len_le sh_l_1).2 (by decide)) q7) e5 rfl (by rw [hml]; rfl) (argsL := [(.ref p3), (.int 0), (.int (own_n l_1))]) (rest := [(.ref o0)]) (lenOf own_pd32 rfl) rfl rfl (W := 1) (hb hby d24_32)) ?_
 rintro _ T8 L8 X8 ⟨b2_2_8, k2_2_8, rfl, N8q, sz_b2_2_8, K8q, P8_0, P8_1⟩
 have g_b2_2_8 : n0 ≤ b2_2_8 := Nat.le_trans (Old.le O5) sz_b2_2_8
 have K8 : Keep h0 T8.heap ([o0] : List Addr) := Keep.trans K5 K8q all0
 have N8 := Fr.app N5 N8q
 have q9 := ((F_value_o0.other W5 (Or.inr (slot_ne (Or.inr (w4 hw)) (Or.inr (w5 hw)) (by decide) (t := (.array .byte)) (t' := .byte) (by decide) (by decide)))).keep K8q nin0)
 refine Home.wr (putF X8 hx hZ hown (host := "") (Or.inl (w117 hw)) Via.refl rfl q9 (E_o0.keep K8) (Or.inr ⟨(w4 hw), rfl, hnm⟩) (w2 hw) (ty := (.array .byte)) (by decide) rfl rfl rfl rfl (hb hby d24_35)) fun T10 h10 X10 e10 W10 => ?_
 have Fw10 := q9.same W10
 have K10 : Keep h0 h10 ([o0] : List Addr) := Keep.wr K8 W10 (Or.inl (List.mem_of_getElem? (i := 0) rfl))
 have N10 := Fr.snoc X10 N8 g_o0
 show Home T10 (mkF m 38 #[sr o0, sr o1, .val .null, sr p3, .val (.int (own_n l_1))] [])
 refine Rn X10 hx hby sg24_38_1 97 #[sr o0, sr o1, .val .null, sr p3, .val (.int (own_n l_1))] [] rfl ?_
 have q11 := ((Fw5.keep K8q nin0).other W10 (Or.inr (slot_ne (Or.inr (w5 hw)) (Or.inr (w4 hw)) (by decide) (t := .byte) (t' := (.array .byte)) (by decide) (by decide))))
 have q12 := (P8_0.wr W10)
 have ne13 : b2_2_8 ≠ o0 := (Ne.symm (Nat.ne_of_lt (Nat.lt_of_lt_of_le Fw5.lt (Nat.le_trans (Nat.le_refl _) sz_b2_2_8))))
 have q14 := (P8_1.other W10 ne13)
 exact Home.ret0 X10 hx hlk hret (hb hby d24_97) (by rw [show T10.heap = h10 from e10]; exact ⟨b2_2_8, k2_2_8, rfl, N10, (Nat.le_trans (Nat.le_of_eq W5.size.symm) sz_b2_2_8), K10, (E_o0.keep K10), q11, Fw10, q12, q14⟩) (by decide) (by decide)
theorem rm23_1 (l : Launch) (Z : State) (a0 : Array Value) (hw : HW a0 Z) (ws : List Jvm.Cond) (o0 o1 p3 : Addr) (sv_COMPACT_STRINGS : Int32) (k_p3 : ClassId) (l_1 : List Int32) (h0 : Heap) (n0 : Nat) (O0 : Old Z n0 h0) (pt0 : (own_n l_1) = (34 : Int32)) (sh_l_1 : l_1.length ≤ 34) (E_o1 : Exa Z h0 o1 "java/lang/StringBuilder") (F_value_o1 : Fld Z h0 o1 "java/lang/AbstractStringBuilder" "value" "[B" (.ref p3)) (S_COMPACT_STRINGS : Sta Z Z.heap "java/lang/String" "COMPACT_STRINGS" "Z" (.int sv_COMPACT_STRINGS)) (F_coder_o1 : Fld Z h0 o1 "java/lang/AbstractStringBuilder" "coder" "B" (.int 0)) (E_o0 : Exa Z h0 o0 "java/lang/String") (F_coder_o0 : Fld Z h0 o0 "java/lang/String" "coder" "B" (.int 0)) (V_p3 : Arv Z h0 p3 k_p3 .byte (34 : Int32) (List.map Value.int l_1) (.int 0)) (E_p3 : Exa Z h0 p3 "[B") (F_value_o0 : Fld Z h0 o0 "java/lang/String" "value" "[B" .null) (F_count_o1 : Fld Z h0 o1 "java/lang/AbstractStringBuilder" "count" "I" (.int (own_n l_1))) (g_o0 : n0 ≤ o0) (hCS : ¬ (sv_COMPACT_STRINGS = (0 : Int32))) :
    Con l Z (⟨"java/lang/String", "<init>", "(Ljava/lang/StringBuilder;)V"⟩ : MethodName) jdk_42_method_53_code 2 none ws ({ frames := 3, cells := 1, slots := 34, locals := 45 } : Room) #[(.ref o0), (.ref o1)] h0 (fun v h L => ∃ (b2_8_1 : Addr), v = none ∧ Fr n0 L ∧ h0.size ≤ b2_8_1 ∧ Keep h0 h [o0] ∧ Exa Z h o0 "java/lang/String" ∧ Fld Z h o0 "java/lang/String" "coder" "B" (.int 0) ∧ Fld Z h o0 "java/lang/String" "value" "[B" (.ref b2_8_1) ∧ Arv Z h b2_8_1 k_p3 .byte (own_n l_1) (List.map Value.int l_1) (.int 0) ∧ Exa Z h b2_8_1 "[B") := by
 refine own_body (plainFor_of_name own_pn1) (fun m => ef_rm46_0 m o0 o1) ?_
 intro p e s m below meth c s₁ hx hby hlk hml hret hZ hown hnm X0 e0
 have N0 := Fr.nil n0
 refine Rn X0 hx hby sg23_0_3 3 #[sr o0, sr o1] [.null, (.ref o1), (.ref o0)] rfl ?_
 refine Home.call (own_special X0 hx hZ hown rfl (w154 hw) (w155 hw) (w1 hw) (w156 hw) (by decide) (rm24_1 l Z a0 hw [] o0 o1 p3 l_1 sv_COMPACT_STRINGS k_p3 h0 n0 O0 pt0 (Nat.le_trans (own_len_le sh_l_1).2 (by decide)) E_o1 F_value_o1 F_count_o1 S_COMPACT_STRINGS F_coder_o1 hCS E_o0 F_coder_o0 g_o0 V_p3 E_p3 F_value_o0) e0 rfl (by rw [hml]; rfl) (a := o0) (argsL := [(.ref o1), .null]) (rest := []) (lenOf own_pd33 rfl) rfl rfl (W := 0) (hb hby d23_3)) ?_
 rintro _ T1 L1 X1 ⟨b2_8_1, rfl, N1q, sz_b2_8_1, K1q, P1_0, P1_1, P1_2, P1_3, P1_4⟩
 have g_b2_8_1 : n0 ≤ b2_8_1 := Nat.le_trans (Old.le O0) sz_b2_8_1
 have K1 : Keep h0 T1.heap ([o0] : List Addr) := Keep.trans (Keep.refl h0 ([o0] : List Addr)) K1q (allS (Or.inl (List.mem_of_getElem? (i := 0) rfl)) all0)
 have N1 := Fr.app N0 N1q
 exact Home.ret0 X1 hx hlk hret (hb hby d23_6) ⟨b2_8_1, rfl, N1, (Nat.le_trans (Nat.le_refl _) sz_b2_8_1), K1, P1_0, P1_1, P1_2, P1_3, P1_4⟩ (by decide) (by decide)
theorem rm23_2 (l : Launch) (Z : State) (a0 : Array Value) (hw : HW a0 Z) (ws : List Jvm.Cond) (o0 o1 p3 : Addr) (sv_COMPACT_STRINGS : Int32) (k_p3 : ClassId) (l_1 : List Int32) (h0 : Heap) (n0 : Nat) (O0 : Old Z n0 h0) (pt0 : ¬ ((own_n l_1) = (34 : Int32))) (sh_l_1 : l_1.length ≤ 34) (E_o1 : Exa Z h0 o1 "java/lang/StringBuilder") (F_value_o1 : Fld Z h0 o1 "java/lang/AbstractStringBuilder" "value" "[B" (.ref p3)) (S_COMPACT_STRINGS : Sta Z Z.heap "java/lang/String" "COMPACT_STRINGS" "Z" (.int sv_COMPACT_STRINGS)) (F_coder_o1 : Fld Z h0 o1 "java/lang/AbstractStringBuilder" "coder" "B" (.int 0)) (E_o0 : Exa Z h0 o0 "java/lang/String") (F_coder_o0 : Fld Z h0 o0 "java/lang/String" "coder" "B" (.int 0)) (V_p3 : Arv Z h0 p3 k_p3 .byte (34 : Int32) (List.map Value.int l_1) (.int 0)) (E_p3 : Exa Z h0 p3 "[B") (F_value_o0 : Fld Z h0 o0 "java/lang/String" "value" "[B" .null) (F_count_o1 : Fld Z h0 o1 "java/lang/AbstractStringBuilder" "count" "I" (.int (own_n l_1))) (g_o0 : n0 ≤ o0) (hCS : ¬ (sv_COMPACT_STRINGS = (0 : Int32))) :
    Con l Z (⟨"java/lang/String", "<init>", "(Ljava/lang/StringBuilder;)V"⟩ : MethodName) jdk_42_method_53_code 2 none ws ({ frames := 4, cells := 1, slots := 33, locals := 65 } : Room) #[(.ref o0), (.ref o1)] h0 (fun v h L => ∃ (b2_2_8_1 : Addr), ∃ (k2_2_8_1 : ClassId), v = none ∧ Fr n0 L ∧ h0.size ≤ b2_2_8_1 ∧ Keep h0 h [o0] ∧ Exa Z h o0 "java/lang/String" ∧ Fld Z h o0 "java/lang/String" "coder" "B" (.int 0) ∧ Fld Z h o0 "java/lang/String" "value" "[B" (.ref b2_2_8_1) ∧ Exa Z h b2_2_8_1 "[B" ∧ Arv Z h b2_2_8_1 k2_2_8_1 .byte (own_n l_1) (List.map Value.int l_1) (.int 0)) := by
 refine own_body (plainFor_of_name own_pn1) (fun m => ef_rm46_0 m o0 o1) ?_
 intro p e s m below meth c s₁ hx hby hlk hml hret hZ hown hnm X0 e0
 have N0 := Fr.nil n0
 refine Rn X0 hx hby sg23_0_3 3 #[sr o0, sr o1] [.null, (.ref o1), (.ref o0)] rfl ?_
 refine Home.call (own_special X0 hx hZ hown rfl (w154 hw) (w155 hw) (w1 hw) (w156 hw) (by decide) (rm24_2 l Z a0 hw [] o0 o1 p3 l_1 sv_COMPACT_STRINGS k_p3 h0 n0 O0 pt0 (Nat.le_trans (own_len_le sh_l_1).2 (by decide)) E_o1 F_value_o1 F_count_o1 S_COMPACT_STRINGS F_coder_o1 hCS E_o0 F_coder_o0 g_o0 V_p3 E_p3 F_value_o0) e0 rfl (by rw [hml]; rfl) (a := o0) (argsL := [(.ref o1), .null]) (rest := []) (lenOf own_pd33 rfl) rfl rfl (W := 0) (hb hby d23_3)) ?_
 rintro _ T1 L1 X1 ⟨b2_2_8_1, k2_2_8_1, rfl, N1q, sz_b2_2_8_1, K1q, P1_0, P1_1, P1_2, P1_3, P1_4⟩
 have g_b2_2_8_1 : n0 ≤ b2_2_8_1 := Nat.le_trans (Old.le O0) sz_b2_2_8_1
 have K1 : Keep h0 T1.heap ([o0] : List Addr) := Keep.trans (Keep.refl h0 ([o0] : List Addr)) K1q (allS (Or.inl (List.mem_of_getElem? (i := 0) rfl)) all0)
 have N1 := Fr.app N0 N1q
 exact Home.ret0 X1 hx hlk hret (hb hby d23_6) ⟨b2_2_8_1, k2_2_8_1, rfl, N1, (Nat.le_trans (Nat.le_refl _) sz_b2_2_8_1), K1, P1_0, P1_1, P1_2, P1_3, P1_4⟩ (by decide) (by decide)
theorem rm22_1 (l : Launch) (Z : State) (a0 : Array Value) (hw : HW a0 Z) (ws : List Jvm.Cond) (o0 p2 : Addr) (sv_COMPACT_STRINGS : Int32) (k_p2 : ClassId) (l_1 : List Int32) (h0 : Heap) (n0 : Nat) (O0 : Old Z n0 h0) (pt0 : (own_n l_1) = (34 : Int32)) (sh_l_1 : l_1.length ≤ 34) (E_o0 : Exa Z h0 o0 "java/lang/StringBuilder") (F_value_o0 : Fld Z h0 o0 "java/lang/AbstractStringBuilder" "value" "[B" (.ref p2)) (S_COMPACT_STRINGS : Sta Z Z.heap "java/lang/String" "COMPACT_STRINGS" "Z" (.int sv_COMPACT_STRINGS)) (F_coder_o0 : Fld Z h0 o0 "java/lang/AbstractStringBuilder" "coder" "B" (.int 0)) (V_p2 : Arv Z h0 p2 k_p2 .byte (34 : Int32) (List.map Value.int l_1) (.int 0)) (E_p2 : Exa Z h0 p2 "[B") (F_count_o0 : Fld Z h0 o0 "java/lang/AbstractStringBuilder" "count" "I" (.int (own_n l_1))) (hCS : ¬ (sv_COMPACT_STRINGS = (0 : Int32))) :
    Con l Z (⟨"java/lang/StringBuilder", "toString", "()Ljava/lang/String;"⟩ : MethodName) jdk_67_method_42_code 1 (some (.object "java/lang/String")) ws ({ frames := 4, cells := 2, slots := 38, locals := 59 } : Room) #[(.ref o0)] h0 (fun v h L => ∃ (b1 : Addr), ∃ (b2_8_1_2 : Addr), v = some (.ref b1) ∧ Fr n0 L ∧ h0.size ≤ b1 ∧ h0.size ≤ b2_8_1_2 ∧ Keep h0 h [] ∧ Exa Z h b1 "java/lang/String" ∧ Fld Z h b1 "java/lang/String" "value" "[B" (.ref b2_8_1_2) ∧ Fld Z h b1 "java/lang/String" "coder" "B" (.int 0) ∧ Arv Z h b2_8_1_2 k_p2 .byte (own_n l_1) (List.map Value.int l_1) (.int 0) ∧ Exa Z h b2_8_1_2 "[B") := by
 refine own_body (plainFor_of_name own_pn7) (fun m => ef_rm7_0 m o0) ?_
 intro p e s m below meth c s₁ hx hby hlk hml hret hZ hown hnm X0 e0
 have N0 := Fr.nil n0
 refine Home.nw (own_newO X0 hx hZ hown (w150 hw) (w2 hw) (w1 hw) e0 rfl (hb hby d22_0) (by decide) (by decide)) fun T1 h1 b1 g1 X1 e1 E1 A1 D1 => ?_
 have g_b1 : n0 ≤ b1 := Nat.le_trans (Old.le O0) (Nat.le_of_eq g1.symm)
 have F_value_b1 : Fld Z h1 b1 "java/lang/String" "value" "[B" .null := D1 (Or.inr (w4 hw)) (ty := (.array .byte)) (by decide)
 have F_coder_b1 : Fld Z h1 b1 "java/lang/String" "coder" "B" (.int 0) := D1 (Or.inr (w5 hw)) (ty := .byte) (by decide)
 have O1 := O0.ext E1
 have K1 : Keep h0 h1 ([] : List Addr) := Keep.ext (Keep.refl h0 ([] : List Addr)) E1
 refine Rn X1 hx hby sg22_3_2 5 #[sr o0] [(.ref o0), (.ref b1), (.ref b1)] rfl ?_
 refine Home.call (own_special X1 hx hZ hown rfl (w151 hw) (w152 hw) (w1 hw) (w153 hw) (by decide) (rm23_1 l Z a0 hw [] b1 o0 p2 sv_COMPACT_STRINGS k_p2 l_1 h1 n0 O1 pt0 (Nat.le_trans (own_len_le sh_l_1).2 (by decide)) (E_o0.keep K1) (F_value_o0.keep K1 nin0) S_COMPACT_STRINGS (F_coder_o0.keep K1 nin0) A1 F_coder_b1 (V_p2.keep K1 nin0) (E_p2.keep K1) F_value_b1 (F_count_o0.keep K1 nin0) g_b1 hCS) e1 rfl (by rw [hml]; rfl) (a := b1) (argsL := [(.ref o0)]) (rest := [(.ref b1)]) (lenOf own_pd34 rfl) rfl rfl (W := 1) (hb hby d22_5)) ?_
 rintro _ T2 L2 X2 ⟨b2_8_1_2, rfl, N2q, sz_b2_8_1_2, K2q, P2_0, P2_1, P2_2, P2_3, P2_4⟩
 have g_b2_8_1_2 : n0 ≤ b2_8_1_2 := Nat.le_trans (Old.le O1) sz_b2_8_1_2
 have K2 : Keep h0 T2.heap ([] : List Addr) := Keep.trans K1 K2q (allS (Or.inr (Nat.le_trans (Nat.le_refl _) (Nat.le_of_eq g1.symm))) all0)
 have N2 := Fr.app N0 N2q
 exact Home.retR X2 hx hlk hret rfl rfl (hb hby d22_8) ⟨b1, b2_8_1_2, rfl, N2, (Nat.le_trans (Nat.le_refl _) (Nat.le_of_eq g1.symm)), (Nat.le_trans E1.1 sz_b2_8_1_2), K2, P2_0, P2_2, P2_1, P2_3, P2_4⟩ (by decide) (by decide)
theorem rm22_2 (l : Launch) (Z : State) (a0 : Array Value) (hw : HW a0 Z) (ws : List Jvm.Cond) (o0 p2 : Addr) (sv_COMPACT_STRINGS : Int32) (k_p2 : ClassId) (l_1 : List Int32) (h0 : Heap) (n0 : Nat) (O0 : Old Z n0 h0) (pt0 : ¬ ((own_n l_1) = (34 : Int32))) (sh_l_1 : l_1.length ≤ 34) (E_o0 : Exa Z h0 o0 "java/lang/StringBuilder") (F_value_o0 : Fld Z h0 o0 "java/lang/AbstractStringBuilder" "value" "[B" (.ref p2)) (S_COMPACT_STRINGS : Sta Z Z.heap "java/lang/String" "COMPACT_STRINGS" "Z" (.int sv_COMPACT_STRINGS)) (F_coder_o0 : Fld Z h0 o0 "java/lang/AbstractStringBuilder" "coder" "B" (.int 0)) (V_p2 : Arv Z h0 p2 k_p2 .byte (34 : Int32) (List.map Value.int l_1) (.int 0)) (E_p2 : Exa Z h0 p2 "[B") (F_count_o0 : Fld Z h0 o0 "java/lang/AbstractStringBuilder" "count" "I" (.int (own_n l_1))) (hCS : ¬ (sv_COMPACT_STRINGS = (0 : Int32))) :
    Con l Z (⟨"java/lang/StringBuilder", "toString", "()Ljava/lang/String;"⟩ : MethodName) jdk_67_method_42_code 1 (some (.object "java/lang/String")) ws ({ frames := 5, cells := 2, slots := 37, locals := 79 } : Room) #[(.ref o0)] h0 (fun v h L => ∃ (b1 : Addr), ∃ (b2_2_8_1_2 : Addr), ∃ (k2_2_8_1_2 : ClassId), v = some (.ref b1) ∧ Fr n0 L ∧ h0.size ≤ b1 ∧ h0.size ≤ b2_2_8_1_2 ∧ Keep h0 h [] ∧ Exa Z h b1 "java/lang/String" ∧ Fld Z h b1 "java/lang/String" "value" "[B" (.ref b2_2_8_1_2) ∧ Fld Z h b1 "java/lang/String" "coder" "B" (.int 0) ∧ Exa Z h b2_2_8_1_2 "[B" ∧ Arv Z h b2_2_8_1_2 k2_2_8_1_2 .byte (own_n l_1) (List.map Value.int l_1) (.int 0)) := by
 refine own_body (plainFor_of_name own_pn7) (fun m => ef_rm7_0 m o0) ?_
 intro p e s m below meth c s₁ hx hby hlk hml hret hZ hown hnm X0 e0
 have N0 := Fr.nil n0
 refine Home.nw (own_newO X0 hx hZ hown (w150 hw) (w2 hw) (w1 hw) e0 rfl (hb hby d22_0) (by decide) (by decide)) fun T1 h1 b1 g1 X1 e1 E1 A1 D1 => ?_
 have g_b1 : n0 ≤ b1 := Nat.le_trans (Old.le O0) (Nat.le_of_eq g1.symm)
 have F_value_b1 : Fld Z h1 b1 "java/lang/String" "value" "[B" .null := D1 (Or.inr (w4 hw)) (ty := (.array .byte)) (by decide)
 have F_coder_b1 : Fld Z h1 b1 "java/lang/String" "coder" "B" (.int 0) := D1 (Or.inr (w5 hw)) (ty := .byte) (by decide)
 have O1 := O0.ext E1
 have K1 : Keep h0 h1 ([] : List Addr) := Keep.ext (Keep.refl h0 ([] : List Addr)) E1
 refine Rn X1 hx hby sg22_3_2 5 #[sr o0] [(.ref o0), (.ref b1), (.ref b1)] rfl ?_
 refine Home.call (own_special X1 hx hZ hown rfl (w151 hw) (w152 hw) (w1 hw) (w153 hw) (by decide) (rm23_2 l Z a0 hw [] b1 o0 p2 sv_COMPACT_STRINGS k_p2 l_1 h1 n0 O1 pt0 (Nat.le_trans (own_len_le sh_l_1).2 (by decide)) (E_o0.keep K1) (F_value_o0.keep K1 nin0) S_COMPACT_STRINGS (F_coder_o0.keep K1 nin0) A1 F_coder_b1 (V_p2.keep K1 nin0) (E_p2.keep K1) F_value_b1 (F_count_o0.keep K1 nin0) g_b1 hCS) e1 rfl (by rw [hml]; rfl) (a := b1) (argsL := [(.ref o0)]) (rest := [(.ref b1)]) (lenOf own_pd34 rfl) rfl rfl (W := 1) (hb hby d22_5)) ?_
 rintro _ T2 L2 X2 ⟨b2_2_8_1_2, k2_2_8_1_2, rfl, N2q, sz_b2_2_8_1_2, K2q, P2_0, P2_1, P2_2, P2_3, P2_4⟩
 have g_b2_2_8_1_2 : n0 ≤ b2_2_8_1_2 := Nat.le_trans (Old.le O1) sz_b2_2_8_1_2
 have K2 : Keep h0 T2.heap ([] : List Addr) := Keep.trans K1 K2q (allS (Or.inr (Nat.le_trans (Nat.le_refl _) (Nat.le_of_eq g1.symm))) all0)
 have N2 := Fr.app N0 N2q
 exact Home.retR X2 hx hlk hret rfl rfl (hb hby d22_8) ⟨b1, b2_2_8_1_2, k2_2_8_1_2, rfl, N2, (Nat.le_trans (Nat.le_refl _) (Nat.le_of_eq g1.symm)), (Nat.le_trans E1.1 sz_b2_2_8_1_2), K2, P2_0, P2_2, P2_1, P2_3, P2_4⟩ (by decide) (by decide)
theorem rm9_4 (l : Launch) (Z : State) (a0 : Array Value) (hw : HW a0 Z) (ws : List Jvm.Cond) (o0 : Addr) (i1 : Int32) (p2 : Addr) (k_p2 : ClassId) (l_1 : List Int32) (sv_COMPACT_STRINGS : Int32) (sv_DigitOnes : Addr) (k_ones : ClassId) (sv_DigitTens : Addr) (k_tens : ClassId) (h0 : Heap) (n0 : Nat) (O0 : Old Z n0 h0) (pt0 : ¬ ((0 : Int32) < ((own_n (l_1 ++ (own_put i1))) - (16 : Int32)))) (sh_l_1 : l_1.length ≤ 16) (E_o0 : Exa Z h0 o0 "java/lang/StringBuilder") (F_value_o0 : Fld Z h0 o0 "java/lang/AbstractStringBuilder" "value" "[B" (.ref p2)) (V_p2 : Arv Z h0 p2 k_p2 .byte (16 : Int32) (List.map Value.int l_1) (.int 0)) (F_coder_o0 : Fld Z h0 o0 "java/lang/AbstractStringBuilder" "coder" "B" (.int 0)) (S_COMPACT_STRINGS : Sta Z Z.heap "java/lang/String" "COMPACT_STRINGS" "Z" (.int sv_COMPACT_STRINGS)) (S_DigitOnes : Sta Z Z.heap "java/lang/Integer" "DigitOnes" "[B" (.ref sv_DigitOnes)) (V_ones : Arv Z Z.heap sv_DigitOnes k_ones .byte (100 : Int32) (List.map Value.int own_ones) (.int 0)) (S_DigitTens : Sta Z Z.heap "java/lang/Integer" "DigitTens" "[B" (.ref sv_DigitTens)) (V_tens : Arv Z Z.heap sv_DigitTens k_tens .byte (100 : Int32) (List.map Value.int own_tens) (.int 0)) (E_p2 : Exa Z h0 p2 "[B") (F_count_o0 : Fld Z h0 o0 "java/lang/AbstractStringBuilder" "count" "I" (.int (own_n l_1))) (g_p2 : n0 ≤ p2) (g_o0 : n0 ≤ o0) (hCS : ¬ (sv_COMPACT_STRINGS = (0 : Int32))) :
    Con l Z (⟨"java/lang/StringBuilder", "append", "(I)Ljava/lang/StringBuilder;"⟩ : MethodName) jdk_67_method_15_code 2 (some (.object "java/lang/StringBuilder")) ws ({ frames := 2, cells := 0, slots := 0, locals := 33 } : Room) #[(.ref o0), (.int i1)] h0 (fun v h L => v = some (.ref o0) ∧ Fr n0 L ∧ Keep h0 h [o0, p2] ∧ Exa Z h o0 "java/lang/StringBuilder" ∧ Fld Z h o0 "java/lang/AbstractStringBuilder" "value" "[B" (.ref p2) ∧ Fld Z h o0 "java/lang/AbstractStringBuilder" "coder" "B" (.int 0) ∧ Fld Z h o0 "java/lang/AbstractStringBuilder" "count" "I" (.int (own_n (l_1 ++ (own_put i1)))) ∧ Arv Z h p2 k_p2 .byte (16 : Int32) (List.map Value.int (l_1 ++ (own_put i1))) (.int 0) ∧ Exa Z h p2 "[B") := by
 refine own_body (plainFor_of_name own_pn7) (fun m => ef_rm50_0 m o0 i1) ?_
 intro p e s m below meth c s₁ hx hby hlk hml hret hZ hown hnm X0 e0
 have N0 := Fr.nil n0
 have lf901 : 1 ≤ (l_1 ++ (own_put i1)).length ∧ (l_1 ++ (own_put i1)).length ≤ 16 := own_fit (K := 16) pt0 (own_len_app (own_len_le sh_l_1) (own_put_len i1)) (by decide) (by decide)
 refine Rn X0 hx hby sg9_0_2 2 #[sr o0, si i1] [(.int i1), (.ref o0)] rfl ?_
 refine Home.call (own_super X0 hx hZ hown (w77 hw) (own_samem (w78 hw) (w91 hw) rfl (by decide)) (w78 hw) (w79 hw) (by decide) (w64 hw) (w81 hw) (rm10_1 l Z a0 hw [] o0 i1 l_1 p2 k_p2 sv_COMPACT_STRINGS sv_DigitOnes k_ones sv_DigitTens k_tens h0 n0 O0 pt0 (Nat.le_trans (own_len_le sh_l_1).2 (by decide)) F_count_o0 E_o0 F_value_o0 V_p2 F_coder_o0 S_COMPACT_STRINGS hCS S_DigitOnes V_ones S_DigitTens V_tens E_p2 g_p2 g_o0) e0 E_o0 rfl (by rw [hml]; rfl) (argsL := [(.int i1)]) (rest := []) (lenOf own_pd21 rfl) rfl rfl (W := 0) (hb hby d9_2)) ?_
 rintro _ T1 L1 X1 ⟨rfl, N1q, K1q, P1_0, P1_1, P1_2, P1_3, P1_4, P1_5⟩
 have K1 : Keep h0 T1.heap ([o0, p2] : List Addr) := Keep.trans (Keep.refl h0 ([o0, p2] : List Addr)) K1q (allS (Or.inl (List.mem_of_getElem? (i := 1) rfl)) (allS (Or.inl (List.mem_of_getElem? (i := 0) rfl)) all0))
 have N1 := Fr.app N0 N1q
 refine Rn X1 hx hby sg9_5_2 7 #[sr o0, si i1] [(.ref o0)] rfl ?_
 exact Home.retR X1 hx hlk hret rfl rfl (hb hby d9_7) ⟨rfl, N1, K1, P1_3, P1_4, P1_5, P1_2, P1_0, P1_1⟩ (by decide) (by decide)
theorem rm21_2 (l : Launch) (Z : State) (a0 : Array Value) (hw : HW a0 Z) (ws : List Jvm.Cond) (o0 o1 : Addr) (l_1 : List Int32) (sv_COMPACT_STRINGS : Int32) (p3 : Addr) (k_p3 : ClassId) (l_2 : List Int32) (k_o1 : ClassId) (h0 : Heap) (n0 : Nat) (O0 : Old Z n0 h0) (E_o0 : Exa Z h0 o0 "java/lang/String") (S_COMPACT_STRINGS : Sta Z Z.heap "java/lang/String" "COMPACT_STRINGS" "Z" (.int sv_COMPACT_STRINGS)) (F_coder_o0 : Fld Z h0 o0 "java/lang/String" "coder" "B" (.int 0)) (hCS : ¬ (sv_COMPACT_STRINGS = (0 : Int32))) (F_value_o0 : Fld Z h0 o0 "java/lang/String" "value" "[B" (.ref p3)) (sh_l_1 : l_1.length ≤ 16) (V_p3 : Arv Z h0 p3 k_p3 .byte (own_n l_2) (List.map Value.int l_2) (.int 0)) (V_o1 : Arv Z h0 o1 k_o1 .byte (16 : Int32) (List.map Value.int l_1) (.int 0)) (sh_l_2 : l_2.length ≤ 2) (cp16__l_1____l_2_ : (l_1 ++ l_2).length ≤ 16) (g_o1 : n0 ≤ o1) (E_o1 : Exa Z h0 o1 "[B") :
    Con l Z (⟨"java/lang/String", "getBytes", "([BIB)V"⟩ : MethodName) jdk_42_method_147_code 4 none ws ({ frames := 1, cells := 0, slots := 0, locals := 18 } : Room) #[(.ref o0), (.ref o1), (.int (own_n l_1)), (.int 0)] h0 (fun v h L => v = none ∧ Fr n0 L ∧ Keep h0 h [o1] ∧ Arv Z h o1 k_o1 .byte (16 : Int32) (List.map Value.int (l_1 ++ l_2)) (.int 0) ∧ Exa Z h o1 "[B") := by
 refine own_body (plainFor_of_name own_pn1) (fun m => ef_rm21_0 m o0 o1 (own_n l_1) (0 : Int32)) ?_
 intro p e s m below meth c s₁ hx hby hlk hml hret hZ hown hnm X0 e0
 have N0 := Fr.nil n0
 refine Rn X0 hx hby sg21_0_1 1 #[sr o0, sr o1, .val (.int (own_n l_1)), si 0] [(.ref o0)] rfl ?_
 refine Home.st (own_pure (own_virtual X0 hx hZ hown (w118 hw) (w119 hw) (notFace_of_selects (args := #[]) (mvT hZ (w121 hw))) (w121 hw) (w120 hw) (w1 hw) (w122 hw) (by decide) (rm18_0 l Z a0 hw [] o0 sv_COMPACT_STRINGS h0 n0 O0 S_COMPACT_STRINGS hCS F_coder_o0) e0 E_o0 rfl (by rw [hml]; rfl) (argsL := []) (rest := []) (lenOf own_pd23 rfl) rfl rfl (W := 0) (hb hby d21_1))) fun T1 X1 e1 => ?_
 refine Rn X1 hx hby sg21_4_1 5 #[sr o0, sr o1, .val (.int (own_n l_1)), si 0] [(.int 0), (.int 0)] rfl ?_
 refine Home.go (fun _ => XS.icmpNo X1.here hx rfl (hb hby d21_5) rfl (teq (by decide)).2) ?_
 refine Rn X1 hx hby sg21_8_1 9 #[sr o0, sr o1, .val (.int (own_n l_1)), si 0] [(.ref o0)] rfl ?_
 refine Home.st (getF X1 hx hZ hown (host := "") (Or.inl (w117 hw)) Via.refl e1 F_value_o0 rfl rfl (hb hby d21_9)) fun T2 X2 e2 => ?_
 refine Rn X2 hx hby sg21_12_5 17 #[sr o0, sr o1, .val (.int (own_n l_1)), si 0] [(.int ((own_n l_1) <<< ((0 : Int32) &&& 31))), (.ref o1), (.int 0), (.ref p3)] rfl ?_
 rw [own_shl0]
 refine Rn X2 hx hby sg21_17_1 18 #[sr o0, sr o1, .val (.int (own_n l_1)), si 0] [(.ref o0), (.int (own_n l_1)), (.ref o1), (.int 0), (.ref p3)] rfl ?_
 refine Home.st (getF X2 hx hZ hown (host := "") (Or.inl (w117 hw)) Via.refl e2 F_value_o0 rfl rfl (hb hby d21_18)) fun T3 X3 e3 => ?_
 obtain ⟨cl4, Ar4, q4, S4, M4, H4, G4⟩ := id V_p3
 refine Home.go (own_alen X3 hx hZ e3 Ar4 S4 M4 rfl rfl (hb hby d21_21)) ?_
 refine Home.cp (own_cpS X3 hx hZ hown (w141 hw) (w144 hw) (w142 hw) (w143 hw) e3 V_p3 V_o1 (Y := l_1) (X := l_2) (own_n_le (own_len_le sh_l_2)) (Nat.le_trans (Nat.le_of_eq (List.length_append).symm) (Nat.le_trans cp16__l_1____l_2_ (by decide))) (Nat.lt_of_le_of_lt (own_len_app (own_len_le sh_l_1) (own_len_le sh_l_2)).2 (by decide)) (dp := (own_n l_1)) rfl N0 g_o1 (g := (mkF m 22 #[.val (.ref o0), .val (.ref o1), .val (.int (own_n l_1)), .val (.int 0)] [(.int (own_n l_2)), (.int (own_n l_1)), (.ref o1), (.int 0), (.ref p3)])) rfl (by rw [hml]; rfl) rfl (hb hby d21_22) (by decide) (W := 0) (by exact hW0) (by decide)) fun T5 h5 L5 X5 e5 N5 K5q Vq5 => ?_
 have V5 : Arv Z h5 o1 k_o1 .byte (16 : Int32) (List.map Value.int (l_1 ++ l_2)) (.int 0) := Vq5
 have K5 : Keep h0 h5 ([o1] : List Addr) := Keep.trans (Keep.refl h0 ([o1] : List Addr)) K5q (allS (Or.inl (List.mem_of_getElem? (i := 0) rfl)) all0)
 show Home T5 (mkF m 25 #[sr o0, sr o1, .val (.int (own_n l_1)), si 0] [])
 refine Rn X5 hx hby sg21_25_1 43 #[sr o0, sr o1, .val (.int (own_n l_1)), si 0] [] rfl ?_
 exact Home.ret0 X5 hx hlk hret (hb hby d21_43) (by rw [show T5.heap = h5 from e5]; exact ⟨rfl, N5, K5, V5, (E_o1.keep K5)⟩) (by decide) (by decide)
theorem rm19_2 (l : Launch) (Z : State) (a0 : Array Value) (hw : HW a0 Z) (ws : List Jvm.Cond) (o0 o2 : Addr) (l_1 : List Int32) (sv_COMPACT_STRINGS : Int32) (p3 p4 : Addr) (k_p4 : ClassId) (l_2 : List Int32) (k_p3 : ClassId) (h0 : Heap) (n0 : Nat) (O0 : Old Z n0 h0) (E_o0 : Exa Z h0 o0 "java/lang/StringBuilder") (S_COMPACT_STRINGS : Sta Z Z.heap "java/lang/String" "COMPACT_STRINGS" "Z" (.int sv_COMPACT_STRINGS)) (F_coder_o0 : Fld Z h0 o0 "java/lang/AbstractStringBuilder" "coder" "B" (.int 0)) (E_o2 : Exa Z h0 o2 "java/lang/String") (F_coder_o2 : Fld Z h0 o2 "java/lang/String" "coder" "B" (.int 0)) (hCS : ¬ (sv_COMPACT_STRINGS = (0 : Int32))) (F_value_o0 : Fld Z h0 o0 "java/lang/AbstractStringBuilder" "value" "[B" (.ref p3)) (F_value_o2 : Fld Z h0 o2 "java/lang/String" "value" "[B" (.ref p4)) (V_p4 : Arv Z h0 p4 k_p4 .byte (own_n l_2) (List.map Value.int l_2) (.int 0)) (V_p3 : Arv Z h0 p3 k_p3 .byte (16 : Int32) (List.map Value.int l_1) (.int 0)) (E_p3 : Exa Z h0 p3 "[B") (g_p3 : n0 ≤ p3) (sh_l_1 : l_1.length ≤ 16) (sh_l_2 : l_2.length ≤ 2) (cp16__l_1____l_2_ : (l_1 ++ l_2).length ≤ 16) :
    Con l Z (⟨"java/lang/AbstractStringBuilder", "putStringAt", "(ILjava/lang/String;)V"⟩ : MethodName) jdk_68_method_73_code 3 none ws ({ frames := 2, cells := 0, slots := 0, locals := 33 } : Room) #[(.ref o0), (.int (own_n l_1)), (.ref o2)] h0 (fun v h L => v = none ∧ Fr n0 L ∧ Keep h0 h [p3] ∧ Arv Z h p3 k_p3 .byte (16 : Int32) (List.map Value.int (l_1 ++ l_2)) (.int 0) ∧ Exa Z h p3 "[B") := by
 refine own_body (plainFor_of_name own_pn6) (fun m => ef_rm19_0 m o0 (own_n l_1) o2) ?_
 intro p e s m below meth c s₁ hx hby hlk hml hret hZ hown hnm X0 e0
 have N0 := Fr.nil n0
 refine Rn X0 hx hby sg19_0_2 2 #[sr o0, .val (.int (own_n l_1)), sr o2] [(.ref o2), (.ref o0)] rfl ?_
 refine Home.st (own_pure (own_private X0 hx hZ hown (w130 hw) (w131 hw) (own_selp (w133 hw) (w132 hw) (w131 hw) (by decide)) (Cond.privateMethod_at (mvP hZ (w132 hw) (args := #[]))) (w64 hw) (w134 hw) (by decide) (rm20_0 l Z a0 hw [] o0 o2 sv_COMPACT_STRINGS h0 n0 O0 S_COMPACT_STRINGS hCS F_coder_o0 E_o2 F_coder_o2) e0 E_o0 rfl (by rw [hml]; rfl) (argsL := [(.ref o2)]) (rest := []) (lenOf own_pd25 rfl) rfl rfl (W := 0) (hb hby d19_2))) fun T1 X1 e1 => ?_
 refine Rn X1 hx hby sg19_5_2 7 #[sr o0, .val (.int (own_n l_1)), sr o2] [(.ref o0), (.ref o2)] rfl ?_
 refine Home.st (getF X1 hx hZ hown (host := "") (Or.inl (w68 hw)) Via.refl e1 F_value_o0 rfl rfl (hb hby d19_7)) fun T2 X2 e2 => ?_
 refine Rn X2 hx hby sg19_10_2 12 #[sr o0, .val (.int (own_n l_1)), sr o2] [(.ref o0), (.int (own_n l_1)), (.ref p3), (.ref o2)] rfl ?_
 refine Home.st (getF X2 hx hZ hown (host := "") (Or.inl (w70 hw)) Via.refl e2 F_coder_o0 rfl rfl (hb hby d19_12)) fun T3 X3 e3 => ?_
 refine Home.call (own_virtual X3 hx hZ hown (w136 hw) (w137 hw) (notFace_of_selects (args := #[]) (mvT hZ (w139 hw))) (w139 hw) (w138 hw) (w1 hw) (w140 hw) (by decide) (rm21_2 l Z a0 hw [] o2 p3 l_1 sv_COMPACT_STRINGS p4 k_p4 l_2 k_p3 h0 n0 O0 E_o2 S_COMPACT_STRINGS F_coder_o2 hCS F_value_o2 (Nat.le_trans (own_len_le sh_l_1).2 (by decide)) V_p4 V_p3 (Nat.le_trans (own_len_le sh_l_2).2 (by decide)) cp16__l_1____l_2_ g_p3 E_p3) e3 E_o2 rfl (by rw [hml]; rfl) (argsL := [(.ref p3), (.int (own_n l_1)), (.int 0)]) (rest := []) (lenOf own_pd26 rfl) rfl rfl (W := 0) (hb hby d19_15)) ?_
 rintro _ T4 L4 X4 ⟨rfl, N4q, K4q, P4_0, P4_1⟩
 have K4 : Keep h0 T4.heap ([p3] : List Addr) := Keep.trans (Keep.refl h0 ([p3] : List Addr)) K4q (allS (Or.inl (List.mem_of_getElem? (i := 0) rfl)) all0)
 have N4 := Fr.app N0 N4q
 exact Home.ret0 X4 hx hlk hret (hb hby d19_18) ⟨rfl, N4, K4, P4_0, P4_1⟩ (by decide) (by decide)
theorem rm16_2 (l : Launch) (Z : State) (a0 : Array Value) (hw : HW a0 Z) (ws : List Jvm.Cond) (o0 o1 p4 : Addr) (k_p4 : ClassId) (l_2 : List Int32) (sv_COMPACT_STRINGS : Int32) (l_1 : List Int32) (p3 : Addr) (k_p3 : ClassId) (h0 : Heap) (n0 : Nat) (O0 : Old Z n0 h0) (pt0 : (0 : Int32) < ((own_n (l_1 ++ l_2)) - (16 : Int32))) (E_o1 : Exa Z h0 o1 "java/lang/String") (F_value_o1 : Fld Z h0 o1 "java/lang/String" "value" "[B" (.ref p4)) (V_p4 : Arv Z h0 p4 k_p4 .byte (own_n l_2) (List.map Value.int l_2) (.int 0)) (S_COMPACT_STRINGS : Sta Z Z.heap "java/lang/String" "COMPACT_STRINGS" "Z" (.int sv_COMPACT_STRINGS)) (F_coder_o1 : Fld Z h0 o1 "java/lang/String" "coder" "B" (.int 0)) (hCS : ¬ (sv_COMPACT_STRINGS = (0 : Int32))) (sh_l_2 : l_2.length ≤ 2) (F_count_o0 : Fld Z h0 o0 "java/lang/AbstractStringBuilder" "count" "I" (.int (own_n l_1))) (E_o0 : Exa Z h0 o0 "java/lang/StringBuilder") (F_value_o0 : Fld Z h0 o0 "java/lang/AbstractStringBuilder" "value" "[B" (.ref p3)) (V_p3 : Arv Z h0 p3 k_p3 .byte (16 : Int32) (List.map Value.int l_1) (.int 0)) (F_coder_o0 : Fld Z h0 o0 "java/lang/AbstractStringBuilder" "coder" "B" (.int 0)) (g_o0 : n0 ≤ o0) (sh_l_1 : l_1.length ≤ 16) (ne_p4_o0 : p4 ≠ o0) :
    Con l Z (⟨"java/lang/AbstractStringBuilder", "append", "(Ljava/lang/String;)Ljava/lang/AbstractStringBuilder;"⟩ : MethodName) jdk_68_method_22_code 3 (some (.object "java/lang/AbstractStringBuilder")) ws ({ frames := 4, cells := 1, slots := 34, locals := 62 } : Room) #[(.ref o0), (.ref o1)] h0 (fun v h L => ∃ (b2_7_3 : Addr), ∃ (k2_7_3 : ClassId), v = some (.ref o0) ∧ Fr n0 L ∧ h0.size ≤ b2_7_3 ∧ Keep h0 h [o0] ∧ Fld Z h o0 "java/lang/AbstractStringBuilder" "count" "I" (.int (own_n (l_1 ++ l_2))) ∧ Exa Z h o0 "java/lang/StringBuilder" ∧ Fld Z h o0 "java/lang/AbstractStringBuilder" "value" "[B" (.ref b2_7_3) ∧ Fld Z h o0 "java/lang/AbstractStringBuilder" "coder" "B" (.int 0) ∧ Exa Z h b2_7_3 "[B" ∧ Arv Z h b2_7_3 k2_7_3 .byte (34 : Int32) (List.map Value.int (l_1 ++ l_2)) (.int 0)) := by
 refine own_body (plainFor_of_name own_pn6) (fun m => ef_rm16_0 m o0 o1) ?_
 intro p e s m below meth c s₁ hx hby hlk hml hret hZ hown hnm X0 e0
 have N0 := Fr.nil n0
 refine Rn X0 hx hby sg16_0_1 1 #[sr o0, sr o1, un] [(.ref o1)] rfl ?_
 refine Home.go (fun _ => XS.ifnonnullYes X0.here hx rfl (pc0 := 1) (pc' := 9) rfl (hb hby d16_1) rfl (by decide) (by decide)) ?_
 show Home s₁ (mkF m 9 #[sr o0, sr o1, un] [])
 refine Rn X0 hx hby sg16_9_1 10 #[sr o0, sr o1, un] [(.ref o1)] rfl ?_
 refine Home.st (own_pure (own_virtual X0 hx hZ hown (w112 hw) (w113 hw) (notFace_of_selects (args := #[]) (mvT hZ (w115 hw))) (w115 hw) (w114 hw) (w1 hw) (w116 hw) (by decide) (rm17_0 l Z a0 hw [] o1 p4 k_p4 l_2 sv_COMPACT_STRINGS h0 n0 O0 F_value_o1 V_p4 E_o1 S_COMPACT_STRINGS F_coder_o1 hCS (Nat.le_trans (own_len_le sh_l_2).2 (by decide))) e0 E_o1 rfl (by rw [hml]; rfl) (argsL := []) (rest := []) (lenOf own_pd24 rfl) rfl rfl (W := 0) (hb hby d16_10))) fun T1 X1 e1 => ?_
 refine Rn X1 hx hby sg16_13_3 16 #[sr o0, sr o1, .val (.int (own_n l_2))] [(.ref o0), (.ref o0)] rfl ?_
 refine Home.st (getF X1 hx hZ hown (host := "") (Or.inl (w82 hw)) Via.refl e1 F_count_o0 rfl rfl (hb hby d16_16)) fun T2 X2 e2 => ?_
 refine Rn X2 hx hby sg16_19_2 21 #[sr o0, sr o1, .val (.int (own_n l_2))] [(.int ((own_n l_1) + (own_n l_2))), (.ref o0)] rfl ?_
 rw [own_n_app]
 refine Home.call (own_private X2 hx hZ hown (w88 hw) (w89 hw) (own_selp (w91 hw) (w90 hw) (w89 hw) (by decide)) (Cond.privateMethod_at (mvP hZ (w90 hw) (args := #[]))) (w64 hw) (w92 hw) (by decide) (rm12_0 l Z a0 hw [] o0 (l_1 ++ l_2) p3 k_p3 l_1 h0 n0 O0 pt0 F_value_o0 V_p3 F_coder_o0 E_o0 (Nat.le_trans (own_len_app (own_len_le sh_l_1) (own_len_le sh_l_2)).2 (by decide)) (Nat.le_trans (own_len_le sh_l_1).2 (by decide)) g_o0 F_count_o0) e2 E_o0 rfl (by rw [hml]; rfl) (argsL := [(.int (own_n (l_1 ++ l_2)))]) (rest := []) (lenOf own_pd13 rfl) rfl rfl (W := 0) (hb hby d16_21)) ?_
 rintro _ T3 L3 X3 ⟨b2_7_3, k2_7_3, rfl, N3q, sz_b2_7_3, K3q, P3_0, P3_1, P3_2, P3_3, P3_4, P3_5⟩
 have g_b2_7_3 : n0 ≤ b2_7_3 := Nat.le_trans (Old.le O0) sz_b2_7_3
 have O3 := Old.keep O0 K3q (allS g_o0 all0)
 have K3 : Keep h0 T3.heap ([o0] : List Addr) := Keep.trans (Keep.refl h0 ([o0] : List Addr)) K3q (allS (Or.inl (List.mem_of_getElem? (i := 0) rfl)) all0)
 have N3 := Fr.app N0 N3q
 refine Rn X3 hx hby sg16_24_2 26 #[sr o0, sr o1, .val (.int (own_n l_2))] [(.ref o0), (.ref o0)] rfl ?_
 refine Home.st (getF X3 hx hZ hown (host := "") (Or.inl (w82 hw)) Via.refl rfl P3_3 rfl rfl (hb hby d16_26)) fun T4 X4 e4 => ?_
 show Home T4 (mkF m 29 #[sr o0, sr o1, .val (.int (own_n l_2))] [(.int (own_n l_1)), (.ref o0)])
 refine Rn X4 hx hby sg16_29_1 30 #[sr o0, sr o1, .val (.int (own_n l_2))] [(.ref o1), (.int (own_n l_1)), (.ref o0)] rfl ?_
 have ne5 : o1 ≠ o0 := (ne_exa (E_o1.keep K3) P3_2 (by decide))
 have q6 := (F_coder_o1.keep K3q (ninS ne5 nin0))
 have q7 := (F_value_o1.keep K3q (ninS ne5 nin0))
 have q8 := (V_p4.keep K3q (ninS ne_p4_o0 nin0))
 refine Home.call (own_private X4 hx hZ hown (w125 hw) (w126 hw) (own_selp (w128 hw) (w127 hw) (w126 hw) (by decide)) (Cond.privateMethod_at (mvP hZ (w127 hw) (args := #[]))) (w64 hw) (w129 hw) (by decide) (rm19_0 l Z a0 hw [] o0 o1 l_1 sv_COMPACT_STRINGS b2_7_3 p4 k_p4 l_2 k2_7_3 T3.heap n0 O3 P3_2 S_COMPACT_STRINGS P3_1 (E_o1.keep K3) q6 hCS P3_0 q7 q8 P3_5 P3_4 g_b2_7_3 (Nat.le_trans (own_len_le sh_l_1).2 (by decide)) (Nat.le_trans (own_len_le sh_l_2).2 (by decide))) e4 P3_2 rfl (by rw [hml]; rfl) (argsL := [(.int (own_n l_1)), (.ref o1)]) (rest := []) (lenOf own_pd27 rfl) rfl rfl (W := 0) (hb hby d16_30)) ?_
 rintro _ T9 L9 X9 ⟨rfl, N9q, K9q, P9_0, P9_1⟩
 have K9 : Keep h0 T9.heap ([o0] : List Addr) := Keep.trans K3 K9q (allS (Or.inr (Nat.le_trans (Nat.le_refl _) sz_b2_7_3)) all0)
 have N9 := Fr.app N3 N9q
 refine Rn X9 hx hby sg16_33_2 35 #[sr o0, sr o1, .val (.int (own_n l_2))] [(.ref o0), (.ref o0)] rfl ?_
 have ne10 : o0 ≠ b2_7_3 := (Nat.ne_of_lt (Nat.lt_of_lt_of_le F_count_o0.lt (Nat.le_trans (Nat.le_refl _) sz_b2_7_3)))
 have q11 := (P3_3.keep K9q (ninS ne10 nin0))
 refine Home.st (getF X9 hx hZ hown (host := "") (Or.inl (w82 hw)) Via.refl rfl q11 rfl rfl (hb hby d16_35)) fun T12 X12 e12 => ?_
 show Home T12 (mkF m 38 #[sr o0, sr o1, .val (.int (own_n l_2))] [(.int (own_n l_1)), (.ref o0)])
 refine Rn X12 hx hby sg16_38_2 40 #[sr o0, sr o1, .val (.int (own_n l_2))] [(.int ((own_n l_1) + (own_n l_2))), (.ref o0)] rfl ?_
 rw [own_n_app]
 refine Home.wr (putF X12 hx hZ hown (host := "") (Or.inl (w82 hw)) Via.refl e12 q11 (E_o0.keep K9) (Or.inl (w83 hw)) (w55 hw) (ty := .int) (by decide) rfl rfl rfl rfl (hb hby d16_40)) fun T13 h13 X13 e13 W13 => ?_
 have Fw13 := q11.same W13
 have K13 : Keep h0 h13 ([o0] : List Addr) := Keep.wr K9 W13 (Or.inl (List.mem_of_getElem? (i := 0) rfl))
 have N13 := Fr.snoc X13 N9 g_o0
 refine Rn X13 hx hby sg16_43_1 44 #[sr o0, sr o1, .val (.int (own_n l_2))] [(.ref o0)] rfl ?_
 have q14 := ((P3_0.keep K9q (ninS ne10 nin0)).other W13 (Or.inr (slot_ne (Or.inl (w69 hw)) (Or.inl (w83 hw)) (by decide) (t := (.array .byte)) (t' := .int) (by decide) (by decide))))
 have q15 := ((P3_1.keep K9q (ninS ne10 nin0)).other W13 (Or.inr (slot_ne (Or.inl (w71 hw)) (Or.inl (w83 hw)) (by decide) (t := .byte) (t' := .int) (by decide) (by decide))))
 have q16 := (P9_1.wr W13)
 have ne17 : b2_7_3 ≠ o0 := (Ne.symm ne10)
 have q18 := (P9_0.other W13 ne17)
 exact Home.retR X13 hx hlk hret rfl rfl (hb hby d16_44) (by rw [show T13.heap = h13 from e13]; exact ⟨b2_7_3, k2_7_3, rfl, N13, (Nat.le_trans (Nat.le_refl _) sz_b2_7_3), K13, Fw13, (E_o0.keep K13), q14, q15, q16, q18⟩) (by decide) (by decide)
theorem rm16_3 (l : Launch) (Z : State) (a0 : Array Value) (hw : HW a0 Z) (ws : List Jvm.Cond) (o0 o1 p4 : Addr) (k_p4 : ClassId) (l_2 : List Int32) (sv_COMPACT_STRINGS : Int32) (l_1 : List Int32) (p3 : Addr) (k_p3 : ClassId) (h0 : Heap) (n0 : Nat) (O0 : Old Z n0 h0) (pt0 : ¬ ((0 : Int32) < ((own_n (l_1 ++ l_2)) - (16 : Int32)))) (sh_l_1 : l_1.length ≤ 16) (sh_l_2 : l_2.length ≤ 2) (E_o1 : Exa Z h0 o1 "java/lang/String") (F_value_o1 : Fld Z h0 o1 "java/lang/String" "value" "[B" (.ref p4)) (V_p4 : Arv Z h0 p4 k_p4 .byte (own_n l_2) (List.map Value.int l_2) (.int 0)) (S_COMPACT_STRINGS : Sta Z Z.heap "java/lang/String" "COMPACT_STRINGS" "Z" (.int sv_COMPACT_STRINGS)) (F_coder_o1 : Fld Z h0 o1 "java/lang/String" "coder" "B" (.int 0)) (hCS : ¬ (sv_COMPACT_STRINGS = (0 : Int32))) (F_count_o0 : Fld Z h0 o0 "java/lang/AbstractStringBuilder" "count" "I" (.int (own_n l_1))) (E_o0 : Exa Z h0 o0 "java/lang/StringBuilder") (F_value_o0 : Fld Z h0 o0 "java/lang/AbstractStringBuilder" "value" "[B" (.ref p3)) (V_p3 : Arv Z h0 p3 k_p3 .byte (16 : Int32) (List.map Value.int l_1) (.int 0)) (F_coder_o0 : Fld Z h0 o0 "java/lang/AbstractStringBuilder" "coder" "B" (.int 0)) (E_p3 : Exa Z h0 p3 "[B") (g_p3 : n0 ≤ p3) (g_o0 : n0 ≤ o0) :
    Con l Z (⟨"java/lang/AbstractStringBuilder", "append", "(Ljava/lang/String;)Ljava/lang/AbstractStringBuilder;"⟩ : MethodName) jdk_68_method_22_code 3 (some (.object "java/lang/AbstractStringBuilder")) ws ({ frames := 3, cells := 0, slots := 0, locals := 47 } : Room) #[(.ref o0), (.ref o1)] h0 (fun v h L => v = some (.ref o0) ∧ Fr n0 L ∧ Keep h0 h [p3, o0] ∧ Arv Z h p3 k_p3 .byte (16 : Int32) (List.map Value.int (l_1 ++ l_2)) (.int 0) ∧ Exa Z h p3 "[B" ∧ Fld Z h o0 "java/lang/AbstractStringBuilder" "count" "I" (.int (own_n (l_1 ++ l_2))) ∧ Exa Z h o0 "java/lang/StringBuilder" ∧ Fld Z h o0 "java/lang/AbstractStringBuilder" "value" "[B" (.ref p3) ∧ Fld Z h o0 "java/lang/AbstractStringBuilder" "coder" "B" (.int 0)) := by
 refine own_body (plainFor_of_name own_pn6) (fun m => ef_rm16_0 m o0 o1) ?_
 intro p e s m below meth c s₁ hx hby hlk hml hret hZ hown hnm X0 e0
 have N0 := Fr.nil n0
 have lf901 : 0 ≤ (l_1 ++ l_2).length ∧ (l_1 ++ l_2).length ≤ 16 := own_fit (K := 16) pt0 (own_len_app (own_len_le sh_l_1) (own_len_le sh_l_2)) (by decide) (by decide)
 refine Rn X0 hx hby sg16_0_1 1 #[sr o0, sr o1, un] [(.ref o1)] rfl ?_
 refine Home.go (fun _ => XS.ifnonnullYes X0.here hx rfl (pc0 := 1) (pc' := 9) rfl (hb hby d16_1) rfl (by decide) (by decide)) ?_
 show Home s₁ (mkF m 9 #[sr o0, sr o1, un] [])
 refine Rn X0 hx hby sg16_9_1 10 #[sr o0, sr o1, un] [(.ref o1)] rfl ?_
 refine Home.st (own_pure (own_virtual X0 hx hZ hown (w112 hw) (w113 hw) (notFace_of_selects (args := #[]) (mvT hZ (w115 hw))) (w115 hw) (w114 hw) (w1 hw) (w116 hw) (by decide) (rm17_0 l Z a0 hw [] o1 p4 k_p4 l_2 sv_COMPACT_STRINGS h0 n0 O0 F_value_o1 V_p4 E_o1 S_COMPACT_STRINGS F_coder_o1 hCS (Nat.le_trans (own_len_le sh_l_2).2 (by decide))) e0 E_o1 rfl (by rw [hml]; rfl) (argsL := []) (rest := []) (lenOf own_pd24 rfl) rfl rfl (W := 0) (hb hby d16_10))) fun T1 X1 e1 => ?_
 refine Rn X1 hx hby sg16_13_3 16 #[sr o0, sr o1, .val (.int (own_n l_2))] [(.ref o0), (.ref o0)] rfl ?_
 refine Home.st (getF X1 hx hZ hown (host := "") (Or.inl (w82 hw)) Via.refl e1 F_count_o0 rfl rfl (hb hby d16_16)) fun T2 X2 e2 => ?_
 refine Rn X2 hx hby sg16_19_2 21 #[sr o0, sr o1, .val (.int (own_n l_2))] [(.int ((own_n l_1) + (own_n l_2))), (.ref o0)] rfl ?_
 rw [own_n_app]
 refine Home.st (own_pure (own_private X2 hx hZ hown (w88 hw) (w89 hw) (own_selp (w91 hw) (w90 hw) (w89 hw) (by decide)) (Cond.privateMethod_at (mvP hZ (w90 hw) (args := #[]))) (w64 hw) (w92 hw) (by decide) (rm12_1 l Z a0 hw [] o0 (l_1 ++ l_2) p3 k_p3 l_1 h0 n0 O0 F_value_o0 V_p3 F_coder_o0 (Nat.le_trans lf901.2 (by decide))) e2 E_o0 rfl (by rw [hml]; rfl) (argsL := [(.int (own_n (l_1 ++ l_2)))]) (rest := []) (lenOf own_pd13 rfl) rfl rfl (W := 0) (hb hby d16_21))) fun T3 X3 e3 => ?_
 refine Rn X3 hx hby sg16_24_2 26 #[sr o0, sr o1, .val (.int (own_n l_2))] [(.ref o0), (.ref o0)] rfl ?_
 refine Home.st (getF X3 hx hZ hown (host := "") (Or.inl (w82 hw)) Via.refl e3 F_count_o0 rfl rfl (hb hby d16_26)) fun T4 X4 e4 => ?_
 refine Rn X4 hx hby sg16_29_1 30 #[sr o0, sr o1, .val (.int (own_n l_2))] [(.ref o1), (.int (own_n l_1)), (.ref o0)] rfl ?_
 refine Home.call (own_private X4 hx hZ hown (w125 hw) (w126 hw) (own_selp (w128 hw) (w127 hw) (w126 hw) (by decide)) (Cond.privateMethod_at (mvP hZ (w127 hw) (args := #[]))) (w64 hw) (w129 hw) (by decide) (rm19_2 l Z a0 hw [] o0 o1 l_1 sv_COMPACT_STRINGS p3 p4 k_p4 l_2 k_p3 h0 n0 O0 E_o0 S_COMPACT_STRINGS F_coder_o0 E_o1 F_coder_o1 hCS F_value_o0 F_value_o1 V_p4 V_p3 E_p3 g_p3 (Nat.le_trans (own_len_le sh_l_1).2 (by decide)) (Nat.le_trans (own_len_le sh_l_2).2 (by decide)) (Nat.le_trans lf901.2 (by decide))) e4 E_o0 rfl (by rw [hml]; rfl) (argsL := [(.int (own_n l_1)), (.ref o1)]) (rest := []) (lenOf own_pd27 rfl) rfl rfl (W := 0) (hb hby d16_30)) ?_
 rintro _ T5 L5 X5 ⟨rfl, N5q, K5q, P5_0, P5_1⟩
 have K5 : Keep h0 T5.heap ([p3, o0] : List Addr) := Keep.trans (Keep.refl h0 ([p3, o0] : List Addr)) K5q (allS (Or.inl (List.mem_of_getElem? (i := 0) rfl)) all0)
 have N5 := Fr.app N0 N5q
 show Home T5 (mkF m 33 #[sr o0, sr o1, .val (.int (own_n l_2))] [])
 refine Rn X5 hx hby sg16_33_2 35 #[sr o0, sr o1, .val (.int (own_n l_2))] [(.ref o0), (.ref o0)] rfl ?_
 have ne6 : o0 ≠ p3 := (own_neAV (E_o0.keep K5q) (w55 hw) P5_0)
 have q7 := (F_count_o0.keep K5q (ninS ne6 nin0))
 refine Home.st (getF X5 hx hZ hown (host := "") (Or.inl (w82 hw)) Via.refl rfl q7 rfl rfl (hb hby d16_35)) fun T8 X8 e8 => ?_
 refine Rn X8 hx hby sg16_38_2 40 #[sr o0, sr o1, .val (.int (own_n l_2))] [(.int ((own_n l_1) + (own_n l_2))), (.ref o0)] rfl ?_
 rw [own_n_app]
 refine Home.wr (putF X8 hx hZ hown (host := "") (Or.inl (w82 hw)) Via.refl e8 q7 (E_o0.keep K5) (Or.inl (w83 hw)) (w55 hw) (ty := .int) (by decide) rfl rfl rfl rfl (hb hby d16_40)) fun T9 h9 X9 e9 W9 => ?_
 have Fw9 := q7.same W9
 have K9 : Keep h0 h9 ([p3, o0] : List Addr) := Keep.wr K5 W9 (Or.inl (List.mem_of_getElem? (i := 1) rfl))
 have N9 := Fr.snoc X9 N5 g_o0
 refine Rn X9 hx hby sg16_43_1 44 #[sr o0, sr o1, .val (.int (own_n l_2))] [(.ref o0)] rfl ?_
 have ne10 : p3 ≠ o0 := (Ne.symm ne6)
 have q11 := (P5_0.other W9 ne10)
 have q12 := ((F_value_o0.keep K5q (ninS ne6 nin0)).other W9 (Or.inr (slot_ne (Or.inl (w69 hw)) (Or.inl (w83 hw)) (by decide) (t := (.array .byte)) (t' := .int) (by decide) (by decide))))
 have q13 := ((F_coder_o0.keep K5q (ninS ne6 nin0)).other W9 (Or.inr (slot_ne (Or.inl (w71 hw)) (Or.inl (w83 hw)) (by decide) (t := .byte) (t' := .int) (by decide) (by decide))))
 exact Home.retR X9 hx hlk hret rfl rfl (hb hby d16_44) (by rw [show T9.heap = h9 from e9]; exact ⟨rfl, N9, K9, q11, (E_p3.keep K9), Fw9, (E_o0.keep K9), q12, q13⟩) (by decide) (by decide)
theorem rm15_2 (l : Launch) (Z : State) (a0 : Array Value) (hw : HW a0 Z) (ws : List Jvm.Cond) (o0 o1 p4 : Addr) (k_p4 : ClassId) (l_2 : List Int32) (sv_COMPACT_STRINGS : Int32) (p3 : Addr) (k_p3 : ClassId) (l_1 : List Int32) (h0 : Heap) (n0 : Nat) (O0 : Old Z n0 h0) (pt0 : (0 : Int32) < ((own_n (l_1 ++ l_2)) - (16 : Int32))) (E_o0 : Exa Z h0 o0 "java/lang/StringBuilder") (E_o1 : Exa Z h0 o1 "java/lang/String") (F_value_o1 : Fld Z h0 o1 "java/lang/String" "value" "[B" (.ref p4)) (V_p4 : Arv Z h0 p4 k_p4 .byte (own_n l_2) (List.map Value.int l_2) (.int 0)) (S_COMPACT_STRINGS : Sta Z Z.heap "java/lang/String" "COMPACT_STRINGS" "Z" (.int sv_COMPACT_STRINGS)) (F_coder_o1 : Fld Z h0 o1 "java/lang/String" "coder" "B" (.int 0)) (F_value_o0 : Fld Z h0 o0 "java/lang/AbstractStringBuilder" "value" "[B" (.ref p3)) (V_p3 : Arv Z h0 p3 k_p3 .byte (16 : Int32) (List.map Value.int l_1) (.int 0)) (F_coder_o0 : Fld Z h0 o0 "java/lang/AbstractStringBuilder" "coder" "B" (.int 0)) (F_count_o0 : Fld Z h0 o0 "java/lang/AbstractStringBuilder" "count" "I" (.int (own_n l_1))) (g_o0 : n0 ≤ o0) (hCS : ¬ (sv_COMPACT_STRINGS = (0 : Int32))) (sh_l_2 : l_2.length ≤ 2) (sh_l_1 : l_1.length ≤ 16) :
    Con l Z (⟨"java/lang/StringBuilder", "append", "(Ljava/lang/String;)Ljava/lang/StringBuilder;"⟩ : MethodName) jdk_67_method_7_code 2 (some (.object "java/lang/StringBuilder")) ws ({ frames := 5, cells := 1, slots := 34, locals := 76 } : Room) #[(.ref o0), (.ref o1)] h0 (fun v h L => ∃ (b2_7_3_2 : Addr), ∃ (k2_7_3_2 : ClassId), v = some (.ref o0) ∧ Fr n0 L ∧ h0.size ≤ b2_7_3_2 ∧ Keep h0 h [o0] ∧ Exa Z h o0 "java/lang/StringBuilder" ∧ Fld Z h o0 "java/lang/AbstractStringBuilder" "value" "[B" (.ref b2_7_3_2) ∧ Fld Z h o0 "java/lang/AbstractStringBuilder" "coder" "B" (.int 0) ∧ Fld Z h o0 "java/lang/AbstractStringBuilder" "count" "I" (.int (own_n (l_1 ++ l_2))) ∧ Exa Z h b2_7_3_2 "[B" ∧ Arv Z h b2_7_3_2 k2_7_3_2 .byte (34 : Int32) (List.map Value.int (l_1 ++ l_2)) (.int 0)) := by
 refine own_body (plainFor_of_name own_pn7) (fun m => ef_rm46_0 m o0 o1) ?_
 intro p e s m below meth c s₁ hx hby hlk hml hret hZ hown hnm X0 e0
 have N0 := Fr.nil n0
 refine Rn X0 hx hby sg15_0_2 2 #[sr o0, sr o1] [(.ref o1), (.ref o0)] rfl ?_
 have ne1 : p4 ≠ o0 := (Ne.symm (own_neAV E_o0 (w55 hw) V_p4))
 refine Home.call (own_super X0 hx hZ hown (w108 hw) (own_samem (w109 hw) (w91 hw) rfl (by decide)) (w109 hw) (w79 hw) (by decide) (w64 hw) (w111 hw) (rm16_2 l Z a0 hw [] o0 o1 p4 k_p4 l_2 sv_COMPACT_STRINGS l_1 p3 k_p3 h0 n0 O0 pt0 E_o1 F_value_o1 V_p4 S_COMPACT_STRINGS F_coder_o1 hCS (Nat.le_trans (own_len_le sh_l_2).2 (by decide)) F_count_o0 E_o0 F_value_o0 V_p3 F_coder_o0 g_o0 (Nat.le_trans (own_len_le sh_l_1).2 (by decide)) ne1) e0 E_o0 rfl (by rw [hml]; rfl) (argsL := [(.ref o1)]) (rest := []) (lenOf own_pd28 rfl) rfl rfl (W := 0) (hb hby d15_2)) ?_
 rintro _ T2 L2 X2 ⟨b2_7_3_2, k2_7_3_2, rfl, N2q, sz_b2_7_3_2, K2q, P2_0, P2_1, P2_2, P2_3, P2_4, P2_5⟩
 have g_b2_7_3_2 : n0 ≤ b2_7_3_2 := Nat.le_trans (Old.le O0) sz_b2_7_3_2
 have K2 : Keep h0 T2.heap ([o0] : List Addr) := Keep.trans (Keep.refl h0 ([o0] : List Addr)) K2q (allS (Or.inl (List.mem_of_getElem? (i := 0) rfl)) all0)
 have N2 := Fr.app N0 N2q
 refine Rn X2 hx hby sg15_5_2 7 #[sr o0, sr o1] [(.ref o0)] rfl ?_
 exact Home.retR X2 hx hlk hret rfl rfl (hb hby d15_7) ⟨b2_7_3_2, k2_7_3_2, rfl, N2, (Nat.le_trans (Nat.le_refl _) sz_b2_7_3_2), K2, P2_1, P2_2, P2_3, P2_0, P2_4, P2_5⟩ (by decide) (by decide)
theorem rm15_3 (l : Launch) (Z : State) (a0 : Array Value) (hw : HW a0 Z) (ws : List Jvm.Cond) (o0 o1 p4 : Addr) (k_p4 : ClassId) (l_2 : List Int32) (sv_COMPACT_STRINGS : Int32) (p3 : Addr) (k_p3 : ClassId) (l_1 : List Int32) (h0 : Heap) (n0 : Nat) (O0 : Old Z n0 h0) (pt0 : ¬ ((0 : Int32) < ((own_n (l_1 ++ l_2)) - (16 : Int32)))) (sh_l_1 : l_1.length ≤ 16) (sh_l_2 : l_2.length ≤ 2) (E_o0 : Exa Z h0 o0 "java/lang/StringBuilder") (E_o1 : Exa Z h0 o1 "java/lang/String") (F_value_o1 : Fld Z h0 o1 "java/lang/String" "value" "[B" (.ref p4)) (V_p4 : Arv Z h0 p4 k_p4 .byte (own_n l_2) (List.map Value.int l_2) (.int 0)) (S_COMPACT_STRINGS : Sta Z Z.heap "java/lang/String" "COMPACT_STRINGS" "Z" (.int sv_COMPACT_STRINGS)) (F_coder_o1 : Fld Z h0 o1 "java/lang/String" "coder" "B" (.int 0)) (F_value_o0 : Fld Z h0 o0 "java/lang/AbstractStringBuilder" "value" "[B" (.ref p3)) (V_p3 : Arv Z h0 p3 k_p3 .byte (16 : Int32) (List.map Value.int l_1) (.int 0)) (F_coder_o0 : Fld Z h0 o0 "java/lang/AbstractStringBuilder" "coder" "B" (.int 0)) (E_p3 : Exa Z h0 p3 "[B") (F_count_o0 : Fld Z h0 o0 "java/lang/AbstractStringBuilder" "count" "I" (.int (own_n l_1))) (g_p3 : n0 ≤ p3) (g_o0 : n0 ≤ o0) (hCS : ¬ (sv_COMPACT_STRINGS = (0 : Int32))) :
    Con l Z (⟨"java/lang/StringBuilder", "append", "(Ljava/lang/String;)Ljava/lang/StringBuilder;"⟩ : MethodName) jdk_67_method_7_code 2 (some (.object "java/lang/StringBuilder")) ws ({ frames := 4, cells := 0, slots := 0, locals := 61 } : Room) #[(.ref o0), (.ref o1)] h0 (fun v h L => v = some (.ref o0) ∧ Fr n0 L ∧ Keep h0 h [o0, p3] ∧ Exa Z h o0 "java/lang/StringBuilder" ∧ Fld Z h o0 "java/lang/AbstractStringBuilder" "value" "[B" (.ref p3) ∧ Fld Z h o0 "java/lang/AbstractStringBuilder" "coder" "B" (.int 0) ∧ Fld Z h o0 "java/lang/AbstractStringBuilder" "count" "I" (.int (own_n (l_1 ++ l_2))) ∧ Arv Z h p3 k_p3 .byte (16 : Int32) (List.map Value.int (l_1 ++ l_2)) (.int 0) ∧ Exa Z h p3 "[B") := by
 refine own_body (plainFor_of_name own_pn7) (fun m => ef_rm46_0 m o0 o1) ?_
 intro p e s m below meth c s₁ hx hby hlk hml hret hZ hown hnm X0 e0
 have N0 := Fr.nil n0
 have lf901 : 0 ≤ (l_1 ++ l_2).length ∧ (l_1 ++ l_2).length ≤ 16 := own_fit (K := 16) pt0 (own_len_app (own_len_le sh_l_1) (own_len_le sh_l_2)) (by decide) (by decide)
 refine Rn X0 hx hby sg15_0_2 2 #[sr o0, sr o1] [(.ref o1), (.ref o0)] rfl ?_
 refine Home.call (own_super X0 hx hZ hown (w108 hw) (own_samem (w109 hw) (w91 hw) rfl (by decide)) (w109 hw) (w79 hw) (by decide) (w64 hw) (w111 hw) (rm16_3 l Z a0 hw [] o0 o1 p4 k_p4 l_2 sv_COMPACT_STRINGS l_1 p3 k_p3 h0 n0 O0 pt0 (Nat.le_trans (own_len_le sh_l_1).2 (by decide)) (Nat.le_trans (own_len_le sh_l_2).2 (by decide)) E_o1 F_value_o1 V_p4 S_COMPACT_STRINGS F_coder_o1 hCS F_count_o0 E_o0 F_value_o0 V_p3 F_coder_o0 E_p3 g_p3 g_o0) e0 E_o0 rfl (by rw [hml]; rfl) (argsL := [(.ref o1)]) (rest := []) (lenOf own_pd28 rfl) rfl rfl (W := 0) (hb hby d15_2)) ?_
 rintro _ T1 L1 X1 ⟨rfl, N1q, K1q, P1_0, P1_1, P1_2, P1_3, P1_4, P1_5⟩
 have K1 : Keep h0 T1.heap ([o0, p3] : List Addr) := Keep.trans (Keep.refl h0 ([o0, p3] : List Addr)) K1q (allS (Or.inl (List.mem_of_getElem? (i := 1) rfl)) (allS (Or.inl (List.mem_of_getElem? (i := 0) rfl)) all0))
 have N1 := Fr.app N0 N1q
 refine Rn X1 hx hby sg15_5_2 7 #[sr o0, sr o1] [(.ref o0)] rfl ?_
 exact Home.retR X1 hx hlk hret rfl rfl (hb hby d15_7) ⟨rfl, N1, K1, P1_3, P1_4, P1_5, P1_2, P1_0, P1_1⟩ (by decide) (by decide)
theorem rm31_5 (l : Launch) (Z : State) (a0 : Array Value) (hw : HW a0 Z) (ws : List Jvm.Cond) (l_1 : List Int32) (h0 : Heap) (n0 : Nat) (O0 : Old Z n0 h0) (pt0 : (own_n l_1) < (16 : Int32)) (sh_l_1 : l_1.length ≤ 16) :
    Con l Z (⟨"java/lang/Math", "min", "(II)I"⟩ : MethodName) jdk_29_method_69_code 2 (some .int) ws ({ frames := 0, cells := 0, slots := 0, locals := 0 } : Room) #[(.int 16), (.int (own_n l_1))] h0 (Pur (some (.int (own_n l_1))) h0) := by
 refine own_body (Jvm.Free.JP.mathPlain rfl (by decide +kernel)) (fun m => ef_rm44_0 m (16 : Int32) (own_n l_1)) ?_
 intro p e s m below meth c s₁ hx hby hlk hml hret hZ hown hnm X0 e0
 refine Rn X0 hx hby sg31_0_2 2 #[si 16, .val (.int (own_n l_1))] [(.int (own_n l_1)), (.int 16)] rfl ?_
 refine Home.go (fun _ => XS.icmpYes X0.here hx rfl (pc0 := 2) (pc' := 9) rfl (hb hby d31_2) rfl (tlt pt0).2.2.1 (by decide) (by decide)) ?_
 refine Rn X0 hx hby sg31_9_1 10 #[si 16, .val (.int (own_n l_1))] [(.int (own_n l_1))] rfl ?_
 exact Home.retI X0 hx hlk hret (hb hby d31_10) ⟨rfl, rfl, e0⟩ (by decide) (by decide)
theorem rm31_6 (l : Launch) (Z : State) (a0 : Array Value) (hw : HW a0 Z) (ws : List Jvm.Cond) (l_1 : List Int32) (h0 : Heap) (n0 : Nat) (O0 : Old Z n0 h0) (pt0 : ¬ ((own_n l_1) < (16 : Int32))) (sh_l_1 : l_1.length ≤ 16) :
    Con l Z (⟨"java/lang/Math", "min", "(II)I"⟩ : MethodName) jdk_29_method_69_code 2 (some .int) ws ({ frames := 0, cells := 0, slots := 0, locals := 0 } : Room) #[(.int 16), (.int (own_n l_1))] h0 (Pur (some (.int 16)) h0) := by
 refine own_body (Jvm.Free.JP.mathPlain rfl (by decide +kernel)) (fun m => ef_rm44_0 m (16 : Int32) (own_n l_1)) ?_
 intro p e s m below meth c s₁ hx hby hlk hml hret hZ hown hnm X0 e0
 refine Rn X0 hx hby sg31_0_2 2 #[si 16, .val (.int (own_n l_1))] [(.int (own_n l_1)), (.int 16)] rfl ?_
 refine Home.go (fun _ => XS.icmpNo X0.here hx rfl (hb hby d31_2) rfl (flt pt0).2.2.1) ?_
 refine Rn X0 hx hby sg31_5_2 10 #[si 16, .val (.int (own_n l_1))] [(.int 16)] rfl ?_
 exact Home.retI X0 hx hlk hret (hb hby d31_10) ⟨rfl, rfl, e0⟩ (by decide) (by decide)
theorem rm29_2 (l : Launch) (Z : State) (a0 : Array Value) (hw : HW a0 Z) (ws : List Jvm.Cond) (o0 : Addr) (l_1 : List Int32) (k_o0 : ClassId) (h0 : Heap) (n0 : Nat) (O0 : Old Z n0 h0) (pt0 : (own_n l_1) < (16 : Int32)) (sh_l_1 : l_1.length ≤ 16) (V_o0 : Arv Z h0 o0 k_o0 .byte (16 : Int32) (List.map Value.int l_1) (.int 0)) :
    Con l Z (⟨"java/util/Arrays", "copyOfRangeByte", "([BII)[B"⟩ : MethodName) jdk_65_method_133_code 5 (some (.array .byte)) ws ({ frames := 1, cells := 1, slots := 15, locals := 18 } : Room) #[(.ref o0), (.int 0), (.int (own_n l_1))] h0 (fun v h L => ∃ (b2 : Addr), ∃ (k2 : ClassId), v = some (.ref b2) ∧ Fr n0 L ∧ h0.size ≤ b2 ∧ Keep h0 h [] ∧ Exa Z h b2 "[B" ∧ Arv Z h b2 k2 .byte (own_n l_1) (List.map Value.int l_1) (.int 0)) := by
 refine own_body (plainFor_of_name own_pn10) (fun m => ef_rm29_0 m o0 (0 : Int32) (own_n l_1)) ?_
 intro p e s m below meth c s₁ hx hby hlk hml hret hZ hown hnm X0 e0
 have N0 := Fr.nil n0
 have bd901 : ¬ (own_n l_1) < (0 : Int32) ∧ ¬ (15 : Int32) < (own_n l_1) := ⟨(own_n_b (a := 0) (b := 16) (own_len_le sh_l_1) (lo := (0 : Int32)) (hi := (16 : Int32)) (by decide) (by decide) (by decide)).1, (bnd_dn pt0 (by decide +kernel))⟩
 refine Rn X0 hx hby sg29_0_2 2 #[sr o0, si 0, .val (.int (own_n l_1)), un, un] [(.int (own_n l_1)), (.int 0)] rfl ?_
 refine Home.st (own_pure (own_static X0 hx hZ hown (w179 hw) (w180 hw) (w174 hw) (w181 hw) (by decide) (rm30_0 l Z a0 hw [] l_1 h0 n0 O0 (Nat.le_trans (own_len_le sh_l_1).2 (by decide))) e0 rfl (by rw [hml]; rfl) (argsL := [(.int 0), (.int (own_n l_1))]) (rest := []) (lenOf own_pd31 rfl) rfl rfl (W := 0) (hb hby d29_2))) fun T1 X1 e1 => ?_
 refine Rn X1 hx hby sg29_5_3 8 #[sr o0, si 0, .val (.int (own_n l_1)), un, un] [(.int ((own_n l_1) - (0 : Int32)))] rfl ?_
 rw [own_sub0]
 refine Rn X1 hx hby sg29_8_2 10 #[sr o0, si 0, .val (.int (own_n l_1)), .val (.int (own_n l_1)), un] [(.int (own_n l_1))] rfl ?_
 refine Home.na (own_newPE (aty := .byte) X1 hx hZ (w3 hw) e1 (g := (mkF m 10 #[.val (.ref o0), .val (.int 0), .val (.int (own_n l_1)), .val (.int (own_n l_1)), .unset] [(.int (own_n l_1))])) rfl (hb hby d29_10) rfl (bnd_nlt bd901 (bnd_lit (0 : Int32)) (by decide +kernel)) (cap := 15) (own_capb bd901 (by decide)) (by decide) (by decide) (by decide)) fun T2 h2 k2 b2 g2 X2 e2 E2 AE2 => ?_
 have A2 := AE2.1
 have Ex2 := AE2.2
 have g_b2 : n0 ≤ b2 := Nat.le_trans (Old.le O0) (Nat.le_of_eq g2.symm)
 have V2 : Arv Z h2 b2 k2 .byte (own_n l_1) (List.map Value.int []) (.int 0) := Arv.new A2 (bnd_nlt bd901 (bnd_lit (0 : Int32)) (by decide +kernel))
 have O2 := O0.ext E2
 have K2 : Keep h0 h2 ([] : List Addr) := Keep.ext (Keep.refl h0 ([] : List Addr)) E2
 refine Rn X2 hx hby sg29_12_6 20 #[sr o0, si 0, .val (.int (own_n l_1)), .val (.int (own_n l_1)), sr b2] [(.ref o0), (.int 0), (.ref b2), (.int 0), (.ref o0)] rfl ?_
 obtain ⟨cl3, Ar3, q3, S3, M3, H3, G3⟩ := id (V_o0.keep K2 nin0)
 refine Home.go (own_alen X2 hx hZ e2 Ar3 S3 M3 rfl rfl (hb hby d29_20)) ?_
 show Home T2 (mkF m 21 #[sr o0, si 0, .val (.int (own_n l_1)), .val (.int (own_n l_1)), sr b2] [(.int 16), (.int 0), (.ref b2), (.int 0), (.ref o0)])
 refine Rn X2 hx hby sg29_21_3 24 #[sr o0, si 0, .val (.int (own_n l_1)), .val (.int (own_n l_1)), sr b2] [(.int (own_n l_1)), (.int 16), (.int 0), (.ref b2), (.int 0), (.ref o0)] rfl ?_
 refine Home.st (own_pure (own_static X2 hx hZ hown (w182 hw) (w183 hw) (w184 hw) (w185 hw) (by decide) (rm31_5 l Z a0 hw [] l_1 h2 n0 O2 pt0 (Nat.le_trans (own_len_le sh_l_1).2 (by decide))) e2 rfl (by rw [hml]; rfl) (argsL := [(.int 16), (.int (own_n l_1))]) (rest := [(.int 0), (.ref b2), (.int 0), (.ref o0)]) (lenOf own_pd16 rfl) rfl rfl (W := 4) (hb hby d29_24))) fun T4 X4 e4 => ?_
 refine Home.cp (own_cpS X4 hx hZ hown (w186 hw) (w144 hw) (w142 hw) (w143 hw) e4 (V_o0.keep K2 nin0) V2 (Y := []) (X := l_1) (Nat.le_trans (own_len_le sh_l_1).2 (by decide)) (Nat.le_trans (Nat.le_of_eq (Nat.zero_add _)) (own_n_le (own_len_le sh_l_1))) (Nat.lt_of_le_of_lt (own_len_app (own_len_lit (l := []) (n := 0) rfl) (own_len_le sh_l_1)).2 (by decide)) (dp := (0 : Int32)) rfl N0 g_b2 (g := (mkF m 27 #[.val (.ref o0), .val (.int 0), .val (.int (own_n l_1)), .val (.int (own_n l_1)), .val (.ref b2)] [(.int (own_n l_1)), (.int 0), (.ref b2), (.int 0), (.ref o0)])) rfl (by rw [hml]; rfl) rfl (hb hby d29_27) (by decide) (W := 0) (by exact hW0) (by decide)) fun T5 h5 L5 X5 e5 N5 K5q Vq5 => ?_
 have V5 : Arv Z h5 b2 k2 .byte (own_n l_1) (List.map Value.int l_1) (.int 0) := Vq5
 have K5 : Keep h0 h5 ([] : List Addr) := Keep.trans K2 K5q (allS (Or.inr (Nat.le_trans (Nat.le_refl _) (Nat.le_of_eq g2.symm))) all0)
 refine Rn X5 hx hby sg29_30_1 32 #[sr o0, si 0, .val (.int (own_n l_1)), .val (.int (own_n l_1)), sr b2] [(.ref b2)] rfl ?_
 have q6 := (Ex2.keep K5q)
 exact Home.retR X5 hx hlk hret rfl rfl (hb hby d29_32) (by rw [show T5.heap = h5 from e5]; exact ⟨b2, k2, rfl, N5, (Nat.le_trans (Nat.le_refl _) (Nat.le_of_eq g2.symm)), K5, q6, V5⟩) (by decide) (by decide)
theorem rm28_3 (l : Launch) (Z : State) (a0 : Array Value) (hw : HW a0 Z) (ws : List Jvm.Cond) (o0 : Addr) (l_1 : List Int32) (k_o0 : ClassId) (h0 : Heap) (n0 : Nat) (O0 : Old Z n0 h0) (pt0 : (own_n l_1) = (16 : Int32)) (sh_l_1 : l_1.length ≤ 16) (V_o0 : Arv Z h0 o0 k_o0 .byte (16 : Int32) (List.map Value.int l_1) (.int 0)) (E_o0 : Exa Z h0 o0 "[B") :
    Con l Z (⟨"java/util/Arrays", "copyOfRange", "([BII)[B"⟩ : MethodName) jdk_65_method_132_code 3 (some (.array .byte)) ws ({ frames := 1, cells := 1, slots := 16, locals := 14 } : Room) #[(.ref o0), (.int 0), (.int (own_n l_1))] h0 (fun v h L => ∃ (b2 : Addr), v = some (.ref b2) ∧ Fr n0 L ∧ h0.size ≤ b2 ∧ Keep h0 h [] ∧ Arv Z h b2 k_o0 .byte (own_n l_1) (List.map Value.int l_1) (.int 0) ∧ Exa Z h b2 "[B") := by
 refine own_body (plainFor_of_name own_pn10) (fun m => ef_rm28_0 m o0 (0 : Int32) (own_n l_1)) ?_
 intro p e s m below meth c s₁ hx hby hlk hml hret hZ hown hnm X0 e0
 have N0 := Fr.nil n0
 refine Rn X0 hx hby sg28_0_1 1 #[sr o0, si 0, .val (.int (own_n l_1))] [(.int 0)] rfl ?_
 refine Home.go (fun _ => XS.ifNo X0.here hx rfl (hb hby d28_1) rfl ((if0 _ _).trans (teq (by decide)).2)) ?_
 refine Rn X0 hx hby sg28_4_2 6 #[sr o0, si 0, .val (.int (own_n l_1))] [(.ref o0), (.int (own_n l_1))] rfl ?_
 obtain ⟨cl1, Ar1, q1, S1, M1, H1, G1⟩ := id V_o0
 refine Home.go (own_alen X0 hx hZ e0 Ar1 S1 M1 rfl rfl (hb hby d28_6)) ?_
 refine Home.go (fun _ => XS.icmpYes X0.here hx rfl (pc0 := 7) (pc' := 17) rfl (hb hby d28_7) rfl (teq pt0).1 (by decide) (by decide)) ?_
 refine Rn X0 hx hby sg28_17_1 18 #[sr o0, si 0, .val (.int (own_n l_1))] [(.ref o0)] rfl ?_
 refine Home.nw (own_clone X0 hx hZ hown (w244 hw) (w245 hw) (w249 hw) (w247 hw) (w248 hw) (w250 hw) e0 V_o0 E_o0 (g := (mkF m 18 #[.val (.ref o0), .val (.int 0), .val (.int (own_n l_1))] [(.ref o0)])) rfl (by rw [hml]; rfl) rfl (hb hby d28_18) (by decide) (W := 0) (by exact hW0) (by decide) (cap := 16) (by decide) (by decide) (by decide)) fun T2 h2 b2 g2 X2 e2 E2 V2 A2 => ?_
 have g_b2 : n0 ≤ b2 := Nat.le_trans (Old.le O0) (Nat.le_of_eq g2.symm)
 have K2 : Keep h0 h2 ([] : List Addr) := Keep.ext (Keep.refl h0 ([] : List Addr)) E2
 refine Home.st (castY X2 hx hZ hown (w251 hw) e2 (Ins.self A2) rfl rfl (hb hby d28_21)) fun T3 X3 e3 => ?_
 have V4 : Arv Z h2 b2 k_o0 .byte (own_n l_1) (List.map Value.int l_1) (.int 0) := by have q := V2; rw [← (pt0 : (own_n l_1) = (16 : Int32))] at q; exact q
 exact Home.retR X3 hx hlk hret rfl rfl (hb hby d28_24) (by rw [show T3.heap = h2 from e3]; exact ⟨b2, rfl, N0, (Nat.le_trans (Nat.le_refl _) (Nat.le_of_eq g2.symm)), K2, V4, A2⟩) (by decide) (by decide)
theorem rm28_4 (l : Launch) (Z : State) (a0 : Array Value) (hw : HW a0 Z) (ws : List Jvm.Cond) (o0 : Addr) (l_1 : List Int32) (k_o0 : ClassId) (h0 : Heap) (n0 : Nat) (O0 : Old Z n0 h0) (pt0 : ¬ ((own_n l_1) = (16 : Int32))) (sh_l_1 : l_1.length ≤ 16) (V_o0 : Arv Z h0 o0 k_o0 .byte (16 : Int32) (List.map Value.int l_1) (.int 0)) :
    Con l Z (⟨"java/util/Arrays", "copyOfRange", "([BII)[B"⟩ : MethodName) jdk_65_method_132_code 3 (some (.array .byte)) ws ({ frames := 2, cells := 1, slots := 15, locals := 34 } : Room) #[(.ref o0), (.int 0), (.int (own_n l_1))] h0 (fun v h L => ∃ (b2_2 : Addr), ∃ (k2_2 : ClassId), v = some (.ref b2_2) ∧ Fr n0 L ∧ h0.size ≤ b2_2 ∧ Keep h0 h [] ∧ Exa Z h b2_2 "[B" ∧ Arv Z h b2_2 k2_2 .byte (own_n l_1) (List.map Value.int l_1) (.int 0)) := by
 refine own_body (plainFor_of_name own_pn10) (fun m => ef_rm28_0 m o0 (0 : Int32) (own_n l_1)) ?_
 intro p e s m below meth c s₁ hx hby hlk hml hret hZ hown hnm X0 e0
 have N0 := Fr.nil n0
 have bd901 : ¬ (own_n l_1) < (0 : Int32) ∧ ¬ (15 : Int32) < (own_n l_1) := ⟨(own_n_b (a := 0) (b := 16) (own_len_le sh_l_1) (lo := (0 : Int32)) (hi := (16 : Int32)) (by decide) (by decide) (by decide)).1, (bnd_ner (own_n_b (a := 0) (b := 16) (own_len_le sh_l_1) (lo := (0 : Int32)) (hi := (16 : Int32)) (by decide) (by decide) (by decide)).2 pt0 (by decide +kernel))⟩
 refine Rn X0 hx hby sg28_0_1 1 #[sr o0, si 0, .val (.int (own_n l_1))] [(.int 0)] rfl ?_
 refine Home.go (fun _ => XS.ifNo X0.here hx rfl (hb hby d28_1) rfl ((if0 _ _).trans (teq (by decide)).2)) ?_
 refine Rn X0 hx hby sg28_4_2 6 #[sr o0, si 0, .val (.int (own_n l_1))] [(.ref o0), (.int (own_n l_1))] rfl ?_
 obtain ⟨cl1, Ar1, q1, S1, M1, H1, G1⟩ := id V_o0
 refine Home.go (own_alen X0 hx hZ e0 Ar1 S1 M1 rfl rfl (hb hby d28_6)) ?_
 refine Home.go (fun _ => XS.icmpNo X0.here hx rfl (hb hby d28_7) rfl (feq pt0).1) ?_
 refine Rn X0 hx hby sg28_10_3 13 #[sr o0, si 0, .val (.int (own_n l_1))] [(.int (own_n l_1)), (.int 0), (.ref o0)] rfl ?_
 refine Home.call (own_static X0 hx hZ hown (w176 hw) (w177 hw) (w174 hw) (w178 hw) (by decide) (rm29_2 l Z a0 hw [] o0 l_1 k_o0 h0 n0 O0 (bnd_lt bd901 (bnd_lit (16 : Int32)) (by decide +kernel)) (Nat.le_trans (own_len_le sh_l_1).2 (by decide)) V_o0) e0 rfl (by rw [hml]; rfl) (argsL := [(.ref o0), (.int 0), (.int (own_n l_1))]) (rest := []) (lenOf own_pd32 rfl) rfl rfl (W := 0) (hb hby d28_13)) ?_
 rintro _ T2 L2 X2 ⟨b2_2, k2_2, rfl, N2q, sz_b2_2, K2q, P2_0, P2_1⟩
 have g_b2_2 : n0 ≤ b2_2 := Nat.le_trans (Old.le O0) sz_b2_2
 have K2 : Keep h0 T2.heap ([] : List Addr) := Keep.trans (Keep.refl h0 ([] : List Addr)) K2q all0
 have N2 := Fr.app N0 N2q
 exact Home.retR X2 hx hlk hret rfl rfl (hb hby d28_16) ⟨b2_2, k2_2, rfl, N2, (Nat.le_trans (Nat.le_refl _) sz_b2_2), K2, P2_0, P2_1⟩ (by decide) (by decide)
theorem rm24_3 (l : Launch) (Z : State) (a0 : Array Value) (hw : HW a0 Z) (ws : List Jvm.Cond) (o0 o1 p3 : Addr) (l_1 : List Int32) (sv_COMPACT_STRINGS : Int32) (k_p3 : ClassId) (h0 : Heap) (n0 : Nat) (O0 : Old Z n0 h0) (pt0 : (own_n l_1) = (16 : Int32)) (sh_l_1 : l_1.length ≤ 16) (E_o1 : Exa Z h0 o1 "java/lang/StringBuilder") (F_value_o1 : Fld Z h0 o1 "java/lang/AbstractStringBuilder" "value" "[B" (.ref p3)) (F_count_o1 : Fld Z h0 o1 "java/lang/AbstractStringBuilder" "count" "I" (.int (own_n l_1))) (S_COMPACT_STRINGS : Sta Z Z.heap "java/lang/String" "COMPACT_STRINGS" "Z" (.int sv_COMPACT_STRINGS)) (F_coder_o1 : Fld Z h0 o1 "java/lang/AbstractStringBuilder" "coder" "B" (.int 0)) (hCS : ¬ (sv_COMPACT_STRINGS = (0 : Int32))) (E_o0 : Exa Z h0 o0 "java/lang/String") (F_coder_o0 : Fld Z h0 o0 "java/lang/String" "coder" "B" (.int 0)) (g_o0 : n0 ≤ o0) (V_p3 : Arv Z h0 p3 k_p3 .byte (16 : Int32) (List.map Value.int l_1) (.int 0)) (E_p3 : Exa Z h0 p3 "[B") (F_value_o0 : Fld Z h0 o0 "java/lang/String" "value" "[B" .null) :
    Con l Z (⟨"java/lang/String", "<init>", "(Ljava/lang/AbstractStringBuilder;Ljava/lang/Void;)V"⟩ : MethodName) jdk_42_method_150_code 5 none ws ({ frames := 2, cells := 1, slots := 16, locals := 29 } : Room) #[(.ref o0), (.ref o1), .null] h0 (fun v h L => ∃ (b2_8 : Addr), v = none ∧ Fr n0 L ∧ h0.size ≤ b2_8 ∧ Keep h0 h [o0] ∧ Exa Z h o0 "java/lang/String" ∧ Fld Z h o0 "java/lang/String" "coder" "B" (.int 0) ∧ Fld Z h o0 "java/lang/String" "value" "[B" (.ref b2_8) ∧ Arv Z h b2_8 k_p3 .byte (own_n l_1) (List.map Value.int l_1) (.int 0) ∧ Exa Z h b2_8 "[B") := by
 refine own_body (plainFor_of_name own_pn1) (fun m => ef_rm24_0 m o0 o1) ?_
 intro p e s m below meth c s₁ hx hby hlk hml hret hZ hown hnm X0 e0
 have N0 := Fr.nil n0
 refine Rn X0 hx hby sg24_0_1 1 #[sr o0, sr o1, .val .null, un, un] [(.ref o0)] rfl ?_
 refine Home.st (initO X0 hx hZ hown (w157 hw) (w32 hw) (w33 hw) e0 rfl (by rw [hml]; rfl) rfl (hb hby d24_1) (by decide) (W := 0) (by exact hW0) (by decide)) fun T1 X1 e1 => ?_
 refine Rn X1 hx hby sg24_4_1 5 #[sr o0, sr o1, .val .null, un, un] [(.ref o1)] rfl ?_
 refine Home.st (own_pure (own_virtual X1 hx hZ hown (w158 hw) (w159 hw) (notFace_of_selects (args := #[]) (mvT hZ (w161 hw))) (w161 hw) (w160 hw) (w64 hw) (w162 hw) (by decide) (rm25_0 l Z a0 hw [] o1 p3 h0 n0 O0 F_value_o1) e1 E_o1 rfl (by rw [hml]; rfl) (argsL := []) (rest := []) (lenOf own_pd30 rfl) rfl rfl (W := 0) (hb hby d24_5))) fun T2 X2 e2 => ?_
 refine Rn X2 hx hby sg24_8_2 10 #[sr o0, sr o1, .val .null, sr p3, un] [(.ref o1)] rfl ?_
 refine Home.st (own_pure (own_virtual X2 hx hZ hown (w163 hw) (w164 hw) (own_nfz (args := #[]) (mvT hZ (w91 hw)) rfl) (w166 hw) (w167 hw) (w56 hw) (w168 hw) (by decide) (rm26_0 l Z a0 hw [] o1 l_1 h0 n0 O0 E_o1 F_count_o1 (Nat.le_trans (own_len_le sh_l_1).2 (by decide))) e2 E_o1 rfl (by rw [hml]; rfl) (argsL := []) (rest := []) (lenOf own_pd24 rfl) rfl rfl (W := 0) (hb hby d24_10))) fun T3 X3 e3 => ?_
 refine Rn X3 hx hby sg24_13_2 16 #[sr o0, sr o1, .val .null, sr p3, .val (.int (own_n l_1))] [(.ref o1)] rfl ?_
 refine Home.st (own_pure (own_virtual X3 hx hZ hown (w171 hw) (w94 hw) (notFace_of_selects (args := #[]) (mvT hZ (w96 hw))) (w96 hw) (w95 hw) (w64 hw) (w97 hw) (by decide) (rm13_0 l Z a0 hw [] o1 sv_COMPACT_STRINGS h0 n0 O0 S_COMPACT_STRINGS hCS F_coder_o1) e3 E_o1 rfl (by rw [hml]; rfl) (argsL := []) (rest := []) (lenOf own_pd19 rfl) rfl rfl (W := 0) (hb hby d24_16))) fun T4 X4 e4 => ?_
 refine Home.go (fun _ => XS.ifNo X4.here hx rfl (hb hby d24_19) rfl ((if0 _ _).trans (feq (by decide)).1)) ?_
 refine Rn X4 hx hby sg24_22_2 24 #[sr o0, sr o1, .val .null, sr p3, .val (.int (own_n l_1))] [(.int 0), (.ref o0)] rfl ?_
 refine Home.wr (putFN X4 hx hZ hown (w124 hw) Via.refl e4 F_coder_o0 E_o0 (Or.inr ⟨(w5 hw), rfl, hnm⟩) (w2 hw) (ty := .byte) (v := (.int 0)) (v' := (.int 0)) (by decide) rfl rfl rfl rfl (hb hby d24_24)) fun T5 h5 X5 e5 W5 => ?_
 have Fw5 := F_coder_o0.same W5
 have O5 := O0.wr W5 g_o0
 have K5 : Keep h0 h5 ([o0] : List Addr) := Keep.wr (Keep.refl h0 ([o0] : List Addr)) W5 (Or.inl (List.mem_of_getElem? (i := 0) rfl))
 have N5 := Fr.snoc X5 N0 g_o0
 show Home T5 (mkF m 27 #[sr o0, sr o1, .val .null, sr p3, .val (.int (own_n l_1))] [])
 refine Rn X5 hx hby sg24_27_4 32 #[sr o0, sr o1, .val .null, sr p3, .val (.int (own_n l_1))] [(.int (own_n l_1)), (.int 0), (.ref p3), (.ref o0)] rfl ?_
 have ne6 : p3 ≠ o0 := (Ne.symm (own_neAV E_o0 (w2 hw) V_p3))
 have q7 := (V_p3.other W5 ne6)
 refine Home.call (own_static X5 hx hZ hown (w172 hw) (w173 hw) (w174 hw) (w175 hw) (by decide) (rm28_3 l Z a0 hw [] p3 l_1 k_p3 h5 n0 O5 pt0 (Nat.le_trans (own_len_le sh_l_1).2 (by decide)) q7 (E_p3.keep K5)) e5 rfl (by rw [hml]; rfl) (argsL := [(.ref p3), (.int 0), (.int (own_n l_1))]) (rest := [(.ref o0)]) (lenOf own_pd32 rfl) rfl rfl (W := 1) (hb hby d24_32)) ?_
 rintro _ T8 L8 X8 ⟨b2_8, rfl, N8q, sz_b2_8, K8q, P8_0, P8_1⟩
 have g_b2_8 : n0 ≤ b2_8 := Nat.le_trans (Old.le O5) sz_b2_8
 have K8 : Keep h0 T8.heap ([o0] : List Addr) := Keep.trans K5 K8q all0
 have N8 := Fr.app N5 N8q
 have q9 := ((F_value_o0.other W5 (Or.inr (slot_ne (Or.inr (w4 hw)) (Or.inr (w5 hw)) (by decide) (t := (.array .byte)) (t' := .byte) (by decide) (by decide)))).keep K8q nin0)
 refine Home.wr (putF X8 hx hZ hown (host := "") (Or.inl (w117 hw)) Via.refl rfl q9 (E_o0.keep K8) (Or.inr ⟨(w4 hw), rfl, hnm⟩) (w2 hw) (ty := (.array .byte)) (by decide) rfl rfl rfl rfl (hb hby d24_35)) fun T10 h10 X10 e10 W10 => ?_
 have Fw10 := q9.same W10
 have K10 : Keep h0 h10 ([o0] : List Addr) := Keep.wr K8 W10 (Or.inl (List.mem_of_getElem? (i := 0) rfl))
 have N10 := Fr.snoc X10 N8 g_o0
 show Home T10 (mkF m 38 #[sr o0, sr o1, .val .null, sr p3, .val (.int (own_n l_1))] [])
 refine Rn X10 hx hby sg24_38_1 97 #[sr o0, sr o1, .val .null, sr p3, .val (.int (own_n l_1))] [] rfl ?_
 have q11 := ((Fw5.keep K8q nin0).other W10 (Or.inr (slot_ne (Or.inr (w5 hw)) (Or.inr (w4 hw)) (by decide) (t := .byte) (t' := (.array .byte)) (by decide) (by decide))))
 have ne12 : b2_8 ≠ o0 := (Ne.symm (Nat.ne_of_lt (Nat.lt_of_lt_of_le Fw5.lt (Nat.le_trans (Nat.le_refl _) sz_b2_8))))
 have q13 := (P8_0.other W10 ne12)
 have q14 := (P8_1.wr W10)
 exact Home.ret0 X10 hx hlk hret (hb hby d24_97) (by rw [show T10.heap = h10 from e10]; exact ⟨b2_8, rfl, N10, (Nat.le_trans (Nat.le_of_eq W5.size.symm) sz_b2_8), K10, (E_o0.keep K10), q11, Fw10, q13, q14⟩) (by decide) (by decide)
theorem rm24_4 (l : Launch) (Z : State) (a0 : Array Value) (hw : HW a0 Z) (ws : List Jvm.Cond) (o0 o1 p3 : Addr) (l_1 : List Int32) (sv_COMPACT_STRINGS : Int32) (k_p3 : ClassId) (h0 : Heap) (n0 : Nat) (O0 : Old Z n0 h0) (pt0 : ¬ ((own_n l_1) = (16 : Int32))) (sh_l_1 : l_1.length ≤ 16) (E_o1 : Exa Z h0 o1 "java/lang/StringBuilder") (F_value_o1 : Fld Z h0 o1 "java/lang/AbstractStringBuilder" "value" "[B" (.ref p3)) (F_count_o1 : Fld Z h0 o1 "java/lang/AbstractStringBuilder" "count" "I" (.int (own_n l_1))) (S_COMPACT_STRINGS : Sta Z Z.heap "java/lang/String" "COMPACT_STRINGS" "Z" (.int sv_COMPACT_STRINGS)) (F_coder_o1 : Fld Z h0 o1 "java/lang/AbstractStringBuilder" "coder" "B" (.int 0)) (hCS : ¬ (sv_COMPACT_STRINGS = (0 : Int32))) (E_o0 : Exa Z h0 o0 "java/lang/String") (F_coder_o0 : Fld Z h0 o0 "java/lang/String" "coder" "B" (.int 0)) (g_o0 : n0 ≤ o0) (V_p3 : Arv Z h0 p3 k_p3 .byte (16 : Int32) (List.map Value.int l_1) (.int 0)) (E_p3 : Exa Z h0 p3 "[B") (F_value_o0 : Fld Z h0 o0 "java/lang/String" "value" "[B" .null) :
    Con l Z (⟨"java/lang/String", "<init>", "(Ljava/lang/AbstractStringBuilder;Ljava/lang/Void;)V"⟩ : MethodName) jdk_42_method_150_code 5 none ws ({ frames := 3, cells := 1, slots := 15, locals := 49 } : Room) #[(.ref o0), (.ref o1), .null] h0 (fun v h L => ∃ (b2_2_8 : Addr), ∃ (k2_2_8 : ClassId), v = none ∧ Fr n0 L ∧ h0.size ≤ b2_2_8 ∧ Keep h0 h [o0] ∧ Exa Z h o0 "java/lang/String" ∧ Fld Z h o0 "java/lang/String" "coder" "B" (.int 0) ∧ Fld Z h o0 "java/lang/String" "value" "[B" (.ref b2_2_8) ∧ Exa Z h b2_2_8 "[B" ∧ Arv Z h b2_2_8 k2_2_8 .byte (own_n l_1) (List.map Value.int l_1) (.int 0)) := by
 refine own_body (plainFor_of_name own_pn1) (fun m => ef_rm24_0 m o0 o1) ?_
 intro p e s m below meth c s₁ hx hby hlk hml hret hZ hown hnm X0 e0
 have N0 := Fr.nil n0
 refine Rn X0 hx hby sg24_0_1 1 #[sr o0, sr o1, .val .null, un, un] [(.ref o0)] rfl ?_
 refine Home.st (initO X0 hx hZ hown (w157 hw) (w32 hw) (w33 hw) e0 rfl (by rw [hml]; rfl) rfl (hb hby d24_1) (by decide) (W := 0) (by exact hW0) (by decide)) fun T1 X1 e1 => ?_
 refine Rn X1 hx hby sg24_4_1 5 #[sr o0, sr o1, .val .null, un, un] [(.ref o1)] rfl ?_
 refine Home.st (own_pure (own_virtual X1 hx hZ hown (w158 hw) (w159 hw) (notFace_of_selects (args := #[]) (mvT hZ (w161 hw))) (w161 hw) (w160 hw) (w64 hw) (w162 hw) (by decide) (rm25_0 l Z a0 hw [] o1 p3 h0 n0 O0 F_value_o1) e1 E_o1 rfl (by rw [hml]; rfl) (argsL := []) (rest := []) (lenOf own_pd30 rfl) rfl rfl (W := 0) (hb hby d24_5))) fun T2 X2 e2 => ?_
 refine Rn X2 hx hby sg24_8_2 10 #[sr o0, sr o1, .val .null, sr p3, un] [(.ref o1)] rfl ?_
 refine Home.st (own_pure (own_virtual X2 hx hZ hown (w163 hw) (w164 hw) (own_nfz (args := #[]) (mvT hZ (w91 hw)) rfl) (w166 hw) (w167 hw) (w56 hw) (w168 hw) (by decide) (rm26_0 l Z a0 hw [] o1 l_1 h0 n0 O0 E_o1 F_count_o1 (Nat.le_trans (own_len_le sh_l_1).2 (by decide))) e2 E_o1 rfl (by rw [hml]; rfl) (argsL := []) (rest := []) (lenOf own_pd24 rfl) rfl rfl (W := 0) (hb hby d24_10))) fun T3 X3 e3 => ?_
 refine Rn X3 hx hby sg24_13_2 16 #[sr o0, sr o1, .val .null, sr p3, .val (.int (own_n l_1))] [(.ref o1)] rfl ?_
 refine Home.st (own_pure (own_virtual X3 hx hZ hown (w171 hw) (w94 hw) (notFace_of_selects (args := #[]) (mvT hZ (w96 hw))) (w96 hw) (w95 hw) (w64 hw) (w97 hw) (by decide) (rm13_0 l Z a0 hw [] o1 sv_COMPACT_STRINGS h0 n0 O0 S_COMPACT_STRINGS hCS F_coder_o1) e3 E_o1 rfl (by rw [hml]; rfl) (argsL := []) (rest := []) (lenOf own_pd19 rfl) rfl rfl (W := 0) (hb hby d24_16))) fun T4 X4 e4 => ?_
 refine Home.go (fun _ => XS.ifNo X4.here hx rfl (hb hby d24_19) rfl ((if0 _ _).trans (feq (by decide)).1)) ?_
 refine Rn X4 hx hby sg24_22_2 24 #[sr o0, sr o1, .val .null, sr p3, .val (.int (own_n l_1))] [(.int 0), (.ref o0)] rfl ?_
 refine Home.wr (putFN X4 hx hZ hown (w124 hw) Via.refl e4 F_coder_o0 E_o0 (Or.inr ⟨(w5 hw), rfl, hnm⟩) (w2 hw) (ty := .byte) (v := (.int 0)) (v' := (.int 0)) (by decide) rfl rfl rfl rfl (hb hby d24_24)) fun T5 h5 X5 e5 W5 => ?_
 have Fw5 := F_coder_o0.same W5
 have O5 := O0.wr W5 g_o0
 have K5 : Keep h0 h5 ([o0] : List Addr) := Keep.wr (Keep.refl h0 ([o0] : List Addr)) W5 (Or.inl (List.mem_of_getElem? (i := 0) rfl))
 have N5 := Fr.snoc X5 N0 g_o0
 show Home T5 (mkF m 27 #[sr o0, sr o1, .val .null, sr p3, .val (.int (own_n l_1))] [])
 refine Rn X5 hx hby sg24_27_4 32 #[sr o0, sr o1, .val .null, sr p3, .val (.int (own_n l_1))] [(.int (own_n l_1)), (.int 0), (.ref p3), (.ref o0)] rfl ?_
 have ne6 : p3 ≠ o0 := (Ne.symm (own_neAV E_o0 (w2 hw) V_p3))
 have q7 := (V_p3.other W5 ne6)
 refine Home.call (own_static X5 hx hZ hown (w172 hw) (w173 hw) (w174 hw) (w175 hw) (by decide) (rm28_4 l Z a0 hw [] p3 l_1 k_p3 h5 n0 O5 pt0 (Nat.le_trans (own_len_le sh_l_1).2 (by decide)) q7) e5 rfl (by rw [hml]; rfl) (argsL := [(.ref p3), (.int 0), (.int (own_n l_1))]) (rest := [(.ref o0)]) (lenOf own_pd32 rfl) rfl rfl (W := 1) (hb hby d24_32)) ?_
 rintro _ T8 L8 X8 ⟨b2_2_8, k2_2_8, rfl, N8q, sz_b2_2_8, K8q, P8_0, P8_1⟩
 have g_b2_2_8 : n0 ≤ b2_2_8 := Nat.le_trans (Old.le O5) sz_b2_2_8
 have K8 : Keep h0 T8.heap ([o0] : List Addr) := Keep.trans K5 K8q all0
 have N8 := Fr.app N5 N8q
 have q9 := ((F_value_o0.other W5 (Or.inr (slot_ne (Or.inr (w4 hw)) (Or.inr (w5 hw)) (by decide) (t := (.array .byte)) (t' := .byte) (by decide) (by decide)))).keep K8q nin0)
 refine Home.wr (putF X8 hx hZ hown (host := "") (Or.inl (w117 hw)) Via.refl rfl q9 (E_o0.keep K8) (Or.inr ⟨(w4 hw), rfl, hnm⟩) (w2 hw) (ty := (.array .byte)) (by decide) rfl rfl rfl rfl (hb hby d24_35)) fun T10 h10 X10 e10 W10 => ?_
 have Fw10 := q9.same W10
 have K10 : Keep h0 h10 ([o0] : List Addr) := Keep.wr K8 W10 (Or.inl (List.mem_of_getElem? (i := 0) rfl))
 have N10 := Fr.snoc X10 N8 g_o0
 show Home T10 (mkF m 38 #[sr o0, sr o1, .val .null, sr p3, .val (.int (own_n l_1))] [])
 refine Rn X10 hx hby sg24_38_1 97 #[sr o0, sr o1, .val .null, sr p3, .val (.int (own_n l_1))] [] rfl ?_
 have q11 := ((Fw5.keep K8q nin0).other W10 (Or.inr (slot_ne (Or.inr (w5 hw)) (Or.inr (w4 hw)) (by decide) (t := .byte) (t' := (.array .byte)) (by decide) (by decide))))
 have q12 := (P8_0.wr W10)
 have ne13 : b2_2_8 ≠ o0 := (Ne.symm (Nat.ne_of_lt (Nat.lt_of_lt_of_le Fw5.lt (Nat.le_trans (Nat.le_refl _) sz_b2_2_8))))
 have q14 := (P8_1.other W10 ne13)
 exact Home.ret0 X10 hx hlk hret (hb hby d24_97) (by rw [show T10.heap = h10 from e10]; exact ⟨b2_2_8, k2_2_8, rfl, N10, (Nat.le_trans (Nat.le_of_eq W5.size.symm) sz_b2_2_8), K10, (E_o0.keep K10), q11, Fw10, q12, q14⟩) (by decide) (by decide)
theorem rm23_3 (l : Launch) (Z : State) (a0 : Array Value) (hw : HW a0 Z) (ws : List Jvm.Cond) (o0 o1 p3 : Addr) (sv_COMPACT_STRINGS : Int32) (k_p3 : ClassId) (l_1 : List Int32) (h0 : Heap) (n0 : Nat) (O0 : Old Z n0 h0) (pt0 : (own_n l_1) = (16 : Int32)) (sh_l_1 : l_1.length ≤ 16) (E_o1 : Exa Z h0 o1 "java/lang/StringBuilder") (F_value_o1 : Fld Z h0 o1 "java/lang/AbstractStringBuilder" "value" "[B" (.ref p3)) (S_COMPACT_STRINGS : Sta Z Z.heap "java/lang/String" "COMPACT_STRINGS" "Z" (.int sv_COMPACT_STRINGS)) (F_coder_o1 : Fld Z h0 o1 "java/lang/AbstractStringBuilder" "coder" "B" (.int 0)) (E_o0 : Exa Z h0 o0 "java/lang/String") (F_coder_o0 : Fld Z h0 o0 "java/lang/String" "coder" "B" (.int 0)) (V_p3 : Arv Z h0 p3 k_p3 .byte (16 : Int32) (List.map Value.int l_1) (.int 0)) (E_p3 : Exa Z h0 p3 "[B") (F_value_o0 : Fld Z h0 o0 "java/lang/String" "value" "[B" .null) (F_count_o1 : Fld Z h0 o1 "java/lang/AbstractStringBuilder" "count" "I" (.int (own_n l_1))) (g_o0 : n0 ≤ o0) (hCS : ¬ (sv_COMPACT_STRINGS = (0 : Int32))) :
    Con l Z (⟨"java/lang/String", "<init>", "(Ljava/lang/StringBuilder;)V"⟩ : MethodName) jdk_42_method_53_code 2 none ws ({ frames := 3, cells := 1, slots := 16, locals := 45 } : Room) #[(.ref o0), (.ref o1)] h0 (fun v h L => ∃ (b2_8_1 : Addr), v = none ∧ Fr n0 L ∧ h0.size ≤ b2_8_1 ∧ Keep h0 h [o0] ∧ Exa Z h o0 "java/lang/String" ∧ Fld Z h o0 "java/lang/String" "coder" "B" (.int 0) ∧ Fld Z h o0 "java/lang/String" "value" "[B" (.ref b2_8_1) ∧ Arv Z h b2_8_1 k_p3 .byte (own_n l_1) (List.map Value.int l_1) (.int 0) ∧ Exa Z h b2_8_1 "[B") := by
 refine own_body (plainFor_of_name own_pn1) (fun m => ef_rm46_0 m o0 o1) ?_
 intro p e s m below meth c s₁ hx hby hlk hml hret hZ hown hnm X0 e0
 have N0 := Fr.nil n0
 refine Rn X0 hx hby sg23_0_3 3 #[sr o0, sr o1] [.null, (.ref o1), (.ref o0)] rfl ?_
 refine Home.call (own_special X0 hx hZ hown rfl (w154 hw) (w155 hw) (w1 hw) (w156 hw) (by decide) (rm24_3 l Z a0 hw [] o0 o1 p3 l_1 sv_COMPACT_STRINGS k_p3 h0 n0 O0 pt0 (Nat.le_trans (own_len_le sh_l_1).2 (by decide)) E_o1 F_value_o1 F_count_o1 S_COMPACT_STRINGS F_coder_o1 hCS E_o0 F_coder_o0 g_o0 V_p3 E_p3 F_value_o0) e0 rfl (by rw [hml]; rfl) (a := o0) (argsL := [(.ref o1), .null]) (rest := []) (lenOf own_pd33 rfl) rfl rfl (W := 0) (hb hby d23_3)) ?_
 rintro _ T1 L1 X1 ⟨b2_8_1, rfl, N1q, sz_b2_8_1, K1q, P1_0, P1_1, P1_2, P1_3, P1_4⟩
 have g_b2_8_1 : n0 ≤ b2_8_1 := Nat.le_trans (Old.le O0) sz_b2_8_1
 have K1 : Keep h0 T1.heap ([o0] : List Addr) := Keep.trans (Keep.refl h0 ([o0] : List Addr)) K1q (allS (Or.inl (List.mem_of_getElem? (i := 0) rfl)) all0)
 have N1 := Fr.app N0 N1q
 exact Home.ret0 X1 hx hlk hret (hb hby d23_6) ⟨b2_8_1, rfl, N1, (Nat.le_trans (Nat.le_refl _) sz_b2_8_1), K1, P1_0, P1_1, P1_2, P1_3, P1_4⟩ (by decide) (by decide)
theorem rm23_4 (l : Launch) (Z : State) (a0 : Array Value) (hw : HW a0 Z) (ws : List Jvm.Cond) (o0 o1 p3 : Addr) (sv_COMPACT_STRINGS : Int32) (k_p3 : ClassId) (l_1 : List Int32) (h0 : Heap) (n0 : Nat) (O0 : Old Z n0 h0) (pt0 : ¬ ((own_n l_1) = (16 : Int32))) (sh_l_1 : l_1.length ≤ 16) (E_o1 : Exa Z h0 o1 "java/lang/StringBuilder") (F_value_o1 : Fld Z h0 o1 "java/lang/AbstractStringBuilder" "value" "[B" (.ref p3)) (S_COMPACT_STRINGS : Sta Z Z.heap "java/lang/String" "COMPACT_STRINGS" "Z" (.int sv_COMPACT_STRINGS)) (F_coder_o1 : Fld Z h0 o1 "java/lang/AbstractStringBuilder" "coder" "B" (.int 0)) (E_o0 : Exa Z h0 o0 "java/lang/String") (F_coder_o0 : Fld Z h0 o0 "java/lang/String" "coder" "B" (.int 0)) (V_p3 : Arv Z h0 p3 k_p3 .byte (16 : Int32) (List.map Value.int l_1) (.int 0)) (E_p3 : Exa Z h0 p3 "[B") (F_value_o0 : Fld Z h0 o0 "java/lang/String" "value" "[B" .null) (F_count_o1 : Fld Z h0 o1 "java/lang/AbstractStringBuilder" "count" "I" (.int (own_n l_1))) (g_o0 : n0 ≤ o0) (hCS : ¬ (sv_COMPACT_STRINGS = (0 : Int32))) :
    Con l Z (⟨"java/lang/String", "<init>", "(Ljava/lang/StringBuilder;)V"⟩ : MethodName) jdk_42_method_53_code 2 none ws ({ frames := 4, cells := 1, slots := 15, locals := 65 } : Room) #[(.ref o0), (.ref o1)] h0 (fun v h L => ∃ (b2_2_8_1 : Addr), ∃ (k2_2_8_1 : ClassId), v = none ∧ Fr n0 L ∧ h0.size ≤ b2_2_8_1 ∧ Keep h0 h [o0] ∧ Exa Z h o0 "java/lang/String" ∧ Fld Z h o0 "java/lang/String" "coder" "B" (.int 0) ∧ Fld Z h o0 "java/lang/String" "value" "[B" (.ref b2_2_8_1) ∧ Exa Z h b2_2_8_1 "[B" ∧ Arv Z h b2_2_8_1 k2_2_8_1 .byte (own_n l_1) (List.map Value.int l_1) (.int 0)) := by
 refine own_body (plainFor_of_name own_pn1) (fun m => ef_rm46_0 m o0 o1) ?_
 intro p e s m below meth c s₁ hx hby hlk hml hret hZ hown hnm X0 e0
 have N0 := Fr.nil n0
 refine Rn X0 hx hby sg23_0_3 3 #[sr o0, sr o1] [.null, (.ref o1), (.ref o0)] rfl ?_
 refine Home.call (own_special X0 hx hZ hown rfl (w154 hw) (w155 hw) (w1 hw) (w156 hw) (by decide) (rm24_4 l Z a0 hw [] o0 o1 p3 l_1 sv_COMPACT_STRINGS k_p3 h0 n0 O0 pt0 (Nat.le_trans (own_len_le sh_l_1).2 (by decide)) E_o1 F_value_o1 F_count_o1 S_COMPACT_STRINGS F_coder_o1 hCS E_o0 F_coder_o0 g_o0 V_p3 E_p3 F_value_o0) e0 rfl (by rw [hml]; rfl) (a := o0) (argsL := [(.ref o1), .null]) (rest := []) (lenOf own_pd33 rfl) rfl rfl (W := 0) (hb hby d23_3)) ?_
 rintro _ T1 L1 X1 ⟨b2_2_8_1, k2_2_8_1, rfl, N1q, sz_b2_2_8_1, K1q, P1_0, P1_1, P1_2, P1_3, P1_4⟩
 have g_b2_2_8_1 : n0 ≤ b2_2_8_1 := Nat.le_trans (Old.le O0) sz_b2_2_8_1
 have K1 : Keep h0 T1.heap ([o0] : List Addr) := Keep.trans (Keep.refl h0 ([o0] : List Addr)) K1q (allS (Or.inl (List.mem_of_getElem? (i := 0) rfl)) all0)
 have N1 := Fr.app N0 N1q
 exact Home.ret0 X1 hx hlk hret (hb hby d23_6) ⟨b2_2_8_1, k2_2_8_1, rfl, N1, (Nat.le_trans (Nat.le_refl _) sz_b2_2_8_1), K1, P1_0, P1_1, P1_2, P1_3, P1_4⟩ (by decide) (by decide)
theorem rm22_3 (l : Launch) (Z : State) (a0 : Array Value) (hw : HW a0 Z) (ws : List Jvm.Cond) (o0 p2 : Addr) (sv_COMPACT_STRINGS : Int32) (k_p2 : ClassId) (l_1 : List Int32) (h0 : Heap) (n0 : Nat) (O0 : Old Z n0 h0) (pt0 : (own_n l_1) = (16 : Int32)) (sh_l_1 : l_1.length ≤ 16) (E_o0 : Exa Z h0 o0 "java/lang/StringBuilder") (F_value_o0 : Fld Z h0 o0 "java/lang/AbstractStringBuilder" "value" "[B" (.ref p2)) (S_COMPACT_STRINGS : Sta Z Z.heap "java/lang/String" "COMPACT_STRINGS" "Z" (.int sv_COMPACT_STRINGS)) (F_coder_o0 : Fld Z h0 o0 "java/lang/AbstractStringBuilder" "coder" "B" (.int 0)) (V_p2 : Arv Z h0 p2 k_p2 .byte (16 : Int32) (List.map Value.int l_1) (.int 0)) (E_p2 : Exa Z h0 p2 "[B") (F_count_o0 : Fld Z h0 o0 "java/lang/AbstractStringBuilder" "count" "I" (.int (own_n l_1))) (hCS : ¬ (sv_COMPACT_STRINGS = (0 : Int32))) :
    Con l Z (⟨"java/lang/StringBuilder", "toString", "()Ljava/lang/String;"⟩ : MethodName) jdk_67_method_42_code 1 (some (.object "java/lang/String")) ws ({ frames := 4, cells := 2, slots := 20, locals := 59 } : Room) #[(.ref o0)] h0 (fun v h L => ∃ (b1 : Addr), ∃ (b2_8_1_2 : Addr), v = some (.ref b1) ∧ Fr n0 L ∧ h0.size ≤ b1 ∧ h0.size ≤ b2_8_1_2 ∧ Keep h0 h [] ∧ Exa Z h b1 "java/lang/String" ∧ Fld Z h b1 "java/lang/String" "value" "[B" (.ref b2_8_1_2) ∧ Fld Z h b1 "java/lang/String" "coder" "B" (.int 0) ∧ Arv Z h b2_8_1_2 k_p2 .byte (own_n l_1) (List.map Value.int l_1) (.int 0) ∧ Exa Z h b2_8_1_2 "[B") := by
 refine own_body (plainFor_of_name own_pn7) (fun m => ef_rm7_0 m o0) ?_
 intro p e s m below meth c s₁ hx hby hlk hml hret hZ hown hnm X0 e0
 have N0 := Fr.nil n0
 refine Home.nw (own_newO X0 hx hZ hown (w150 hw) (w2 hw) (w1 hw) e0 rfl (hb hby d22_0) (by decide) (by decide)) fun T1 h1 b1 g1 X1 e1 E1 A1 D1 => ?_
 have g_b1 : n0 ≤ b1 := Nat.le_trans (Old.le O0) (Nat.le_of_eq g1.symm)
 have F_value_b1 : Fld Z h1 b1 "java/lang/String" "value" "[B" .null := D1 (Or.inr (w4 hw)) (ty := (.array .byte)) (by decide)
 have F_coder_b1 : Fld Z h1 b1 "java/lang/String" "coder" "B" (.int 0) := D1 (Or.inr (w5 hw)) (ty := .byte) (by decide)
 have O1 := O0.ext E1
 have K1 : Keep h0 h1 ([] : List Addr) := Keep.ext (Keep.refl h0 ([] : List Addr)) E1
 refine Rn X1 hx hby sg22_3_2 5 #[sr o0] [(.ref o0), (.ref b1), (.ref b1)] rfl ?_
 refine Home.call (own_special X1 hx hZ hown rfl (w151 hw) (w152 hw) (w1 hw) (w153 hw) (by decide) (rm23_3 l Z a0 hw [] b1 o0 p2 sv_COMPACT_STRINGS k_p2 l_1 h1 n0 O1 pt0 (Nat.le_trans (own_len_le sh_l_1).2 (by decide)) (E_o0.keep K1) (F_value_o0.keep K1 nin0) S_COMPACT_STRINGS (F_coder_o0.keep K1 nin0) A1 F_coder_b1 (V_p2.keep K1 nin0) (E_p2.keep K1) F_value_b1 (F_count_o0.keep K1 nin0) g_b1 hCS) e1 rfl (by rw [hml]; rfl) (a := b1) (argsL := [(.ref o0)]) (rest := [(.ref b1)]) (lenOf own_pd34 rfl) rfl rfl (W := 1) (hb hby d22_5)) ?_
 rintro _ T2 L2 X2 ⟨b2_8_1_2, rfl, N2q, sz_b2_8_1_2, K2q, P2_0, P2_1, P2_2, P2_3, P2_4⟩
 have g_b2_8_1_2 : n0 ≤ b2_8_1_2 := Nat.le_trans (Old.le O1) sz_b2_8_1_2
 have K2 : Keep h0 T2.heap ([] : List Addr) := Keep.trans K1 K2q (allS (Or.inr (Nat.le_trans (Nat.le_refl _) (Nat.le_of_eq g1.symm))) all0)
 have N2 := Fr.app N0 N2q
 exact Home.retR X2 hx hlk hret rfl rfl (hb hby d22_8) ⟨b1, b2_8_1_2, rfl, N2, (Nat.le_trans (Nat.le_refl _) (Nat.le_of_eq g1.symm)), (Nat.le_trans E1.1 sz_b2_8_1_2), K2, P2_0, P2_2, P2_1, P2_3, P2_4⟩ (by decide) (by decide)
theorem rm22_4 (l : Launch) (Z : State) (a0 : Array Value) (hw : HW a0 Z) (ws : List Jvm.Cond) (o0 p2 : Addr) (sv_COMPACT_STRINGS : Int32) (k_p2 : ClassId) (l_1 : List Int32) (h0 : Heap) (n0 : Nat) (O0 : Old Z n0 h0) (pt0 : ¬ ((own_n l_1) = (16 : Int32))) (sh_l_1 : l_1.length ≤ 16) (E_o0 : Exa Z h0 o0 "java/lang/StringBuilder") (F_value_o0 : Fld Z h0 o0 "java/lang/AbstractStringBuilder" "value" "[B" (.ref p2)) (S_COMPACT_STRINGS : Sta Z Z.heap "java/lang/String" "COMPACT_STRINGS" "Z" (.int sv_COMPACT_STRINGS)) (F_coder_o0 : Fld Z h0 o0 "java/lang/AbstractStringBuilder" "coder" "B" (.int 0)) (V_p2 : Arv Z h0 p2 k_p2 .byte (16 : Int32) (List.map Value.int l_1) (.int 0)) (E_p2 : Exa Z h0 p2 "[B") (F_count_o0 : Fld Z h0 o0 "java/lang/AbstractStringBuilder" "count" "I" (.int (own_n l_1))) (hCS : ¬ (sv_COMPACT_STRINGS = (0 : Int32))) :
    Con l Z (⟨"java/lang/StringBuilder", "toString", "()Ljava/lang/String;"⟩ : MethodName) jdk_67_method_42_code 1 (some (.object "java/lang/String")) ws ({ frames := 5, cells := 2, slots := 19, locals := 79 } : Room) #[(.ref o0)] h0 (fun v h L => ∃ (b1 : Addr), ∃ (b2_2_8_1_2 : Addr), ∃ (k2_2_8_1_2 : ClassId), v = some (.ref b1) ∧ Fr n0 L ∧ h0.size ≤ b1 ∧ h0.size ≤ b2_2_8_1_2 ∧ Keep h0 h [] ∧ Exa Z h b1 "java/lang/String" ∧ Fld Z h b1 "java/lang/String" "value" "[B" (.ref b2_2_8_1_2) ∧ Fld Z h b1 "java/lang/String" "coder" "B" (.int 0) ∧ Exa Z h b2_2_8_1_2 "[B" ∧ Arv Z h b2_2_8_1_2 k2_2_8_1_2 .byte (own_n l_1) (List.map Value.int l_1) (.int 0)) := by
 refine own_body (plainFor_of_name own_pn7) (fun m => ef_rm7_0 m o0) ?_
 intro p e s m below meth c s₁ hx hby hlk hml hret hZ hown hnm X0 e0
 have N0 := Fr.nil n0
 refine Home.nw (own_newO X0 hx hZ hown (w150 hw) (w2 hw) (w1 hw) e0 rfl (hb hby d22_0) (by decide) (by decide)) fun T1 h1 b1 g1 X1 e1 E1 A1 D1 => ?_
 have g_b1 : n0 ≤ b1 := Nat.le_trans (Old.le O0) (Nat.le_of_eq g1.symm)
 have F_value_b1 : Fld Z h1 b1 "java/lang/String" "value" "[B" .null := D1 (Or.inr (w4 hw)) (ty := (.array .byte)) (by decide)
 have F_coder_b1 : Fld Z h1 b1 "java/lang/String" "coder" "B" (.int 0) := D1 (Or.inr (w5 hw)) (ty := .byte) (by decide)
 have O1 := O0.ext E1
 have K1 : Keep h0 h1 ([] : List Addr) := Keep.ext (Keep.refl h0 ([] : List Addr)) E1
 refine Rn X1 hx hby sg22_3_2 5 #[sr o0] [(.ref o0), (.ref b1), (.ref b1)] rfl ?_
 refine Home.call (own_special X1 hx hZ hown rfl (w151 hw) (w152 hw) (w1 hw) (w153 hw) (by decide) (rm23_4 l Z a0 hw [] b1 o0 p2 sv_COMPACT_STRINGS k_p2 l_1 h1 n0 O1 pt0 (Nat.le_trans (own_len_le sh_l_1).2 (by decide)) (E_o0.keep K1) (F_value_o0.keep K1 nin0) S_COMPACT_STRINGS (F_coder_o0.keep K1 nin0) A1 F_coder_b1 (V_p2.keep K1 nin0) (E_p2.keep K1) F_value_b1 (F_count_o0.keep K1 nin0) g_b1 hCS) e1 rfl (by rw [hml]; rfl) (a := b1) (argsL := [(.ref o0)]) (rest := [(.ref b1)]) (lenOf own_pd34 rfl) rfl rfl (W := 1) (hb hby d22_5)) ?_
 rintro _ T2 L2 X2 ⟨b2_2_8_1_2, k2_2_8_1_2, rfl, N2q, sz_b2_2_8_1_2, K2q, P2_0, P2_1, P2_2, P2_3, P2_4⟩
 have g_b2_2_8_1_2 : n0 ≤ b2_2_8_1_2 := Nat.le_trans (Old.le O1) sz_b2_2_8_1_2
 have K2 : Keep h0 T2.heap ([] : List Addr) := Keep.trans K1 K2q (allS (Or.inr (Nat.le_trans (Nat.le_refl _) (Nat.le_of_eq g1.symm))) all0)
 have N2 := Fr.app N0 N2q
 exact Home.retR X2 hx hlk hret rfl rfl (hb hby d22_8) ⟨b1, b2_2_8_1_2, k2_2_8_1_2, rfl, N2, (Nat.le_trans (Nat.le_refl _) (Nat.le_of_eq g1.symm)), (Nat.le_trans E1.1 sz_b2_2_8_1_2), K2, P2_0, P2_2, P2_1, P2_3, P2_4⟩ (by decide) (by decide)
theorem rm6_0 (l : Launch) (Z : State) (a0 : Array Value) (hw : HW a0 Z) (ws : List Jvm.Cond) (o0 : Addr) (sv_COMPACT_STRINGS u1 : Int32) (sv_DigitOnes : Addr) (k_ones : ClassId) (sv_DigitTens : Addr) (k_tens : ClassId) (p2 p3 : Addr) (k_p3 : ClassId) (l_4 : List Int32) (u2 u3 : Int32) (h0 : Heap) (n0 : Nat) (O0 : Old Z n0 h0) (S_COMPACT_STRINGS : Sta Z Z.heap "java/lang/String" "COMPACT_STRINGS" "Z" (.int sv_COMPACT_STRINGS)) (hCS : ¬ (sv_COMPACT_STRINGS = (0 : Int32))) (F_id_o0 : Fld Z h0 o0 "com/example/token_relay/tokenrelay/Member" "id" "I" (.int u1)) (S_DigitOnes : Sta Z Z.heap "java/lang/Integer" "DigitOnes" "[B" (.ref sv_DigitOnes)) (V_ones : Arv Z Z.heap sv_DigitOnes k_ones .byte (100 : Int32) (List.map Value.int own_ones) (.int 0)) (S_DigitTens : Sta Z Z.heap "java/lang/Integer" "DigitTens" "[B" (.ref sv_DigitTens)) (V_tens : Arv Z Z.heap sv_DigitTens k_tens .byte (100 : Int32) (List.map Value.int own_tens) (.int 0)) (F_host_o0 : Fld Z h0 o0 "com/example/token_relay/tokenrelay/Member" "host" "Ljava/lang/String;" (.ref p2)) (E_p2 : Exa Z h0 p2 "java/lang/String") (F_value_p2 : Fld Z h0 p2 "java/lang/String" "value" "[B" (.ref p3)) (V_p3 : Arv Z h0 p3 k_p3 .byte (own_n l_4) (List.map Value.int l_4) (.int 0)) (F_coder_p2 : Fld Z h0 p2 "java/lang/String" "coder" "B" (.int 0)) (sh_l_4 : l_4.length ≤ 2) (F_peerPort_o0 : Fld Z h0 o0 "com/example/token_relay/tokenrelay/Member" "peerPort" "I" (.int u2)) (F_clientPort_o0 : Fld Z h0 o0 "com/example/token_relay/tokenrelay/Member" "clientPort" "I" (.int u3)) :
    ConW l Z own_EL ([] : List Addr) true (⟨"com/example/token_relay/tokenrelay/Member", "toString", "()Ljava/lang/String;"⟩ : MethodName) prog_8_method_10_code 1 (some (.object "java/lang/String")) ws ({ frames := 6, cells := 8, slots := 174, locals := 91 } : Room) #[(.ref o0)] h0 (fun v h L => ∃ (rs : Addr) (rb : Jvm.Addr) (rk : ClassId), v = some (.ref rs) ∧ Fr n0 L ∧ h0.size ≤ rs ∧ Keep h0 h [] ∧ Exa Z h rs "java/lang/String" ∧ Fld Z h rs "java/lang/String" "coder" "B" (.int 0) ∧ Fld Z h rs "java/lang/String" "value" "[B" (.ref rb) ∧ Arv Z h rb rk .byte (own_n (cs_rm6_0 u1 l_4 u2 u3)) (List.map Value.int (cs_rm6_0 u1 l_4 u2 u3)) (.int 0)) := by
 refine own_bodyW (plainFor_of_name own_pn5) (fun m => ef_rm7_0 m o0) ?_
 intro p e s m below meth c s₁ hx hby hlk hml hret hZ hown hnm X0 e0 Cd0
 have N0 := Fr.nil n0
 refine Home.nw (own_newO X0 hx hZ hown (w54 hw) (w55 hw) (w56 hw) e0 rfl (hb hby d6_0) (by decide) (by decide)) fun T1 h1 b1 g1 X1 e1 E1 A1 D1 => ?_
 have g_b1 : n0 ≤ b1 := Nat.le_trans (Old.le O0) (Nat.le_of_eq g1.symm)
 have F_value_b1 : Fld Z h1 b1 "java/lang/AbstractStringBuilder" "value" "[B" .null := D1 (Or.inl (w69 hw)) (ty := (.array .byte)) (by decide)
 have F_coder_b1 : Fld Z h1 b1 "java/lang/AbstractStringBuilder" "coder" "B" (.int 0) := D1 (Or.inl (w71 hw)) (ty := .byte) (by decide)
 have F_count_b1 : Fld Z h1 b1 "java/lang/AbstractStringBuilder" "count" "I" (.int 0) := D1 (Or.inl (w83 hw)) (ty := .int) (by decide)
 have O1 := O0.ext E1
 have K1 : Keep h0 h1 ([] : List Addr) := Keep.ext (Keep.refl h0 ([] : List Addr)) E1
 have Cd1 := Cold.ext Cd0 E1
 refine Rn X1 hx hby sg6_3_1 4 #[sr o0] [(.ref b1), (.ref b1)] rfl ?_
 refine Home.call (own_special X1 hx hZ hown rfl (w57 hw) (w58 hw) (w56 hw) (w59 hw) (by decide) (rm7_0 l Z a0 hw [] b1 sv_COMPACT_STRINGS h1 n0 O1 S_COMPACT_STRINGS A1 F_value_b1 F_coder_b1 F_count_b1 g_b1 hCS) e1 rfl (by rw [hml]; rfl) (a := b1) (argsL := []) (rest := [(.ref b1)]) (lenOf own_pd14 rfl) rfl rfl (W := 1) (hb hby d6_4)) ?_
 rintro _ T2 L2 X2 ⟨b3_1_2, k3_1_2, rfl, N2q, sz_b3_1_2, K2q, P2_0, P2_1, P2_2, P2_3, P2_4, P2_5⟩
 have Cd2 := Cold.keep Cd1 K2q (allS (Safe.exa hZ.alike A1 (by decide) (by decide)) all0)
 have Cd2b3_1_2 := Cold.put Cd2 ⟨Safe.keep K2q (allS (Safe.exa hZ.alike A1 (by decide) (by decide)) all0) Cd1.2.1.1 (Safe.new sz_b3_1_2), P2_4.lt⟩
 have g_b3_1_2 : n0 ≤ b3_1_2 := Nat.le_trans (Old.le O1) sz_b3_1_2
 have O2 := Old.keep O1 K2q (allS g_b1 all0)
 have K2 : Keep h0 T2.heap ([] : List Addr) := Keep.trans K1 K2q (allS (Or.inr (Nat.le_trans (Nat.le_refl _) (Nat.le_of_eq g1.symm))) all0)
 have N2 := Fr.app N0 N2q
 show Home T2 (mkF m 7 #[sr o0] [(.ref b1)])
 refine Rn X2 hx hby sg6_7_1 8 #[sr o0] [(.ref o0), (.ref b1)] rfl ?_
 refine Home.st (getF X2 hx hZ hown (host := "") (Or.inl (w34 hw)) Via.refl rfl (F_id_o0.keep K2 nin0) rfl rfl (hb hby d6_8)) fun T3 X3 e3 => ?_
 by_cases c4 : (0 : Int32) < ((own_n ([] ++ (own_put u1))) - (16 : Int32))
 ·
  refine Home.call (own_virtual X3 hx hZ hown (w72 hw) (w73 hw) (notFace_of_selects (args := #[]) (mvT hZ (w75 hw))) (w75 hw) (w74 hw) (w56 hw) (w76 hw) (by decide) (rm9_0 l Z a0 hw [] b1 u1 b3_1_2 k3_1_2 [] sv_COMPACT_STRINGS sv_DigitOnes k_ones sv_DigitTens k_tens T2.heap n0 O2 c4 P2_0 P2_1 P2_5 P2_2 S_COMPACT_STRINGS S_DigitOnes V_ones S_DigitTens V_tens P2_3 g_b1 (Nat.le_trans (own_len_lit (l := []) (n := 0) rfl).2 (by decide)) hCS) e3 P2_0 rfl (by rw [hml]; rfl) (argsL := [(.int u1)]) (rest := []) (lenOf own_pd22 rfl) rfl rfl (W := 0) (hb hby d6_11)) ?_
  rintro _ T6 L6 X6 ⟨b2_7_3_1_6, k2_7_3_1_6, rfl, N6q, sz_b2_7_3_1_6, K6q, P6_0, P6_1, P6_2, P6_3, P6_4, P6_5⟩
  have Cd6 := Cold.keep Cd2b3_1_2 K6q (allS (Safe.exa hZ.alike P2_0 (by decide) (by decide)) all0)
  have Cd6b2_7_3_1_6 := Cold.put Cd6 ⟨Safe.keep K6q (allS (Safe.exa hZ.alike P2_0 (by decide) (by decide)) all0) Cd2b3_1_2.2.1.1 (Safe.new sz_b2_7_3_1_6), P6_4.lt⟩
  have g_b2_7_3_1_6 : n0 ≤ b2_7_3_1_6 := Nat.le_trans (Old.le O2) sz_b2_7_3_1_6
  have O6 := Old.keep O2 K6q (allS g_b1 all0)
  have K6 : Keep h0 T6.heap ([] : List Addr) := Keep.trans K2 K6q (allS (Or.inr (Nat.le_trans (Nat.le_refl _) (Nat.le_of_eq g1.symm))) all0)
  have N6 := Fr.app N2 N6q
  obtain ⟨ad7, b7, k7, T7, h7, X7, e7, E7, hZ, hown, Cd7, Ea7, Fc7, Fv7, V7, la7, lb7, hne7, Li7, st7⟩ := own_ldcL X6 hx hZ hown (own_hEL hw) Cd6b2_7_3_1_6 (w102 hw) (own_wS hw) rfl (List.mem_of_getElem? (i := 1) rfl) (vs := [(.int 32)]) (z := (1 : Int32)) ⟨by decide, by rfl⟩ (by decide) (by decide) (g := (mkF m 14 #[.val (.ref o0)] [(.ref b1)])) rfl (hb hby d6_14) (n := 4) (by decide) (by decide) (by decide) (by decide)
  refine Home.go st7 ?_
  have O7 := O6.ext E7
  have K7 : Keep h0 h7 ([] : List Addr) := Keep.ext K6 E7
  have q8 := (P6_0.ext E7)
  have q9 := (P6_1.ext E7)
  have q10 := (P6_5.ext E7)
  have q11 := (P6_2.ext E7)
  have q12 := (P6_4.ext E7)
  have q13 := (P6_3.ext E7)
  refine Home.call (own_virtual X7 hx hZ hown (w103 hw) (w104 hw) (notFace_of_selects (args := #[]) (mvT hZ (w106 hw))) (w106 hw) (w105 hw) (w56 hw) (w107 hw) (by decide) (rm15_0 l Z a0 hw [] b1 ad7 b7 k7 [(32 : Int32)] sv_COMPACT_STRINGS b2_7_3_1_6 k2_7_3_1_6 ([] ++ (own_put u1)) h7 n0 O7 q8 Ea7 Fv7 V7 S_COMPACT_STRINGS Fc7 q9 q10 q11 q12 q13 g_b2_7_3_1_6 g_b1 hCS (Nat.le_trans (own_len_lit (l := [(32 : Int32)]) (n := 1) rfl).2 (by decide)) (Nat.le_trans (own_len_app (own_len_lit (l := []) (n := 0) rfl) (own_put_len u1)).2 (by decide))) e7 q8 rfl (by rw [hml]; rfl) (argsL := [(.ref ad7)]) (rest := []) (lenOf own_pd29 rfl) rfl rfl (W := 0) (hb hby d6_16)) ?_
  rintro _ T14 L14 X14 ⟨rfl, N14q, K14q, P14_0, P14_1, P14_2, P14_3, P14_4, P14_5⟩
  have Cd14 := Cold.keep Cd7 K14q (allS (Safe.exa hZ.alike q8 (by decide) (by decide)) (allS (Cold.safe Cd7 (List.mem_of_getElem? (i := 0) rfl)) all0))
  have le15 : h0.size ≤ T2.heap.size := Nat.le_trans E1.1 K2q.1
  have O14 := Old.keep O7 K14q (allS g_b1 (allS g_b2_7_3_1_6 all0))
  have K14 : Keep h0 T14.heap ([] : List Addr) := Keep.trans K7 K14q (allS (Or.inr (Nat.le_trans (Nat.le_refl _) (Nat.le_of_eq g1.symm))) (allS (Or.inr (Nat.le_trans le15 sz_b2_7_3_1_6)) all0))
  have N14 := Fr.app N6 N14q
  show Home T14 (mkF m 19 #[sr o0] [(.ref b1)])
  refine Rn X14 hx hby sg6_19_1 20 #[sr o0] [(.ref o0), (.ref b1)] rfl ?_
  refine Home.st (getF X14 hx hZ hown (host := "") (Or.inl (w43 hw)) Via.refl rfl (F_host_o0.keep K14 nin0) rfl rfl (hb hby d6_20)) fun T16 X16 e16 => ?_
  refine Home.call (own_virtual X16 hx hZ hown (w103 hw) (w104 hw) (notFace_of_selects (args := #[]) (mvT hZ (w106 hw))) (w106 hw) (w105 hw) (w56 hw) (w107 hw) (by decide) (rm15_0 l Z a0 hw [] b1 p2 p3 k_p3 l_4 sv_COMPACT_STRINGS b2_7_3_1_6 k2_7_3_1_6 (([] ++ (own_put u1)) ++ [(32 : Int32)]) T14.heap n0 O14 P14_0 (E_p2.keep K14) (F_value_p2.keep K14 nin0) (V_p3.keep K14 nin0) S_COMPACT_STRINGS (F_coder_p2.keep K14 nin0) P14_1 P14_4 P14_2 P14_5 P14_3 g_b2_7_3_1_6 g_b1 hCS (Nat.le_trans (own_len_le sh_l_4).2 (by decide)) (Nat.le_trans (own_len_app (own_len_app (own_len_lit (l := []) (n := 0) rfl) (own_put_len u1)) (own_len_lit (l := [(32 : Int32)]) (n := 1) rfl)).2 (by decide))) e16 P14_0 rfl (by rw [hml]; rfl) (argsL := [(.ref p2)]) (rest := []) (lenOf own_pd29 rfl) rfl rfl (W := 0) (hb hby d6_23)) ?_
  rintro _ T17 L17 X17 ⟨rfl, N17q, K17q, P17_0, P17_1, P17_2, P17_3, P17_4, P17_5⟩
  have Cd17 := Cold.keep Cd14 K17q (allS (Safe.exa hZ.alike P14_0 (by decide) (by decide)) (allS (Cold.safe Cd14 (List.mem_of_getElem? (i := 0) rfl)) all0))
  have O17 := Old.keep O14 K17q (allS g_b1 (allS g_b2_7_3_1_6 all0))
  have K17 : Keep h0 T17.heap ([] : List Addr) := Keep.trans K14 K17q (allS (Or.inr (Nat.le_trans (Nat.le_refl _) (Nat.le_of_eq g1.symm))) (allS (Or.inr (Nat.le_trans le15 sz_b2_7_3_1_6)) all0))
  have N17 := Fr.app N14 N17q
  refine Home.go (ldcAgain X17 hx hZ hown (w102 hw) Li7 (g := (mkF m 26 #[.val (.ref o0)] [(.ref b1)])) rfl (hb hby d6_26)) ?_
  have q18 := ((Ea7.keep K14q).keep K17q)
  have ne19 : ad7 ≠ b2_7_3_1_6 := (Ne.symm (hne7 _ (List.mem_of_getElem? (i := 0) rfl)).1)
  have ne20 : ad7 ≠ b1 := (ne_exa q18 P17_0 (by decide))
  have q21 := ((Fv7.keep K14q (ninS ne20 (ninS ne19 nin0))).keep K17q (ninS ne20 (ninS ne19 nin0)))
  have ne22 : b7 ≠ b2_7_3_1_6 := (Ne.symm (hne7 _ (List.mem_of_getElem? (i := 0) rfl)).2)
  have ne23 : b7 ≠ b1 := (Ne.symm (own_neAV (((A1.keep K2q).keep K6q).ext E7) (w55 hw) V7))
  have q24 := ((V7.keep K14q (ninS ne23 (ninS ne22 nin0))).keep K17q (ninS ne23 (ninS ne22 nin0)))
  have q25 := ((Fc7.keep K14q (ninS ne20 (ninS ne19 nin0))).keep K17q (ninS ne20 (ninS ne19 nin0)))
  refine Home.call (own_virtual X17 hx hZ hown (w103 hw) (w104 hw) (notFace_of_selects (args := #[]) (mvT hZ (w106 hw))) (w106 hw) (w105 hw) (w56 hw) (w107 hw) (by decide) (rm15_0 l Z a0 hw [] b1 ad7 b7 k7 [(32 : Int32)] sv_COMPACT_STRINGS b2_7_3_1_6 k2_7_3_1_6 ((([] ++ (own_put u1)) ++ [(32 : Int32)]) ++ l_4) T17.heap n0 O17 P17_0 q18 q21 q24 S_COMPACT_STRINGS q25 P17_1 P17_4 P17_2 P17_5 P17_3 g_b2_7_3_1_6 g_b1 hCS (Nat.le_trans (own_len_lit (l := [(32 : Int32)]) (n := 1) rfl).2 (by decide)) (Nat.le_trans (own_len_app (own_len_app (own_len_app (own_len_lit (l := []) (n := 0) rfl) (own_put_len u1)) (own_len_lit (l := [(32 : Int32)]) (n := 1) rfl)) (own_len_le sh_l_4)).2 (by decide))) rfl P17_0 rfl (by rw [hml]; rfl) (argsL := [(.ref ad7)]) (rest := []) (lenOf own_pd29 rfl) rfl rfl (W := 0) (hb hby d6_28)) ?_
  rintro _ T26 L26 X26 ⟨rfl, N26q, K26q, P26_0, P26_1, P26_2, P26_3, P26_4, P26_5⟩
  have Cd26 := Cold.keep Cd17 K26q (allS (Safe.exa hZ.alike P17_0 (by decide) (by decide)) (allS (Cold.safe Cd17 (List.mem_of_getElem? (i := 0) rfl)) all0))
  have O26 := Old.keep O17 K26q (allS g_b1 (allS g_b2_7_3_1_6 all0))
  have K26 : Keep h0 T26.heap ([] : List Addr) := Keep.trans K17 K26q (allS (Or.inr (Nat.le_trans (Nat.le_refl _) (Nat.le_of_eq g1.symm))) (allS (Or.inr (Nat.le_trans le15 sz_b2_7_3_1_6)) all0))
  have N26 := Fr.app N17 N26q
  show Home T26 (mkF m 31 #[sr o0] [(.ref b1)])
  refine Rn X26 hx hby sg6_31_1 32 #[sr o0] [(.ref o0), (.ref b1)] rfl ?_
  refine Home.st (getF X26 hx hZ hown (host := "") (Or.inl (w45 hw)) Via.refl rfl (F_peerPort_o0.keep K26 nin0) rfl rfl (hb hby d6_32)) fun T27 X27 e27 => ?_
  refine Home.call (own_virtual X27 hx hZ hown (w72 hw) (w73 hw) (notFace_of_selects (args := #[]) (mvT hZ (w75 hw))) (w75 hw) (w74 hw) (w56 hw) (w76 hw) (by decide) (rm9_1 l Z a0 hw [] b1 u2 b2_7_3_1_6 k2_7_3_1_6 (((([] ++ (own_put u1)) ++ [(32 : Int32)]) ++ l_4) ++ [(32 : Int32)]) sv_COMPACT_STRINGS sv_DigitOnes k_ones sv_DigitTens k_tens T26.heap n0 O26 P26_0 P26_1 P26_4 P26_2 S_COMPACT_STRINGS S_DigitOnes V_ones S_DigitTens V_tens P26_5 P26_3 g_b2_7_3_1_6 g_b1 (Nat.le_trans (own_len_app (own_len_app (own_len_app (own_len_app (own_len_lit (l := []) (n := 0) rfl) (own_put_len u1)) (own_len_lit (l := [(32 : Int32)]) (n := 1) rfl)) (own_len_le sh_l_4)) (own_len_lit (l := [(32 : Int32)]) (n := 1) rfl)).2 (by decide)) hCS) e27 P26_0 rfl (by rw [hml]; rfl) (argsL := [(.int u2)]) (rest := []) (lenOf own_pd22 rfl) rfl rfl (W := 0) (hb hby d6_35)) ?_
  rintro _ T28 L28 X28 ⟨rfl, N28q, K28q, P28_0, P28_1, P28_2, P28_3, P28_4, P28_5⟩
  have Cd28 := Cold.keep Cd26 K28q (allS (Safe.exa hZ.alike P26_0 (by decide) (by decide)) (allS (Cold.safe Cd26 (List.mem_of_getElem? (i := 0) rfl)) all0))
  have O28 := Old.keep O26 K28q (allS g_b1 (allS g_b2_7_3_1_6 all0))
  have K28 : Keep h0 T28.heap ([] : List Addr) := Keep.trans K26 K28q (allS (Or.inr (Nat.le_trans (Nat.le_refl _) (Nat.le_of_eq g1.symm))) (allS (Or.inr (Nat.le_trans le15 sz_b2_7_3_1_6)) all0))
  have N28 := Fr.app N26 N28q
  refine Home.go (ldcAgain X28 hx hZ hown (w102 hw) Li7 (g := (mkF m 38 #[.val (.ref o0)] [(.ref b1)])) rfl (hb hby d6_38)) ?_
  have q29 := ((q18.keep K26q).keep K28q)
  have q30 := ((q21.keep K26q (ninS ne20 (ninS ne19 nin0))).keep K28q (ninS ne20 (ninS ne19 nin0)))
  have q31 := ((q24.keep K26q (ninS ne23 (ninS ne22 nin0))).keep K28q (ninS ne23 (ninS ne22 nin0)))
  have q32 := ((q25.keep K26q (ninS ne20 (ninS ne19 nin0))).keep K28q (ninS ne20 (ninS ne19 nin0)))
  refine Home.call (own_virtual X28 hx hZ hown (w103 hw) (w104 hw) (notFace_of_selects (args := #[]) (mvT hZ (w106 hw))) (w106 hw) (w105 hw) (w56 hw) (w107 hw) (by decide) (rm15_1 l Z a0 hw [] b1 ad7 b7 k7 [(32 : Int32)] sv_COMPACT_STRINGS b2_7_3_1_6 k2_7_3_1_6 ((((([] ++ (own_put u1)) ++ [(32 : Int32)]) ++ l_4) ++ [(32 : Int32)]) ++ (own_put u2)) T28.heap n0 O28 P28_0 q29 q30 q31 S_COMPACT_STRINGS q32 P28_1 P28_4 P28_2 P28_5 P28_3 g_b2_7_3_1_6 g_b1 hCS (Nat.le_trans (own_len_lit (l := [(32 : Int32)]) (n := 1) rfl).2 (by decide)) (Nat.le_trans (own_len_app (own_len_app (own_len_app (own_len_app (own_len_app (own_len_lit (l := []) (n := 0) rfl) (own_put_len u1)) (own_len_lit (l := [(32 : Int32)]) (n := 1) rfl)) (own_len_le sh_l_4)) (own_len_lit (l := [(32 : Int32)]) (n := 1) rfl)) (own_put_len u2)).2 (by decide))) rfl P28_0 rfl (by rw [hml]; rfl) (argsL := [(.ref ad7)]) (rest := []) (lenOf own_pd29 rfl) rfl rfl (W := 0) (hb hby d6_40)) ?_
  rintro _ T33 L33 X33 ⟨rfl, N33q, K33q, P33_0, P33_1, P33_2, P33_3, P33_4, P33_5⟩
  have Cd33 := Cold.keep Cd28 K33q (allS (Safe.exa hZ.alike P28_0 (by decide) (by decide)) (allS (Cold.safe Cd28 (List.mem_of_getElem? (i := 0) rfl)) all0))
  have O33 := Old.keep O28 K33q (allS g_b1 (allS g_b2_7_3_1_6 all0))
  have K33 : Keep h0 T33.heap ([] : List Addr) := Keep.trans K28 K33q (allS (Or.inr (Nat.le_trans (Nat.le_refl _) (Nat.le_of_eq g1.symm))) (allS (Or.inr (Nat.le_trans le15 sz_b2_7_3_1_6)) all0))
  have N33 := Fr.app N28 N33q
  show Home T33 (mkF m 43 #[sr o0] [(.ref b1)])
  refine Rn X33 hx hby sg6_43_1 44 #[sr o0] [(.ref o0), (.ref b1)] rfl ?_
  refine Home.st (getF X33 hx hZ hown (host := "") (Or.inl (w47 hw)) Via.refl rfl (F_clientPort_o0.keep K33 nin0) rfl rfl (hb hby d6_44)) fun T34 X34 e34 => ?_
  by_cases c35 : (0 : Int32) < ((own_n ((((((([] ++ (own_put u1)) ++ [(32 : Int32)]) ++ l_4) ++ [(32 : Int32)]) ++ (own_put u2)) ++ [(32 : Int32)]) ++ (own_put u3))) - (34 : Int32))
  ·
   refine Home.call (own_virtual X34 hx hZ hown (w72 hw) (w73 hw) (notFace_of_selects (args := #[]) (mvT hZ (w75 hw))) (w75 hw) (w74 hw) (w56 hw) (w76 hw) (by decide) (rm9_2 l Z a0 hw [] b1 u3 b2_7_3_1_6 k2_7_3_1_6 (((((([] ++ (own_put u1)) ++ [(32 : Int32)]) ++ l_4) ++ [(32 : Int32)]) ++ (own_put u2)) ++ [(32 : Int32)]) sv_COMPACT_STRINGS sv_DigitOnes k_ones sv_DigitTens k_tens T33.heap n0 O33 c35 P33_0 P33_1 P33_4 P33_2 S_COMPACT_STRINGS S_DigitOnes V_ones S_DigitTens V_tens P33_3 g_b1 (Nat.le_trans (own_len_app (own_len_app (own_len_app (own_len_app (own_len_app (own_len_app (own_len_lit (l := []) (n := 0) rfl) (own_put_len u1)) (own_len_lit (l := [(32 : Int32)]) (n := 1) rfl)) (own_len_le sh_l_4)) (own_len_lit (l := [(32 : Int32)]) (n := 1) rfl)) (own_put_len u2)) (own_len_lit (l := [(32 : Int32)]) (n := 1) rfl)).2 (by decide)) hCS) e34 P33_0 rfl (by rw [hml]; rfl) (argsL := [(.int u3)]) (rest := []) (lenOf own_pd22 rfl) rfl rfl (W := 0) (hb hby d6_47)) ?_
   rintro _ T38 L38 X38 ⟨b2_7_3_1_38, k2_7_3_1_38, rfl, N38q, sz_b2_7_3_1_38, K38q, P38_0, P38_1, P38_2, P38_3, P38_4, P38_5⟩
   have Cd38 := Cold.keep Cd33 K38q (allS (Safe.exa hZ.alike P33_0 (by decide) (by decide)) all0)
   have Cd38b2_7_3_1_38 := Cold.put Cd38 ⟨Safe.keep K38q (allS (Safe.exa hZ.alike P33_0 (by decide) (by decide)) all0) Cd33.2.1.1 (Safe.new sz_b2_7_3_1_38), P38_4.lt⟩
   have g_b2_7_3_1_38 : n0 ≤ b2_7_3_1_38 := Nat.le_trans (Old.le O33) sz_b2_7_3_1_38
   have O38 := Old.keep O33 K38q (allS g_b1 all0)
   have K38 : Keep h0 T38.heap ([] : List Addr) := Keep.trans K33 K38q (allS (Or.inr (Nat.le_trans (Nat.le_refl _) (Nat.le_of_eq g1.symm))) all0)
   have N38 := Fr.app N33 N38q
   refine Home.call (own_virtual X38 hx hZ hown (w145 hw) (w146 hw) (notFace_of_selects (args := #[]) (mvT hZ (w148 hw))) (w148 hw) (w147 hw) (w56 hw) (w149 hw) (by decide) (rm22_0 l Z a0 hw [] b1 b2_7_3_1_38 sv_COMPACT_STRINGS k2_7_3_1_38 ((((((([] ++ (own_put u1)) ++ [(32 : Int32)]) ++ l_4) ++ [(32 : Int32)]) ++ (own_put u2)) ++ [(32 : Int32)]) ++ (own_put u3)) T38.heap n0 O38 P38_0 P38_1 S_COMPACT_STRINGS P38_2 P38_5 P38_4 P38_3 (Nat.le_trans (own_len_app (own_len_app (own_len_app (own_len_app (own_len_app (own_len_app (own_len_app (own_len_lit (l := []) (n := 0) rfl) (own_put_len u1)) (own_len_lit (l := [(32 : Int32)]) (n := 1) rfl)) (own_len_le sh_l_4)) (own_len_lit (l := [(32 : Int32)]) (n := 1) rfl)) (own_put_len u2)) (own_len_lit (l := [(32 : Int32)]) (n := 1) rfl)) (own_put_len u3)).2 (by decide)) hCS) rfl P38_0 rfl (by rw [hml]; rfl) (argsL := []) (rest := []) (lenOf own_pd35 rfl) rfl rfl (W := 0) (hb hby d6_50)) ?_
   rintro _ T39 L39 X39 ⟨b1_39, b2_2_8_1_2_39, k2_2_8_1_2_39, rfl, N39q, sz_b1_39, sz_b2_2_8_1_2_39, K39q, P39_0, P39_1, P39_2, P39_3, P39_4⟩
   have Cd39 := Cold.keep Cd38b2_7_3_1_38 K39q all0
   have Cd39b1_39 := Cold.put Cd39 ⟨Safe.keep K39q all0 Cd38b2_7_3_1_38.2.1.1 (Safe.new sz_b1_39), P39_0.lt⟩
   have Cd39b2_2_8_1_2_39 := Cold.put Cd39b1_39 ⟨Safe.keep K39q all0 Cd38b2_7_3_1_38.2.1.1 (Safe.new sz_b2_2_8_1_2_39), P39_3.lt⟩
   have g_b1_39 : n0 ≤ b1_39 := Nat.le_trans (Old.le O38) sz_b1_39
   have g_b2_2_8_1_2_39 : n0 ≤ b2_2_8_1_2_39 := Nat.le_trans (Old.le O38) sz_b2_2_8_1_2_39
   have K39 : Keep h0 T39.heap ([] : List Addr) := Keep.trans K38 K39q all0
   have N39 := Fr.app N38 N39q
   show Home T39 (mkF m 53 #[sr o0] [(.ref b1_39)])
   have le250 : h0.size ≤ T6.heap.size := Nat.le_trans le15 K6q.1
   have le251 : h0.size ≤ h7.size := Nat.le_trans le250 E7.1
   have le252 : h0.size ≤ T14.heap.size := Nat.le_trans le251 K14q.1
   have le253 : h0.size ≤ T17.heap.size := Nat.le_trans le252 K17q.1
   have le254 : h0.size ≤ T26.heap.size := Nat.le_trans le253 K26q.1
   have le255 : h0.size ≤ T28.heap.size := Nat.le_trans le254 K28q.1
   have le256 : h0.size ≤ T33.heap.size := Nat.le_trans le255 K33q.1
   have le257 : h0.size ≤ T38.heap.size := Nat.le_trans le256 K38q.1
   exact HomeW.retR X39 hx hlk hZ (own_hEL hw) rfl Cd39b2_2_8_1_2_39 (fun _ _ q => by cases q; exact (List.mem_of_getElem? (i := 1) rfl)) hret rfl rfl (hb hby d6_53) ⟨b1_39, b2_2_8_1_2_39, k2_2_8_1_2_39, rfl, N39, (Nat.le_trans le257 sz_b1_39), K39, P39_0, P39_2, P39_1, Arv.lst P39_4 (cs := ((((((([] ++ (own_put u1)) ++ [(32 : Int32)]) ++ l_4) ++ [(32 : Int32)]) ++ (own_put u2)) ++ [(32 : Int32)]) ++ (own_put u3))) (cs' := (cs_rm6_0 u1 l_4 u2 u3)) (by rfl) rfl rfl⟩ (by decide) (by decide)
  ·
   have lf37 : 6 ≤ ((((((([] ++ (own_put u1)) ++ [(32 : Int32)]) ++ l_4) ++ [(32 : Int32)]) ++ (own_put u2)) ++ [(32 : Int32)]) ++ (own_put u3)).length ∧ ((((((([] ++ (own_put u1)) ++ [(32 : Int32)]) ++ l_4) ++ [(32 : Int32)]) ++ (own_put u2)) ++ [(32 : Int32)]) ++ (own_put u3)).length ≤ 34 := own_fit (K := 34) c35 (own_len_app (own_len_app (own_len_app (own_len_app (own_len_app (own_len_app (own_len_app (own_len_lit (l := []) (n := 0) rfl) (own_put_len u1)) (own_len_lit (l := [(32 : Int32)]) (n := 1) rfl)) (own_len_le sh_l_4)) (own_len_lit (l := [(32 : Int32)]) (n := 1) rfl)) (own_put_len u2)) (own_len_lit (l := [(32 : Int32)]) (n := 1) rfl)) (own_put_len u3)) (by decide) (by decide)
   refine Home.call (own_virtual X34 hx hZ hown (w72 hw) (w73 hw) (notFace_of_selects (args := #[]) (mvT hZ (w75 hw))) (w75 hw) (w74 hw) (w56 hw) (w76 hw) (by decide) (rm9_3 l Z a0 hw [] b1 u3 b2_7_3_1_6 k2_7_3_1_6 (((((([] ++ (own_put u1)) ++ [(32 : Int32)]) ++ l_4) ++ [(32 : Int32)]) ++ (own_put u2)) ++ [(32 : Int32)]) sv_COMPACT_STRINGS sv_DigitOnes k_ones sv_DigitTens k_tens T33.heap n0 O33 c35 (Nat.le_trans (own_len_app (own_len_app (own_len_app (own_len_app (own_len_app (own_len_app (own_len_lit (l := []) (n := 0) rfl) (own_put_len u1)) (own_len_lit (l := [(32 : Int32)]) (n := 1) rfl)) (own_len_le sh_l_4)) (own_len_lit (l := [(32 : Int32)]) (n := 1) rfl)) (own_put_len u2)) (own_len_lit (l := [(32 : Int32)]) (n := 1) rfl)).2 (by decide)) P33_0 P33_1 P33_4 P33_2 S_COMPACT_STRINGS S_DigitOnes V_ones S_DigitTens V_tens P33_5 P33_3 g_b2_7_3_1_6 g_b1 hCS) e34 P33_0 rfl (by rw [hml]; rfl) (argsL := [(.int u3)]) (rest := []) (lenOf own_pd22 rfl) rfl rfl (W := 0) (hb hby d6_47)) ?_
   rintro _ T40 L40 X40 ⟨rfl, N40q, K40q, P40_0, P40_1, P40_2, P40_3, P40_4, P40_5⟩
   have Cd40 := Cold.keep Cd33 K40q (allS (Safe.exa hZ.alike P33_0 (by decide) (by decide)) (allS (Cold.safe Cd33 (List.mem_of_getElem? (i := 0) rfl)) all0))
   have O40 := Old.keep O33 K40q (allS g_b1 (allS g_b2_7_3_1_6 all0))
   have K40 : Keep h0 T40.heap ([] : List Addr) := Keep.trans K33 K40q (allS (Or.inr (Nat.le_trans (Nat.le_refl _) (Nat.le_of_eq g1.symm))) (allS (Or.inr (Nat.le_trans le15 sz_b2_7_3_1_6)) all0))
   have N40 := Fr.app N33 N40q
   by_cases c41 : (own_n ((((((([] ++ (own_put u1)) ++ [(32 : Int32)]) ++ l_4) ++ [(32 : Int32)]) ++ (own_put u2)) ++ [(32 : Int32)]) ++ (own_put u3))) = (34 : Int32)
   ·
    refine Home.call (own_virtual X40 hx hZ hown (w145 hw) (w146 hw) (notFace_of_selects (args := #[]) (mvT hZ (w148 hw))) (w148 hw) (w147 hw) (w56 hw) (w149 hw) (by decide) (rm22_1 l Z a0 hw [] b1 b2_7_3_1_6 sv_COMPACT_STRINGS k2_7_3_1_6 ((((((([] ++ (own_put u1)) ++ [(32 : Int32)]) ++ l_4) ++ [(32 : Int32)]) ++ (own_put u2)) ++ [(32 : Int32)]) ++ (own_put u3)) T40.heap n0 O40 c41 (Nat.le_trans lf37.2 (by decide)) P40_0 P40_1 S_COMPACT_STRINGS P40_2 P40_4 P40_5 P40_3 hCS) rfl P40_0 rfl (by rw [hml]; rfl) (argsL := []) (rest := []) (lenOf own_pd35 rfl) rfl rfl (W := 0) (hb hby d6_50)) ?_
    rintro _ T44 L44 X44 ⟨b1_44, b2_8_1_2_44, rfl, N44q, sz_b1_44, sz_b2_8_1_2_44, K44q, P44_0, P44_1, P44_2, P44_3, P44_4⟩
    have Cd44 := Cold.keep Cd40 K44q all0
    have Cd44b1_44 := Cold.put Cd44 ⟨Safe.keep K44q all0 Cd40.2.1.1 (Safe.new sz_b1_44), P44_0.lt⟩
    have Cd44b2_8_1_2_44 := Cold.put Cd44b1_44 ⟨Safe.keep K44q all0 Cd40.2.1.1 (Safe.new sz_b2_8_1_2_44), P44_3.lt⟩
    have g_b1_44 : n0 ≤ b1_44 := Nat.le_trans (Old.le O40) sz_b1_44
    have g_b2_8_1_2_44 : n0 ≤ b2_8_1_2_44 := Nat.le_trans (Old.le O40) sz_b2_8_1_2_44
    have K44 : Keep h0 T44.heap ([] : List Addr) := Keep.trans K40 K44q all0
    have N44 := Fr.app N40 N44q
    have le258 : h0.size ≤ T6.heap.size := Nat.le_trans le15 K6q.1
    have le259 : h0.size ≤ h7.size := Nat.le_trans le258 E7.1
    have le260 : h0.size ≤ T14.heap.size := Nat.le_trans le259 K14q.1
    have le261 : h0.size ≤ T17.heap.size := Nat.le_trans le260 K17q.1
    have le262 : h0.size ≤ T26.heap.size := Nat.le_trans le261 K26q.1
    have le263 : h0.size ≤ T28.heap.size := Nat.le_trans le262 K28q.1
    have le264 : h0.size ≤ T33.heap.size := Nat.le_trans le263 K33q.1
    have le265 : h0.size ≤ T40.heap.size := Nat.le_trans le264 K40q.1
    exact HomeW.retR X44 hx hlk hZ (own_hEL hw) rfl Cd44b2_8_1_2_44 (fun _ _ q => by cases q; exact (List.mem_of_getElem? (i := 1) rfl)) hret rfl rfl (hb hby d6_53) ⟨b1_44, b2_8_1_2_44, k2_7_3_1_6, rfl, N44, (Nat.le_trans le265 sz_b1_44), K44, P44_0, P44_2, P44_1, Arv.lst P44_3 (cs := ((((((([] ++ (own_put u1)) ++ [(32 : Int32)]) ++ l_4) ++ [(32 : Int32)]) ++ (own_put u2)) ++ [(32 : Int32)]) ++ (own_put u3))) (cs' := (cs_rm6_0 u1 l_4 u2 u3)) (by rfl) rfl rfl⟩ (by decide) (by decide)
   ·
    refine Home.call (own_virtual X40 hx hZ hown (w145 hw) (w146 hw) (notFace_of_selects (args := #[]) (mvT hZ (w148 hw))) (w148 hw) (w147 hw) (w56 hw) (w149 hw) (by decide) (rm22_2 l Z a0 hw [] b1 b2_7_3_1_6 sv_COMPACT_STRINGS k2_7_3_1_6 ((((((([] ++ (own_put u1)) ++ [(32 : Int32)]) ++ l_4) ++ [(32 : Int32)]) ++ (own_put u2)) ++ [(32 : Int32)]) ++ (own_put u3)) T40.heap n0 O40 c41 (Nat.le_trans lf37.2 (by decide)) P40_0 P40_1 S_COMPACT_STRINGS P40_2 P40_4 P40_5 P40_3 hCS) rfl P40_0 rfl (by rw [hml]; rfl) (argsL := []) (rest := []) (lenOf own_pd35 rfl) rfl rfl (W := 0) (hb hby d6_50)) ?_
    rintro _ T45 L45 X45 ⟨b1_45, b2_2_8_1_2_45, k2_2_8_1_2_45, rfl, N45q, sz_b1_45, sz_b2_2_8_1_2_45, K45q, P45_0, P45_1, P45_2, P45_3, P45_4⟩
    have Cd45 := Cold.keep Cd40 K45q all0
    have Cd45b1_45 := Cold.put Cd45 ⟨Safe.keep K45q all0 Cd40.2.1.1 (Safe.new sz_b1_45), P45_0.lt⟩
    have Cd45b2_2_8_1_2_45 := Cold.put Cd45b1_45 ⟨Safe.keep K45q all0 Cd40.2.1.1 (Safe.new sz_b2_2_8_1_2_45), P45_3.lt⟩
    have g_b1_45 : n0 ≤ b1_45 := Nat.le_trans (Old.le O40) sz_b1_45
    have g_b2_2_8_1_2_45 : n0 ≤ b2_2_8_1_2_45 := Nat.le_trans (Old.le O40) sz_b2_2_8_1_2_45
    have K45 : Keep h0 T45.heap ([] : List Addr) := Keep.trans K40 K45q all0
    have N45 := Fr.app N40 N45q
    have le266 : h0.size ≤ T6.heap.size := Nat.le_trans le15 K6q.1
    have le267 : h0.size ≤ h7.size := Nat.le_trans le266 E7.1
    have le268 : h0.size ≤ T14.heap.size := Nat.le_trans le267 K14q.1
    have le269 : h0.size ≤ T17.heap.size := Nat.le_trans le268 K17q.1
    have le270 : h0.size ≤ T26.heap.size := Nat.le_trans le269 K26q.1
    have le271 : h0.size ≤ T28.heap.size := Nat.le_trans le270 K28q.1
    have le272 : h0.size ≤ T33.heap.size := Nat.le_trans le271 K33q.1
    have le273 : h0.size ≤ T40.heap.size := Nat.le_trans le272 K40q.1
    exact HomeW.retR X45 hx hlk hZ (own_hEL hw) rfl Cd45b2_2_8_1_2_45 (fun _ _ q => by cases q; exact (List.mem_of_getElem? (i := 1) rfl)) hret rfl rfl (hb hby d6_53) ⟨b1_45, b2_2_8_1_2_45, k2_2_8_1_2_45, rfl, N45, (Nat.le_trans le273 sz_b1_45), K45, P45_0, P45_2, P45_1, Arv.lst P45_4 (cs := ((((((([] ++ (own_put u1)) ++ [(32 : Int32)]) ++ l_4) ++ [(32 : Int32)]) ++ (own_put u2)) ++ [(32 : Int32)]) ++ (own_put u3))) (cs' := (cs_rm6_0 u1 l_4 u2 u3)) (by rfl) rfl rfl⟩ (by decide) (by decide)
 ·
  refine Home.call (own_virtual X3 hx hZ hown (w72 hw) (w73 hw) (notFace_of_selects (args := #[]) (mvT hZ (w75 hw))) (w75 hw) (w74 hw) (w56 hw) (w76 hw) (by decide) (rm9_4 l Z a0 hw [] b1 u1 b3_1_2 k3_1_2 [] sv_COMPACT_STRINGS sv_DigitOnes k_ones sv_DigitTens k_tens T2.heap n0 O2 c4 (Nat.le_trans (own_len_lit (l := []) (n := 0) rfl).2 (by decide)) P2_0 P2_1 P2_5 P2_2 S_COMPACT_STRINGS S_DigitOnes V_ones S_DigitTens V_tens P2_4 P2_3 g_b3_1_2 g_b1 hCS) e3 P2_0 rfl (by rw [hml]; rfl) (argsL := [(.int u1)]) (rest := []) (lenOf own_pd22 rfl) rfl rfl (W := 0) (hb hby d6_11)) ?_
  rintro _ T46 L46 X46 ⟨rfl, N46q, K46q, P46_0, P46_1, P46_2, P46_3, P46_4, P46_5⟩
  have Cd46 := Cold.keep Cd2b3_1_2 K46q (allS (Safe.exa hZ.alike P2_0 (by decide) (by decide)) (allS (Cold.safe Cd2b3_1_2 (List.mem_of_getElem? (i := 0) rfl)) all0))
  have O46 := Old.keep O2 K46q (allS g_b1 (allS g_b3_1_2 all0))
  have K46 : Keep h0 T46.heap ([] : List Addr) := Keep.trans K2 K46q (allS (Or.inr (Nat.le_trans (Nat.le_refl _) (Nat.le_of_eq g1.symm))) (allS (Or.inr (Nat.le_trans E1.1 sz_b3_1_2)) all0))
  have N46 := Fr.app N2 N46q
  obtain ⟨ad47, b47, k47, T47, h47, X47, e47, E47, hZ, hown, Cd47, Ea47, Fc47, Fv47, V47, la47, lb47, hne47, Li47, st47⟩ := own_ldcL X46 hx hZ hown (own_hEL hw) Cd46 (w102 hw) (own_wS hw) rfl (List.mem_of_getElem? (i := 1) rfl) (vs := [(.int 32)]) (z := (1 : Int32)) ⟨by decide, by rfl⟩ (by decide) (by decide) (g := (mkF m 14 #[.val (.ref o0)] [(.ref b1)])) rfl (hb hby d6_14) (n := 4) (by decide) (by decide) (by decide) (by decide)
  refine Home.go st47 ?_
  have O47 := O46.ext E47
  have K47 : Keep h0 h47 ([] : List Addr) := Keep.ext K46 E47
  by_cases c48 : (0 : Int32) < ((own_n (([] ++ (own_put u1)) ++ [(32 : Int32)])) - (16 : Int32))
  ·
   have q50 := (P46_0.ext E47)
   have q51 := (P46_1.ext E47)
   have q52 := (P46_4.ext E47)
   have q53 := (P46_2.ext E47)
   have q54 := (P46_3.ext E47)
   refine Home.call (own_virtual X47 hx hZ hown (w103 hw) (w104 hw) (notFace_of_selects (args := #[]) (mvT hZ (w106 hw))) (w106 hw) (w105 hw) (w56 hw) (w107 hw) (by decide) (rm15_2 l Z a0 hw [] b1 ad47 b47 k47 [(32 : Int32)] sv_COMPACT_STRINGS b3_1_2 k3_1_2 ([] ++ (own_put u1)) h47 n0 O47 c48 q50 Ea47 Fv47 V47 S_COMPACT_STRINGS Fc47 q51 q52 q53 q54 g_b1 hCS (Nat.le_trans (own_len_lit (l := [(32 : Int32)]) (n := 1) rfl).2 (by decide)) (Nat.le_trans (own_len_app (own_len_lit (l := []) (n := 0) rfl) (own_put_len u1)).2 (by decide))) e47 q50 rfl (by rw [hml]; rfl) (argsL := [(.ref ad47)]) (rest := []) (lenOf own_pd29 rfl) rfl rfl (W := 0) (hb hby d6_16)) ?_
   rintro _ T55 L55 X55 ⟨b2_7_3_2_55, k2_7_3_2_55, rfl, N55q, sz_b2_7_3_2_55, K55q, P55_0, P55_1, P55_2, P55_3, P55_4, P55_5⟩
   have Cd55 := Cold.keep Cd47 K55q (allS (Safe.exa hZ.alike q50 (by decide) (by decide)) all0)
   have Cd55b2_7_3_2_55 := Cold.put Cd55 ⟨Safe.keep K55q (allS (Safe.exa hZ.alike q50 (by decide) (by decide)) all0) Cd47.2.1.1 (Safe.new sz_b2_7_3_2_55), P55_4.lt⟩
   have g_b2_7_3_2_55 : n0 ≤ b2_7_3_2_55 := Nat.le_trans (Old.le O47) sz_b2_7_3_2_55
   have O55 := Old.keep O47 K55q (allS g_b1 all0)
   have K55 : Keep h0 T55.heap ([] : List Addr) := Keep.trans K47 K55q (allS (Or.inr (Nat.le_trans (Nat.le_refl _) (Nat.le_of_eq g1.symm))) all0)
   have N55 := Fr.app N46 N55q
   refine Rn X55 hx hby sg6_19_1 20 #[sr o0] [(.ref o0), (.ref b1)] rfl ?_
   refine Home.st (getF X55 hx hZ hown (host := "") (Or.inl (w43 hw)) Via.refl rfl (F_host_o0.keep K55 nin0) rfl rfl (hb hby d6_20)) fun T56 X56 e56 => ?_
   show Home T56 (mkF m 23 #[sr o0] [(.ref p2), (.ref b1)])
   refine Home.call (own_virtual X56 hx hZ hown (w103 hw) (w104 hw) (notFace_of_selects (args := #[]) (mvT hZ (w106 hw))) (w106 hw) (w105 hw) (w56 hw) (w107 hw) (by decide) (rm15_0 l Z a0 hw [] b1 p2 p3 k_p3 l_4 sv_COMPACT_STRINGS b2_7_3_2_55 k2_7_3_2_55 (([] ++ (own_put u1)) ++ [(32 : Int32)]) T55.heap n0 O55 P55_0 (E_p2.keep K55) (F_value_p2.keep K55 nin0) (V_p3.keep K55 nin0) S_COMPACT_STRINGS (F_coder_p2.keep K55 nin0) P55_1 P55_5 P55_2 P55_4 P55_3 g_b2_7_3_2_55 g_b1 hCS (Nat.le_trans (own_len_le sh_l_4).2 (by decide)) (Nat.le_trans (own_len_app (own_len_app (own_len_lit (l := []) (n := 0) rfl) (own_put_len u1)) (own_len_lit (l := [(32 : Int32)]) (n := 1) rfl)).2 (by decide))) e56 P55_0 rfl (by rw [hml]; rfl) (argsL := [(.ref p2)]) (rest := []) (lenOf own_pd29 rfl) rfl rfl (W := 0) (hb hby d6_23)) ?_
   rintro _ T57 L57 X57 ⟨rfl, N57q, K57q, P57_0, P57_1, P57_2, P57_3, P57_4, P57_5⟩
   have Cd57 := Cold.keep Cd55b2_7_3_2_55 K57q (allS (Safe.exa hZ.alike P55_0 (by decide) (by decide)) (allS (Cold.safe Cd55b2_7_3_2_55 (List.mem_of_getElem? (i := 0) rfl)) all0))
   have le58 : h0.size ≤ T2.heap.size := Nat.le_trans E1.1 K2q.1
   have le59 : h0.size ≤ T46.heap.size := Nat.le_trans le58 K46q.1
   have le60 : h0.size ≤ h47.size := Nat.le_trans le59 E47.1
   have O57 := Old.keep O55 K57q (allS g_b1 (allS g_b2_7_3_2_55 all0))
   have K57 : Keep h0 T57.heap ([] : List Addr) := Keep.trans K55 K57q (allS (Or.inr (Nat.le_trans (Nat.le_refl _) (Nat.le_of_eq g1.symm))) (allS (Or.inr (Nat.le_trans le60 sz_b2_7_3_2_55)) all0))
   have N57 := Fr.app N55 N57q
   refine Home.go (ldcAgain X57 hx hZ hown (w102 hw) Li47 (g := (mkF m 26 #[.val (.ref o0)] [(.ref b1)])) rfl (hb hby d6_26)) ?_
   have q61 := ((Ea47.keep K55q).keep K57q)
   have ne62 : ad47 ≠ b1 := (ne_exa q61 P57_0 (by decide))
   have ne63 : ad47 ≠ b2_7_3_2_55 := (Nat.ne_of_lt (Nat.lt_of_lt_of_le Ea47.lt (Nat.le_trans (Nat.le_refl _) sz_b2_7_3_2_55)))
   have q64 := ((Fv47.keep K55q (ninS ne62 nin0)).keep K57q (ninS ne62 (ninS ne63 nin0)))
   have ne65 : b47 ≠ b1 := (Ne.symm (own_neAV (((A1.keep K2q).keep K46q).ext E47) (w55 hw) V47))
   have ne66 : b47 ≠ b2_7_3_2_55 := (Nat.ne_of_lt (Nat.lt_of_lt_of_le V47.lt (Nat.le_trans (Nat.le_refl _) sz_b2_7_3_2_55)))
   have q67 := ((V47.keep K55q (ninS ne65 nin0)).keep K57q (ninS ne65 (ninS ne66 nin0)))
   have q68 := ((Fc47.keep K55q (ninS ne62 nin0)).keep K57q (ninS ne62 (ninS ne63 nin0)))
   refine Home.call (own_virtual X57 hx hZ hown (w103 hw) (w104 hw) (notFace_of_selects (args := #[]) (mvT hZ (w106 hw))) (w106 hw) (w105 hw) (w56 hw) (w107 hw) (by decide) (rm15_0 l Z a0 hw [] b1 ad47 b47 k47 [(32 : Int32)] sv_COMPACT_STRINGS b2_7_3_2_55 k2_7_3_2_55 ((([] ++ (own_put u1)) ++ [(32 : Int32)]) ++ l_4) T57.heap n0 O57 P57_0 q61 q64 q67 S_COMPACT_STRINGS q68 P57_1 P57_4 P57_2 P57_5 P57_3 g_b2_7_3_2_55 g_b1 hCS (Nat.le_trans (own_len_lit (l := [(32 : Int32)]) (n := 1) rfl).2 (by decide)) (Nat.le_trans (own_len_app (own_len_app (own_len_app (own_len_lit (l := []) (n := 0) rfl) (own_put_len u1)) (own_len_lit (l := [(32 : Int32)]) (n := 1) rfl)) (own_len_le sh_l_4)).2 (by decide))) rfl P57_0 rfl (by rw [hml]; rfl) (argsL := [(.ref ad47)]) (rest := []) (lenOf own_pd29 rfl) rfl rfl (W := 0) (hb hby d6_28)) ?_
   rintro _ T69 L69 X69 ⟨rfl, N69q, K69q, P69_0, P69_1, P69_2, P69_3, P69_4, P69_5⟩
   have Cd69 := Cold.keep Cd57 K69q (allS (Safe.exa hZ.alike P57_0 (by decide) (by decide)) (allS (Cold.safe Cd57 (List.mem_of_getElem? (i := 0) rfl)) all0))
   have O69 := Old.keep O57 K69q (allS g_b1 (allS g_b2_7_3_2_55 all0))
   have K69 : Keep h0 T69.heap ([] : List Addr) := Keep.trans K57 K69q (allS (Or.inr (Nat.le_trans (Nat.le_refl _) (Nat.le_of_eq g1.symm))) (allS (Or.inr (Nat.le_trans le60 sz_b2_7_3_2_55)) all0))
   have N69 := Fr.app N57 N69q
   show Home T69 (mkF m 31 #[sr o0] [(.ref b1)])
   refine Rn X69 hx hby sg6_31_1 32 #[sr o0] [(.ref o0), (.ref b1)] rfl ?_
   refine Home.st (getF X69 hx hZ hown (host := "") (Or.inl (w45 hw)) Via.refl rfl (F_peerPort_o0.keep K69 nin0) rfl rfl (hb hby d6_32)) fun T70 X70 e70 => ?_
   refine Home.call (own_virtual X70 hx hZ hown (w72 hw) (w73 hw) (notFace_of_selects (args := #[]) (mvT hZ (w75 hw))) (w75 hw) (w74 hw) (w56 hw) (w76 hw) (by decide) (rm9_1 l Z a0 hw [] b1 u2 b2_7_3_2_55 k2_7_3_2_55 (((([] ++ (own_put u1)) ++ [(32 : Int32)]) ++ l_4) ++ [(32 : Int32)]) sv_COMPACT_STRINGS sv_DigitOnes k_ones sv_DigitTens k_tens T69.heap n0 O69 P69_0 P69_1 P69_4 P69_2 S_COMPACT_STRINGS S_DigitOnes V_ones S_DigitTens V_tens P69_5 P69_3 g_b2_7_3_2_55 g_b1 (Nat.le_trans (own_len_app (own_len_app (own_len_app (own_len_app (own_len_lit (l := []) (n := 0) rfl) (own_put_len u1)) (own_len_lit (l := [(32 : Int32)]) (n := 1) rfl)) (own_len_le sh_l_4)) (own_len_lit (l := [(32 : Int32)]) (n := 1) rfl)).2 (by decide)) hCS) e70 P69_0 rfl (by rw [hml]; rfl) (argsL := [(.int u2)]) (rest := []) (lenOf own_pd22 rfl) rfl rfl (W := 0) (hb hby d6_35)) ?_
   rintro _ T71 L71 X71 ⟨rfl, N71q, K71q, P71_0, P71_1, P71_2, P71_3, P71_4, P71_5⟩
   have Cd71 := Cold.keep Cd69 K71q (allS (Safe.exa hZ.alike P69_0 (by decide) (by decide)) (allS (Cold.safe Cd69 (List.mem_of_getElem? (i := 0) rfl)) all0))
   have O71 := Old.keep O69 K71q (allS g_b1 (allS g_b2_7_3_2_55 all0))
   have K71 : Keep h0 T71.heap ([] : List Addr) := Keep.trans K69 K71q (allS (Or.inr (Nat.le_trans (Nat.le_refl _) (Nat.le_of_eq g1.symm))) (allS (Or.inr (Nat.le_trans le60 sz_b2_7_3_2_55)) all0))
   have N71 := Fr.app N69 N71q
   refine Home.go (ldcAgain X71 hx hZ hown (w102 hw) Li47 (g := (mkF m 38 #[.val (.ref o0)] [(.ref b1)])) rfl (hb hby d6_38)) ?_
   have q72 := ((q61.keep K69q).keep K71q)
   have q73 := ((q64.keep K69q (ninS ne62 (ninS ne63 nin0))).keep K71q (ninS ne62 (ninS ne63 nin0)))
   have q74 := ((q67.keep K69q (ninS ne65 (ninS ne66 nin0))).keep K71q (ninS ne65 (ninS ne66 nin0)))
   have q75 := ((q68.keep K69q (ninS ne62 (ninS ne63 nin0))).keep K71q (ninS ne62 (ninS ne63 nin0)))
   refine Home.call (own_virtual X71 hx hZ hown (w103 hw) (w104 hw) (notFace_of_selects (args := #[]) (mvT hZ (w106 hw))) (w106 hw) (w105 hw) (w56 hw) (w107 hw) (by decide) (rm15_1 l Z a0 hw [] b1 ad47 b47 k47 [(32 : Int32)] sv_COMPACT_STRINGS b2_7_3_2_55 k2_7_3_2_55 ((((([] ++ (own_put u1)) ++ [(32 : Int32)]) ++ l_4) ++ [(32 : Int32)]) ++ (own_put u2)) T71.heap n0 O71 P71_0 q72 q73 q74 S_COMPACT_STRINGS q75 P71_1 P71_4 P71_2 P71_5 P71_3 g_b2_7_3_2_55 g_b1 hCS (Nat.le_trans (own_len_lit (l := [(32 : Int32)]) (n := 1) rfl).2 (by decide)) (Nat.le_trans (own_len_app (own_len_app (own_len_app (own_len_app (own_len_app (own_len_lit (l := []) (n := 0) rfl) (own_put_len u1)) (own_len_lit (l := [(32 : Int32)]) (n := 1) rfl)) (own_len_le sh_l_4)) (own_len_lit (l := [(32 : Int32)]) (n := 1) rfl)) (own_put_len u2)).2 (by decide))) rfl P71_0 rfl (by rw [hml]; rfl) (argsL := [(.ref ad47)]) (rest := []) (lenOf own_pd29 rfl) rfl rfl (W := 0) (hb hby d6_40)) ?_
   rintro _ T76 L76 X76 ⟨rfl, N76q, K76q, P76_0, P76_1, P76_2, P76_3, P76_4, P76_5⟩
   have Cd76 := Cold.keep Cd71 K76q (allS (Safe.exa hZ.alike P71_0 (by decide) (by decide)) (allS (Cold.safe Cd71 (List.mem_of_getElem? (i := 0) rfl)) all0))
   have O76 := Old.keep O71 K76q (allS g_b1 (allS g_b2_7_3_2_55 all0))
   have K76 : Keep h0 T76.heap ([] : List Addr) := Keep.trans K71 K76q (allS (Or.inr (Nat.le_trans (Nat.le_refl _) (Nat.le_of_eq g1.symm))) (allS (Or.inr (Nat.le_trans le60 sz_b2_7_3_2_55)) all0))
   have N76 := Fr.app N71 N76q
   show Home T76 (mkF m 43 #[sr o0] [(.ref b1)])
   refine Rn X76 hx hby sg6_43_1 44 #[sr o0] [(.ref o0), (.ref b1)] rfl ?_
   refine Home.st (getF X76 hx hZ hown (host := "") (Or.inl (w47 hw)) Via.refl rfl (F_clientPort_o0.keep K76 nin0) rfl rfl (hb hby d6_44)) fun T77 X77 e77 => ?_
   by_cases c78 : (0 : Int32) < ((own_n ((((((([] ++ (own_put u1)) ++ [(32 : Int32)]) ++ l_4) ++ [(32 : Int32)]) ++ (own_put u2)) ++ [(32 : Int32)]) ++ (own_put u3))) - (34 : Int32))
   ·
    refine Home.call (own_virtual X77 hx hZ hown (w72 hw) (w73 hw) (notFace_of_selects (args := #[]) (mvT hZ (w75 hw))) (w75 hw) (w74 hw) (w56 hw) (w76 hw) (by decide) (rm9_2 l Z a0 hw [] b1 u3 b2_7_3_2_55 k2_7_3_2_55 (((((([] ++ (own_put u1)) ++ [(32 : Int32)]) ++ l_4) ++ [(32 : Int32)]) ++ (own_put u2)) ++ [(32 : Int32)]) sv_COMPACT_STRINGS sv_DigitOnes k_ones sv_DigitTens k_tens T76.heap n0 O76 c78 P76_0 P76_1 P76_4 P76_2 S_COMPACT_STRINGS S_DigitOnes V_ones S_DigitTens V_tens P76_3 g_b1 (Nat.le_trans (own_len_app (own_len_app (own_len_app (own_len_app (own_len_app (own_len_app (own_len_lit (l := []) (n := 0) rfl) (own_put_len u1)) (own_len_lit (l := [(32 : Int32)]) (n := 1) rfl)) (own_len_le sh_l_4)) (own_len_lit (l := [(32 : Int32)]) (n := 1) rfl)) (own_put_len u2)) (own_len_lit (l := [(32 : Int32)]) (n := 1) rfl)).2 (by decide)) hCS) e77 P76_0 rfl (by rw [hml]; rfl) (argsL := [(.int u3)]) (rest := []) (lenOf own_pd22 rfl) rfl rfl (W := 0) (hb hby d6_47)) ?_
    rintro _ T81 L81 X81 ⟨b2_7_3_1_81, k2_7_3_1_81, rfl, N81q, sz_b2_7_3_1_81, K81q, P81_0, P81_1, P81_2, P81_3, P81_4, P81_5⟩
    have Cd81 := Cold.keep Cd76 K81q (allS (Safe.exa hZ.alike P76_0 (by decide) (by decide)) all0)
    have Cd81b2_7_3_1_81 := Cold.put Cd81 ⟨Safe.keep K81q (allS (Safe.exa hZ.alike P76_0 (by decide) (by decide)) all0) Cd76.2.1.1 (Safe.new sz_b2_7_3_1_81), P81_4.lt⟩
    have g_b2_7_3_1_81 : n0 ≤ b2_7_3_1_81 := Nat.le_trans (Old.le O76) sz_b2_7_3_1_81
    have O81 := Old.keep O76 K81q (allS g_b1 all0)
    have K81 : Keep h0 T81.heap ([] : List Addr) := Keep.trans K76 K81q (allS (Or.inr (Nat.le_trans (Nat.le_refl _) (Nat.le_of_eq g1.symm))) all0)
    have N81 := Fr.app N76 N81q
    refine Home.call (own_virtual X81 hx hZ hown (w145 hw) (w146 hw) (notFace_of_selects (args := #[]) (mvT hZ (w148 hw))) (w148 hw) (w147 hw) (w56 hw) (w149 hw) (by decide) (rm22_0 l Z a0 hw [] b1 b2_7_3_1_81 sv_COMPACT_STRINGS k2_7_3_1_81 ((((((([] ++ (own_put u1)) ++ [(32 : Int32)]) ++ l_4) ++ [(32 : Int32)]) ++ (own_put u2)) ++ [(32 : Int32)]) ++ (own_put u3)) T81.heap n0 O81 P81_0 P81_1 S_COMPACT_STRINGS P81_2 P81_5 P81_4 P81_3 (Nat.le_trans (own_len_app (own_len_app (own_len_app (own_len_app (own_len_app (own_len_app (own_len_app (own_len_lit (l := []) (n := 0) rfl) (own_put_len u1)) (own_len_lit (l := [(32 : Int32)]) (n := 1) rfl)) (own_len_le sh_l_4)) (own_len_lit (l := [(32 : Int32)]) (n := 1) rfl)) (own_put_len u2)) (own_len_lit (l := [(32 : Int32)]) (n := 1) rfl)) (own_put_len u3)).2 (by decide)) hCS) rfl P81_0 rfl (by rw [hml]; rfl) (argsL := []) (rest := []) (lenOf own_pd35 rfl) rfl rfl (W := 0) (hb hby d6_50)) ?_
    rintro _ T82 L82 X82 ⟨b1_82, b2_2_8_1_2_82, k2_2_8_1_2_82, rfl, N82q, sz_b1_82, sz_b2_2_8_1_2_82, K82q, P82_0, P82_1, P82_2, P82_3, P82_4⟩
    have Cd82 := Cold.keep Cd81b2_7_3_1_81 K82q all0
    have Cd82b1_82 := Cold.put Cd82 ⟨Safe.keep K82q all0 Cd81b2_7_3_1_81.2.1.1 (Safe.new sz_b1_82), P82_0.lt⟩
    have Cd82b2_2_8_1_2_82 := Cold.put Cd82b1_82 ⟨Safe.keep K82q all0 Cd81b2_7_3_1_81.2.1.1 (Safe.new sz_b2_2_8_1_2_82), P82_3.lt⟩
    have g_b1_82 : n0 ≤ b1_82 := Nat.le_trans (Old.le O81) sz_b1_82
    have g_b2_2_8_1_2_82 : n0 ≤ b2_2_8_1_2_82 := Nat.le_trans (Old.le O81) sz_b2_2_8_1_2_82
    have K82 : Keep h0 T82.heap ([] : List Addr) := Keep.trans K81 K82q all0
    have N82 := Fr.app N81 N82q
    show Home T82 (mkF m 53 #[sr o0] [(.ref b1_82)])
    have le274 : h0.size ≤ T55.heap.size := Nat.le_trans le60 K55q.1
    have le275 : h0.size ≤ T57.heap.size := Nat.le_trans le274 K57q.1
    have le276 : h0.size ≤ T69.heap.size := Nat.le_trans le275 K69q.1
    have le277 : h0.size ≤ T71.heap.size := Nat.le_trans le276 K71q.1
    have le278 : h0.size ≤ T76.heap.size := Nat.le_trans le277 K76q.1
    have le279 : h0.size ≤ T81.heap.size := Nat.le_trans le278 K81q.1
    exact HomeW.retR X82 hx hlk hZ (own_hEL hw) rfl Cd82b2_2_8_1_2_82 (fun _ _ q => by cases q; exact (List.mem_of_getElem? (i := 1) rfl)) hret rfl rfl (hb hby d6_53) ⟨b1_82, b2_2_8_1_2_82, k2_2_8_1_2_82, rfl, N82, (Nat.le_trans le279 sz_b1_82), K82, P82_0, P82_2, P82_1, Arv.lst P82_4 (cs := ((((((([] ++ (own_put u1)) ++ [(32 : Int32)]) ++ l_4) ++ [(32 : Int32)]) ++ (own_put u2)) ++ [(32 : Int32)]) ++ (own_put u3))) (cs' := (cs_rm6_0 u1 l_4 u2 u3)) (by rfl) rfl rfl⟩ (by decide) (by decide)
   ·
    have lf80 : 6 ≤ ((((((([] ++ (own_put u1)) ++ [(32 : Int32)]) ++ l_4) ++ [(32 : Int32)]) ++ (own_put u2)) ++ [(32 : Int32)]) ++ (own_put u3)).length ∧ ((((((([] ++ (own_put u1)) ++ [(32 : Int32)]) ++ l_4) ++ [(32 : Int32)]) ++ (own_put u2)) ++ [(32 : Int32)]) ++ (own_put u3)).length ≤ 34 := own_fit (K := 34) c78 (own_len_app (own_len_app (own_len_app (own_len_app (own_len_app (own_len_app (own_len_app (own_len_lit (l := []) (n := 0) rfl) (own_put_len u1)) (own_len_lit (l := [(32 : Int32)]) (n := 1) rfl)) (own_len_le sh_l_4)) (own_len_lit (l := [(32 : Int32)]) (n := 1) rfl)) (own_put_len u2)) (own_len_lit (l := [(32 : Int32)]) (n := 1) rfl)) (own_put_len u3)) (by decide) (by decide)
    refine Home.call (own_virtual X77 hx hZ hown (w72 hw) (w73 hw) (notFace_of_selects (args := #[]) (mvT hZ (w75 hw))) (w75 hw) (w74 hw) (w56 hw) (w76 hw) (by decide) (rm9_3 l Z a0 hw [] b1 u3 b2_7_3_2_55 k2_7_3_2_55 (((((([] ++ (own_put u1)) ++ [(32 : Int32)]) ++ l_4) ++ [(32 : Int32)]) ++ (own_put u2)) ++ [(32 : Int32)]) sv_COMPACT_STRINGS sv_DigitOnes k_ones sv_DigitTens k_tens T76.heap n0 O76 c78 (Nat.le_trans (own_len_app (own_len_app (own_len_app (own_len_app (own_len_app (own_len_app (own_len_lit (l := []) (n := 0) rfl) (own_put_len u1)) (own_len_lit (l := [(32 : Int32)]) (n := 1) rfl)) (own_len_le sh_l_4)) (own_len_lit (l := [(32 : Int32)]) (n := 1) rfl)) (own_put_len u2)) (own_len_lit (l := [(32 : Int32)]) (n := 1) rfl)).2 (by decide)) P76_0 P76_1 P76_4 P76_2 S_COMPACT_STRINGS S_DigitOnes V_ones S_DigitTens V_tens P76_5 P76_3 g_b2_7_3_2_55 g_b1 hCS) e77 P76_0 rfl (by rw [hml]; rfl) (argsL := [(.int u3)]) (rest := []) (lenOf own_pd22 rfl) rfl rfl (W := 0) (hb hby d6_47)) ?_
    rintro _ T83 L83 X83 ⟨rfl, N83q, K83q, P83_0, P83_1, P83_2, P83_3, P83_4, P83_5⟩
    have Cd83 := Cold.keep Cd76 K83q (allS (Safe.exa hZ.alike P76_0 (by decide) (by decide)) (allS (Cold.safe Cd76 (List.mem_of_getElem? (i := 0) rfl)) all0))
    have O83 := Old.keep O76 K83q (allS g_b1 (allS g_b2_7_3_2_55 all0))
    have K83 : Keep h0 T83.heap ([] : List Addr) := Keep.trans K76 K83q (allS (Or.inr (Nat.le_trans (Nat.le_refl _) (Nat.le_of_eq g1.symm))) (allS (Or.inr (Nat.le_trans le60 sz_b2_7_3_2_55)) all0))
    have N83 := Fr.app N76 N83q
    by_cases c84 : (own_n ((((((([] ++ (own_put u1)) ++ [(32 : Int32)]) ++ l_4) ++ [(32 : Int32)]) ++ (own_put u2)) ++ [(32 : Int32)]) ++ (own_put u3))) = (34 : Int32)
    ·
     refine Home.call (own_virtual X83 hx hZ hown (w145 hw) (w146 hw) (notFace_of_selects (args := #[]) (mvT hZ (w148 hw))) (w148 hw) (w147 hw) (w56 hw) (w149 hw) (by decide) (rm22_1 l Z a0 hw [] b1 b2_7_3_2_55 sv_COMPACT_STRINGS k2_7_3_2_55 ((((((([] ++ (own_put u1)) ++ [(32 : Int32)]) ++ l_4) ++ [(32 : Int32)]) ++ (own_put u2)) ++ [(32 : Int32)]) ++ (own_put u3)) T83.heap n0 O83 c84 (Nat.le_trans lf80.2 (by decide)) P83_0 P83_1 S_COMPACT_STRINGS P83_2 P83_4 P83_5 P83_3 hCS) rfl P83_0 rfl (by rw [hml]; rfl) (argsL := []) (rest := []) (lenOf own_pd35 rfl) rfl rfl (W := 0) (hb hby d6_50)) ?_
     rintro _ T87 L87 X87 ⟨b1_87, b2_8_1_2_87, rfl, N87q, sz_b1_87, sz_b2_8_1_2_87, K87q, P87_0, P87_1, P87_2, P87_3, P87_4⟩
     have Cd87 := Cold.keep Cd83 K87q all0
     have Cd87b1_87 := Cold.put Cd87 ⟨Safe.keep K87q all0 Cd83.2.1.1 (Safe.new sz_b1_87), P87_0.lt⟩
     have Cd87b2_8_1_2_87 := Cold.put Cd87b1_87 ⟨Safe.keep K87q all0 Cd83.2.1.1 (Safe.new sz_b2_8_1_2_87), P87_3.lt⟩
     have g_b1_87 : n0 ≤ b1_87 := Nat.le_trans (Old.le O83) sz_b1_87
     have g_b2_8_1_2_87 : n0 ≤ b2_8_1_2_87 := Nat.le_trans (Old.le O83) sz_b2_8_1_2_87
     have K87 : Keep h0 T87.heap ([] : List Addr) := Keep.trans K83 K87q all0
     have N87 := Fr.app N83 N87q
     have le280 : h0.size ≤ T55.heap.size := Nat.le_trans le60 K55q.1
     have le281 : h0.size ≤ T57.heap.size := Nat.le_trans le280 K57q.1
     have le282 : h0.size ≤ T69.heap.size := Nat.le_trans le281 K69q.1
     have le283 : h0.size ≤ T71.heap.size := Nat.le_trans le282 K71q.1
     have le284 : h0.size ≤ T76.heap.size := Nat.le_trans le283 K76q.1
     have le285 : h0.size ≤ T83.heap.size := Nat.le_trans le284 K83q.1
     exact HomeW.retR X87 hx hlk hZ (own_hEL hw) rfl Cd87b2_8_1_2_87 (fun _ _ q => by cases q; exact (List.mem_of_getElem? (i := 1) rfl)) hret rfl rfl (hb hby d6_53) ⟨b1_87, b2_8_1_2_87, k2_7_3_2_55, rfl, N87, (Nat.le_trans le285 sz_b1_87), K87, P87_0, P87_2, P87_1, Arv.lst P87_3 (cs := ((((((([] ++ (own_put u1)) ++ [(32 : Int32)]) ++ l_4) ++ [(32 : Int32)]) ++ (own_put u2)) ++ [(32 : Int32)]) ++ (own_put u3))) (cs' := (cs_rm6_0 u1 l_4 u2 u3)) (by rfl) rfl rfl⟩ (by decide) (by decide)
    ·
     refine Home.call (own_virtual X83 hx hZ hown (w145 hw) (w146 hw) (notFace_of_selects (args := #[]) (mvT hZ (w148 hw))) (w148 hw) (w147 hw) (w56 hw) (w149 hw) (by decide) (rm22_2 l Z a0 hw [] b1 b2_7_3_2_55 sv_COMPACT_STRINGS k2_7_3_2_55 ((((((([] ++ (own_put u1)) ++ [(32 : Int32)]) ++ l_4) ++ [(32 : Int32)]) ++ (own_put u2)) ++ [(32 : Int32)]) ++ (own_put u3)) T83.heap n0 O83 c84 (Nat.le_trans lf80.2 (by decide)) P83_0 P83_1 S_COMPACT_STRINGS P83_2 P83_4 P83_5 P83_3 hCS) rfl P83_0 rfl (by rw [hml]; rfl) (argsL := []) (rest := []) (lenOf own_pd35 rfl) rfl rfl (W := 0) (hb hby d6_50)) ?_
     rintro _ T88 L88 X88 ⟨b1_88, b2_2_8_1_2_88, k2_2_8_1_2_88, rfl, N88q, sz_b1_88, sz_b2_2_8_1_2_88, K88q, P88_0, P88_1, P88_2, P88_3, P88_4⟩
     have Cd88 := Cold.keep Cd83 K88q all0
     have Cd88b1_88 := Cold.put Cd88 ⟨Safe.keep K88q all0 Cd83.2.1.1 (Safe.new sz_b1_88), P88_0.lt⟩
     have Cd88b2_2_8_1_2_88 := Cold.put Cd88b1_88 ⟨Safe.keep K88q all0 Cd83.2.1.1 (Safe.new sz_b2_2_8_1_2_88), P88_3.lt⟩
     have g_b1_88 : n0 ≤ b1_88 := Nat.le_trans (Old.le O83) sz_b1_88
     have g_b2_2_8_1_2_88 : n0 ≤ b2_2_8_1_2_88 := Nat.le_trans (Old.le O83) sz_b2_2_8_1_2_88
     have K88 : Keep h0 T88.heap ([] : List Addr) := Keep.trans K83 K88q all0
     have N88 := Fr.app N83 N88q
     have le286 : h0.size ≤ T55.heap.size := Nat.le_trans le60 K55q.1
     have le287 : h0.size ≤ T57.heap.size := Nat.le_trans le286 K57q.1
     have le288 : h0.size ≤ T69.heap.size := Nat.le_trans le287 K69q.1
     have le289 : h0.size ≤ T71.heap.size := Nat.le_trans le288 K71q.1
     have le290 : h0.size ≤ T76.heap.size := Nat.le_trans le289 K76q.1
     have le291 : h0.size ≤ T83.heap.size := Nat.le_trans le290 K83q.1
     exact HomeW.retR X88 hx hlk hZ (own_hEL hw) rfl Cd88b2_2_8_1_2_88 (fun _ _ q => by cases q; exact (List.mem_of_getElem? (i := 1) rfl)) hret rfl rfl (hb hby d6_53) ⟨b1_88, b2_2_8_1_2_88, k2_2_8_1_2_88, rfl, N88, (Nat.le_trans le291 sz_b1_88), K88, P88_0, P88_2, P88_1, Arv.lst P88_4 (cs := ((((((([] ++ (own_put u1)) ++ [(32 : Int32)]) ++ l_4) ++ [(32 : Int32)]) ++ (own_put u2)) ++ [(32 : Int32)]) ++ (own_put u3))) (cs' := (cs_rm6_0 u1 l_4 u2 u3)) (by rfl) rfl rfl⟩ (by decide) (by decide)
  ·
   have q89 := (P46_0.ext E47)
   have q90 := (P46_1.ext E47)
   have q91 := (P46_4.ext E47)
   have q92 := (P46_2.ext E47)
   have q93 := (P46_5.ext E47)
   have q94 := (P46_3.ext E47)
   refine Home.call (own_virtual X47 hx hZ hown (w103 hw) (w104 hw) (notFace_of_selects (args := #[]) (mvT hZ (w106 hw))) (w106 hw) (w105 hw) (w56 hw) (w107 hw) (by decide) (rm15_3 l Z a0 hw [] b1 ad47 b47 k47 [(32 : Int32)] sv_COMPACT_STRINGS b3_1_2 k3_1_2 ([] ++ (own_put u1)) h47 n0 O47 c48 (Nat.le_trans (own_len_app (own_len_lit (l := []) (n := 0) rfl) (own_put_len u1)).2 (by decide)) (Nat.le_trans (own_len_lit (l := [(32 : Int32)]) (n := 1) rfl).2 (by decide)) q89 Ea47 Fv47 V47 S_COMPACT_STRINGS Fc47 q90 q91 q92 q93 q94 g_b3_1_2 g_b1 hCS) e47 q89 rfl (by rw [hml]; rfl) (argsL := [(.ref ad47)]) (rest := []) (lenOf own_pd29 rfl) rfl rfl (W := 0) (hb hby d6_16)) ?_
   rintro _ T95 L95 X95 ⟨rfl, N95q, K95q, P95_0, P95_1, P95_2, P95_3, P95_4, P95_5⟩
   have Cd95 := Cold.keep Cd47 K95q (allS (Safe.exa hZ.alike q89 (by decide) (by decide)) (allS (Cold.safe Cd47 (List.mem_of_getElem? (i := 0) rfl)) all0))
   have O95 := Old.keep O47 K95q (allS g_b1 (allS g_b3_1_2 all0))
   have K95 : Keep h0 T95.heap ([] : List Addr) := Keep.trans K47 K95q (allS (Or.inr (Nat.le_trans (Nat.le_refl _) (Nat.le_of_eq g1.symm))) (allS (Or.inr (Nat.le_trans E1.1 sz_b3_1_2)) all0))
   have N95 := Fr.app N46 N95q
   refine Rn X95 hx hby sg6_19_1 20 #[sr o0] [(.ref o0), (.ref b1)] rfl ?_
   refine Home.st (getF X95 hx hZ hown (host := "") (Or.inl (w43 hw)) Via.refl rfl (F_host_o0.keep K95 nin0) rfl rfl (hb hby d6_20)) fun T96 X96 e96 => ?_
   show Home T96 (mkF m 23 #[sr o0] [(.ref p2), (.ref b1)])
   by_cases c97 : (0 : Int32) < ((own_n ((([] ++ (own_put u1)) ++ [(32 : Int32)]) ++ l_4)) - (16 : Int32))
   ·
    refine Home.call (own_virtual X96 hx hZ hown (w103 hw) (w104 hw) (notFace_of_selects (args := #[]) (mvT hZ (w106 hw))) (w106 hw) (w105 hw) (w56 hw) (w107 hw) (by decide) (rm15_2 l Z a0 hw [] b1 p2 p3 k_p3 l_4 sv_COMPACT_STRINGS b3_1_2 k3_1_2 (([] ++ (own_put u1)) ++ [(32 : Int32)]) T95.heap n0 O95 c97 P95_0 (E_p2.keep K95) (F_value_p2.keep K95 nin0) (V_p3.keep K95 nin0) S_COMPACT_STRINGS (F_coder_p2.keep K95 nin0) P95_1 P95_4 P95_2 P95_3 g_b1 hCS (Nat.le_trans (own_len_le sh_l_4).2 (by decide)) (Nat.le_trans (own_len_app (own_len_app (own_len_lit (l := []) (n := 0) rfl) (own_put_len u1)) (own_len_lit (l := [(32 : Int32)]) (n := 1) rfl)).2 (by decide))) e96 P95_0 rfl (by rw [hml]; rfl) (argsL := [(.ref p2)]) (rest := []) (lenOf own_pd29 rfl) rfl rfl (W := 0) (hb hby d6_23)) ?_
    rintro _ T99 L99 X99 ⟨b2_7_3_2_99, k2_7_3_2_99, rfl, N99q, sz_b2_7_3_2_99, K99q, P99_0, P99_1, P99_2, P99_3, P99_4, P99_5⟩
    have Cd99 := Cold.keep Cd95 K99q (allS (Safe.exa hZ.alike P95_0 (by decide) (by decide)) all0)
    have Cd99b2_7_3_2_99 := Cold.put Cd99 ⟨Safe.keep K99q (allS (Safe.exa hZ.alike P95_0 (by decide) (by decide)) all0) Cd95.2.1.1 (Safe.new sz_b2_7_3_2_99), P99_4.lt⟩
    have g_b2_7_3_2_99 : n0 ≤ b2_7_3_2_99 := Nat.le_trans (Old.le O95) sz_b2_7_3_2_99
    have O99 := Old.keep O95 K99q (allS g_b1 all0)
    have K99 : Keep h0 T99.heap ([] : List Addr) := Keep.trans K95 K99q (allS (Or.inr (Nat.le_trans (Nat.le_refl _) (Nat.le_of_eq g1.symm))) all0)
    have N99 := Fr.app N95 N99q
    refine Home.go (ldcAgain X99 hx hZ hown (w102 hw) Li47 (g := (mkF m 26 #[.val (.ref o0)] [(.ref b1)])) rfl (hb hby d6_26)) ?_
    have q100 := ((Ea47.keep K95q).keep K99q)
    have ne101 : ad47 ≠ b3_1_2 := (Ne.symm (hne47 _ (List.mem_of_getElem? (i := 0) rfl)).1)
    have ne102 : ad47 ≠ b1 := (ne_exa q100 P99_0 (by decide))
    have q103 := ((Fv47.keep K95q (ninS ne102 (ninS ne101 nin0))).keep K99q (ninS ne102 nin0))
    have ne104 : b47 ≠ b3_1_2 := (Ne.symm (hne47 _ (List.mem_of_getElem? (i := 0) rfl)).2)
    have ne105 : b47 ≠ b1 := (Ne.symm (own_neAV (((A1.keep K2q).keep K46q).ext E47) (w55 hw) V47))
    have q106 := ((V47.keep K95q (ninS ne105 (ninS ne104 nin0))).keep K99q (ninS ne105 nin0))
    have q107 := ((Fc47.keep K95q (ninS ne102 (ninS ne101 nin0))).keep K99q (ninS ne102 nin0))
    refine Home.call (own_virtual X99 hx hZ hown (w103 hw) (w104 hw) (notFace_of_selects (args := #[]) (mvT hZ (w106 hw))) (w106 hw) (w105 hw) (w56 hw) (w107 hw) (by decide) (rm15_0 l Z a0 hw [] b1 ad47 b47 k47 [(32 : Int32)] sv_COMPACT_STRINGS b2_7_3_2_99 k2_7_3_2_99 ((([] ++ (own_put u1)) ++ [(32 : Int32)]) ++ l_4) T99.heap n0 O99 P99_0 q100 q103 q106 S_COMPACT_STRINGS q107 P99_1 P99_5 P99_2 P99_4 P99_3 g_b2_7_3_2_99 g_b1 hCS (Nat.le_trans (own_len_lit (l := [(32 : Int32)]) (n := 1) rfl).2 (by decide)) (Nat.le_trans (own_len_app (own_len_app (own_len_app (own_len_lit (l := []) (n := 0) rfl) (own_put_len u1)) (own_len_lit (l := [(32 : Int32)]) (n := 1) rfl)) (own_len_le sh_l_4)).2 (by decide))) rfl P99_0 rfl (by rw [hml]; rfl) (argsL := [(.ref ad47)]) (rest := []) (lenOf own_pd29 rfl) rfl rfl (W := 0) (hb hby d6_28)) ?_
    rintro _ T108 L108 X108 ⟨rfl, N108q, K108q, P108_0, P108_1, P108_2, P108_3, P108_4, P108_5⟩
    have Cd108 := Cold.keep Cd99b2_7_3_2_99 K108q (allS (Safe.exa hZ.alike P99_0 (by decide) (by decide)) (allS (Cold.safe Cd99b2_7_3_2_99 (List.mem_of_getElem? (i := 0) rfl)) all0))
    have le109 : h0.size ≤ T2.heap.size := Nat.le_trans E1.1 K2q.1
    have le110 : h0.size ≤ T46.heap.size := Nat.le_trans le109 K46q.1
    have le111 : h0.size ≤ h47.size := Nat.le_trans le110 E47.1
    have le112 : h0.size ≤ T95.heap.size := Nat.le_trans le111 K95q.1
    have O108 := Old.keep O99 K108q (allS g_b1 (allS g_b2_7_3_2_99 all0))
    have K108 : Keep h0 T108.heap ([] : List Addr) := Keep.trans K99 K108q (allS (Or.inr (Nat.le_trans (Nat.le_refl _) (Nat.le_of_eq g1.symm))) (allS (Or.inr (Nat.le_trans le112 sz_b2_7_3_2_99)) all0))
    have N108 := Fr.app N99 N108q
    show Home T108 (mkF m 31 #[sr o0] [(.ref b1)])
    refine Rn X108 hx hby sg6_31_1 32 #[sr o0] [(.ref o0), (.ref b1)] rfl ?_
    refine Home.st (getF X108 hx hZ hown (host := "") (Or.inl (w45 hw)) Via.refl rfl (F_peerPort_o0.keep K108 nin0) rfl rfl (hb hby d6_32)) fun T113 X113 e113 => ?_
    refine Home.call (own_virtual X113 hx hZ hown (w72 hw) (w73 hw) (notFace_of_selects (args := #[]) (mvT hZ (w75 hw))) (w75 hw) (w74 hw) (w56 hw) (w76 hw) (by decide) (rm9_1 l Z a0 hw [] b1 u2 b2_7_3_2_99 k2_7_3_2_99 (((([] ++ (own_put u1)) ++ [(32 : Int32)]) ++ l_4) ++ [(32 : Int32)]) sv_COMPACT_STRINGS sv_DigitOnes k_ones sv_DigitTens k_tens T108.heap n0 O108 P108_0 P108_1 P108_4 P108_2 S_COMPACT_STRINGS S_DigitOnes V_ones S_DigitTens V_tens P108_5 P108_3 g_b2_7_3_2_99 g_b1 (Nat.le_trans (own_len_app (own_len_app (own_len_app (own_len_app (own_len_lit (l := []) (n := 0) rfl) (own_put_len u1)) (own_len_lit (l := [(32 : Int32)]) (n := 1) rfl)) (own_len_le sh_l_4)) (own_len_lit (l := [(32 : Int32)]) (n := 1) rfl)).2 (by decide)) hCS) e113 P108_0 rfl (by rw [hml]; rfl) (argsL := [(.int u2)]) (rest := []) (lenOf own_pd22 rfl) rfl rfl (W := 0) (hb hby d6_35)) ?_
    rintro _ T114 L114 X114 ⟨rfl, N114q, K114q, P114_0, P114_1, P114_2, P114_3, P114_4, P114_5⟩
    have Cd114 := Cold.keep Cd108 K114q (allS (Safe.exa hZ.alike P108_0 (by decide) (by decide)) (allS (Cold.safe Cd108 (List.mem_of_getElem? (i := 0) rfl)) all0))
    have O114 := Old.keep O108 K114q (allS g_b1 (allS g_b2_7_3_2_99 all0))
    have K114 : Keep h0 T114.heap ([] : List Addr) := Keep.trans K108 K114q (allS (Or.inr (Nat.le_trans (Nat.le_refl _) (Nat.le_of_eq g1.symm))) (allS (Or.inr (Nat.le_trans le112 sz_b2_7_3_2_99)) all0))
    have N114 := Fr.app N108 N114q
    refine Home.go (ldcAgain X114 hx hZ hown (w102 hw) Li47 (g := (mkF m 38 #[.val (.ref o0)] [(.ref b1)])) rfl (hb hby d6_38)) ?_
    have q115 := ((q100.keep K108q).keep K114q)
    have ne116 : ad47 ≠ b2_7_3_2_99 := (Nat.ne_of_lt (Nat.lt_of_lt_of_le Ea47.lt (Nat.le_trans K95q.1 sz_b2_7_3_2_99)))
    have q117 := ((q103.keep K108q (ninS ne102 (ninS ne116 nin0))).keep K114q (ninS ne102 (ninS ne116 nin0)))
    have ne118 : b47 ≠ b2_7_3_2_99 := (Nat.ne_of_lt (Nat.lt_of_lt_of_le V47.lt (Nat.le_trans K95q.1 sz_b2_7_3_2_99)))
    have q119 := ((q106.keep K108q (ninS ne105 (ninS ne118 nin0))).keep K114q (ninS ne105 (ninS ne118 nin0)))
    have q120 := ((q107.keep K108q (ninS ne102 (ninS ne116 nin0))).keep K114q (ninS ne102 (ninS ne116 nin0)))
    refine Home.call (own_virtual X114 hx hZ hown (w103 hw) (w104 hw) (notFace_of_selects (args := #[]) (mvT hZ (w106 hw))) (w106 hw) (w105 hw) (w56 hw) (w107 hw) (by decide) (rm15_1 l Z a0 hw [] b1 ad47 b47 k47 [(32 : Int32)] sv_COMPACT_STRINGS b2_7_3_2_99 k2_7_3_2_99 ((((([] ++ (own_put u1)) ++ [(32 : Int32)]) ++ l_4) ++ [(32 : Int32)]) ++ (own_put u2)) T114.heap n0 O114 P114_0 q115 q117 q119 S_COMPACT_STRINGS q120 P114_1 P114_4 P114_2 P114_5 P114_3 g_b2_7_3_2_99 g_b1 hCS (Nat.le_trans (own_len_lit (l := [(32 : Int32)]) (n := 1) rfl).2 (by decide)) (Nat.le_trans (own_len_app (own_len_app (own_len_app (own_len_app (own_len_app (own_len_lit (l := []) (n := 0) rfl) (own_put_len u1)) (own_len_lit (l := [(32 : Int32)]) (n := 1) rfl)) (own_len_le sh_l_4)) (own_len_lit (l := [(32 : Int32)]) (n := 1) rfl)) (own_put_len u2)).2 (by decide))) rfl P114_0 rfl (by rw [hml]; rfl) (argsL := [(.ref ad47)]) (rest := []) (lenOf own_pd29 rfl) rfl rfl (W := 0) (hb hby d6_40)) ?_
    rintro _ T121 L121 X121 ⟨rfl, N121q, K121q, P121_0, P121_1, P121_2, P121_3, P121_4, P121_5⟩
    have Cd121 := Cold.keep Cd114 K121q (allS (Safe.exa hZ.alike P114_0 (by decide) (by decide)) (allS (Cold.safe Cd114 (List.mem_of_getElem? (i := 0) rfl)) all0))
    have O121 := Old.keep O114 K121q (allS g_b1 (allS g_b2_7_3_2_99 all0))
    have K121 : Keep h0 T121.heap ([] : List Addr) := Keep.trans K114 K121q (allS (Or.inr (Nat.le_trans (Nat.le_refl _) (Nat.le_of_eq g1.symm))) (allS (Or.inr (Nat.le_trans le112 sz_b2_7_3_2_99)) all0))
    have N121 := Fr.app N114 N121q
    show Home T121 (mkF m 43 #[sr o0] [(.ref b1)])
    refine Rn X121 hx hby sg6_43_1 44 #[sr o0] [(.ref o0), (.ref b1)] rfl ?_
    refine Home.st (getF X121 hx hZ hown (host := "") (Or.inl (w47 hw)) Via.refl rfl (F_clientPort_o0.keep K121 nin0) rfl rfl (hb hby d6_44)) fun T122 X122 e122 => ?_
    by_cases c123 : (0 : Int32) < ((own_n ((((((([] ++ (own_put u1)) ++ [(32 : Int32)]) ++ l_4) ++ [(32 : Int32)]) ++ (own_put u2)) ++ [(32 : Int32)]) ++ (own_put u3))) - (34 : Int32))
    ·
     refine Home.call (own_virtual X122 hx hZ hown (w72 hw) (w73 hw) (notFace_of_selects (args := #[]) (mvT hZ (w75 hw))) (w75 hw) (w74 hw) (w56 hw) (w76 hw) (by decide) (rm9_2 l Z a0 hw [] b1 u3 b2_7_3_2_99 k2_7_3_2_99 (((((([] ++ (own_put u1)) ++ [(32 : Int32)]) ++ l_4) ++ [(32 : Int32)]) ++ (own_put u2)) ++ [(32 : Int32)]) sv_COMPACT_STRINGS sv_DigitOnes k_ones sv_DigitTens k_tens T121.heap n0 O121 c123 P121_0 P121_1 P121_4 P121_2 S_COMPACT_STRINGS S_DigitOnes V_ones S_DigitTens V_tens P121_3 g_b1 (Nat.le_trans (own_len_app (own_len_app (own_len_app (own_len_app (own_len_app (own_len_app (own_len_lit (l := []) (n := 0) rfl) (own_put_len u1)) (own_len_lit (l := [(32 : Int32)]) (n := 1) rfl)) (own_len_le sh_l_4)) (own_len_lit (l := [(32 : Int32)]) (n := 1) rfl)) (own_put_len u2)) (own_len_lit (l := [(32 : Int32)]) (n := 1) rfl)).2 (by decide)) hCS) e122 P121_0 rfl (by rw [hml]; rfl) (argsL := [(.int u3)]) (rest := []) (lenOf own_pd22 rfl) rfl rfl (W := 0) (hb hby d6_47)) ?_
     rintro _ T126 L126 X126 ⟨b2_7_3_1_126, k2_7_3_1_126, rfl, N126q, sz_b2_7_3_1_126, K126q, P126_0, P126_1, P126_2, P126_3, P126_4, P126_5⟩
     have Cd126 := Cold.keep Cd121 K126q (allS (Safe.exa hZ.alike P121_0 (by decide) (by decide)) all0)
     have Cd126b2_7_3_1_126 := Cold.put Cd126 ⟨Safe.keep K126q (allS (Safe.exa hZ.alike P121_0 (by decide) (by decide)) all0) Cd121.2.1.1 (Safe.new sz_b2_7_3_1_126), P126_4.lt⟩
     have g_b2_7_3_1_126 : n0 ≤ b2_7_3_1_126 := Nat.le_trans (Old.le O121) sz_b2_7_3_1_126
     have O126 := Old.keep O121 K126q (allS g_b1 all0)
     have K126 : Keep h0 T126.heap ([] : List Addr) := Keep.trans K121 K126q (allS (Or.inr (Nat.le_trans (Nat.le_refl _) (Nat.le_of_eq g1.symm))) all0)
     have N126 := Fr.app N121 N126q
     refine Home.call (own_virtual X126 hx hZ hown (w145 hw) (w146 hw) (notFace_of_selects (args := #[]) (mvT hZ (w148 hw))) (w148 hw) (w147 hw) (w56 hw) (w149 hw) (by decide) (rm22_0 l Z a0 hw [] b1 b2_7_3_1_126 sv_COMPACT_STRINGS k2_7_3_1_126 ((((((([] ++ (own_put u1)) ++ [(32 : Int32)]) ++ l_4) ++ [(32 : Int32)]) ++ (own_put u2)) ++ [(32 : Int32)]) ++ (own_put u3)) T126.heap n0 O126 P126_0 P126_1 S_COMPACT_STRINGS P126_2 P126_5 P126_4 P126_3 (Nat.le_trans (own_len_app (own_len_app (own_len_app (own_len_app (own_len_app (own_len_app (own_len_app (own_len_lit (l := []) (n := 0) rfl) (own_put_len u1)) (own_len_lit (l := [(32 : Int32)]) (n := 1) rfl)) (own_len_le sh_l_4)) (own_len_lit (l := [(32 : Int32)]) (n := 1) rfl)) (own_put_len u2)) (own_len_lit (l := [(32 : Int32)]) (n := 1) rfl)) (own_put_len u3)).2 (by decide)) hCS) rfl P126_0 rfl (by rw [hml]; rfl) (argsL := []) (rest := []) (lenOf own_pd35 rfl) rfl rfl (W := 0) (hb hby d6_50)) ?_
     rintro _ T127 L127 X127 ⟨b1_127, b2_2_8_1_2_127, k2_2_8_1_2_127, rfl, N127q, sz_b1_127, sz_b2_2_8_1_2_127, K127q, P127_0, P127_1, P127_2, P127_3, P127_4⟩
     have Cd127 := Cold.keep Cd126b2_7_3_1_126 K127q all0
     have Cd127b1_127 := Cold.put Cd127 ⟨Safe.keep K127q all0 Cd126b2_7_3_1_126.2.1.1 (Safe.new sz_b1_127), P127_0.lt⟩
     have Cd127b2_2_8_1_2_127 := Cold.put Cd127b1_127 ⟨Safe.keep K127q all0 Cd126b2_7_3_1_126.2.1.1 (Safe.new sz_b2_2_8_1_2_127), P127_3.lt⟩
     have g_b1_127 : n0 ≤ b1_127 := Nat.le_trans (Old.le O126) sz_b1_127
     have g_b2_2_8_1_2_127 : n0 ≤ b2_2_8_1_2_127 := Nat.le_trans (Old.le O126) sz_b2_2_8_1_2_127
     have K127 : Keep h0 T127.heap ([] : List Addr) := Keep.trans K126 K127q all0
     have N127 := Fr.app N126 N127q
     show Home T127 (mkF m 53 #[sr o0] [(.ref b1_127)])
     have le292 : h0.size ≤ T99.heap.size := Nat.le_trans le112 K99q.1
     have le293 : h0.size ≤ T108.heap.size := Nat.le_trans le292 K108q.1
     have le294 : h0.size ≤ T114.heap.size := Nat.le_trans le293 K114q.1
     have le295 : h0.size ≤ T121.heap.size := Nat.le_trans le294 K121q.1
     have le296 : h0.size ≤ T126.heap.size := Nat.le_trans le295 K126q.1
     exact HomeW.retR X127 hx hlk hZ (own_hEL hw) rfl Cd127b2_2_8_1_2_127 (fun _ _ q => by cases q; exact (List.mem_of_getElem? (i := 1) rfl)) hret rfl rfl (hb hby d6_53) ⟨b1_127, b2_2_8_1_2_127, k2_2_8_1_2_127, rfl, N127, (Nat.le_trans le296 sz_b1_127), K127, P127_0, P127_2, P127_1, Arv.lst P127_4 (cs := ((((((([] ++ (own_put u1)) ++ [(32 : Int32)]) ++ l_4) ++ [(32 : Int32)]) ++ (own_put u2)) ++ [(32 : Int32)]) ++ (own_put u3))) (cs' := (cs_rm6_0 u1 l_4 u2 u3)) (by rfl) rfl rfl⟩ (by decide) (by decide)
    ·
     have lf125 : 6 ≤ ((((((([] ++ (own_put u1)) ++ [(32 : Int32)]) ++ l_4) ++ [(32 : Int32)]) ++ (own_put u2)) ++ [(32 : Int32)]) ++ (own_put u3)).length ∧ ((((((([] ++ (own_put u1)) ++ [(32 : Int32)]) ++ l_4) ++ [(32 : Int32)]) ++ (own_put u2)) ++ [(32 : Int32)]) ++ (own_put u3)).length ≤ 34 := own_fit (K := 34) c123 (own_len_app (own_len_app (own_len_app (own_len_app (own_len_app (own_len_app (own_len_app (own_len_lit (l := []) (n := 0) rfl) (own_put_len u1)) (own_len_lit (l := [(32 : Int32)]) (n := 1) rfl)) (own_len_le sh_l_4)) (own_len_lit (l := [(32 : Int32)]) (n := 1) rfl)) (own_put_len u2)) (own_len_lit (l := [(32 : Int32)]) (n := 1) rfl)) (own_put_len u3)) (by decide) (by decide)
     refine Home.call (own_virtual X122 hx hZ hown (w72 hw) (w73 hw) (notFace_of_selects (args := #[]) (mvT hZ (w75 hw))) (w75 hw) (w74 hw) (w56 hw) (w76 hw) (by decide) (rm9_3 l Z a0 hw [] b1 u3 b2_7_3_2_99 k2_7_3_2_99 (((((([] ++ (own_put u1)) ++ [(32 : Int32)]) ++ l_4) ++ [(32 : Int32)]) ++ (own_put u2)) ++ [(32 : Int32)]) sv_COMPACT_STRINGS sv_DigitOnes k_ones sv_DigitTens k_tens T121.heap n0 O121 c123 (Nat.le_trans (own_len_app (own_len_app (own_len_app (own_len_app (own_len_app (own_len_app (own_len_lit (l := []) (n := 0) rfl) (own_put_len u1)) (own_len_lit (l := [(32 : Int32)]) (n := 1) rfl)) (own_len_le sh_l_4)) (own_len_lit (l := [(32 : Int32)]) (n := 1) rfl)) (own_put_len u2)) (own_len_lit (l := [(32 : Int32)]) (n := 1) rfl)).2 (by decide)) P121_0 P121_1 P121_4 P121_2 S_COMPACT_STRINGS S_DigitOnes V_ones S_DigitTens V_tens P121_5 P121_3 g_b2_7_3_2_99 g_b1 hCS) e122 P121_0 rfl (by rw [hml]; rfl) (argsL := [(.int u3)]) (rest := []) (lenOf own_pd22 rfl) rfl rfl (W := 0) (hb hby d6_47)) ?_
     rintro _ T128 L128 X128 ⟨rfl, N128q, K128q, P128_0, P128_1, P128_2, P128_3, P128_4, P128_5⟩
     have Cd128 := Cold.keep Cd121 K128q (allS (Safe.exa hZ.alike P121_0 (by decide) (by decide)) (allS (Cold.safe Cd121 (List.mem_of_getElem? (i := 0) rfl)) all0))
     have O128 := Old.keep O121 K128q (allS g_b1 (allS g_b2_7_3_2_99 all0))
     have K128 : Keep h0 T128.heap ([] : List Addr) := Keep.trans K121 K128q (allS (Or.inr (Nat.le_trans (Nat.le_refl _) (Nat.le_of_eq g1.symm))) (allS (Or.inr (Nat.le_trans le112 sz_b2_7_3_2_99)) all0))
     have N128 := Fr.app N121 N128q
     by_cases c129 : (own_n ((((((([] ++ (own_put u1)) ++ [(32 : Int32)]) ++ l_4) ++ [(32 : Int32)]) ++ (own_put u2)) ++ [(32 : Int32)]) ++ (own_put u3))) = (34 : Int32)
     ·
      refine Home.call (own_virtual X128 hx hZ hown (w145 hw) (w146 hw) (notFace_of_selects (args := #[]) (mvT hZ (w148 hw))) (w148 hw) (w147 hw) (w56 hw) (w149 hw) (by decide) (rm22_1 l Z a0 hw [] b1 b2_7_3_2_99 sv_COMPACT_STRINGS k2_7_3_2_99 ((((((([] ++ (own_put u1)) ++ [(32 : Int32)]) ++ l_4) ++ [(32 : Int32)]) ++ (own_put u2)) ++ [(32 : Int32)]) ++ (own_put u3)) T128.heap n0 O128 c129 (Nat.le_trans lf125.2 (by decide)) P128_0 P128_1 S_COMPACT_STRINGS P128_2 P128_4 P128_5 P128_3 hCS) rfl P128_0 rfl (by rw [hml]; rfl) (argsL := []) (rest := []) (lenOf own_pd35 rfl) rfl rfl (W := 0) (hb hby d6_50)) ?_
      rintro _ T132 L132 X132 ⟨b1_132, b2_8_1_2_132, rfl, N132q, sz_b1_132, sz_b2_8_1_2_132, K132q, P132_0, P132_1, P132_2, P132_3, P132_4⟩
      have Cd132 := Cold.keep Cd128 K132q all0
      have Cd132b1_132 := Cold.put Cd132 ⟨Safe.keep K132q all0 Cd128.2.1.1 (Safe.new sz_b1_132), P132_0.lt⟩
      have Cd132b2_8_1_2_132 := Cold.put Cd132b1_132 ⟨Safe.keep K132q all0 Cd128.2.1.1 (Safe.new sz_b2_8_1_2_132), P132_3.lt⟩
      have g_b1_132 : n0 ≤ b1_132 := Nat.le_trans (Old.le O128) sz_b1_132
      have g_b2_8_1_2_132 : n0 ≤ b2_8_1_2_132 := Nat.le_trans (Old.le O128) sz_b2_8_1_2_132
      have K132 : Keep h0 T132.heap ([] : List Addr) := Keep.trans K128 K132q all0
      have N132 := Fr.app N128 N132q
      have le297 : h0.size ≤ T99.heap.size := Nat.le_trans le112 K99q.1
      have le298 : h0.size ≤ T108.heap.size := Nat.le_trans le297 K108q.1
      have le299 : h0.size ≤ T114.heap.size := Nat.le_trans le298 K114q.1
      have le300 : h0.size ≤ T121.heap.size := Nat.le_trans le299 K121q.1
      have le301 : h0.size ≤ T128.heap.size := Nat.le_trans le300 K128q.1
      exact HomeW.retR X132 hx hlk hZ (own_hEL hw) rfl Cd132b2_8_1_2_132 (fun _ _ q => by cases q; exact (List.mem_of_getElem? (i := 1) rfl)) hret rfl rfl (hb hby d6_53) ⟨b1_132, b2_8_1_2_132, k2_7_3_2_99, rfl, N132, (Nat.le_trans le301 sz_b1_132), K132, P132_0, P132_2, P132_1, Arv.lst P132_3 (cs := ((((((([] ++ (own_put u1)) ++ [(32 : Int32)]) ++ l_4) ++ [(32 : Int32)]) ++ (own_put u2)) ++ [(32 : Int32)]) ++ (own_put u3))) (cs' := (cs_rm6_0 u1 l_4 u2 u3)) (by rfl) rfl rfl⟩ (by decide) (by decide)
     ·
      refine Home.call (own_virtual X128 hx hZ hown (w145 hw) (w146 hw) (notFace_of_selects (args := #[]) (mvT hZ (w148 hw))) (w148 hw) (w147 hw) (w56 hw) (w149 hw) (by decide) (rm22_2 l Z a0 hw [] b1 b2_7_3_2_99 sv_COMPACT_STRINGS k2_7_3_2_99 ((((((([] ++ (own_put u1)) ++ [(32 : Int32)]) ++ l_4) ++ [(32 : Int32)]) ++ (own_put u2)) ++ [(32 : Int32)]) ++ (own_put u3)) T128.heap n0 O128 c129 (Nat.le_trans lf125.2 (by decide)) P128_0 P128_1 S_COMPACT_STRINGS P128_2 P128_4 P128_5 P128_3 hCS) rfl P128_0 rfl (by rw [hml]; rfl) (argsL := []) (rest := []) (lenOf own_pd35 rfl) rfl rfl (W := 0) (hb hby d6_50)) ?_
      rintro _ T133 L133 X133 ⟨b1_133, b2_2_8_1_2_133, k2_2_8_1_2_133, rfl, N133q, sz_b1_133, sz_b2_2_8_1_2_133, K133q, P133_0, P133_1, P133_2, P133_3, P133_4⟩
      have Cd133 := Cold.keep Cd128 K133q all0
      have Cd133b1_133 := Cold.put Cd133 ⟨Safe.keep K133q all0 Cd128.2.1.1 (Safe.new sz_b1_133), P133_0.lt⟩
      have Cd133b2_2_8_1_2_133 := Cold.put Cd133b1_133 ⟨Safe.keep K133q all0 Cd128.2.1.1 (Safe.new sz_b2_2_8_1_2_133), P133_3.lt⟩
      have g_b1_133 : n0 ≤ b1_133 := Nat.le_trans (Old.le O128) sz_b1_133
      have g_b2_2_8_1_2_133 : n0 ≤ b2_2_8_1_2_133 := Nat.le_trans (Old.le O128) sz_b2_2_8_1_2_133
      have K133 : Keep h0 T133.heap ([] : List Addr) := Keep.trans K128 K133q all0
      have N133 := Fr.app N128 N133q
      have le302 : h0.size ≤ T99.heap.size := Nat.le_trans le112 K99q.1
      have le303 : h0.size ≤ T108.heap.size := Nat.le_trans le302 K108q.1
      have le304 : h0.size ≤ T114.heap.size := Nat.le_trans le303 K114q.1
      have le305 : h0.size ≤ T121.heap.size := Nat.le_trans le304 K121q.1
      have le306 : h0.size ≤ T128.heap.size := Nat.le_trans le305 K128q.1
      exact HomeW.retR X133 hx hlk hZ (own_hEL hw) rfl Cd133b2_2_8_1_2_133 (fun _ _ q => by cases q; exact (List.mem_of_getElem? (i := 1) rfl)) hret rfl rfl (hb hby d6_53) ⟨b1_133, b2_2_8_1_2_133, k2_2_8_1_2_133, rfl, N133, (Nat.le_trans le306 sz_b1_133), K133, P133_0, P133_2, P133_1, Arv.lst P133_4 (cs := ((((((([] ++ (own_put u1)) ++ [(32 : Int32)]) ++ l_4) ++ [(32 : Int32)]) ++ (own_put u2)) ++ [(32 : Int32)]) ++ (own_put u3))) (cs' := (cs_rm6_0 u1 l_4 u2 u3)) (by rfl) rfl rfl⟩ (by decide) (by decide)
   ·
    refine Home.call (own_virtual X96 hx hZ hown (w103 hw) (w104 hw) (notFace_of_selects (args := #[]) (mvT hZ (w106 hw))) (w106 hw) (w105 hw) (w56 hw) (w107 hw) (by decide) (rm15_3 l Z a0 hw [] b1 p2 p3 k_p3 l_4 sv_COMPACT_STRINGS b3_1_2 k3_1_2 (([] ++ (own_put u1)) ++ [(32 : Int32)]) T95.heap n0 O95 c97 (Nat.le_trans (own_len_app (own_len_app (own_len_lit (l := []) (n := 0) rfl) (own_put_len u1)) (own_len_lit (l := [(32 : Int32)]) (n := 1) rfl)).2 (by decide)) (Nat.le_trans (own_len_le sh_l_4).2 (by decide)) P95_0 (E_p2.keep K95) (F_value_p2.keep K95 nin0) (V_p3.keep K95 nin0) S_COMPACT_STRINGS (F_coder_p2.keep K95 nin0) P95_1 P95_4 P95_2 P95_5 P95_3 g_b3_1_2 g_b1 hCS) e96 P95_0 rfl (by rw [hml]; rfl) (argsL := [(.ref p2)]) (rest := []) (lenOf own_pd29 rfl) rfl rfl (W := 0) (hb hby d6_23)) ?_
    rintro _ T134 L134 X134 ⟨rfl, N134q, K134q, P134_0, P134_1, P134_2, P134_3, P134_4, P134_5⟩
    have Cd134 := Cold.keep Cd95 K134q (allS (Safe.exa hZ.alike P95_0 (by decide) (by decide)) (allS (Cold.safe Cd95 (List.mem_of_getElem? (i := 0) rfl)) all0))
    have O134 := Old.keep O95 K134q (allS g_b1 (allS g_b3_1_2 all0))
    have K134 : Keep h0 T134.heap ([] : List Addr) := Keep.trans K95 K134q (allS (Or.inr (Nat.le_trans (Nat.le_refl _) (Nat.le_of_eq g1.symm))) (allS (Or.inr (Nat.le_trans E1.1 sz_b3_1_2)) all0))
    have N134 := Fr.app N95 N134q
    refine Home.go (ldcAgain X134 hx hZ hown (w102 hw) Li47 (g := (mkF m 26 #[.val (.ref o0)] [(.ref b1)])) rfl (hb hby d6_26)) ?_
    by_cases c135 : (0 : Int32) < ((own_n (((([] ++ (own_put u1)) ++ [(32 : Int32)]) ++ l_4) ++ [(32 : Int32)])) - (16 : Int32))
    ·
     have q137 := ((Ea47.keep K95q).keep K134q)
     have ne138 : ad47 ≠ b3_1_2 := (Ne.symm (hne47 _ (List.mem_of_getElem? (i := 0) rfl)).1)
     have ne139 : ad47 ≠ b1 := (ne_exa q137 P134_0 (by decide))
     have q140 := ((Fv47.keep K95q (ninS ne139 (ninS ne138 nin0))).keep K134q (ninS ne139 (ninS ne138 nin0)))
     have ne141 : b47 ≠ b3_1_2 := (Ne.symm (hne47 _ (List.mem_of_getElem? (i := 0) rfl)).2)
     have ne142 : b47 ≠ b1 := (Ne.symm (own_neAV (((A1.keep K2q).keep K46q).ext E47) (w55 hw) V47))
     have q143 := ((V47.keep K95q (ninS ne142 (ninS ne141 nin0))).keep K134q (ninS ne142 (ninS ne141 nin0)))
     have q144 := ((Fc47.keep K95q (ninS ne139 (ninS ne138 nin0))).keep K134q (ninS ne139 (ninS ne138 nin0)))
     refine Home.call (own_virtual X134 hx hZ hown (w103 hw) (w104 hw) (notFace_of_selects (args := #[]) (mvT hZ (w106 hw))) (w106 hw) (w105 hw) (w56 hw) (w107 hw) (by decide) (rm15_2 l Z a0 hw [] b1 ad47 b47 k47 [(32 : Int32)] sv_COMPACT_STRINGS b3_1_2 k3_1_2 ((([] ++ (own_put u1)) ++ [(32 : Int32)]) ++ l_4) T134.heap n0 O134 c135 P134_0 q137 q140 q143 S_COMPACT_STRINGS q144 P134_1 P134_4 P134_2 P134_3 g_b1 hCS (Nat.le_trans (own_len_lit (l := [(32 : Int32)]) (n := 1) rfl).2 (by decide)) (Nat.le_trans (own_len_app (own_len_app (own_len_app (own_len_lit (l := []) (n := 0) rfl) (own_put_len u1)) (own_len_lit (l := [(32 : Int32)]) (n := 1) rfl)) (own_len_le sh_l_4)).2 (by decide))) rfl P134_0 rfl (by rw [hml]; rfl) (argsL := [(.ref ad47)]) (rest := []) (lenOf own_pd29 rfl) rfl rfl (W := 0) (hb hby d6_28)) ?_
     rintro _ T145 L145 X145 ⟨b2_7_3_2_145, k2_7_3_2_145, rfl, N145q, sz_b2_7_3_2_145, K145q, P145_0, P145_1, P145_2, P145_3, P145_4, P145_5⟩
     have Cd145 := Cold.keep Cd134 K145q (allS (Safe.exa hZ.alike P134_0 (by decide) (by decide)) all0)
     have Cd145b2_7_3_2_145 := Cold.put Cd145 ⟨Safe.keep K145q (allS (Safe.exa hZ.alike P134_0 (by decide) (by decide)) all0) Cd134.2.1.1 (Safe.new sz_b2_7_3_2_145), P145_4.lt⟩
     have g_b2_7_3_2_145 : n0 ≤ b2_7_3_2_145 := Nat.le_trans (Old.le O134) sz_b2_7_3_2_145
     have O145 := Old.keep O134 K145q (allS g_b1 all0)
     have K145 : Keep h0 T145.heap ([] : List Addr) := Keep.trans K134 K145q (allS (Or.inr (Nat.le_trans (Nat.le_refl _) (Nat.le_of_eq g1.symm))) all0)
     have N145 := Fr.app N134 N145q
     show Home T145 (mkF m 31 #[sr o0] [(.ref b1)])
     refine Rn X145 hx hby sg6_31_1 32 #[sr o0] [(.ref o0), (.ref b1)] rfl ?_
     refine Home.st (getF X145 hx hZ hown (host := "") (Or.inl (w45 hw)) Via.refl rfl (F_peerPort_o0.keep K145 nin0) rfl rfl (hb hby d6_32)) fun T146 X146 e146 => ?_
     refine Home.call (own_virtual X146 hx hZ hown (w72 hw) (w73 hw) (notFace_of_selects (args := #[]) (mvT hZ (w75 hw))) (w75 hw) (w74 hw) (w56 hw) (w76 hw) (by decide) (rm9_1 l Z a0 hw [] b1 u2 b2_7_3_2_145 k2_7_3_2_145 (((([] ++ (own_put u1)) ++ [(32 : Int32)]) ++ l_4) ++ [(32 : Int32)]) sv_COMPACT_STRINGS sv_DigitOnes k_ones sv_DigitTens k_tens T145.heap n0 O145 P145_0 P145_1 P145_5 P145_2 S_COMPACT_STRINGS S_DigitOnes V_ones S_DigitTens V_tens P145_4 P145_3 g_b2_7_3_2_145 g_b1 (Nat.le_trans (own_len_app (own_len_app (own_len_app (own_len_app (own_len_lit (l := []) (n := 0) rfl) (own_put_len u1)) (own_len_lit (l := [(32 : Int32)]) (n := 1) rfl)) (own_len_le sh_l_4)) (own_len_lit (l := [(32 : Int32)]) (n := 1) rfl)).2 (by decide)) hCS) e146 P145_0 rfl (by rw [hml]; rfl) (argsL := [(.int u2)]) (rest := []) (lenOf own_pd22 rfl) rfl rfl (W := 0) (hb hby d6_35)) ?_
     rintro _ T147 L147 X147 ⟨rfl, N147q, K147q, P147_0, P147_1, P147_2, P147_3, P147_4, P147_5⟩
     have Cd147 := Cold.keep Cd145b2_7_3_2_145 K147q (allS (Safe.exa hZ.alike P145_0 (by decide) (by decide)) (allS (Cold.safe Cd145b2_7_3_2_145 (List.mem_of_getElem? (i := 0) rfl)) all0))
     have le148 : h0.size ≤ T2.heap.size := Nat.le_trans E1.1 K2q.1
     have le149 : h0.size ≤ T46.heap.size := Nat.le_trans le148 K46q.1
     have le150 : h0.size ≤ h47.size := Nat.le_trans le149 E47.1
     have le151 : h0.size ≤ T95.heap.size := Nat.le_trans le150 K95q.1
     have le152 : h0.size ≤ T134.heap.size := Nat.le_trans le151 K134q.1
     have O147 := Old.keep O145 K147q (allS g_b1 (allS g_b2_7_3_2_145 all0))
     have K147 : Keep h0 T147.heap ([] : List Addr) := Keep.trans K145 K147q (allS (Or.inr (Nat.le_trans (Nat.le_refl _) (Nat.le_of_eq g1.symm))) (allS (Or.inr (Nat.le_trans le152 sz_b2_7_3_2_145)) all0))
     have N147 := Fr.app N145 N147q
     refine Home.go (ldcAgain X147 hx hZ hown (w102 hw) Li47 (g := (mkF m 38 #[.val (.ref o0)] [(.ref b1)])) rfl (hb hby d6_38)) ?_
     show Home T147 (mkF m 40 #[sr o0] [(.ref ad47), (.ref b1)])
     have q153 := ((q137.keep K145q).keep K147q)
     have le154 : h47.size ≤ T134.heap.size := Nat.le_trans K95q.1 K134q.1
     have ne155 : ad47 ≠ b2_7_3_2_145 := (Nat.ne_of_lt (Nat.lt_of_lt_of_le Ea47.lt (Nat.le_trans le154 sz_b2_7_3_2_145)))
     have q156 := ((q140.keep K145q (ninS ne139 nin0)).keep K147q (ninS ne139 (ninS ne155 nin0)))
     have ne157 : b47 ≠ b2_7_3_2_145 := (Nat.ne_of_lt (Nat.lt_of_lt_of_le V47.lt (Nat.le_trans le154 sz_b2_7_3_2_145)))
     have q158 := ((q143.keep K145q (ninS ne142 nin0)).keep K147q (ninS ne142 (ninS ne157 nin0)))
     have q159 := ((q144.keep K145q (ninS ne139 nin0)).keep K147q (ninS ne139 (ninS ne155 nin0)))
     refine Home.call (own_virtual X147 hx hZ hown (w103 hw) (w104 hw) (notFace_of_selects (args := #[]) (mvT hZ (w106 hw))) (w106 hw) (w105 hw) (w56 hw) (w107 hw) (by decide) (rm15_1 l Z a0 hw [] b1 ad47 b47 k47 [(32 : Int32)] sv_COMPACT_STRINGS b2_7_3_2_145 k2_7_3_2_145 ((((([] ++ (own_put u1)) ++ [(32 : Int32)]) ++ l_4) ++ [(32 : Int32)]) ++ (own_put u2)) T147.heap n0 O147 P147_0 q153 q156 q158 S_COMPACT_STRINGS q159 P147_1 P147_4 P147_2 P147_5 P147_3 g_b2_7_3_2_145 g_b1 hCS (Nat.le_trans (own_len_lit (l := [(32 : Int32)]) (n := 1) rfl).2 (by decide)) (Nat.le_trans (own_len_app (own_len_app (own_len_app (own_len_app (own_len_app (own_len_lit (l := []) (n := 0) rfl) (own_put_len u1)) (own_len_lit (l := [(32 : Int32)]) (n := 1) rfl)) (own_len_le sh_l_4)) (own_len_lit (l := [(32 : Int32)]) (n := 1) rfl)) (own_put_len u2)).2 (by decide))) rfl P147_0 rfl (by rw [hml]; rfl) (argsL := [(.ref ad47)]) (rest := []) (lenOf own_pd29 rfl) rfl rfl (W := 0) (hb hby d6_40)) ?_
     rintro _ T160 L160 X160 ⟨rfl, N160q, K160q, P160_0, P160_1, P160_2, P160_3, P160_4, P160_5⟩
     have Cd160 := Cold.keep Cd147 K160q (allS (Safe.exa hZ.alike P147_0 (by decide) (by decide)) (allS (Cold.safe Cd147 (List.mem_of_getElem? (i := 0) rfl)) all0))
     have O160 := Old.keep O147 K160q (allS g_b1 (allS g_b2_7_3_2_145 all0))
     have K160 : Keep h0 T160.heap ([] : List Addr) := Keep.trans K147 K160q (allS (Or.inr (Nat.le_trans (Nat.le_refl _) (Nat.le_of_eq g1.symm))) (allS (Or.inr (Nat.le_trans le152 sz_b2_7_3_2_145)) all0))
     have N160 := Fr.app N147 N160q
     refine Rn X160 hx hby sg6_43_1 44 #[sr o0] [(.ref o0), (.ref b1)] rfl ?_
     refine Home.st (getF X160 hx hZ hown (host := "") (Or.inl (w47 hw)) Via.refl rfl (F_clientPort_o0.keep K160 nin0) rfl rfl (hb hby d6_44)) fun T161 X161 e161 => ?_
     show Home T161 (mkF m 47 #[sr o0] [(.int u3), (.ref b1)])
     by_cases c162 : (0 : Int32) < ((own_n ((((((([] ++ (own_put u1)) ++ [(32 : Int32)]) ++ l_4) ++ [(32 : Int32)]) ++ (own_put u2)) ++ [(32 : Int32)]) ++ (own_put u3))) - (34 : Int32))
     ·
      refine Home.call (own_virtual X161 hx hZ hown (w72 hw) (w73 hw) (notFace_of_selects (args := #[]) (mvT hZ (w75 hw))) (w75 hw) (w74 hw) (w56 hw) (w76 hw) (by decide) (rm9_2 l Z a0 hw [] b1 u3 b2_7_3_2_145 k2_7_3_2_145 (((((([] ++ (own_put u1)) ++ [(32 : Int32)]) ++ l_4) ++ [(32 : Int32)]) ++ (own_put u2)) ++ [(32 : Int32)]) sv_COMPACT_STRINGS sv_DigitOnes k_ones sv_DigitTens k_tens T160.heap n0 O160 c162 P160_0 P160_1 P160_4 P160_2 S_COMPACT_STRINGS S_DigitOnes V_ones S_DigitTens V_tens P160_3 g_b1 (Nat.le_trans (own_len_app (own_len_app (own_len_app (own_len_app (own_len_app (own_len_app (own_len_lit (l := []) (n := 0) rfl) (own_put_len u1)) (own_len_lit (l := [(32 : Int32)]) (n := 1) rfl)) (own_len_le sh_l_4)) (own_len_lit (l := [(32 : Int32)]) (n := 1) rfl)) (own_put_len u2)) (own_len_lit (l := [(32 : Int32)]) (n := 1) rfl)).2 (by decide)) hCS) e161 P160_0 rfl (by rw [hml]; rfl) (argsL := [(.int u3)]) (rest := []) (lenOf own_pd22 rfl) rfl rfl (W := 0) (hb hby d6_47)) ?_
      rintro _ T165 L165 X165 ⟨b2_7_3_1_165, k2_7_3_1_165, rfl, N165q, sz_b2_7_3_1_165, K165q, P165_0, P165_1, P165_2, P165_3, P165_4, P165_5⟩
      have Cd165 := Cold.keep Cd160 K165q (allS (Safe.exa hZ.alike P160_0 (by decide) (by decide)) all0)
      have Cd165b2_7_3_1_165 := Cold.put Cd165 ⟨Safe.keep K165q (allS (Safe.exa hZ.alike P160_0 (by decide) (by decide)) all0) Cd160.2.1.1 (Safe.new sz_b2_7_3_1_165), P165_4.lt⟩
      have g_b2_7_3_1_165 : n0 ≤ b2_7_3_1_165 := Nat.le_trans (Old.le O160) sz_b2_7_3_1_165
      have O165 := Old.keep O160 K165q (allS g_b1 all0)
      have K165 : Keep h0 T165.heap ([] : List Addr) := Keep.trans K160 K165q (allS (Or.inr (Nat.le_trans (Nat.le_refl _) (Nat.le_of_eq g1.symm))) all0)
      have N165 := Fr.app N160 N165q
      refine Home.call (own_virtual X165 hx hZ hown (w145 hw) (w146 hw) (notFace_of_selects (args := #[]) (mvT hZ (w148 hw))) (w148 hw) (w147 hw) (w56 hw) (w149 hw) (by decide) (rm22_0 l Z a0 hw [] b1 b2_7_3_1_165 sv_COMPACT_STRINGS k2_7_3_1_165 ((((((([] ++ (own_put u1)) ++ [(32 : Int32)]) ++ l_4) ++ [(32 : Int32)]) ++ (own_put u2)) ++ [(32 : Int32)]) ++ (own_put u3)) T165.heap n0 O165 P165_0 P165_1 S_COMPACT_STRINGS P165_2 P165_5 P165_4 P165_3 (Nat.le_trans (own_len_app (own_len_app (own_len_app (own_len_app (own_len_app (own_len_app (own_len_app (own_len_lit (l := []) (n := 0) rfl) (own_put_len u1)) (own_len_lit (l := [(32 : Int32)]) (n := 1) rfl)) (own_len_le sh_l_4)) (own_len_lit (l := [(32 : Int32)]) (n := 1) rfl)) (own_put_len u2)) (own_len_lit (l := [(32 : Int32)]) (n := 1) rfl)) (own_put_len u3)).2 (by decide)) hCS) rfl P165_0 rfl (by rw [hml]; rfl) (argsL := []) (rest := []) (lenOf own_pd35 rfl) rfl rfl (W := 0) (hb hby d6_50)) ?_
      rintro _ T166 L166 X166 ⟨b1_166, b2_2_8_1_2_166, k2_2_8_1_2_166, rfl, N166q, sz_b1_166, sz_b2_2_8_1_2_166, K166q, P166_0, P166_1, P166_2, P166_3, P166_4⟩
      have Cd166 := Cold.keep Cd165b2_7_3_1_165 K166q all0
      have Cd166b1_166 := Cold.put Cd166 ⟨Safe.keep K166q all0 Cd165b2_7_3_1_165.2.1.1 (Safe.new sz_b1_166), P166_0.lt⟩
      have Cd166b2_2_8_1_2_166 := Cold.put Cd166b1_166 ⟨Safe.keep K166q all0 Cd165b2_7_3_1_165.2.1.1 (Safe.new sz_b2_2_8_1_2_166), P166_3.lt⟩
      have g_b1_166 : n0 ≤ b1_166 := Nat.le_trans (Old.le O165) sz_b1_166
      have g_b2_2_8_1_2_166 : n0 ≤ b2_2_8_1_2_166 := Nat.le_trans (Old.le O165) sz_b2_2_8_1_2_166
      have K166 : Keep h0 T166.heap ([] : List Addr) := Keep.trans K165 K166q all0
      have N166 := Fr.app N165 N166q
      show Home T166 (mkF m 53 #[sr o0] [(.ref b1_166)])
      have le307 : h0.size ≤ T145.heap.size := Nat.le_trans le152 K145q.1
      have le308 : h0.size ≤ T147.heap.size := Nat.le_trans le307 K147q.1
      have le309 : h0.size ≤ T160.heap.size := Nat.le_trans le308 K160q.1
      have le310 : h0.size ≤ T165.heap.size := Nat.le_trans le309 K165q.1
      exact HomeW.retR X166 hx hlk hZ (own_hEL hw) rfl Cd166b2_2_8_1_2_166 (fun _ _ q => by cases q; exact (List.mem_of_getElem? (i := 1) rfl)) hret rfl rfl (hb hby d6_53) ⟨b1_166, b2_2_8_1_2_166, k2_2_8_1_2_166, rfl, N166, (Nat.le_trans le310 sz_b1_166), K166, P166_0, P166_2, P166_1, Arv.lst P166_4 (cs := ((((((([] ++ (own_put u1)) ++ [(32 : Int32)]) ++ l_4) ++ [(32 : Int32)]) ++ (own_put u2)) ++ [(32 : Int32)]) ++ (own_put u3))) (cs' := (cs_rm6_0 u1 l_4 u2 u3)) (by rfl) rfl rfl⟩ (by decide) (by decide)
     ·
      have lf164 : 6 ≤ ((((((([] ++ (own_put u1)) ++ [(32 : Int32)]) ++ l_4) ++ [(32 : Int32)]) ++ (own_put u2)) ++ [(32 : Int32)]) ++ (own_put u3)).length ∧ ((((((([] ++ (own_put u1)) ++ [(32 : Int32)]) ++ l_4) ++ [(32 : Int32)]) ++ (own_put u2)) ++ [(32 : Int32)]) ++ (own_put u3)).length ≤ 34 := own_fit (K := 34) c162 (own_len_app (own_len_app (own_len_app (own_len_app (own_len_app (own_len_app (own_len_app (own_len_lit (l := []) (n := 0) rfl) (own_put_len u1)) (own_len_lit (l := [(32 : Int32)]) (n := 1) rfl)) (own_len_le sh_l_4)) (own_len_lit (l := [(32 : Int32)]) (n := 1) rfl)) (own_put_len u2)) (own_len_lit (l := [(32 : Int32)]) (n := 1) rfl)) (own_put_len u3)) (by decide) (by decide)
      refine Home.call (own_virtual X161 hx hZ hown (w72 hw) (w73 hw) (notFace_of_selects (args := #[]) (mvT hZ (w75 hw))) (w75 hw) (w74 hw) (w56 hw) (w76 hw) (by decide) (rm9_3 l Z a0 hw [] b1 u3 b2_7_3_2_145 k2_7_3_2_145 (((((([] ++ (own_put u1)) ++ [(32 : Int32)]) ++ l_4) ++ [(32 : Int32)]) ++ (own_put u2)) ++ [(32 : Int32)]) sv_COMPACT_STRINGS sv_DigitOnes k_ones sv_DigitTens k_tens T160.heap n0 O160 c162 (Nat.le_trans (own_len_app (own_len_app (own_len_app (own_len_app (own_len_app (own_len_app (own_len_lit (l := []) (n := 0) rfl) (own_put_len u1)) (own_len_lit (l := [(32 : Int32)]) (n := 1) rfl)) (own_len_le sh_l_4)) (own_len_lit (l := [(32 : Int32)]) (n := 1) rfl)) (own_put_len u2)) (own_len_lit (l := [(32 : Int32)]) (n := 1) rfl)).2 (by decide)) P160_0 P160_1 P160_4 P160_2 S_COMPACT_STRINGS S_DigitOnes V_ones S_DigitTens V_tens P160_5 P160_3 g_b2_7_3_2_145 g_b1 hCS) e161 P160_0 rfl (by rw [hml]; rfl) (argsL := [(.int u3)]) (rest := []) (lenOf own_pd22 rfl) rfl rfl (W := 0) (hb hby d6_47)) ?_
      rintro _ T167 L167 X167 ⟨rfl, N167q, K167q, P167_0, P167_1, P167_2, P167_3, P167_4, P167_5⟩
      have Cd167 := Cold.keep Cd160 K167q (allS (Safe.exa hZ.alike P160_0 (by decide) (by decide)) (allS (Cold.safe Cd160 (List.mem_of_getElem? (i := 0) rfl)) all0))
      have O167 := Old.keep O160 K167q (allS g_b1 (allS g_b2_7_3_2_145 all0))
      have K167 : Keep h0 T167.heap ([] : List Addr) := Keep.trans K160 K167q (allS (Or.inr (Nat.le_trans (Nat.le_refl _) (Nat.le_of_eq g1.symm))) (allS (Or.inr (Nat.le_trans le152 sz_b2_7_3_2_145)) all0))
      have N167 := Fr.app N160 N167q
      by_cases c168 : (own_n ((((((([] ++ (own_put u1)) ++ [(32 : Int32)]) ++ l_4) ++ [(32 : Int32)]) ++ (own_put u2)) ++ [(32 : Int32)]) ++ (own_put u3))) = (34 : Int32)
      ·
       refine Home.call (own_virtual X167 hx hZ hown (w145 hw) (w146 hw) (notFace_of_selects (args := #[]) (mvT hZ (w148 hw))) (w148 hw) (w147 hw) (w56 hw) (w149 hw) (by decide) (rm22_1 l Z a0 hw [] b1 b2_7_3_2_145 sv_COMPACT_STRINGS k2_7_3_2_145 ((((((([] ++ (own_put u1)) ++ [(32 : Int32)]) ++ l_4) ++ [(32 : Int32)]) ++ (own_put u2)) ++ [(32 : Int32)]) ++ (own_put u3)) T167.heap n0 O167 c168 (Nat.le_trans lf164.2 (by decide)) P167_0 P167_1 S_COMPACT_STRINGS P167_2 P167_4 P167_5 P167_3 hCS) rfl P167_0 rfl (by rw [hml]; rfl) (argsL := []) (rest := []) (lenOf own_pd35 rfl) rfl rfl (W := 0) (hb hby d6_50)) ?_
       rintro _ T171 L171 X171 ⟨b1_171, b2_8_1_2_171, rfl, N171q, sz_b1_171, sz_b2_8_1_2_171, K171q, P171_0, P171_1, P171_2, P171_3, P171_4⟩
       have Cd171 := Cold.keep Cd167 K171q all0
       have Cd171b1_171 := Cold.put Cd171 ⟨Safe.keep K171q all0 Cd167.2.1.1 (Safe.new sz_b1_171), P171_0.lt⟩
       have Cd171b2_8_1_2_171 := Cold.put Cd171b1_171 ⟨Safe.keep K171q all0 Cd167.2.1.1 (Safe.new sz_b2_8_1_2_171), P171_3.lt⟩
       have g_b1_171 : n0 ≤ b1_171 := Nat.le_trans (Old.le O167) sz_b1_171
       have g_b2_8_1_2_171 : n0 ≤ b2_8_1_2_171 := Nat.le_trans (Old.le O167) sz_b2_8_1_2_171
       have K171 : Keep h0 T171.heap ([] : List Addr) := Keep.trans K167 K171q all0
       have N171 := Fr.app N167 N171q
       have le311 : h0.size ≤ T145.heap.size := Nat.le_trans le152 K145q.1
       have le312 : h0.size ≤ T147.heap.size := Nat.le_trans le311 K147q.1
       have le313 : h0.size ≤ T160.heap.size := Nat.le_trans le312 K160q.1
       have le314 : h0.size ≤ T167.heap.size := Nat.le_trans le313 K167q.1
       exact HomeW.retR X171 hx hlk hZ (own_hEL hw) rfl Cd171b2_8_1_2_171 (fun _ _ q => by cases q; exact (List.mem_of_getElem? (i := 1) rfl)) hret rfl rfl (hb hby d6_53) ⟨b1_171, b2_8_1_2_171, k2_7_3_2_145, rfl, N171, (Nat.le_trans le314 sz_b1_171), K171, P171_0, P171_2, P171_1, Arv.lst P171_3 (cs := ((((((([] ++ (own_put u1)) ++ [(32 : Int32)]) ++ l_4) ++ [(32 : Int32)]) ++ (own_put u2)) ++ [(32 : Int32)]) ++ (own_put u3))) (cs' := (cs_rm6_0 u1 l_4 u2 u3)) (by rfl) rfl rfl⟩ (by decide) (by decide)
      ·
       refine Home.call (own_virtual X167 hx hZ hown (w145 hw) (w146 hw) (notFace_of_selects (args := #[]) (mvT hZ (w148 hw))) (w148 hw) (w147 hw) (w56 hw) (w149 hw) (by decide) (rm22_2 l Z a0 hw [] b1 b2_7_3_2_145 sv_COMPACT_STRINGS k2_7_3_2_145 ((((((([] ++ (own_put u1)) ++ [(32 : Int32)]) ++ l_4) ++ [(32 : Int32)]) ++ (own_put u2)) ++ [(32 : Int32)]) ++ (own_put u3)) T167.heap n0 O167 c168 (Nat.le_trans lf164.2 (by decide)) P167_0 P167_1 S_COMPACT_STRINGS P167_2 P167_4 P167_5 P167_3 hCS) rfl P167_0 rfl (by rw [hml]; rfl) (argsL := []) (rest := []) (lenOf own_pd35 rfl) rfl rfl (W := 0) (hb hby d6_50)) ?_
       rintro _ T172 L172 X172 ⟨b1_172, b2_2_8_1_2_172, k2_2_8_1_2_172, rfl, N172q, sz_b1_172, sz_b2_2_8_1_2_172, K172q, P172_0, P172_1, P172_2, P172_3, P172_4⟩
       have Cd172 := Cold.keep Cd167 K172q all0
       have Cd172b1_172 := Cold.put Cd172 ⟨Safe.keep K172q all0 Cd167.2.1.1 (Safe.new sz_b1_172), P172_0.lt⟩
       have Cd172b2_2_8_1_2_172 := Cold.put Cd172b1_172 ⟨Safe.keep K172q all0 Cd167.2.1.1 (Safe.new sz_b2_2_8_1_2_172), P172_3.lt⟩
       have g_b1_172 : n0 ≤ b1_172 := Nat.le_trans (Old.le O167) sz_b1_172
       have g_b2_2_8_1_2_172 : n0 ≤ b2_2_8_1_2_172 := Nat.le_trans (Old.le O167) sz_b2_2_8_1_2_172
       have K172 : Keep h0 T172.heap ([] : List Addr) := Keep.trans K167 K172q all0
       have N172 := Fr.app N167 N172q
       have le315 : h0.size ≤ T145.heap.size := Nat.le_trans le152 K145q.1
       have le316 : h0.size ≤ T147.heap.size := Nat.le_trans le315 K147q.1
       have le317 : h0.size ≤ T160.heap.size := Nat.le_trans le316 K160q.1
       have le318 : h0.size ≤ T167.heap.size := Nat.le_trans le317 K167q.1
       exact HomeW.retR X172 hx hlk hZ (own_hEL hw) rfl Cd172b2_2_8_1_2_172 (fun _ _ q => by cases q; exact (List.mem_of_getElem? (i := 1) rfl)) hret rfl rfl (hb hby d6_53) ⟨b1_172, b2_2_8_1_2_172, k2_2_8_1_2_172, rfl, N172, (Nat.le_trans le318 sz_b1_172), K172, P172_0, P172_2, P172_1, Arv.lst P172_4 (cs := ((((((([] ++ (own_put u1)) ++ [(32 : Int32)]) ++ l_4) ++ [(32 : Int32)]) ++ (own_put u2)) ++ [(32 : Int32)]) ++ (own_put u3))) (cs' := (cs_rm6_0 u1 l_4 u2 u3)) (by rfl) rfl rfl⟩ (by decide) (by decide)
    ·
     have q173 := ((Ea47.keep K95q).keep K134q)
     have ne174 : ad47 ≠ b3_1_2 := (Ne.symm (hne47 _ (List.mem_of_getElem? (i := 0) rfl)).1)
     have ne175 : ad47 ≠ b1 := (ne_exa q173 P134_0 (by decide))
     have q176 := ((Fv47.keep K95q (ninS ne175 (ninS ne174 nin0))).keep K134q (ninS ne175 (ninS ne174 nin0)))
     have ne177 : b47 ≠ b3_1_2 := (Ne.symm (hne47 _ (List.mem_of_getElem? (i := 0) rfl)).2)
     have ne178 : b47 ≠ b1 := (Ne.symm (own_neAV (((A1.keep K2q).keep K46q).ext E47) (w55 hw) V47))
     have q179 := ((V47.keep K95q (ninS ne178 (ninS ne177 nin0))).keep K134q (ninS ne178 (ninS ne177 nin0)))
     have q180 := ((Fc47.keep K95q (ninS ne175 (ninS ne174 nin0))).keep K134q (ninS ne175 (ninS ne174 nin0)))
     refine Home.call (own_virtual X134 hx hZ hown (w103 hw) (w104 hw) (notFace_of_selects (args := #[]) (mvT hZ (w106 hw))) (w106 hw) (w105 hw) (w56 hw) (w107 hw) (by decide) (rm15_3 l Z a0 hw [] b1 ad47 b47 k47 [(32 : Int32)] sv_COMPACT_STRINGS b3_1_2 k3_1_2 ((([] ++ (own_put u1)) ++ [(32 : Int32)]) ++ l_4) T134.heap n0 O134 c135 (Nat.le_trans (own_len_app (own_len_app (own_len_app (own_len_lit (l := []) (n := 0) rfl) (own_put_len u1)) (own_len_lit (l := [(32 : Int32)]) (n := 1) rfl)) (own_len_le sh_l_4)).2 (by decide)) (Nat.le_trans (own_len_lit (l := [(32 : Int32)]) (n := 1) rfl).2 (by decide)) P134_0 q173 q176 q179 S_COMPACT_STRINGS q180 P134_1 P134_4 P134_2 P134_5 P134_3 g_b3_1_2 g_b1 hCS) rfl P134_0 rfl (by rw [hml]; rfl) (argsL := [(.ref ad47)]) (rest := []) (lenOf own_pd29 rfl) rfl rfl (W := 0) (hb hby d6_28)) ?_
     rintro _ T181 L181 X181 ⟨rfl, N181q, K181q, P181_0, P181_1, P181_2, P181_3, P181_4, P181_5⟩
     have Cd181 := Cold.keep Cd134 K181q (allS (Safe.exa hZ.alike P134_0 (by decide) (by decide)) (allS (Cold.safe Cd134 (List.mem_of_getElem? (i := 0) rfl)) all0))
     have O181 := Old.keep O134 K181q (allS g_b1 (allS g_b3_1_2 all0))
     have K181 : Keep h0 T181.heap ([] : List Addr) := Keep.trans K134 K181q (allS (Or.inr (Nat.le_trans (Nat.le_refl _) (Nat.le_of_eq g1.symm))) (allS (Or.inr (Nat.le_trans E1.1 sz_b3_1_2)) all0))
     have N181 := Fr.app N134 N181q
     show Home T181 (mkF m 31 #[sr o0] [(.ref b1)])
     refine Rn X181 hx hby sg6_31_1 32 #[sr o0] [(.ref o0), (.ref b1)] rfl ?_
     refine Home.st (getF X181 hx hZ hown (host := "") (Or.inl (w45 hw)) Via.refl rfl (F_peerPort_o0.keep K181 nin0) rfl rfl (hb hby d6_32)) fun T182 X182 e182 => ?_
     by_cases c183 : (0 : Int32) < ((own_n ((((([] ++ (own_put u1)) ++ [(32 : Int32)]) ++ l_4) ++ [(32 : Int32)]) ++ (own_put u2))) - (16 : Int32))
     ·
      refine Home.call (own_virtual X182 hx hZ hown (w72 hw) (w73 hw) (notFace_of_selects (args := #[]) (mvT hZ (w75 hw))) (w75 hw) (w74 hw) (w56 hw) (w76 hw) (by decide) (rm9_0 l Z a0 hw [] b1 u2 b3_1_2 k3_1_2 (((([] ++ (own_put u1)) ++ [(32 : Int32)]) ++ l_4) ++ [(32 : Int32)]) sv_COMPACT_STRINGS sv_DigitOnes k_ones sv_DigitTens k_tens T181.heap n0 O181 c183 P181_0 P181_1 P181_4 P181_2 S_COMPACT_STRINGS S_DigitOnes V_ones S_DigitTens V_tens P181_3 g_b1 (Nat.le_trans (own_len_app (own_len_app (own_len_app (own_len_app (own_len_lit (l := []) (n := 0) rfl) (own_put_len u1)) (own_len_lit (l := [(32 : Int32)]) (n := 1) rfl)) (own_len_le sh_l_4)) (own_len_lit (l := [(32 : Int32)]) (n := 1) rfl)).2 (by decide)) hCS) e182 P181_0 rfl (by rw [hml]; rfl) (argsL := [(.int u2)]) (rest := []) (lenOf own_pd22 rfl) rfl rfl (W := 0) (hb hby d6_35)) ?_
      rintro _ T186 L186 X186 ⟨b2_7_3_1_186, k2_7_3_1_186, rfl, N186q, sz_b2_7_3_1_186, K186q, P186_0, P186_1, P186_2, P186_3, P186_4, P186_5⟩
      have Cd186 := Cold.keep Cd181 K186q (allS (Safe.exa hZ.alike P181_0 (by decide) (by decide)) all0)
      have Cd186b2_7_3_1_186 := Cold.put Cd186 ⟨Safe.keep K186q (allS (Safe.exa hZ.alike P181_0 (by decide) (by decide)) all0) Cd181.2.1.1 (Safe.new sz_b2_7_3_1_186), P186_4.lt⟩
      have g_b2_7_3_1_186 : n0 ≤ b2_7_3_1_186 := Nat.le_trans (Old.le O181) sz_b2_7_3_1_186
      have O186 := Old.keep O181 K186q (allS g_b1 all0)
      have K186 : Keep h0 T186.heap ([] : List Addr) := Keep.trans K181 K186q (allS (Or.inr (Nat.le_trans (Nat.le_refl _) (Nat.le_of_eq g1.symm))) all0)
      have N186 := Fr.app N181 N186q
      refine Home.go (ldcAgain X186 hx hZ hown (w102 hw) Li47 (g := (mkF m 38 #[.val (.ref o0)] [(.ref b1)])) rfl (hb hby d6_38)) ?_
      have q187 := ((q173.keep K181q).keep K186q)
      have q188 := ((q176.keep K181q (ninS ne175 (ninS ne174 nin0))).keep K186q (ninS ne175 nin0))
      have q189 := ((q179.keep K181q (ninS ne178 (ninS ne177 nin0))).keep K186q (ninS ne178 nin0))
      have q190 := ((q180.keep K181q (ninS ne175 (ninS ne174 nin0))).keep K186q (ninS ne175 nin0))
      refine Home.call (own_virtual X186 hx hZ hown (w103 hw) (w104 hw) (notFace_of_selects (args := #[]) (mvT hZ (w106 hw))) (w106 hw) (w105 hw) (w56 hw) (w107 hw) (by decide) (rm15_1 l Z a0 hw [] b1 ad47 b47 k47 [(32 : Int32)] sv_COMPACT_STRINGS b2_7_3_1_186 k2_7_3_1_186 ((((([] ++ (own_put u1)) ++ [(32 : Int32)]) ++ l_4) ++ [(32 : Int32)]) ++ (own_put u2)) T186.heap n0 O186 P186_0 q187 q188 q189 S_COMPACT_STRINGS q190 P186_1 P186_5 P186_2 P186_4 P186_3 g_b2_7_3_1_186 g_b1 hCS (Nat.le_trans (own_len_lit (l := [(32 : Int32)]) (n := 1) rfl).2 (by decide)) (Nat.le_trans (own_len_app (own_len_app (own_len_app (own_len_app (own_len_app (own_len_lit (l := []) (n := 0) rfl) (own_put_len u1)) (own_len_lit (l := [(32 : Int32)]) (n := 1) rfl)) (own_len_le sh_l_4)) (own_len_lit (l := [(32 : Int32)]) (n := 1) rfl)) (own_put_len u2)).2 (by decide))) rfl P186_0 rfl (by rw [hml]; rfl) (argsL := [(.ref ad47)]) (rest := []) (lenOf own_pd29 rfl) rfl rfl (W := 0) (hb hby d6_40)) ?_
      rintro _ T191 L191 X191 ⟨rfl, N191q, K191q, P191_0, P191_1, P191_2, P191_3, P191_4, P191_5⟩
      have Cd191 := Cold.keep Cd186b2_7_3_1_186 K191q (allS (Safe.exa hZ.alike P186_0 (by decide) (by decide)) (allS (Cold.safe Cd186b2_7_3_1_186 (List.mem_of_getElem? (i := 0) rfl)) all0))
      have le192 : h0.size ≤ T2.heap.size := Nat.le_trans E1.1 K2q.1
      have le193 : h0.size ≤ T46.heap.size := Nat.le_trans le192 K46q.1
      have le194 : h0.size ≤ h47.size := Nat.le_trans le193 E47.1
      have le195 : h0.size ≤ T95.heap.size := Nat.le_trans le194 K95q.1
      have le196 : h0.size ≤ T134.heap.size := Nat.le_trans le195 K134q.1
      have le197 : h0.size ≤ T181.heap.size := Nat.le_trans le196 K181q.1
      have O191 := Old.keep O186 K191q (allS g_b1 (allS g_b2_7_3_1_186 all0))
      have K191 : Keep h0 T191.heap ([] : List Addr) := Keep.trans K186 K191q (allS (Or.inr (Nat.le_trans (Nat.le_refl _) (Nat.le_of_eq g1.symm))) (allS (Or.inr (Nat.le_trans le197 sz_b2_7_3_1_186)) all0))
      have N191 := Fr.app N186 N191q
      show Home T191 (mkF m 43 #[sr o0] [(.ref b1)])
      refine Rn X191 hx hby sg6_43_1 44 #[sr o0] [(.ref o0), (.ref b1)] rfl ?_
      refine Home.st (getF X191 hx hZ hown (host := "") (Or.inl (w47 hw)) Via.refl rfl (F_clientPort_o0.keep K191 nin0) rfl rfl (hb hby d6_44)) fun T198 X198 e198 => ?_
      by_cases c199 : (0 : Int32) < ((own_n ((((((([] ++ (own_put u1)) ++ [(32 : Int32)]) ++ l_4) ++ [(32 : Int32)]) ++ (own_put u2)) ++ [(32 : Int32)]) ++ (own_put u3))) - (34 : Int32))
      ·
       refine Home.call (own_virtual X198 hx hZ hown (w72 hw) (w73 hw) (notFace_of_selects (args := #[]) (mvT hZ (w75 hw))) (w75 hw) (w74 hw) (w56 hw) (w76 hw) (by decide) (rm9_2 l Z a0 hw [] b1 u3 b2_7_3_1_186 k2_7_3_1_186 (((((([] ++ (own_put u1)) ++ [(32 : Int32)]) ++ l_4) ++ [(32 : Int32)]) ++ (own_put u2)) ++ [(32 : Int32)]) sv_COMPACT_STRINGS sv_DigitOnes k_ones sv_DigitTens k_tens T191.heap n0 O191 c199 P191_0 P191_1 P191_4 P191_2 S_COMPACT_STRINGS S_DigitOnes V_ones S_DigitTens V_tens P191_3 g_b1 (Nat.le_trans (own_len_app (own_len_app (own_len_app (own_len_app (own_len_app (own_len_app (own_len_lit (l := []) (n := 0) rfl) (own_put_len u1)) (own_len_lit (l := [(32 : Int32)]) (n := 1) rfl)) (own_len_le sh_l_4)) (own_len_lit (l := [(32 : Int32)]) (n := 1) rfl)) (own_put_len u2)) (own_len_lit (l := [(32 : Int32)]) (n := 1) rfl)).2 (by decide)) hCS) e198 P191_0 rfl (by rw [hml]; rfl) (argsL := [(.int u3)]) (rest := []) (lenOf own_pd22 rfl) rfl rfl (W := 0) (hb hby d6_47)) ?_
       rintro _ T202 L202 X202 ⟨b2_7_3_1_202, k2_7_3_1_202, rfl, N202q, sz_b2_7_3_1_202, K202q, P202_0, P202_1, P202_2, P202_3, P202_4, P202_5⟩
       have Cd202 := Cold.keep Cd191 K202q (allS (Safe.exa hZ.alike P191_0 (by decide) (by decide)) all0)
       have Cd202b2_7_3_1_202 := Cold.put Cd202 ⟨Safe.keep K202q (allS (Safe.exa hZ.alike P191_0 (by decide) (by decide)) all0) Cd191.2.1.1 (Safe.new sz_b2_7_3_1_202), P202_4.lt⟩
       have g_b2_7_3_1_202 : n0 ≤ b2_7_3_1_202 := Nat.le_trans (Old.le O191) sz_b2_7_3_1_202
       have O202 := Old.keep O191 K202q (allS g_b1 all0)
       have K202 : Keep h0 T202.heap ([] : List Addr) := Keep.trans K191 K202q (allS (Or.inr (Nat.le_trans (Nat.le_refl _) (Nat.le_of_eq g1.symm))) all0)
       have N202 := Fr.app N191 N202q
       refine Home.call (own_virtual X202 hx hZ hown (w145 hw) (w146 hw) (notFace_of_selects (args := #[]) (mvT hZ (w148 hw))) (w148 hw) (w147 hw) (w56 hw) (w149 hw) (by decide) (rm22_0 l Z a0 hw [] b1 b2_7_3_1_202 sv_COMPACT_STRINGS k2_7_3_1_202 ((((((([] ++ (own_put u1)) ++ [(32 : Int32)]) ++ l_4) ++ [(32 : Int32)]) ++ (own_put u2)) ++ [(32 : Int32)]) ++ (own_put u3)) T202.heap n0 O202 P202_0 P202_1 S_COMPACT_STRINGS P202_2 P202_5 P202_4 P202_3 (Nat.le_trans (own_len_app (own_len_app (own_len_app (own_len_app (own_len_app (own_len_app (own_len_app (own_len_lit (l := []) (n := 0) rfl) (own_put_len u1)) (own_len_lit (l := [(32 : Int32)]) (n := 1) rfl)) (own_len_le sh_l_4)) (own_len_lit (l := [(32 : Int32)]) (n := 1) rfl)) (own_put_len u2)) (own_len_lit (l := [(32 : Int32)]) (n := 1) rfl)) (own_put_len u3)).2 (by decide)) hCS) rfl P202_0 rfl (by rw [hml]; rfl) (argsL := []) (rest := []) (lenOf own_pd35 rfl) rfl rfl (W := 0) (hb hby d6_50)) ?_
       rintro _ T203 L203 X203 ⟨b1_203, b2_2_8_1_2_203, k2_2_8_1_2_203, rfl, N203q, sz_b1_203, sz_b2_2_8_1_2_203, K203q, P203_0, P203_1, P203_2, P203_3, P203_4⟩
       have Cd203 := Cold.keep Cd202b2_7_3_1_202 K203q all0
       have Cd203b1_203 := Cold.put Cd203 ⟨Safe.keep K203q all0 Cd202b2_7_3_1_202.2.1.1 (Safe.new sz_b1_203), P203_0.lt⟩
       have Cd203b2_2_8_1_2_203 := Cold.put Cd203b1_203 ⟨Safe.keep K203q all0 Cd202b2_7_3_1_202.2.1.1 (Safe.new sz_b2_2_8_1_2_203), P203_3.lt⟩
       have g_b1_203 : n0 ≤ b1_203 := Nat.le_trans (Old.le O202) sz_b1_203
       have g_b2_2_8_1_2_203 : n0 ≤ b2_2_8_1_2_203 := Nat.le_trans (Old.le O202) sz_b2_2_8_1_2_203
       have K203 : Keep h0 T203.heap ([] : List Addr) := Keep.trans K202 K203q all0
       have N203 := Fr.app N202 N203q
       show Home T203 (mkF m 53 #[sr o0] [(.ref b1_203)])
       have le319 : h0.size ≤ T186.heap.size := Nat.le_trans le197 K186q.1
       have le320 : h0.size ≤ T191.heap.size := Nat.le_trans le319 K191q.1
       have le321 : h0.size ≤ T202.heap.size := Nat.le_trans le320 K202q.1
       exact HomeW.retR X203 hx hlk hZ (own_hEL hw) rfl Cd203b2_2_8_1_2_203 (fun _ _ q => by cases q; exact (List.mem_of_getElem? (i := 1) rfl)) hret rfl rfl (hb hby d6_53) ⟨b1_203, b2_2_8_1_2_203, k2_2_8_1_2_203, rfl, N203, (Nat.le_trans le321 sz_b1_203), K203, P203_0, P203_2, P203_1, Arv.lst P203_4 (cs := ((((((([] ++ (own_put u1)) ++ [(32 : Int32)]) ++ l_4) ++ [(32 : Int32)]) ++ (own_put u2)) ++ [(32 : Int32)]) ++ (own_put u3))) (cs' := (cs_rm6_0 u1 l_4 u2 u3)) (by rfl) rfl rfl⟩ (by decide) (by decide)
      ·
       have lf201 : 6 ≤ ((((((([] ++ (own_put u1)) ++ [(32 : Int32)]) ++ l_4) ++ [(32 : Int32)]) ++ (own_put u2)) ++ [(32 : Int32)]) ++ (own_put u3)).length ∧ ((((((([] ++ (own_put u1)) ++ [(32 : Int32)]) ++ l_4) ++ [(32 : Int32)]) ++ (own_put u2)) ++ [(32 : Int32)]) ++ (own_put u3)).length ≤ 34 := own_fit (K := 34) c199 (own_len_app (own_len_app (own_len_app (own_len_app (own_len_app (own_len_app (own_len_app (own_len_lit (l := []) (n := 0) rfl) (own_put_len u1)) (own_len_lit (l := [(32 : Int32)]) (n := 1) rfl)) (own_len_le sh_l_4)) (own_len_lit (l := [(32 : Int32)]) (n := 1) rfl)) (own_put_len u2)) (own_len_lit (l := [(32 : Int32)]) (n := 1) rfl)) (own_put_len u3)) (by decide) (by decide)
       refine Home.call (own_virtual X198 hx hZ hown (w72 hw) (w73 hw) (notFace_of_selects (args := #[]) (mvT hZ (w75 hw))) (w75 hw) (w74 hw) (w56 hw) (w76 hw) (by decide) (rm9_3 l Z a0 hw [] b1 u3 b2_7_3_1_186 k2_7_3_1_186 (((((([] ++ (own_put u1)) ++ [(32 : Int32)]) ++ l_4) ++ [(32 : Int32)]) ++ (own_put u2)) ++ [(32 : Int32)]) sv_COMPACT_STRINGS sv_DigitOnes k_ones sv_DigitTens k_tens T191.heap n0 O191 c199 (Nat.le_trans (own_len_app (own_len_app (own_len_app (own_len_app (own_len_app (own_len_app (own_len_lit (l := []) (n := 0) rfl) (own_put_len u1)) (own_len_lit (l := [(32 : Int32)]) (n := 1) rfl)) (own_len_le sh_l_4)) (own_len_lit (l := [(32 : Int32)]) (n := 1) rfl)) (own_put_len u2)) (own_len_lit (l := [(32 : Int32)]) (n := 1) rfl)).2 (by decide)) P191_0 P191_1 P191_4 P191_2 S_COMPACT_STRINGS S_DigitOnes V_ones S_DigitTens V_tens P191_5 P191_3 g_b2_7_3_1_186 g_b1 hCS) e198 P191_0 rfl (by rw [hml]; rfl) (argsL := [(.int u3)]) (rest := []) (lenOf own_pd22 rfl) rfl rfl (W := 0) (hb hby d6_47)) ?_
       rintro _ T204 L204 X204 ⟨rfl, N204q, K204q, P204_0, P204_1, P204_2, P204_3, P204_4, P204_5⟩
       have Cd204 := Cold.keep Cd191 K204q (allS (Safe.exa hZ.alike P191_0 (by decide) (by decide)) (allS (Cold.safe Cd191 (List.mem_of_getElem? (i := 0) rfl)) all0))
       have O204 := Old.keep O191 K204q (allS g_b1 (allS g_b2_7_3_1_186 all0))
       have K204 : Keep h0 T204.heap ([] : List Addr) := Keep.trans K191 K204q (allS (Or.inr (Nat.le_trans (Nat.le_refl _) (Nat.le_of_eq g1.symm))) (allS (Or.inr (Nat.le_trans le197 sz_b2_7_3_1_186)) all0))
       have N204 := Fr.app N191 N204q
       by_cases c205 : (own_n ((((((([] ++ (own_put u1)) ++ [(32 : Int32)]) ++ l_4) ++ [(32 : Int32)]) ++ (own_put u2)) ++ [(32 : Int32)]) ++ (own_put u3))) = (34 : Int32)
       ·
        refine Home.call (own_virtual X204 hx hZ hown (w145 hw) (w146 hw) (notFace_of_selects (args := #[]) (mvT hZ (w148 hw))) (w148 hw) (w147 hw) (w56 hw) (w149 hw) (by decide) (rm22_1 l Z a0 hw [] b1 b2_7_3_1_186 sv_COMPACT_STRINGS k2_7_3_1_186 ((((((([] ++ (own_put u1)) ++ [(32 : Int32)]) ++ l_4) ++ [(32 : Int32)]) ++ (own_put u2)) ++ [(32 : Int32)]) ++ (own_put u3)) T204.heap n0 O204 c205 (Nat.le_trans lf201.2 (by decide)) P204_0 P204_1 S_COMPACT_STRINGS P204_2 P204_4 P204_5 P204_3 hCS) rfl P204_0 rfl (by rw [hml]; rfl) (argsL := []) (rest := []) (lenOf own_pd35 rfl) rfl rfl (W := 0) (hb hby d6_50)) ?_
        rintro _ T208 L208 X208 ⟨b1_208, b2_8_1_2_208, rfl, N208q, sz_b1_208, sz_b2_8_1_2_208, K208q, P208_0, P208_1, P208_2, P208_3, P208_4⟩
        have Cd208 := Cold.keep Cd204 K208q all0
        have Cd208b1_208 := Cold.put Cd208 ⟨Safe.keep K208q all0 Cd204.2.1.1 (Safe.new sz_b1_208), P208_0.lt⟩
        have Cd208b2_8_1_2_208 := Cold.put Cd208b1_208 ⟨Safe.keep K208q all0 Cd204.2.1.1 (Safe.new sz_b2_8_1_2_208), P208_3.lt⟩
        have g_b1_208 : n0 ≤ b1_208 := Nat.le_trans (Old.le O204) sz_b1_208
        have g_b2_8_1_2_208 : n0 ≤ b2_8_1_2_208 := Nat.le_trans (Old.le O204) sz_b2_8_1_2_208
        have K208 : Keep h0 T208.heap ([] : List Addr) := Keep.trans K204 K208q all0
        have N208 := Fr.app N204 N208q
        have le322 : h0.size ≤ T186.heap.size := Nat.le_trans le197 K186q.1
        have le323 : h0.size ≤ T191.heap.size := Nat.le_trans le322 K191q.1
        have le324 : h0.size ≤ T204.heap.size := Nat.le_trans le323 K204q.1
        exact HomeW.retR X208 hx hlk hZ (own_hEL hw) rfl Cd208b2_8_1_2_208 (fun _ _ q => by cases q; exact (List.mem_of_getElem? (i := 1) rfl)) hret rfl rfl (hb hby d6_53) ⟨b1_208, b2_8_1_2_208, k2_7_3_1_186, rfl, N208, (Nat.le_trans le324 sz_b1_208), K208, P208_0, P208_2, P208_1, Arv.lst P208_3 (cs := ((((((([] ++ (own_put u1)) ++ [(32 : Int32)]) ++ l_4) ++ [(32 : Int32)]) ++ (own_put u2)) ++ [(32 : Int32)]) ++ (own_put u3))) (cs' := (cs_rm6_0 u1 l_4 u2 u3)) (by rfl) rfl rfl⟩ (by decide) (by decide)
       ·
        refine Home.call (own_virtual X204 hx hZ hown (w145 hw) (w146 hw) (notFace_of_selects (args := #[]) (mvT hZ (w148 hw))) (w148 hw) (w147 hw) (w56 hw) (w149 hw) (by decide) (rm22_2 l Z a0 hw [] b1 b2_7_3_1_186 sv_COMPACT_STRINGS k2_7_3_1_186 ((((((([] ++ (own_put u1)) ++ [(32 : Int32)]) ++ l_4) ++ [(32 : Int32)]) ++ (own_put u2)) ++ [(32 : Int32)]) ++ (own_put u3)) T204.heap n0 O204 c205 (Nat.le_trans lf201.2 (by decide)) P204_0 P204_1 S_COMPACT_STRINGS P204_2 P204_4 P204_5 P204_3 hCS) rfl P204_0 rfl (by rw [hml]; rfl) (argsL := []) (rest := []) (lenOf own_pd35 rfl) rfl rfl (W := 0) (hb hby d6_50)) ?_
        rintro _ T209 L209 X209 ⟨b1_209, b2_2_8_1_2_209, k2_2_8_1_2_209, rfl, N209q, sz_b1_209, sz_b2_2_8_1_2_209, K209q, P209_0, P209_1, P209_2, P209_3, P209_4⟩
        have Cd209 := Cold.keep Cd204 K209q all0
        have Cd209b1_209 := Cold.put Cd209 ⟨Safe.keep K209q all0 Cd204.2.1.1 (Safe.new sz_b1_209), P209_0.lt⟩
        have Cd209b2_2_8_1_2_209 := Cold.put Cd209b1_209 ⟨Safe.keep K209q all0 Cd204.2.1.1 (Safe.new sz_b2_2_8_1_2_209), P209_3.lt⟩
        have g_b1_209 : n0 ≤ b1_209 := Nat.le_trans (Old.le O204) sz_b1_209
        have g_b2_2_8_1_2_209 : n0 ≤ b2_2_8_1_2_209 := Nat.le_trans (Old.le O204) sz_b2_2_8_1_2_209
        have K209 : Keep h0 T209.heap ([] : List Addr) := Keep.trans K204 K209q all0
        have N209 := Fr.app N204 N209q
        have le325 : h0.size ≤ T186.heap.size := Nat.le_trans le197 K186q.1
        have le326 : h0.size ≤ T191.heap.size := Nat.le_trans le325 K191q.1
        have le327 : h0.size ≤ T204.heap.size := Nat.le_trans le326 K204q.1
        exact HomeW.retR X209 hx hlk hZ (own_hEL hw) rfl Cd209b2_2_8_1_2_209 (fun _ _ q => by cases q; exact (List.mem_of_getElem? (i := 1) rfl)) hret rfl rfl (hb hby d6_53) ⟨b1_209, b2_2_8_1_2_209, k2_2_8_1_2_209, rfl, N209, (Nat.le_trans le327 sz_b1_209), K209, P209_0, P209_2, P209_1, Arv.lst P209_4 (cs := ((((((([] ++ (own_put u1)) ++ [(32 : Int32)]) ++ l_4) ++ [(32 : Int32)]) ++ (own_put u2)) ++ [(32 : Int32)]) ++ (own_put u3))) (cs' := (cs_rm6_0 u1 l_4 u2 u3)) (by rfl) rfl rfl⟩ (by decide) (by decide)
     ·
      have lf185 : 4 ≤ ((((([] ++ (own_put u1)) ++ [(32 : Int32)]) ++ l_4) ++ [(32 : Int32)]) ++ (own_put u2)).length ∧ ((((([] ++ (own_put u1)) ++ [(32 : Int32)]) ++ l_4) ++ [(32 : Int32)]) ++ (own_put u2)).length ≤ 16 := own_fit (K := 16) c183 (own_len_app (own_len_app (own_len_app (own_len_app (own_len_app (own_len_lit (l := []) (n := 0) rfl) (own_put_len u1)) (own_len_lit (l := [(32 : Int32)]) (n := 1) rfl)) (own_len_le sh_l_4)) (own_len_lit (l := [(32 : Int32)]) (n := 1) rfl)) (own_put_len u2)) (by decide) (by decide)
      refine Home.call (own_virtual X182 hx hZ hown (w72 hw) (w73 hw) (notFace_of_selects (args := #[]) (mvT hZ (w75 hw))) (w75 hw) (w74 hw) (w56 hw) (w76 hw) (by decide) (rm9_4 l Z a0 hw [] b1 u2 b3_1_2 k3_1_2 (((([] ++ (own_put u1)) ++ [(32 : Int32)]) ++ l_4) ++ [(32 : Int32)]) sv_COMPACT_STRINGS sv_DigitOnes k_ones sv_DigitTens k_tens T181.heap n0 O181 c183 (Nat.le_trans (own_len_app (own_len_app (own_len_app (own_len_app (own_len_lit (l := []) (n := 0) rfl) (own_put_len u1)) (own_len_lit (l := [(32 : Int32)]) (n := 1) rfl)) (own_len_le sh_l_4)) (own_len_lit (l := [(32 : Int32)]) (n := 1) rfl)).2 (by decide)) P181_0 P181_1 P181_4 P181_2 S_COMPACT_STRINGS S_DigitOnes V_ones S_DigitTens V_tens P181_5 P181_3 g_b3_1_2 g_b1 hCS) e182 P181_0 rfl (by rw [hml]; rfl) (argsL := [(.int u2)]) (rest := []) (lenOf own_pd22 rfl) rfl rfl (W := 0) (hb hby d6_35)) ?_
      rintro _ T210 L210 X210 ⟨rfl, N210q, K210q, P210_0, P210_1, P210_2, P210_3, P210_4, P210_5⟩
      have Cd210 := Cold.keep Cd181 K210q (allS (Safe.exa hZ.alike P181_0 (by decide) (by decide)) (allS (Cold.safe Cd181 (List.mem_of_getElem? (i := 0) rfl)) all0))
      have O210 := Old.keep O181 K210q (allS g_b1 (allS g_b3_1_2 all0))
      have K210 : Keep h0 T210.heap ([] : List Addr) := Keep.trans K181 K210q (allS (Or.inr (Nat.le_trans (Nat.le_refl _) (Nat.le_of_eq g1.symm))) (allS (Or.inr (Nat.le_trans E1.1 sz_b3_1_2)) all0))
      have N210 := Fr.app N181 N210q
      refine Home.go (ldcAgain X210 hx hZ hown (w102 hw) Li47 (g := (mkF m 38 #[.val (.ref o0)] [(.ref b1)])) rfl (hb hby d6_38)) ?_
      by_cases c211 : (0 : Int32) < ((own_n (((((([] ++ (own_put u1)) ++ [(32 : Int32)]) ++ l_4) ++ [(32 : Int32)]) ++ (own_put u2)) ++ [(32 : Int32)])) - (16 : Int32))
      ·
       have q214 := ((q173.keep K181q).keep K210q)
       have q215 := ((q176.keep K181q (ninS ne175 (ninS ne174 nin0))).keep K210q (ninS ne175 (ninS ne174 nin0)))
       have q216 := ((q179.keep K181q (ninS ne178 (ninS ne177 nin0))).keep K210q (ninS ne178 (ninS ne177 nin0)))
       have q217 := ((q180.keep K181q (ninS ne175 (ninS ne174 nin0))).keep K210q (ninS ne175 (ninS ne174 nin0)))
       refine Home.call (own_virtual X210 hx hZ hown (w103 hw) (w104 hw) (notFace_of_selects (args := #[]) (mvT hZ (w106 hw))) (w106 hw) (w105 hw) (w56 hw) (w107 hw) (by decide) (rm15_2 l Z a0 hw [] b1 ad47 b47 k47 [(32 : Int32)] sv_COMPACT_STRINGS b3_1_2 k3_1_2 ((((([] ++ (own_put u1)) ++ [(32 : Int32)]) ++ l_4) ++ [(32 : Int32)]) ++ (own_put u2)) T210.heap n0 O210 c211 P210_0 q214 q215 q216 S_COMPACT_STRINGS q217 P210_1 P210_4 P210_2 P210_3 g_b1 hCS (Nat.le_trans (own_len_lit (l := [(32 : Int32)]) (n := 1) rfl).2 (by decide)) (Nat.le_trans lf185.2 (by decide))) rfl P210_0 rfl (by rw [hml]; rfl) (argsL := [(.ref ad47)]) (rest := []) (lenOf own_pd29 rfl) rfl rfl (W := 0) (hb hby d6_40)) ?_
       rintro _ T218 L218 X218 ⟨b2_7_3_2_218, k2_7_3_2_218, rfl, N218q, sz_b2_7_3_2_218, K218q, P218_0, P218_1, P218_2, P218_3, P218_4, P218_5⟩
       have Cd218 := Cold.keep Cd210 K218q (allS (Safe.exa hZ.alike P210_0 (by decide) (by decide)) all0)
       have Cd218b2_7_3_2_218 := Cold.put Cd218 ⟨Safe.keep K218q (allS (Safe.exa hZ.alike P210_0 (by decide) (by decide)) all0) Cd210.2.1.1 (Safe.new sz_b2_7_3_2_218), P218_4.lt⟩
       have g_b2_7_3_2_218 : n0 ≤ b2_7_3_2_218 := Nat.le_trans (Old.le O210) sz_b2_7_3_2_218
       have O218 := Old.keep O210 K218q (allS g_b1 all0)
       have K218 : Keep h0 T218.heap ([] : List Addr) := Keep.trans K210 K218q (allS (Or.inr (Nat.le_trans (Nat.le_refl _) (Nat.le_of_eq g1.symm))) all0)
       have N218 := Fr.app N210 N218q
       refine Rn X218 hx hby sg6_43_1 44 #[sr o0] [(.ref o0), (.ref b1)] rfl ?_
       refine Home.st (getF X218 hx hZ hown (host := "") (Or.inl (w47 hw)) Via.refl rfl (F_clientPort_o0.keep K218 nin0) rfl rfl (hb hby d6_44)) fun T219 X219 e219 => ?_
       show Home T219 (mkF m 47 #[sr o0] [(.int u3), (.ref b1)])
       by_cases c220 : (0 : Int32) < ((own_n ((((((([] ++ (own_put u1)) ++ [(32 : Int32)]) ++ l_4) ++ [(32 : Int32)]) ++ (own_put u2)) ++ [(32 : Int32)]) ++ (own_put u3))) - (34 : Int32))
       ·
        refine Home.call (own_virtual X219 hx hZ hown (w72 hw) (w73 hw) (notFace_of_selects (args := #[]) (mvT hZ (w75 hw))) (w75 hw) (w74 hw) (w56 hw) (w76 hw) (by decide) (rm9_2 l Z a0 hw [] b1 u3 b2_7_3_2_218 k2_7_3_2_218 (((((([] ++ (own_put u1)) ++ [(32 : Int32)]) ++ l_4) ++ [(32 : Int32)]) ++ (own_put u2)) ++ [(32 : Int32)]) sv_COMPACT_STRINGS sv_DigitOnes k_ones sv_DigitTens k_tens T218.heap n0 O218 c220 P218_0 P218_1 P218_5 P218_2 S_COMPACT_STRINGS S_DigitOnes V_ones S_DigitTens V_tens P218_3 g_b1 (Nat.le_trans (own_len_app lf185 (own_len_lit (l := [(32 : Int32)]) (n := 1) rfl)).2 (by decide)) hCS) e219 P218_0 rfl (by rw [hml]; rfl) (argsL := [(.int u3)]) (rest := []) (lenOf own_pd22 rfl) rfl rfl (W := 0) (hb hby d6_47)) ?_
        rintro _ T222 L222 X222 ⟨b2_7_3_1_222, k2_7_3_1_222, rfl, N222q, sz_b2_7_3_1_222, K222q, P222_0, P222_1, P222_2, P222_3, P222_4, P222_5⟩
        have Cd222 := Cold.keep Cd218b2_7_3_2_218 K222q (allS (Safe.exa hZ.alike P218_0 (by decide) (by decide)) all0)
        have Cd222b2_7_3_1_222 := Cold.put Cd222 ⟨Safe.keep K222q (allS (Safe.exa hZ.alike P218_0 (by decide) (by decide)) all0) Cd218b2_7_3_2_218.2.1.1 (Safe.new sz_b2_7_3_1_222), P222_4.lt⟩
        have g_b2_7_3_1_222 : n0 ≤ b2_7_3_1_222 := Nat.le_trans (Old.le O218) sz_b2_7_3_1_222
        have O222 := Old.keep O218 K222q (allS g_b1 all0)
        have K222 : Keep h0 T222.heap ([] : List Addr) := Keep.trans K218 K222q (allS (Or.inr (Nat.le_trans (Nat.le_refl _) (Nat.le_of_eq g1.symm))) all0)
        have N222 := Fr.app N218 N222q
        refine Home.call (own_virtual X222 hx hZ hown (w145 hw) (w146 hw) (notFace_of_selects (args := #[]) (mvT hZ (w148 hw))) (w148 hw) (w147 hw) (w56 hw) (w149 hw) (by decide) (rm22_0 l Z a0 hw [] b1 b2_7_3_1_222 sv_COMPACT_STRINGS k2_7_3_1_222 ((((((([] ++ (own_put u1)) ++ [(32 : Int32)]) ++ l_4) ++ [(32 : Int32)]) ++ (own_put u2)) ++ [(32 : Int32)]) ++ (own_put u3)) T222.heap n0 O222 P222_0 P222_1 S_COMPACT_STRINGS P222_2 P222_5 P222_4 P222_3 (Nat.le_trans (own_len_app (own_len_app lf185 (own_len_lit (l := [(32 : Int32)]) (n := 1) rfl)) (own_put_len u3)).2 (by decide)) hCS) rfl P222_0 rfl (by rw [hml]; rfl) (argsL := []) (rest := []) (lenOf own_pd35 rfl) rfl rfl (W := 0) (hb hby d6_50)) ?_
        rintro _ T223 L223 X223 ⟨b1_223, b2_2_8_1_2_223, k2_2_8_1_2_223, rfl, N223q, sz_b1_223, sz_b2_2_8_1_2_223, K223q, P223_0, P223_1, P223_2, P223_3, P223_4⟩
        have Cd223 := Cold.keep Cd222b2_7_3_1_222 K223q all0
        have Cd223b1_223 := Cold.put Cd223 ⟨Safe.keep K223q all0 Cd222b2_7_3_1_222.2.1.1 (Safe.new sz_b1_223), P223_0.lt⟩
        have Cd223b2_2_8_1_2_223 := Cold.put Cd223b1_223 ⟨Safe.keep K223q all0 Cd222b2_7_3_1_222.2.1.1 (Safe.new sz_b2_2_8_1_2_223), P223_3.lt⟩
        have g_b1_223 : n0 ≤ b1_223 := Nat.le_trans (Old.le O222) sz_b1_223
        have g_b2_2_8_1_2_223 : n0 ≤ b2_2_8_1_2_223 := Nat.le_trans (Old.le O222) sz_b2_2_8_1_2_223
        have K223 : Keep h0 T223.heap ([] : List Addr) := Keep.trans K222 K223q all0
        have N223 := Fr.app N222 N223q
        show Home T223 (mkF m 53 #[sr o0] [(.ref b1_223)])
        have le328 : h0.size ≤ T2.heap.size := Nat.le_trans E1.1 K2q.1
        have le329 : h0.size ≤ T46.heap.size := Nat.le_trans le328 K46q.1
        have le330 : h0.size ≤ h47.size := Nat.le_trans le329 E47.1
        have le331 : h0.size ≤ T95.heap.size := Nat.le_trans le330 K95q.1
        have le332 : h0.size ≤ T134.heap.size := Nat.le_trans le331 K134q.1
        have le333 : h0.size ≤ T181.heap.size := Nat.le_trans le332 K181q.1
        have le334 : h0.size ≤ T210.heap.size := Nat.le_trans le333 K210q.1
        have le335 : h0.size ≤ T218.heap.size := Nat.le_trans le334 K218q.1
        have le336 : h0.size ≤ T222.heap.size := Nat.le_trans le335 K222q.1
        exact HomeW.retR X223 hx hlk hZ (own_hEL hw) rfl Cd223b2_2_8_1_2_223 (fun _ _ q => by cases q; exact (List.mem_of_getElem? (i := 1) rfl)) hret rfl rfl (hb hby d6_53) ⟨b1_223, b2_2_8_1_2_223, k2_2_8_1_2_223, rfl, N223, (Nat.le_trans le336 sz_b1_223), K223, P223_0, P223_2, P223_1, Arv.lst P223_4 (cs := ((((((([] ++ (own_put u1)) ++ [(32 : Int32)]) ++ l_4) ++ [(32 : Int32)]) ++ (own_put u2)) ++ [(32 : Int32)]) ++ (own_put u3))) (cs' := (cs_rm6_0 u1 l_4 u2 u3)) (by rfl) rfl rfl⟩ (by decide) (by decide)
       ·
        refine Home.call (own_virtual X219 hx hZ hown (w72 hw) (w73 hw) (notFace_of_selects (args := #[]) (mvT hZ (w75 hw))) (w75 hw) (w74 hw) (w56 hw) (w76 hw) (by decide) (rm9_3 l Z a0 hw [] b1 u3 b2_7_3_2_218 k2_7_3_2_218 (((((([] ++ (own_put u1)) ++ [(32 : Int32)]) ++ l_4) ++ [(32 : Int32)]) ++ (own_put u2)) ++ [(32 : Int32)]) sv_COMPACT_STRINGS sv_DigitOnes k_ones sv_DigitTens k_tens T218.heap n0 O218 c220 (Nat.le_trans (own_len_app lf185 (own_len_lit (l := [(32 : Int32)]) (n := 1) rfl)).2 (by decide)) P218_0 P218_1 P218_5 P218_2 S_COMPACT_STRINGS S_DigitOnes V_ones S_DigitTens V_tens P218_4 P218_3 g_b2_7_3_2_218 g_b1 hCS) e219 P218_0 rfl (by rw [hml]; rfl) (argsL := [(.int u3)]) (rest := []) (lenOf own_pd22 rfl) rfl rfl (W := 0) (hb hby d6_47)) ?_
        rintro _ T224 L224 X224 ⟨rfl, N224q, K224q, P224_0, P224_1, P224_2, P224_3, P224_4, P224_5⟩
        have Cd224 := Cold.keep Cd218b2_7_3_2_218 K224q (allS (Safe.exa hZ.alike P218_0 (by decide) (by decide)) (allS (Cold.safe Cd218b2_7_3_2_218 (List.mem_of_getElem? (i := 0) rfl)) all0))
        have le225 : h0.size ≤ T2.heap.size := Nat.le_trans E1.1 K2q.1
        have le226 : h0.size ≤ T46.heap.size := Nat.le_trans le225 K46q.1
        have le227 : h0.size ≤ h47.size := Nat.le_trans le226 E47.1
        have le228 : h0.size ≤ T95.heap.size := Nat.le_trans le227 K95q.1
        have le229 : h0.size ≤ T134.heap.size := Nat.le_trans le228 K134q.1
        have le230 : h0.size ≤ T181.heap.size := Nat.le_trans le229 K181q.1
        have le231 : h0.size ≤ T210.heap.size := Nat.le_trans le230 K210q.1
        have O224 := Old.keep O218 K224q (allS g_b1 (allS g_b2_7_3_2_218 all0))
        have K224 : Keep h0 T224.heap ([] : List Addr) := Keep.trans K218 K224q (allS (Or.inr (Nat.le_trans (Nat.le_refl _) (Nat.le_of_eq g1.symm))) (allS (Or.inr (Nat.le_trans le231 sz_b2_7_3_2_218)) all0))
        have N224 := Fr.app N218 N224q
        refine Home.call (own_virtual X224 hx hZ hown (w145 hw) (w146 hw) (notFace_of_selects (args := #[]) (mvT hZ (w148 hw))) (w148 hw) (w147 hw) (w56 hw) (w149 hw) (by decide) (rm22_2 l Z a0 hw [] b1 b2_7_3_2_218 sv_COMPACT_STRINGS k2_7_3_2_218 ((((((([] ++ (own_put u1)) ++ [(32 : Int32)]) ++ l_4) ++ [(32 : Int32)]) ++ (own_put u2)) ++ [(32 : Int32)]) ++ (own_put u3)) T224.heap n0 O224 (bnd_ne (own_n_b (a := 6) (b := 28) (own_len_app (own_len_app lf185 (own_len_lit (l := [(32 : Int32)]) (n := 1) rfl)) (own_put_len u3)) (lo := (6 : Int32)) (hi := (28 : Int32)) (by decide) (by decide) (by decide)) (bnd_lit (34 : Int32)) (by decide +kernel)) (Nat.le_trans (own_len_app (own_len_app lf185 (own_len_lit (l := [(32 : Int32)]) (n := 1) rfl)) (own_put_len u3)).2 (by decide)) P224_0 P224_1 S_COMPACT_STRINGS P224_2 P224_4 P224_5 P224_3 hCS) rfl P224_0 rfl (by rw [hml]; rfl) (argsL := []) (rest := []) (lenOf own_pd35 rfl) rfl rfl (W := 0) (hb hby d6_50)) ?_
        rintro _ T232 L232 X232 ⟨b1_232, b2_2_8_1_2_232, k2_2_8_1_2_232, rfl, N232q, sz_b1_232, sz_b2_2_8_1_2_232, K232q, P232_0, P232_1, P232_2, P232_3, P232_4⟩
        have Cd232 := Cold.keep Cd224 K232q all0
        have Cd232b1_232 := Cold.put Cd232 ⟨Safe.keep K232q all0 Cd224.2.1.1 (Safe.new sz_b1_232), P232_0.lt⟩
        have Cd232b2_2_8_1_2_232 := Cold.put Cd232b1_232 ⟨Safe.keep K232q all0 Cd224.2.1.1 (Safe.new sz_b2_2_8_1_2_232), P232_3.lt⟩
        have g_b1_232 : n0 ≤ b1_232 := Nat.le_trans (Old.le O224) sz_b1_232
        have g_b2_2_8_1_2_232 : n0 ≤ b2_2_8_1_2_232 := Nat.le_trans (Old.le O224) sz_b2_2_8_1_2_232
        have K232 : Keep h0 T232.heap ([] : List Addr) := Keep.trans K224 K232q all0
        have N232 := Fr.app N224 N232q
        show Home T232 (mkF m 53 #[sr o0] [(.ref b1_232)])
        have le337 : h0.size ≤ T218.heap.size := Nat.le_trans le231 K218q.1
        have le338 : h0.size ≤ T224.heap.size := Nat.le_trans le337 K224q.1
        exact HomeW.retR X232 hx hlk hZ (own_hEL hw) rfl Cd232b2_2_8_1_2_232 (fun _ _ q => by cases q; exact (List.mem_of_getElem? (i := 1) rfl)) hret rfl rfl (hb hby d6_53) ⟨b1_232, b2_2_8_1_2_232, k2_2_8_1_2_232, rfl, N232, (Nat.le_trans le338 sz_b1_232), K232, P232_0, P232_2, P232_1, Arv.lst P232_4 (cs := ((((((([] ++ (own_put u1)) ++ [(32 : Int32)]) ++ l_4) ++ [(32 : Int32)]) ++ (own_put u2)) ++ [(32 : Int32)]) ++ (own_put u3))) (cs' := (cs_rm6_0 u1 l_4 u2 u3)) (by rfl) rfl rfl⟩ (by decide) (by decide)
      ·
       have lf213 : 5 ≤ (((((([] ++ (own_put u1)) ++ [(32 : Int32)]) ++ l_4) ++ [(32 : Int32)]) ++ (own_put u2)) ++ [(32 : Int32)]).length ∧ (((((([] ++ (own_put u1)) ++ [(32 : Int32)]) ++ l_4) ++ [(32 : Int32)]) ++ (own_put u2)) ++ [(32 : Int32)]).length ≤ 16 := own_fit (K := 16) c211 (own_len_app lf185 (own_len_lit (l := [(32 : Int32)]) (n := 1) rfl)) (by decide) (by decide)
       have q233 := ((q173.keep K181q).keep K210q)
       have q234 := ((q176.keep K181q (ninS ne175 (ninS ne174 nin0))).keep K210q (ninS ne175 (ninS ne174 nin0)))
       have q235 := ((q179.keep K181q (ninS ne178 (ninS ne177 nin0))).keep K210q (ninS ne178 (ninS ne177 nin0)))
       have q236 := ((q180.keep K181q (ninS ne175 (ninS ne174 nin0))).keep K210q (ninS ne175 (ninS ne174 nin0)))
       refine Home.call (own_virtual X210 hx hZ hown (w103 hw) (w104 hw) (notFace_of_selects (args := #[]) (mvT hZ (w106 hw))) (w106 hw) (w105 hw) (w56 hw) (w107 hw) (by decide) (rm15_3 l Z a0 hw [] b1 ad47 b47 k47 [(32 : Int32)] sv_COMPACT_STRINGS b3_1_2 k3_1_2 ((((([] ++ (own_put u1)) ++ [(32 : Int32)]) ++ l_4) ++ [(32 : Int32)]) ++ (own_put u2)) T210.heap n0 O210 c211 (Nat.le_trans lf185.2 (by decide)) (Nat.le_trans (own_len_lit (l := [(32 : Int32)]) (n := 1) rfl).2 (by decide)) P210_0 q233 q234 q235 S_COMPACT_STRINGS q236 P210_1 P210_4 P210_2 P210_5 P210_3 g_b3_1_2 g_b1 hCS) rfl P210_0 rfl (by rw [hml]; rfl) (argsL := [(.ref ad47)]) (rest := []) (lenOf own_pd29 rfl) rfl rfl (W := 0) (hb hby d6_40)) ?_
       rintro _ T237 L237 X237 ⟨rfl, N237q, K237q, P237_0, P237_1, P237_2, P237_3, P237_4, P237_5⟩
       have Cd237 := Cold.keep Cd210 K237q (allS (Safe.exa hZ.alike P210_0 (by decide) (by decide)) (allS (Cold.safe Cd210 (List.mem_of_getElem? (i := 0) rfl)) all0))
       have O237 := Old.keep O210 K237q (allS g_b1 (allS g_b3_1_2 all0))
       have K237 : Keep h0 T237.heap ([] : List Addr) := Keep.trans K210 K237q (allS (Or.inr (Nat.le_trans (Nat.le_refl _) (Nat.le_of_eq g1.symm))) (allS (Or.inr (Nat.le_trans E1.1 sz_b3_1_2)) all0))
       have N237 := Fr.app N210 N237q
       refine Rn X237 hx hby sg6_43_1 44 #[sr o0] [(.ref o0), (.ref b1)] rfl ?_
       refine Home.st (getF X237 hx hZ hown (host := "") (Or.inl (w47 hw)) Via.refl rfl (F_clientPort_o0.keep K237 nin0) rfl rfl (hb hby d6_44)) fun T238 X238 e238 => ?_
       by_cases c239 : (0 : Int32) < ((own_n ((((((([] ++ (own_put u1)) ++ [(32 : Int32)]) ++ l_4) ++ [(32 : Int32)]) ++ (own_put u2)) ++ [(32 : Int32)]) ++ (own_put u3))) - (16 : Int32))
       ·
        refine Home.call (own_virtual X238 hx hZ hown (w72 hw) (w73 hw) (notFace_of_selects (args := #[]) (mvT hZ (w75 hw))) (w75 hw) (w74 hw) (w56 hw) (w76 hw) (by decide) (rm9_0 l Z a0 hw [] b1 u3 b3_1_2 k3_1_2 (((((([] ++ (own_put u1)) ++ [(32 : Int32)]) ++ l_4) ++ [(32 : Int32)]) ++ (own_put u2)) ++ [(32 : Int32)]) sv_COMPACT_STRINGS sv_DigitOnes k_ones sv_DigitTens k_tens T237.heap n0 O237 c239 P237_0 P237_1 P237_4 P237_2 S_COMPACT_STRINGS S_DigitOnes V_ones S_DigitTens V_tens P237_3 g_b1 (Nat.le_trans lf213.2 (by decide)) hCS) e238 P237_0 rfl (by rw [hml]; rfl) (argsL := [(.int u3)]) (rest := []) (lenOf own_pd22 rfl) rfl rfl (W := 0) (hb hby d6_47)) ?_
        rintro _ T242 L242 X242 ⟨b2_7_3_1_242, k2_7_3_1_242, rfl, N242q, sz_b2_7_3_1_242, K242q, P242_0, P242_1, P242_2, P242_3, P242_4, P242_5⟩
        have Cd242 := Cold.keep Cd237 K242q (allS (Safe.exa hZ.alike P237_0 (by decide) (by decide)) all0)
        have Cd242b2_7_3_1_242 := Cold.put Cd242 ⟨Safe.keep K242q (allS (Safe.exa hZ.alike P237_0 (by decide) (by decide)) all0) Cd237.2.1.1 (Safe.new sz_b2_7_3_1_242), P242_4.lt⟩
        have g_b2_7_3_1_242 : n0 ≤ b2_7_3_1_242 := Nat.le_trans (Old.le O237) sz_b2_7_3_1_242
        have O242 := Old.keep O237 K242q (allS g_b1 all0)
        have K242 : Keep h0 T242.heap ([] : List Addr) := Keep.trans K237 K242q (allS (Or.inr (Nat.le_trans (Nat.le_refl _) (Nat.le_of_eq g1.symm))) all0)
        have N242 := Fr.app N237 N242q
        refine Home.call (own_virtual X242 hx hZ hown (w145 hw) (w146 hw) (notFace_of_selects (args := #[]) (mvT hZ (w148 hw))) (w148 hw) (w147 hw) (w56 hw) (w149 hw) (by decide) (rm22_2 l Z a0 hw [] b1 b2_7_3_1_242 sv_COMPACT_STRINGS k2_7_3_1_242 ((((((([] ++ (own_put u1)) ++ [(32 : Int32)]) ++ l_4) ++ [(32 : Int32)]) ++ (own_put u2)) ++ [(32 : Int32)]) ++ (own_put u3)) T242.heap n0 O242 (bnd_ne (own_n_b (a := 6) (b := 27) (own_len_app lf213 (own_put_len u3)) (lo := (6 : Int32)) (hi := (27 : Int32)) (by decide) (by decide) (by decide)) (bnd_lit (34 : Int32)) (by decide +kernel)) (Nat.le_trans (own_len_app lf213 (own_put_len u3)).2 (by decide)) P242_0 P242_1 S_COMPACT_STRINGS P242_2 P242_5 P242_4 P242_3 hCS) rfl P242_0 rfl (by rw [hml]; rfl) (argsL := []) (rest := []) (lenOf own_pd35 rfl) rfl rfl (W := 0) (hb hby d6_50)) ?_
        rintro _ T243 L243 X243 ⟨b1_243, b2_2_8_1_2_243, k2_2_8_1_2_243, rfl, N243q, sz_b1_243, sz_b2_2_8_1_2_243, K243q, P243_0, P243_1, P243_2, P243_3, P243_4⟩
        have Cd243 := Cold.keep Cd242b2_7_3_1_242 K243q all0
        have Cd243b1_243 := Cold.put Cd243 ⟨Safe.keep K243q all0 Cd242b2_7_3_1_242.2.1.1 (Safe.new sz_b1_243), P243_0.lt⟩
        have Cd243b2_2_8_1_2_243 := Cold.put Cd243b1_243 ⟨Safe.keep K243q all0 Cd242b2_7_3_1_242.2.1.1 (Safe.new sz_b2_2_8_1_2_243), P243_3.lt⟩
        have g_b1_243 : n0 ≤ b1_243 := Nat.le_trans (Old.le O242) sz_b1_243
        have g_b2_2_8_1_2_243 : n0 ≤ b2_2_8_1_2_243 := Nat.le_trans (Old.le O242) sz_b2_2_8_1_2_243
        have K243 : Keep h0 T243.heap ([] : List Addr) := Keep.trans K242 K243q all0
        have N243 := Fr.app N242 N243q
        show Home T243 (mkF m 53 #[sr o0] [(.ref b1_243)])
        have le339 : h0.size ≤ T2.heap.size := Nat.le_trans E1.1 K2q.1
        have le340 : h0.size ≤ T46.heap.size := Nat.le_trans le339 K46q.1
        have le341 : h0.size ≤ h47.size := Nat.le_trans le340 E47.1
        have le342 : h0.size ≤ T95.heap.size := Nat.le_trans le341 K95q.1
        have le343 : h0.size ≤ T134.heap.size := Nat.le_trans le342 K134q.1
        have le344 : h0.size ≤ T181.heap.size := Nat.le_trans le343 K181q.1
        have le345 : h0.size ≤ T210.heap.size := Nat.le_trans le344 K210q.1
        have le346 : h0.size ≤ T237.heap.size := Nat.le_trans le345 K237q.1
        have le347 : h0.size ≤ T242.heap.size := Nat.le_trans le346 K242q.1
        exact HomeW.retR X243 hx hlk hZ (own_hEL hw) rfl Cd243b2_2_8_1_2_243 (fun _ _ q => by cases q; exact (List.mem_of_getElem? (i := 1) rfl)) hret rfl rfl (hb hby d6_53) ⟨b1_243, b2_2_8_1_2_243, k2_2_8_1_2_243, rfl, N243, (Nat.le_trans le347 sz_b1_243), K243, P243_0, P243_2, P243_1, Arv.lst P243_4 (cs := ((((((([] ++ (own_put u1)) ++ [(32 : Int32)]) ++ l_4) ++ [(32 : Int32)]) ++ (own_put u2)) ++ [(32 : Int32)]) ++ (own_put u3))) (cs' := (cs_rm6_0 u1 l_4 u2 u3)) (by rfl) rfl rfl⟩ (by decide) (by decide)
       ·
        have lf241 : 6 ≤ ((((((([] ++ (own_put u1)) ++ [(32 : Int32)]) ++ l_4) ++ [(32 : Int32)]) ++ (own_put u2)) ++ [(32 : Int32)]) ++ (own_put u3)).length ∧ ((((((([] ++ (own_put u1)) ++ [(32 : Int32)]) ++ l_4) ++ [(32 : Int32)]) ++ (own_put u2)) ++ [(32 : Int32)]) ++ (own_put u3)).length ≤ 16 := own_fit (K := 16) c239 (own_len_app lf213 (own_put_len u3)) (by decide) (by decide)
        refine Home.call (own_virtual X238 hx hZ hown (w72 hw) (w73 hw) (notFace_of_selects (args := #[]) (mvT hZ (w75 hw))) (w75 hw) (w74 hw) (w56 hw) (w76 hw) (by decide) (rm9_4 l Z a0 hw [] b1 u3 b3_1_2 k3_1_2 (((((([] ++ (own_put u1)) ++ [(32 : Int32)]) ++ l_4) ++ [(32 : Int32)]) ++ (own_put u2)) ++ [(32 : Int32)]) sv_COMPACT_STRINGS sv_DigitOnes k_ones sv_DigitTens k_tens T237.heap n0 O237 c239 (Nat.le_trans lf213.2 (by decide)) P237_0 P237_1 P237_4 P237_2 S_COMPACT_STRINGS S_DigitOnes V_ones S_DigitTens V_tens P237_5 P237_3 g_b3_1_2 g_b1 hCS) e238 P237_0 rfl (by rw [hml]; rfl) (argsL := [(.int u3)]) (rest := []) (lenOf own_pd22 rfl) rfl rfl (W := 0) (hb hby d6_47)) ?_
        rintro _ T244 L244 X244 ⟨rfl, N244q, K244q, P244_0, P244_1, P244_2, P244_3, P244_4, P244_5⟩
        have Cd244 := Cold.keep Cd237 K244q (allS (Safe.exa hZ.alike P237_0 (by decide) (by decide)) (allS (Cold.safe Cd237 (List.mem_of_getElem? (i := 0) rfl)) all0))
        have O244 := Old.keep O237 K244q (allS g_b1 (allS g_b3_1_2 all0))
        have K244 : Keep h0 T244.heap ([] : List Addr) := Keep.trans K237 K244q (allS (Or.inr (Nat.le_trans (Nat.le_refl _) (Nat.le_of_eq g1.symm))) (allS (Or.inr (Nat.le_trans E1.1 sz_b3_1_2)) all0))
        have N244 := Fr.app N237 N244q
        by_cases c245 : (own_n ((((((([] ++ (own_put u1)) ++ [(32 : Int32)]) ++ l_4) ++ [(32 : Int32)]) ++ (own_put u2)) ++ [(32 : Int32)]) ++ (own_put u3))) = (16 : Int32)
        ·
         refine Home.call (own_virtual X244 hx hZ hown (w145 hw) (w146 hw) (notFace_of_selects (args := #[]) (mvT hZ (w148 hw))) (w148 hw) (w147 hw) (w56 hw) (w149 hw) (by decide) (rm22_3 l Z a0 hw [] b1 b3_1_2 sv_COMPACT_STRINGS k3_1_2 ((((((([] ++ (own_put u1)) ++ [(32 : Int32)]) ++ l_4) ++ [(32 : Int32)]) ++ (own_put u2)) ++ [(32 : Int32)]) ++ (own_put u3)) T244.heap n0 O244 c245 (Nat.le_trans lf241.2 (by decide)) P244_0 P244_1 S_COMPACT_STRINGS P244_2 P244_4 P244_5 P244_3 hCS) rfl P244_0 rfl (by rw [hml]; rfl) (argsL := []) (rest := []) (lenOf own_pd35 rfl) rfl rfl (W := 0) (hb hby d6_50)) ?_
         rintro _ T248 L248 X248 ⟨b1_248, b2_8_1_2_248, rfl, N248q, sz_b1_248, sz_b2_8_1_2_248, K248q, P248_0, P248_1, P248_2, P248_3, P248_4⟩
         have Cd248 := Cold.keep Cd244 K248q all0
         have Cd248b1_248 := Cold.put Cd248 ⟨Safe.keep K248q all0 Cd244.2.1.1 (Safe.new sz_b1_248), P248_0.lt⟩
         have Cd248b2_8_1_2_248 := Cold.put Cd248b1_248 ⟨Safe.keep K248q all0 Cd244.2.1.1 (Safe.new sz_b2_8_1_2_248), P248_3.lt⟩
         have g_b1_248 : n0 ≤ b1_248 := Nat.le_trans (Old.le O244) sz_b1_248
         have g_b2_8_1_2_248 : n0 ≤ b2_8_1_2_248 := Nat.le_trans (Old.le O244) sz_b2_8_1_2_248
         have K248 : Keep h0 T248.heap ([] : List Addr) := Keep.trans K244 K248q all0
         have N248 := Fr.app N244 N248q
         have le348 : h0.size ≤ T2.heap.size := Nat.le_trans E1.1 K2q.1
         have le349 : h0.size ≤ T46.heap.size := Nat.le_trans le348 K46q.1
         have le350 : h0.size ≤ h47.size := Nat.le_trans le349 E47.1
         have le351 : h0.size ≤ T95.heap.size := Nat.le_trans le350 K95q.1
         have le352 : h0.size ≤ T134.heap.size := Nat.le_trans le351 K134q.1
         have le353 : h0.size ≤ T181.heap.size := Nat.le_trans le352 K181q.1
         have le354 : h0.size ≤ T210.heap.size := Nat.le_trans le353 K210q.1
         have le355 : h0.size ≤ T237.heap.size := Nat.le_trans le354 K237q.1
         have le356 : h0.size ≤ T244.heap.size := Nat.le_trans le355 K244q.1
         exact HomeW.retR X248 hx hlk hZ (own_hEL hw) rfl Cd248b2_8_1_2_248 (fun _ _ q => by cases q; exact (List.mem_of_getElem? (i := 1) rfl)) hret rfl rfl (hb hby d6_53) ⟨b1_248, b2_8_1_2_248, k3_1_2, rfl, N248, (Nat.le_trans le356 sz_b1_248), K248, P248_0, P248_2, P248_1, Arv.lst P248_3 (cs := ((((((([] ++ (own_put u1)) ++ [(32 : Int32)]) ++ l_4) ++ [(32 : Int32)]) ++ (own_put u2)) ++ [(32 : Int32)]) ++ (own_put u3))) (cs' := (cs_rm6_0 u1 l_4 u2 u3)) (by rfl) rfl rfl⟩ (by decide) (by decide)
        ·
         refine Home.call (own_virtual X244 hx hZ hown (w145 hw) (w146 hw) (notFace_of_selects (args := #[]) (mvT hZ (w148 hw))) (w148 hw) (w147 hw) (w56 hw) (w149 hw) (by decide) (rm22_4 l Z a0 hw [] b1 b3_1_2 sv_COMPACT_STRINGS k3_1_2 ((((((([] ++ (own_put u1)) ++ [(32 : Int32)]) ++ l_4) ++ [(32 : Int32)]) ++ (own_put u2)) ++ [(32 : Int32)]) ++ (own_put u3)) T244.heap n0 O244 c245 (Nat.le_trans lf241.2 (by decide)) P244_0 P244_1 S_COMPACT_STRINGS P244_2 P244_4 P244_5 P244_3 hCS) rfl P244_0 rfl (by rw [hml]; rfl) (argsL := []) (rest := []) (lenOf own_pd35 rfl) rfl rfl (W := 0) (hb hby d6_50)) ?_
         rintro _ T249 L249 X249 ⟨b1_249, b2_2_8_1_2_249, k2_2_8_1_2_249, rfl, N249q, sz_b1_249, sz_b2_2_8_1_2_249, K249q, P249_0, P249_1, P249_2, P249_3, P249_4⟩
         have Cd249 := Cold.keep Cd244 K249q all0
         have Cd249b1_249 := Cold.put Cd249 ⟨Safe.keep K249q all0 Cd244.2.1.1 (Safe.new sz_b1_249), P249_0.lt⟩
         have Cd249b2_2_8_1_2_249 := Cold.put Cd249b1_249 ⟨Safe.keep K249q all0 Cd244.2.1.1 (Safe.new sz_b2_2_8_1_2_249), P249_3.lt⟩
         have g_b1_249 : n0 ≤ b1_249 := Nat.le_trans (Old.le O244) sz_b1_249
         have g_b2_2_8_1_2_249 : n0 ≤ b2_2_8_1_2_249 := Nat.le_trans (Old.le O244) sz_b2_2_8_1_2_249
         have K249 : Keep h0 T249.heap ([] : List Addr) := Keep.trans K244 K249q all0
         have N249 := Fr.app N244 N249q
         have le357 : h0.size ≤ T2.heap.size := Nat.le_trans E1.1 K2q.1
         have le358 : h0.size ≤ T46.heap.size := Nat.le_trans le357 K46q.1
         have le359 : h0.size ≤ h47.size := Nat.le_trans le358 E47.1
         have le360 : h0.size ≤ T95.heap.size := Nat.le_trans le359 K95q.1
         have le361 : h0.size ≤ T134.heap.size := Nat.le_trans le360 K134q.1
         have le362 : h0.size ≤ T181.heap.size := Nat.le_trans le361 K181q.1
         have le363 : h0.size ≤ T210.heap.size := Nat.le_trans le362 K210q.1
         have le364 : h0.size ≤ T237.heap.size := Nat.le_trans le363 K237q.1
         have le365 : h0.size ≤ T244.heap.size := Nat.le_trans le364 K244q.1
         exact HomeW.retR X249 hx hlk hZ (own_hEL hw) rfl Cd249b2_2_8_1_2_249 (fun _ _ q => by cases q; exact (List.mem_of_getElem? (i := 1) rfl)) hret rfl rfl (hb hby d6_53) ⟨b1_249, b2_2_8_1_2_249, k2_2_8_1_2_249, rfl, N249, (Nat.le_trans le365 sz_b1_249), K249, P249_0, P249_2, P249_1, Arv.lst P249_4 (cs := ((((((([] ++ (own_put u1)) ++ [(32 : Int32)]) ++ l_4) ++ [(32 : Int32)]) ++ (own_put u2)) ++ [(32 : Int32)]) ++ (own_put u3))) (cs' := (cs_rm6_0 u1 l_4 u2 u3)) (by rfl) rfl rfl⟩ (by decide) (by decide)
theorem rm17_1 (l : Launch) (Z : State) (a0 : Array Value) (hw : HW a0 Z) (ws : List Jvm.Cond) (o0 p2 : Addr) (k_p2 : ClassId) (l_1 : List Int32) (sv_COMPACT_STRINGS : Int32) (h0 : Heap) (n0 : Nat) (O0 : Old Z n0 h0) (F_value_o0 : Fld Z h0 o0 "java/lang/String" "value" "[B" (.ref p2)) (V_p2 : Arv Z h0 p2 k_p2 .byte (own_n l_1) (List.map Value.int l_1) (.int 0)) (E_o0 : Exa Z h0 o0 "java/lang/String") (S_COMPACT_STRINGS : Sta Z Z.heap "java/lang/String" "COMPACT_STRINGS" "Z" (.int sv_COMPACT_STRINGS)) (F_coder_o0 : Fld Z h0 o0 "java/lang/String" "coder" "B" (.int 0)) (hCS : ¬ (sv_COMPACT_STRINGS = (0 : Int32))) (sh_l_1 : l_1.length ≤ 38) :
    Con l Z (⟨"java/lang/String", "length", "()I"⟩ : MethodName) jdk_42_method_54_code 1 (some .int) ws ({ frames := 1, cells := 0, slots := 0, locals := 13 } : Room) #[(.ref o0)] h0 (Pur (some (.int (own_n l_1))) h0) := by
 refine own_body (plainFor_of_name own_pn1) (fun m => ef_rm7_0 m o0) ?_
 intro p e s m below meth c s₁ hx hby hlk hml hret hZ hown hnm X0 e0
 refine Rn X0 hx hby sg17_0_1 1 #[sr o0] [(.ref o0)] rfl ?_
 refine Home.st (getF X0 hx hZ hown (host := "") (Or.inl (w117 hw)) Via.refl e0 F_value_o0 rfl rfl (hb hby d17_1)) fun T1 X1 e1 => ?_
 obtain ⟨cl2, Ar2, q2, S2, M2, H2, G2⟩ := id V_p2
 refine Home.go (own_alen X1 hx hZ e1 Ar2 S2 M2 rfl rfl (hb hby d17_4)) ?_
 refine Rn X1 hx hby sg17_5_1 6 #[sr o0] [(.ref o0), (.int (own_n l_1))] rfl ?_
 refine Home.st (own_pure (own_virtual X1 hx hZ hown (w118 hw) (w119 hw) (notFace_of_selects (args := #[]) (mvT hZ (w121 hw))) (w121 hw) (w120 hw) (w1 hw) (w122 hw) (by decide) (rm18_0 l Z a0 hw [] o0 sv_COMPACT_STRINGS h0 n0 O0 S_COMPACT_STRINGS hCS F_coder_o0) e1 E_o0 rfl (by rw [hml]; rfl) (argsL := []) (rest := [(.int (own_n l_1))]) (lenOf own_pd23 rfl) rfl rfl (W := 1) (hb hby d17_6))) fun T3 X3 e3 => ?_
 refine Rn X3 hx hby sg17_9_1 10 #[sr o0] [(.int ((own_n l_1) >>> ((0 : Int32) &&& 31)))] rfl ?_
 rw [own_shr0]
 exact Home.retI X3 hx hlk hret (hb hby d17_10) ⟨rfl, rfl, e3⟩ (by decide) (by decide)
theorem rm34_0 (l : Launch) (Z : State) (a0 : Array Value) (hw : HW a0 Z) (ws : List Jvm.Cond) (o0 : Addr) (sv_COMPACT_STRINGS : Int32) (h0 : Heap) (n0 : Nat) (O0 : Old Z n0 h0) (S_COMPACT_STRINGS : Sta Z Z.heap "java/lang/String" "COMPACT_STRINGS" "Z" (.int sv_COMPACT_STRINGS)) (hCS : ¬ (sv_COMPACT_STRINGS = (0 : Int32))) (F_coder_o0 : Fld Z h0 o0 "java/lang/String" "coder" "B" (.int 0)) :
    Con l Z (⟨"java/lang/String", "isLatin1", "()Z"⟩ : MethodName) jdk_42_method_154_code 1 (some .boolean) ws ({ frames := 0, cells := 0, slots := 0, locals := 0 } : Room) #[(.ref o0)] h0 (Pur (some (.int 1)) h0) := by
 refine own_body (plainFor_of_name own_pn1) (fun m => ef_rm7_0 m o0) ?_
 intro p e s m below meth c s₁ hx hby hlk hml hret hZ hown hnm X0 e0
 refine Home.st (getS2 X0 hx hZ hown (host := "") (Or.inl (w123 hw)) Via.refl e0 (S_COMPACT_STRINGS.ext O0.2) rfl (hb hby d34_0)) fun T1 X1 e1 => ?_
 refine Home.go (fun _ => XS.ifNo X1.here hx rfl (hb hby d34_3) rfl ((if0 _ _).trans (feq hCS).1)) ?_
 refine Rn X1 hx hby sg34_6_1 7 #[sr o0] [(.ref o0)] rfl ?_
 refine Home.st (getF X1 hx hZ hown (host := "") (Or.inl (w124 hw)) Via.refl e1 F_coder_o0 rfl rfl (hb hby d34_7)) fun T2 X2 e2 => ?_
 refine Home.go (fun _ => XS.ifNo X2.here hx rfl (hb hby d34_10) rfl ((if0 _ _).trans (teq (by decide)).2)) ?_
 refine Rn X2 hx hby sg34_13_2 18 #[sr o0] [(.int 1)] rfl ?_
 exact Home.retN X2 hx hlk (t := .boolean) hret (by simp) (hb hby d34_18) ⟨congrArg some (congrArg Value.int (by first | rfl | exact nar_i2c _ | exact nar_i2b _)), rfl, e2⟩ (by decide) (by decide)
theorem rm37_0 (l : Launch) (Z : State) (a0 : Array Value) (hw : HW a0 Z) (ws : List Jvm.Cond) (i0 : Int32) (o2 : Value) (l_1 : List Int32) (h0 : Heap) (n0 : Nat) (O0 : Old Z n0 h0) (bnd_i0 : ¬ i0 < (0 : Int32) ∧ ¬ (37 : Int32) < i0) (pt0 : i0 < (own_n l_1)) (sh_l_1 : l_1.length ≤ 38) (isr_o2 : o2.isRef = true) :
    Con l Z (⟨"jdk/internal/util/Preconditions", "checkIndex", "(IILjava/util/function/BiFunction;)I"⟩ : MethodName) jdk_41_method_11_code 3 (some .int) ws ({ frames := 0, cells := 0, slots := 0, locals := 0 } : Room) #[(.int i0), (.int (own_n l_1)), o2] h0 (Pur (some (.int i0)) h0) := by
 refine own_body (plainFor_of_name own_pn11) (fun m => ef_rm37_0 m i0 (own_n l_1) o2 (isr_o2)) ?_
 intro p e s m below meth c s₁ hx hby hlk hml hret hZ hown hnm X0 e0
 refine Rn X0 hx hby sg37_0_1 1 #[si i0, .val (.int (own_n l_1)), .val o2] [(.int i0)] rfl ?_
 refine Home.go (fun _ => XS.ifNo X0.here hx rfl (hb hby d37_1) rfl ((if0 _ _).trans (flt (bnd_nlt bnd_i0 (bnd_lit (0 : Int32)) (by decide +kernel))).1)) ?_
 refine Rn X0 hx hby sg37_4_2 6 #[si i0, .val (.int (own_n l_1)), .val o2] [(.int (own_n l_1)), (.int i0)] rfl ?_
 refine Home.go (fun _ => XS.icmpYes X0.here hx rfl (pc0 := 6) (pc' := 16) rfl (hb hby d37_6) rfl (tlt pt0).1 (by decide) (by decide)) ?_
 refine Rn X0 hx hby sg37_16_1 17 #[si i0, .val (.int (own_n l_1)), .val o2] [(.int i0)] rfl ?_
 exact Home.retI X0 hx hlk hret (hb hby d37_17) ⟨rfl, rfl, e0⟩ (by decide) (by decide)
theorem rm36_0 (l : Launch) (Z : State) (a0 : Array Value) (hw : HW a0 Z) (ws : List Jvm.Cond) (i0 : Int32) (l_1 : List Int32) (sv_SIOOBE_FORMATTER : Value) (h0 : Heap) (n0 : Nat) (O0 : Old Z n0 h0) (bnd_i0 : ¬ i0 < (0 : Int32) ∧ ¬ (37 : Int32) < i0) (pt0 : i0 < (own_n l_1)) (sh_l_1 : l_1.length ≤ 38) (S_SIOOBE_FORMATTER : Sta Z Z.heap "jdk/internal/util/Preconditions" "SIOOBE_FORMATTER" "Ljava/util/function/BiFunction;" sv_SIOOBE_FORMATTER) (isr_sv_SIOOBE_FORMATTER : sv_SIOOBE_FORMATTER.isRef = true) :
    Con l Z (⟨"java/lang/String", "checkIndex", "(II)V"⟩ : MethodName) jdk_42_method_155_code 2 none ws ({ frames := 1, cells := 0, slots := 0, locals := 14 } : Room) #[(.int i0), (.int (own_n l_1))] h0 (Pur none h0) := by
 refine own_body (plainFor_of_name own_pn1) (fun m => ef_rm44_0 m i0 (own_n l_1)) ?_
 intro p e s m below meth c s₁ hx hby hlk hml hret hZ hown hnm X0 e0
 refine Rn X0 hx hby sg36_0_2 2 #[si i0, .val (.int (own_n l_1))] [(.int (own_n l_1)), (.int i0)] rfl ?_
 refine Home.st (getS2 X0 hx hZ hown (host := "") (Or.inl (w208 hw)) Via.refl e0 (S_SIOOBE_FORMATTER.ext O0.2) rfl (hb hby d36_2)) fun T1 X1 e1 => ?_
 refine Home.st (own_pure (own_static X1 hx hZ hown (w210 hw) (w211 hw) (w209 hw) (w212 hw) (by decide) (rm37_0 l Z a0 hw [] i0 sv_SIOOBE_FORMATTER l_1 h0 n0 O0 bnd_i0 pt0 (Nat.le_trans (own_len_le sh_l_1).2 (by decide)) isr_sv_SIOOBE_FORMATTER) e1 rfl (by rw [hml]; rfl) (argsL := [(.int i0), (.int (own_n l_1)), sv_SIOOBE_FORMATTER]) (rest := []) (lenOf own_pd36 rfl) rfl rfl (W := 0) (hb hby d36_5))) fun T2 X2 e2 => ?_
 refine Rn X2 hx hby sg36_8_1 9 #[si i0, .val (.int (own_n l_1))] [] rfl ?_
 exact Home.ret0 X2 hx hlk hret (hb hby d36_9) ⟨rfl, rfl, e2⟩ (by decide) (by decide)
theorem rm35_0 (l : Launch) (Z : State) (a0 : Array Value) (hw : HW a0 Z) (ws : List Jvm.Cond) (o0 : Addr) (i1 : Int32) (k_o0 : ClassId) (l_1 : List Int32) (sv_SIOOBE_FORMATTER : Value) (h0 : Heap) (n0 : Nat) (O0 : Old Z n0 h0) (bnd_i1 : ¬ i1 < (0 : Int32) ∧ ¬ (37 : Int32) < i1) (pt0 : i1 < (own_n l_1)) (sh_l_1 : l_1.length ≤ 38) (V_o0 : Arv Z h0 o0 k_o0 .byte (own_n l_1) (List.map Value.int l_1) (.int 0)) (S_SIOOBE_FORMATTER : Sta Z Z.heap "jdk/internal/util/Preconditions" "SIOOBE_FORMATTER" "Ljava/util/function/BiFunction;" sv_SIOOBE_FORMATTER) (isr_sv_SIOOBE_FORMATTER : sv_SIOOBE_FORMATTER.isRef = true) :
    Con l Z (⟨"java/lang/StringLatin1", "charAt", "([BI)C"⟩ : MethodName) jdk_43_method_2_code 2 (some .char) ws ({ frames := 2, cells := 0, slots := 0, locals := 27 } : Room) #[(.ref o0), (.int i1)] h0 (Pur (some (.int ((own_at l_1 i1) &&& (255 : Int32)))) h0) := by
 refine own_body (plainFor_of_name own_pn0) (fun m => ef_rm50_0 m o0 i1) ?_
 intro p e s m below meth c s₁ hx hby hlk hml hret hZ hown hnm X0 e0
 refine Rn X0 hx hby sg35_0_2 2 #[sr o0, si i1] [(.ref o0), (.int i1)] rfl ?_
 obtain ⟨cl1, Ar1, q1, S1, M1, H1, G1⟩ := id V_o0
 refine Home.go (own_alen X0 hx hZ e0 Ar1 S1 M1 rfl rfl (hb hby d35_2)) ?_
 refine Home.st (own_pure (own_static X0 hx hZ hown (w205 hw) (w206 hw) (w1 hw) (w207 hw) (by decide) (rm36_0 l Z a0 hw [] i1 l_1 sv_SIOOBE_FORMATTER h0 n0 O0 bnd_i1 pt0 (Nat.le_trans (own_len_le sh_l_1).2 (by decide)) S_SIOOBE_FORMATTER isr_sv_SIOOBE_FORMATTER) e0 rfl (by rw [hml]; rfl) (argsL := [(.int i1), (.int (own_n l_1))]) (rest := []) (lenOf own_pd31 rfl) rfl rfl (W := 0) (hb hby d35_3))) fun T2 X2 e2 => ?_
 refine Rn X2 hx hby sg35_6_2 8 #[sr o0, si i1] [(.int i1), (.ref o0)] rfl ?_
 obtain ⟨cl3, Ar3, q3, S3, M3, H3, G3⟩ := id V_o0
 have ib3 : ¬ (i1 < 0 ∨ cl3.slots.size ≤ (i1).toNatClampNeg) := inb_of S3 ⟨(bnd_nlt bnd_i1 (bnd_lit (0 : Int32)) (by decide +kernel)), pt0⟩
 refine Home.go (X2.baloadBytes hx (j := i1) (v := .int (own_at l_1 i1)) (by rw [e2]; exact Ar3.1) (State.isArrayOf_alike hZ.alike Ar3.2.1) Ar3.2.2 ib3 (Has.at H3 ib3 (own_getD l_1 _)) rfl rfl (hb hby d35_8)) ?_
 refine Rn X2 hx hby sg35_9_3 14 #[sr o0, si i1] [(.int (((own_at l_1 i1) &&& (255 : Int32)).toUInt32.toUInt16.toUInt32.toInt32))] rfl ?_
 rw [i2c_id (bnd_and (own_at l_1 i1) (255 : Int32) (by decide)) (by decide +kernel) (by decide +kernel)]
 exact Home.retN X2 hx hlk (t := .char) hret (by simp) (hb hby d35_14) ⟨congrArg some (congrArg Value.int (by first | rfl | exact nar_i2c _ | exact nar_i2b _ | exact nar_char_id (bnd_and (own_at l_1 i1) (255 : Int32) (by decide)) (by decide +kernel) (by decide +kernel))), rfl, e2⟩ (by decide) (by decide)
theorem rm33_0 (l : Launch) (Z : State) (a0 : Array Value) (hw : HW a0 Z) (ws : List Jvm.Cond) (o0 : Addr) (i1 sv_COMPACT_STRINGS : Int32) (p2 : Addr) (k_p2 : ClassId) (l_1 : List Int32) (sv_SIOOBE_FORMATTER : Value) (h0 : Heap) (n0 : Nat) (O0 : Old Z n0 h0) (bnd_i1 : ¬ i1 < (0 : Int32) ∧ ¬ (37 : Int32) < i1) (pt0 : i1 < (own_n l_1)) (sh_l_1 : l_1.length ≤ 38) (E_o0 : Exa Z h0 o0 "java/lang/String") (S_COMPACT_STRINGS : Sta Z Z.heap "java/lang/String" "COMPACT_STRINGS" "Z" (.int sv_COMPACT_STRINGS)) (F_coder_o0 : Fld Z h0 o0 "java/lang/String" "coder" "B" (.int 0)) (hCS : ¬ (sv_COMPACT_STRINGS = (0 : Int32))) (F_value_o0 : Fld Z h0 o0 "java/lang/String" "value" "[B" (.ref p2)) (V_p2 : Arv Z h0 p2 k_p2 .byte (own_n l_1) (List.map Value.int l_1) (.int 0)) (S_SIOOBE_FORMATTER : Sta Z Z.heap "jdk/internal/util/Preconditions" "SIOOBE_FORMATTER" "Ljava/util/function/BiFunction;" sv_SIOOBE_FORMATTER) (isr_sv_SIOOBE_FORMATTER : sv_SIOOBE_FORMATTER.isRef = true) :
    Con l Z (⟨"java/lang/String", "charAt", "(I)C"⟩ : MethodName) jdk_42_method_56_code 2 (some .char) ws ({ frames := 3, cells := 0, slots := 0, locals := 40 } : Room) #[(.ref o0), (.int i1)] h0 (Pur (some (.int ((own_at l_1 i1) &&& (255 : Int32)))) h0) := by
 refine own_body (plainFor_of_name own_pn1) (fun m => ef_rm50_0 m o0 i1) ?_
 intro p e s m below meth c s₁ hx hby hlk hml hret hZ hown hnm X0 e0
 refine Rn X0 hx hby sg33_0_1 1 #[sr o0, si i1] [(.ref o0)] rfl ?_
 refine Home.st (own_pure (own_virtual X0 hx hZ hown (w196 hw) (w197 hw) (notFace_of_selects (args := #[]) (mvT hZ (w199 hw))) (w199 hw) (w198 hw) (w1 hw) (w200 hw) (by decide) (rm34_0 l Z a0 hw [] o0 sv_COMPACT_STRINGS h0 n0 O0 S_COMPACT_STRINGS hCS F_coder_o0) e0 E_o0 rfl (by rw [hml]; rfl) (argsL := []) (rest := []) (lenOf own_pd19 rfl) rfl rfl (W := 0) (hb hby d33_1))) fun T1 X1 e1 => ?_
 refine Home.go (fun _ => XS.ifNo X1.here hx rfl (hb hby d33_4) rfl ((if0 _ _).trans (feq (by decide)).1)) ?_
 refine Rn X1 hx hby sg33_7_1 8 #[sr o0, si i1] [(.ref o0)] rfl ?_
 refine Home.st (getF X1 hx hZ hown (host := "") (Or.inl (w117 hw)) Via.refl e1 F_value_o0 rfl rfl (hb hby d33_8)) fun T2 X2 e2 => ?_
 refine Rn X2 hx hby sg33_11_1 12 #[sr o0, si i1] [(.int i1), (.ref p2)] rfl ?_
 refine Home.st (own_pure (own_static X2 hx hZ hown (w201 hw) (w202 hw) (w203 hw) (w204 hw) (by decide) (rm35_0 l Z a0 hw [] p2 i1 k_p2 l_1 sv_SIOOBE_FORMATTER h0 n0 O0 bnd_i1 pt0 (Nat.le_trans (own_len_le sh_l_1).2 (by decide)) V_p2 S_SIOOBE_FORMATTER isr_sv_SIOOBE_FORMATTER) e2 rfl (by rw [hml]; rfl) (argsL := [(.ref p2), (.int i1)]) (rest := []) (lenOf own_pd37 rfl) rfl rfl (W := 0) (hb hby d33_12))) fun T3 X3 e3 => ?_
 exact Home.retN X3 hx hlk (t := .char) hret (by simp) (hb hby d33_15) ⟨congrArg some (congrArg Value.int (by first | rfl | exact nar_i2c _ | exact nar_i2b _ | exact nar_char_id (bnd_and (own_at l_1 i1) (255 : Int32) (by decide)) (by decide +kernel) (by decide +kernel))), rfl, e3⟩ (by decide) (by decide)
theorem rm32_0 (l : Launch) (Z : State) (a0 : Array Value) (hw : HW a0 Z) (ws : List Jvm.Cond) (o0 o1 : Addr) (i3 : Int32) (l_1 l_2 : List Int32) (sv_COMPACT_STRINGS : Int32) (p3 : Addr) (k_p3 : ClassId) (sv_SIOOBE_FORMATTER : Value) (k_o1 : ClassId) (h0 : Heap) (n0 : Nat) (O0 : Old Z n0 h0) (bnd_i3 : ¬ i3 < (0 : Int32) ∧ ¬ (39 : Int32) < i3) (heq : (own_n l_2) = (own_n l_1)) (sh_l_1 : l_1.length ≤ 38) (sh_l_2 : l_2.length ≤ 38) (E_o0 : Exa Z h0 o0 "java/lang/String") (S_COMPACT_STRINGS : Sta Z Z.heap "java/lang/String" "COMPACT_STRINGS" "Z" (.int sv_COMPACT_STRINGS)) (F_coder_o0 : Fld Z h0 o0 "java/lang/String" "coder" "B" (.int 0)) (F_value_o0 : Fld Z h0 o0 "java/lang/String" "value" "[B" (.ref p3)) (V_p3 : Arv Z h0 p3 k_p3 .byte (own_n l_2) (List.map Value.int l_2) (.int 0)) (S_SIOOBE_FORMATTER : Sta Z Z.heap "jdk/internal/util/Preconditions" "SIOOBE_FORMATTER" "Ljava/util/function/BiFunction;" sv_SIOOBE_FORMATTER) (hCS : ¬ (sv_COMPACT_STRINGS = (0 : Int32))) (isr_sv_SIOOBE_FORMATTER : sv_SIOOBE_FORMATTER.isRef = true) (V_o1 : Arv Z h0 o1 k_o1 .char (40 : Int32) (List.map Value.int l_1) (.int 0)) :
    Con l Z (⟨"com/example/token_relay/tokenrelay/MemberToStringPinLaw", "at", "(Ljava/lang/String;[CII)Z"⟩ : MethodName) method_3_code 4 (some .boolean) ws ({ frames := 4, cells := 0, slots := 0, locals := 53 } : Room) #[(.ref o0), (.ref o1), (.int (own_n l_1)), (.int i3)] h0 (Pur (some (.int (f_rm32_0 i3 l_1 l_2))) h0) := by
 refine own_body (plainFor_of_name own_pn3) (fun m => ef_rm21_0 m o0 o1 (own_n l_1) i3) ?_
 intro p e s m below meth c s₁ hx hby hlk hml hret hZ hown hnm X0 e0
 refine Rn X0 hx hby sg32_0_2 2 #[sr o0, sr o1, .val (.int (own_n l_1)), si i3] [(.int (own_n l_1)), (.int i3)] rfl ?_
 suffices J6 : ∀ {T : State} (X : Stand p l e ({ frames := 4, cells := 0, slots := 0, locals := 53 } : Room) s m #[(.ref o0), (.ref o1), (.int (own_n l_1)), (.int i3)] below meth c T [] 0 0) (eT : T.heap = h0) (v7 : Int32) (hv7 : v7 = (if i3 < (own_n l_1) then (if ((own_at l_2 i3) &&& (255 : Int32)) = (own_at l_1 i3) then (1 : Int32) else (0 : Int32)) else (1 : Int32))), @Home p e below _ T (mkF m 21 #[sr o0, sr o1, .val (.int (own_n l_1)), si i3] [(.int v7)]) by
  by_cases c1 : i3 < (own_n l_1)
  ·
   refine Home.go (fun _ => XS.icmpNo X0.here hx rfl (hb hby d32_2) rfl (tlt c1).2.1) ?_
   have bd2 : ¬ i3 < (0 : Int32) ∧ ¬ (37 : Int32) < i3 := ⟨bnd_i3.1, bnd_lt2 c1 (own_n_b (a := 0) (b := 38) (own_len_le sh_l_1) (lo := (0 : Int32)) (hi := (38 : Int32)) (by decide) (by decide) (by decide)).2 (by decide +kernel)⟩
   refine Rn X0 hx hby sg32_5_2 7 #[sr o0, sr o1, .val (.int (own_n l_1)), si i3] [(.int i3), (.ref o0)] rfl ?_
   refine Home.st (own_pure (own_virtual X0 hx hZ hown (w191 hw) (w192 hw) (notFace_of_selects (args := #[]) (mvT hZ (w194 hw))) (w194 hw) (w193 hw) (w1 hw) (w195 hw) (by decide) (rm33_0 l Z a0 hw [] o0 i3 sv_COMPACT_STRINGS p3 k_p3 l_2 sv_SIOOBE_FORMATTER h0 n0 O0 bd2 (by rw [(heq : (own_n l_2) = (own_n l_1))]; exact c1) (Nat.le_trans (own_len_le sh_l_2).2 (by decide)) E_o0 S_COMPACT_STRINGS F_coder_o0 hCS F_value_o0 V_p3 S_SIOOBE_FORMATTER isr_sv_SIOOBE_FORMATTER) e0 E_o0 rfl (by rw [hml]; rfl) (argsL := [(.int i3)]) (rest := []) (lenOf own_pd38 rfl) rfl rfl (W := 0) (hb hby d32_7))) fun T3 X3 e3 => ?_
   refine Rn X3 hx hby sg32_10_2 12 #[sr o0, sr o1, .val (.int (own_n l_1)), si i3] [(.int i3), (.ref o1), (.int ((own_at l_2 i3) &&& (255 : Int32)))] rfl ?_
   obtain ⟨cl4, Ar4, q4, S4, M4, H4, G4⟩ := id V_o1
   have ib4 : ¬ (i3 < 0 ∨ cl4.slots.size ≤ (i3).toNatClampNeg) := inb_of S4 ⟨(bnd_nlt bd2 (bnd_lit (0 : Int32)) (by decide +kernel)), (bnd_lt bd2 (bnd_lit (40 : Int32)) (by decide +kernel))⟩
   refine Home.go (X3.caload hx (j := i3) (v := .int (own_at l_1 i3)) (by rw [e3]; exact Ar4.1) (State.isArrayOf_alike hZ.alike Ar4.2.1) Ar4.2.2 ib4 (Has.at H4 ib4 (own_getD l_1 _)) rfl rfl (hb hby d32_12)) ?_
   by_cases c5 : ((own_at l_2 i3) &&& (255 : Int32)) = (own_at l_1 i3)
   ·
    refine Home.go (fun _ => XS.icmpNo X3.here hx rfl (hb hby d32_13) rfl (teq c5).2) ?_
    refine Rn X3 hx hby sg32_16_2 21 #[sr o0, sr o1, .val (.int (own_n l_1)), si i3] [(.int 1)] rfl ?_
    exact J6 X3 e3 _ (by simp only [if_pos c1, if_pos c5])
   ·
    refine Home.go (fun _ => XS.icmpYes X3.here hx rfl (pc0 := 13) (pc' := 20) rfl (hb hby d32_13) rfl (feq c5).2 (by decide) (by decide)) ?_
    refine Rn X3 hx hby sg32_20_1 21 #[sr o0, sr o1, .val (.int (own_n l_1)), si i3] [(.int 0)] rfl ?_
    exact J6 X3 e3 _ (by simp only [if_pos c1, if_neg c5])
  ·
   refine Home.go (fun _ => XS.icmpYes X0.here hx rfl (pc0 := 2) (pc' := 16) rfl (hb hby d32_2) rfl (flt c1).2.1 (by decide) (by decide)) ?_
   refine Rn X0 hx hby sg32_16_2 21 #[sr o0, sr o1, .val (.int (own_n l_1)), si i3] [(.int 1)] rfl ?_
   exact J6 X0 e0 _ (by simp only [if_neg c1])
 intro TJ6 XJ6 eJ6 v7 hv7
 have bv7 : ¬ v7 < (0 : Int32) ∧ ¬ (1 : Int32) < v7 := by rw [hv7]; exact (bnd_ite (bnd_ite (bnd_mono (bnd_lit (1 : Int32)) (by decide +kernel) (by decide +kernel)) (bnd_mono (bnd_lit (0 : Int32)) (by decide +kernel) (by decide +kernel))) (bnd_mono (bnd_lit (1 : Int32)) (by decide +kernel) (by decide +kernel)))
 show Home TJ6 (mkF m 21 #[sr o0, sr o1, .val (.int (own_n l_1)), si i3] [(.int v7)])
 exact Home.retN XJ6 hx hlk (t := .boolean) hret (by simp) (hb hby d32_21) ⟨congrArg some (congrArg Value.int (by subst hv7; first | rfl | (simp only [f_rm32_0, nar_bool_id bv7 (by decide +kernel) (by decide +kernel), nar_i2c, nar_i2b] <;> rfl) | (simp [f_rm32_0, nar_bool_id bv7 (by decide +kernel) (by decide +kernel)]; done))), rfl, eJ6⟩ (by decide) (by decide)
theorem f_rm32_0_bnd (i3 : Int32) (l_1 : List Int32) (l_2 : List Int32) (bnd_i3 : ¬ i3 < (0 : Int32) ∧ ¬ (39 : Int32) < i3) : ¬ (f_rm32_0 i3 l_1 l_2) < (0 : Int32) ∧ ¬ (1 : Int32) < (f_rm32_0 i3 l_1 l_2) := by unfold f_rm32_0; (repeat' split) <;> first | exact bnd_mono (bnd_lit (1 : Int32)) (by decide +kernel) (by decide +kernel) | exact bnd_mono (bnd_lit (0 : Int32)) (by decide +kernel) (by decide +kernel)
theorem own_by {x : Int32} (h : ¬ x < (0 : Int32) ∧ ¬ (255 : Int32) < x) : ∃ n, n < 256 ∧ x = Int32.ofNat n := by
  simp only [Int32.lt_iff_toInt_lt] at h
  have e0 : (0 : Int32).toInt = 0 := rfl
  have e1 : (255 : Int32).toInt = 255 := rfl
  rw [e0, e1] at h
  refine ⟨x.toInt.toNat, by omega, ?_⟩
  rw [← Int32.toInt_inj, Int32.toInt_ofNat_small (by omega)]
  omega
theorem own_bN : ∀ n < 256, (Int32.ofNat n).toInt8.toInt32 &&& (255 : Int32) = Int32.ofNat n := by decide +kernel
theorem own_b255 {x : Int32} (h : ¬ x < (0 : Int32) ∧ ¬ (255 : Int32) < x) : x.toInt8.toInt32 &&& (255 : Int32) = x := by
  obtain ⟨n, hn, rfl⟩ := own_by h
  exact own_bN n hn
theorem own_f48 : ∀ k < 10, Int32.ofNat (48 + k) &&& (255 : Int32) = Int32.ofNat (48 + k) := by decide +kernel
theorem own_D_fix (m : Nat) : (own_D m).map (fun x => x &&& (255 : Int32)) = own_D m := by
  by_cases q : m < 10
  · rw [own_D_lo q, List.map_cons, List.map_nil, own_f48 m q]
  · rw [own_D_hi q, List.map_append, own_D_fix (m / 10), List.map_cons, List.map_nil, own_f48 (m % 10) (Nat.mod_lt _ (by decide))]
termination_by m
decreasing_by omega
theorem own_put_fix (x : Int32) : (own_put x).map (fun x => x &&& (255 : Int32)) = own_put x := by
  rw [own_put_is, List.map_append, own_D_fix]
  unfold own_sgn
  split
  · rw [List.map_cons, List.map_nil, show (45 : Int32) &&& (255 : Int32) = 45 from by decide]
  · rfl
theorem own_hb_fix {n v c0 c1 : Int32} (hn : n = (if v = (0 : Int32) then (0 : Int32) else (if v = (1 : Int32) then (1 : Int32) else (2 : Int32)))) (h0 : ¬ c0 < (0 : Int32) ∧ ¬ (255 : Int32) < c0) (h1 : ¬ c1 < (0 : Int32) ∧ ¬ (255 : Int32) < c1) : (own_hb n c0 c1).map (fun x => x &&& (255 : Int32)) = own_hc n c0 c1 := by
  have e0 := own_b255 h0
  have e1 := own_b255 h1
  by_cases a : v = 0
  · rw [if_pos a] at hn; subst hn; unfold own_hb own_hc; simp +decide
  · by_cases b : v = 1
    · rw [if_neg a, if_pos b] at hn; subst hn; unfold own_hb own_hc; simp +decide [e0]
    · rw [if_neg a, if_neg b] at hn; subst hn; unfold own_hb own_hc; simp +decide [e0, e1]
theorem own_atmap (l : List Int32) (j : Int32) : own_at l j &&& (255 : Int32) = own_at (l.map (fun x => x &&& (255 : Int32))) j := by
  unfold own_at
  simp only [List.getD_eq_getElem?_getD, List.getElem?_map]
  cases l[j.toNatClampNeg]? <;> simp
theorem own_rel {i0 i2 i3 n v c0 c1 : Int32} (hn : n = (if v = (0 : Int32) then (0 : Int32) else (if v = (1 : Int32) then (1 : Int32) else (2 : Int32)))) (h0 : ¬ c0 < (0 : Int32) ∧ ¬ (255 : Int32) < c0) (h1 : ¬ c1 < (0 : Int32) ∧ ¬ (255 : Int32) < c1) : (cs_rm6_0 i0 (own_hb n c0 c1) i2 i3).map (fun x => x &&& (255 : Int32)) = ((((((([] ++ (own_put i0)) ++ [(32 : Int32)]) ++ (own_hc n c0 c1)) ++ [(32 : Int32)]) ++ (own_put i2)) ++ [(32 : Int32)]) ++ (own_put i3)) := by
  unfold cs_rm6_0
  simp only [List.map_append, List.map_nil, List.map_cons, own_put_fix, own_hb_fix hn h0 h1, show (32 : Int32) &&& (255 : Int32) = 32 from by decide]
theorem own_eqn {a b : List Int32} (h : a.map (fun x => x &&& (255 : Int32)) = b) : own_n a = own_n b := by
  subst h; unfold own_n; rw [List.length_map]
theorem own_eqa {a b : List Int32} (h : a.map (fun x => x &&& (255 : Int32)) = b) : ∀ j < 40, f_rm32_0 (Int32.ofNat j) b a = (1 : Int32) := by
  subst h
  intro j _
  unfold f_rm32_0
  by_cases c : Int32.ofNat j < own_n (a.map (fun x => x &&& (255 : Int32)))
  · rw [if_pos c, if_pos (own_atmap a _)]
  · rw [if_neg c]
theorem own_ln86 (i0 : Int32) (i1 : Int32) (i2 : Int32) (i3 : Int32) (v1 : Int32) (hv1 : v1 = (((i1.toUInt32 >>> ((16 : Int32) &&& 31).toUInt32).toInt32) &&& (3 : Int32))) (v2 : Int32) (hv2 : v2 = (i1 &&& (255 : Int32))) (v3 : Int32) (hv3 : v3 = (((i1.toUInt32 >>> ((8 : Int32) &&& 31).toUInt32).toInt32) &&& (255 : Int32))) (v11 : Int32) (hv11 : v11 = (if v1 = (0 : Int32) then (0 : Int32) else (if v1 = (1 : Int32) then (1 : Int32) else (2 : Int32)))) (LH : List Int32) (hLH : LH = (own_hb v11 v2 v3)) (r1 : List Int32) (hr1 : r1 = ([] ++ (own_put i0))) (r2 : List Int32) (hr2 : r2 = (r1 ++ [(32 : Int32)])) (W2 : List Int32) (hW2 : W2 = (r2 ++ (own_hc v11 v2 v3))) (r3 : List Int32) (hr3 : r3 = (W2 ++ [(32 : Int32)])) (r4 : List Int32) (hr4 : r4 = (r3 ++ (own_put i2))) (r5 : List Int32) (hr5 : r5 = (r4 ++ [(32 : Int32)])) (r6 : List Int32) (hr6 : r6 = (r5 ++ (own_put i3))) (r7 : List Int32) (hr7 : r7 = (cs_rm6_0 i0 LH i2 i3)) : (own_n r7) = (own_n r6) := by
  have rel := own_rel (i0 := i0) (i2 := i2) (i3 := i3) (c0 := v2) (c1 := v3) hv11 (by rw [hv2]; exact bnd_and _ _ (by decide)) (by rw [hv3]; exact bnd_and _ _ (by decide))
  rw [← hLH, ← hr7] at rel
  rw [hr6, hr5, hr4, hr3, hW2, hr2, hr1]
  exact own_eqn rel
theorem own_all0 (i0 : Int32) (i1 : Int32) (i2 : Int32) (i3 : Int32) (v1 : Int32) (hv1 : v1 = (((i1.toUInt32 >>> ((16 : Int32) &&& 31).toUInt32).toInt32) &&& (3 : Int32))) (v2 : Int32) (hv2 : v2 = (i1 &&& (255 : Int32))) (v3 : Int32) (hv3 : v3 = (((i1.toUInt32 >>> ((8 : Int32) &&& 31).toUInt32).toInt32) &&& (255 : Int32))) (v11 : Int32) (hv11 : v11 = (if v1 = (0 : Int32) then (0 : Int32) else (if v1 = (1 : Int32) then (1 : Int32) else (2 : Int32)))) (LH : List Int32) (hLH : LH = (own_hb v11 v2 v3)) (r1 : List Int32) (hr1 : r1 = ([] ++ (own_put i0))) (r2 : List Int32) (hr2 : r2 = (r1 ++ [(32 : Int32)])) (W2 : List Int32) (hW2 : W2 = (r2 ++ (own_hc v11 v2 v3))) (r3 : List Int32) (hr3 : r3 = (W2 ++ [(32 : Int32)])) (r4 : List Int32) (hr4 : r4 = (r3 ++ (own_put i2))) (r5 : List Int32) (hr5 : r5 = (r4 ++ [(32 : Int32)])) (r6 : List Int32) (hr6 : r6 = (r5 ++ (own_put i3))) (r7 : List Int32) (hr7 : r7 = (cs_rm6_0 i0 LH i2 i3)) : ∀ j < 40, f_rm32_0 (Int32.ofNat j) r6 r7 = (1 : Int32) := by
  have rel := own_rel (i0 := i0) (i2 := i2) (i3 := i3) (c0 := v2) (c1 := v3) hv11 (by rw [hv2]; exact bnd_and _ _ (by decide)) (by rw [hv3]; exact bnd_and _ _ (by decide))
  rw [← hLH, ← hr7] at rel
  rw [hr6, hr5, hr4, hr3, hW2, hr2, hr1]
  exact own_eqa rel
theorem rm0 (l : Launch) (Z : State) (a0 : Array Value) (hw : HW a0 Z) (ws : List Jvm.Cond) (i0 i1 i2 i3 sv_COMPACT_STRINGS : Int32) (sv_DigitOnes : Addr) (k_ones : ClassId) (sv_DigitTens : Addr) (k_tens : ClassId) (sv_SIOOBE_FORMATTER : Value) (h0 : Heap) (n0 : Nat) (O0 : Old Z n0 h0) (S_COMPACT_STRINGS : Sta Z Z.heap "java/lang/String" "COMPACT_STRINGS" "Z" (.int sv_COMPACT_STRINGS)) (hCS : ¬ (sv_COMPACT_STRINGS = (0 : Int32))) (S_DigitOnes : Sta Z Z.heap "java/lang/Integer" "DigitOnes" "[B" (.ref sv_DigitOnes)) (V_ones : Arv Z Z.heap sv_DigitOnes k_ones .byte (100 : Int32) (List.map Value.int own_ones) (.int 0)) (S_DigitTens : Sta Z Z.heap "java/lang/Integer" "DigitTens" "[B" (.ref sv_DigitTens)) (V_tens : Arv Z Z.heap sv_DigitTens k_tens .byte (100 : Int32) (List.map Value.int own_tens) (.int 0)) (S_SIOOBE_FORMATTER : Sta Z Z.heap "jdk/internal/util/Preconditions" "SIOOBE_FORMATTER" "Ljava/util/function/BiFunction;" sv_SIOOBE_FORMATTER) (isr_sv_SIOOBE_FORMATTER : sv_SIOOBE_FORMATTER.isRef = true) :
    ConW l Z own_EL ([] : List Addr) false x code maxLocals ret ws room_1 #[(.int i0), (.int i1), (.int i2), (.int i3)] h0 (fun v h L => v = some (.int 1) ∧ Fr n0 L) := by
 refine own_bodyW (plainFor_of_name own_pn3) (fun m => ef_rm0 m i0 i1 i2 i3) ?_
 intro p e s m below meth c s₁ hx hby hlk hml hret hZ hown hnm X0 e0 Cd0
 have N0 := Fr.nil n0
 refine Rn X0 hx hby sg0_0_6 8 #[si i0, si i1, si i2, si i3, .val (.int (((i1.toUInt32 >>> ((16 : Int32) &&& 31).toUInt32).toInt32) &&& (3 : Int32))), un, un, un, un, un, un, un, un] [] rfl ?_
 obtain ⟨v1, hv1⟩ : ∃ z, z = (((i1.toUInt32 >>> ((16 : Int32) &&& 31).toUInt32).toInt32) &&& (3 : Int32)) := ⟨_, rfl⟩
 rw [← hv1]
 have bv1 : ¬ v1 < (0 : Int32) ∧ ¬ (3 : Int32) < v1 := by rw [hv1]; exact (bnd_and ((i1.toUInt32 >>> ((16 : Int32) &&& 31).toUInt32).toInt32) (3 : Int32) (by decide))
 refine Rn X0 hx hby sg0_8_4 14 #[si i0, si i1, si i2, si i3, si v1, un, un, un, un, un, un, un, un] [(.int ((i1 &&& (255 : Int32)).toUInt32.toUInt16.toUInt32.toInt32))] rfl ?_
 rw [i2c_id (bnd_and i1 (255 : Int32) (by decide)) (by decide +kernel) (by decide +kernel)]
 refine Rn X0 hx hby sg0_14_1 16 #[si i0, si i1, si i2, si i3, si v1, .val (.int (i1 &&& (255 : Int32))), un, un, un, un, un, un, un] [] rfl ?_
 obtain ⟨v2, hv2⟩ : ∃ z, z = (i1 &&& (255 : Int32)) := ⟨_, rfl⟩
 rw [← hv2]
 have bv2 : ¬ v2 < (0 : Int32) ∧ ¬ (255 : Int32) < v2 := by rw [hv2]; exact (bnd_and i1 (255 : Int32) (by decide))
 refine Rn X0 hx hby sg0_16_6 25 #[si i0, si i1, si i2, si i3, si v1, si v2, un, un, un, un, un, un, un] [(.int ((((i1.toUInt32 >>> ((8 : Int32) &&& 31).toUInt32).toInt32) &&& (255 : Int32)).toUInt32.toUInt16.toUInt32.toInt32))] rfl ?_
 rw [i2c_id (bnd_and ((i1.toUInt32 >>> ((8 : Int32) &&& 31).toUInt32).toInt32) (255 : Int32) (by decide)) (by decide +kernel) (by decide +kernel)]
 refine Rn X0 hx hby sg0_25_1 27 #[si i0, si i1, si i2, si i3, si v1, si v2, .val (.int (((i1.toUInt32 >>> ((8 : Int32) &&& 31).toUInt32).toInt32) &&& (255 : Int32))), un, un, un, un, un, un] [] rfl ?_
 obtain ⟨v3, hv3⟩ : ∃ z, z = (((i1.toUInt32 >>> ((8 : Int32) &&& 31).toUInt32).toInt32) &&& (255 : Int32)) := ⟨_, rfl⟩
 rw [← hv3]
 have bv3 : ¬ v3 < (0 : Int32) ∧ ¬ (255 : Int32) < v3 := by rw [hv3]; exact (bnd_and ((i1.toUInt32 >>> ((8 : Int32) &&& 31).toUInt32).toInt32) (255 : Int32) (by decide))
 refine Rn X0 hx hby sg0_27_1 29 #[si i0, si i1, si i2, si i3, si v1, si v2, si v3, un, un, un, un, un, un] [(.int v1)] rfl ?_
 suffices J10 : ∀ {T : State} (X : Stand p l e room_1 (s.setVm s.vm) m #[(.int i0), (.int i1), (.int i2), (.int i3)] below meth c T [] 0 0) (eT : T.heap = h0) (v11 : Int32) (hv11 : v11 = (if v1 = (0 : Int32) then (0 : Int32) else (if v1 = (1 : Int32) then (1 : Int32) else (2 : Int32)))), @Home p e below _ T (mkF m 47 #[si i0, si i1, si i2, si i3, si v1, si v2, si v3, un, un, un, un, un, un] [(.int v11)]) by
  by_cases c4 : v1 = (0 : Int32)
  ·
   refine Home.go (fun _ => XS.ifNo X0.here hx rfl (hb hby at_29) rfl ((if0 _ _).trans (teq c4).2)) ?_
   refine Rn X0 hx hby sg0_32_2 47 #[si i0, si i1, si i2, si i3, si v1, si v2, si v3, un, un, un, un, un, un] [(.int 0)] rfl ?_
   exact J10 X0 e0 _ (by simp only [if_pos c4])
  ·
   refine Home.go (fun _ => XS.ifYes X0.here hx rfl (pc0 := 29) (pc' := 36) rfl (hb hby at_29) rfl ((if0 _ _).trans (feq c4).2) (by decide) (by decide)) ?_
   refine Rn X0 hx hby sg0_36_2 39 #[si i0, si i1, si i2, si i3, si v1, si v2, si v3, un, un, un, un, un, un] [(.int 1), (.int v1)] rfl ?_
   by_cases c7 : v1 = (1 : Int32)
   ·
    refine Home.go (fun _ => XS.icmpNo X0.here hx rfl (hb hby at_39) rfl (teq c7).2) ?_
    refine Rn X0 hx hby sg0_42_2 47 #[si i0, si i1, si i2, si i3, si v1, si v2, si v3, un, un, un, un, un, un] [(.int 1)] rfl ?_
    exact J10 X0 e0 _ (by simp only [if_neg c4, if_pos c7])
   ·
    refine Home.go (fun _ => XS.icmpYes X0.here hx rfl (pc0 := 39) (pc' := 46) rfl (hb hby at_39) rfl (feq c7).2 (by decide) (by decide)) ?_
    refine Rn X0 hx hby sg0_46_1 47 #[si i0, si i1, si i2, si i3, si v1, si v2, si v3, un, un, un, un, un, un] [(.int 2)] rfl ?_
    exact J10 X0 e0 _ (by simp only [if_neg c4, if_neg c7])
 intro TJ10 XJ10 eJ10 v11 hv11
 have bv11 : ¬ v11 < (0 : Int32) ∧ ¬ (2 : Int32) < v11 := by rw [hv11]; exact (bnd_ite (bnd_mono (bnd_lit (0 : Int32)) (by decide +kernel) (by decide +kernel)) (bnd_ite (bnd_mono (bnd_lit (1 : Int32)) (by decide +kernel) (by decide +kernel)) (bnd_mono (bnd_lit (2 : Int32)) (by decide +kernel) (by decide +kernel))))
 show Home TJ10 (mkF m 47 #[si i0, si i1, si i2, si i3, si v1, si v2, si v3, un, un, un, un, un, un] [(.int v11)])
 refine Rn XJ10 hx hby sg0_47_1 49 #[si i0, si i1, si i2, si i3, si v1, si v2, si v3, si v11, un, un, un, un, un] [] rfl ?_
 refine Home.cut (C := fun E => ∀ {vm : Vm} {T : State} {lc : List Loc} {hJ : Heap} (X : Stand p l e room_1 (s.setVm vm) m #[(.int i0), (.int i1), (.int i2), (.int i3)] below meth c T lc 3 8) (hZ : Z.Warmed39 (s.setVm vm).vm) (hown : (s.setVm vm).vm.findClass "com/example/token_relay/tokenrelay/MemberToStringPinLaw" = some m.cls) (Cd : Cold Z own_EL s ([] : List Addr) vm hJ) (N : Fr n0 lc) (eT : T.heap = hJ) (K : Keep h0 hJ ([] : List Addr)) (host hba : Addr) (kh : ClassId) (LH : List Int32) (hLH : LH = own_hb v11 v2 v3) (Eh : Exa Z hJ host "java/lang/String") (Fc : Fld Z hJ host "java/lang/String" "coder" "B" (.int 0)) (Fv : Fld Z hJ host "java/lang/String" "value" "[B" (.ref hba)) (Vh : Arv Z hJ hba kh .byte (own_n LH) (List.map Value.int LH) (.int 0)), @Home p e below E T (mkF m 99 #[si i0, si i1, si i2, si i3, si v1, si v2, si v3, si v11, sr host, un, un, un, un] [])) (fun _ J12 => ?_) ?_
 ·
  refine Rn XJ10 hx hby sg0_49_1 51 #[si i0, si i1, si i2, si i3, si v1, si v2, si v3, si v11, un, un, un, un, un] [(.int v11)] rfl ?_
  by_cases c13 : v11 = (0 : Int32)
  ·
   refine Home.go (fun _ => XS.ifNo XJ10.here hx rfl (hb hby at_51) rfl ((if0 _ _).trans (teq c13).2)) ?_
   obtain ⟨ad16, b16, k16, T16, h16, X16, e16, E16, hZ, hown, Cd16, Ea16, Fc16, Fv16, V16, la16, lb16, hne16, Li16, st16⟩ := own_ldcL XJ10 hx hZ hown (own_hEL hw) Cd0 (w0 hw) (own_wS hw) eJ10 (List.mem_of_getElem? (i := 2) rfl) (vs := []) (z := (0 : Int32)) ⟨by decide, by rfl⟩ (by decide) (by decide) (g := (mkF m 54 #[.val (.int i0), .val (.int i1), .val (.int i2), .val (.int i3), .val (.int v1), .val (.int v2), .val (.int v3), .val (.int v11), .unset, .unset, .unset, .unset, .unset] [])) rfl (hb hby at_54) (n := 0) (by decide) (by decide) (by decide) (by decide)
   refine Home.go st16 ?_
   have K16 : Keep h0 h16 ([] : List Addr) := Keep.ext (Keep.refl h0 ([] : List Addr)) E16
   refine Rn X16 hx hby sg0_56_2 99 #[si i0, si i1, si i2, si i3, si v1, si v2, si v3, si v11, sr ad16, un, un, un, un] [] rfl ?_
   exact J12 (X16.mono (by decide) (by decide)) hZ hown (Cold.nil Cd16) N0 e16 K16 ad16 b16 k16 ([] : List Int32) (by unfold own_hb; rw [if_pos c13]) Ea16 Fc16 Fv16 (Arv.lst V16 (cs := []) (cs' := []) rfl rfl rfl)
  ·
   refine Home.go (fun _ => XS.ifYes XJ10.here hx rfl (pc0 := 51) (pc' := 61) rfl (hb hby at_51) rfl ((if0 _ _).trans (feq c13).2) (by decide) (by decide)) ?_
   refine Rn XJ10 hx hby sg0_61_2 64 #[si i0, si i1, si i2, si i3, si v1, si v2, si v3, si v11, un, un, un, un, un] [(.int 1), (.int v11)] rfl ?_
   by_cases c17 : v11 = (1 : Int32)
   ·
    refine Home.go (fun _ => XS.icmpNo XJ10.here hx rfl (hb hby at_64) rfl (teq c17).2) ?_
    refine Rn XJ10 hx hby sg0_67_1 69 #[si i0, si i1, si i2, si i3, si v1, si v2, si v3, si v11, un, un, un, un, un] [(.int v2)] rfl ?_
    refine Home.call (own_static XJ10 hx hZ hown (w214 hw) (w215 hw) (w1 hw) (w216 hw) (by decide) (rm38_0 l Z a0 hw [] v2 sv_COMPACT_STRINGS h0 n0 O0 bv2 S_COMPACT_STRINGS hCS) eJ10 rfl (by rw [hml]; rfl) (argsL := [(.int v2)]) (rest := []) (lenOf own_pd3 rfl) rfl rfl (W := 0) (hb hby at_69)) ?_
    rintro _ T20 L20 X20 ⟨b3_20, b1_4_20, k1_4_20, rfl, N20q, sz_b3_20, sz_b1_4_20, K20q, P20_0, P20_1, P20_2, P20_3, P20_4⟩
    have Cd20 := Cold.keep Cd0 K20q all0
    have Cd20b3_20 := Cold.put Cd20 ⟨Safe.keep K20q all0 Cd0.2.1.1 (Safe.new sz_b3_20), P20_0.lt⟩
    have Cd20b1_4_20 := Cold.put Cd20b3_20 ⟨Safe.keep K20q all0 Cd0.2.1.1 (Safe.new sz_b1_4_20), P20_3.lt⟩
    have g_b3_20 : n0 ≤ b3_20 := Nat.le_trans (Old.le O0) sz_b3_20
    have g_b1_4_20 : n0 ≤ b1_4_20 := Nat.le_trans (Old.le O0) sz_b1_4_20
    have K20 : Keep h0 T20.heap ([] : List Addr) := Keep.trans (Keep.refl h0 ([] : List Addr)) K20q all0
    have N20 := Fr.app N0 N20q
    refine Rn X20 hx hby sg0_72_2 99 #[si i0, si i1, si i2, si i3, si v1, si v2, si v3, si v11, sr b3_20, un, un, un, un] [] rfl ?_
    exact J12 (X20.mono (by decide) (by decide)) hZ hown (Cold.nil Cd20b1_4_20) N20 rfl K20 b3_20 b1_4_20 k1_4_20 ([(v2.toInt8.toInt32)] : List Int32) (by unfold own_hb; rw [if_neg c13, if_pos c17]) P20_0 P20_2 P20_1 (Arv.lst P20_4 (cs := [(v2.toInt8.toInt32)]) (cs' := [(v2.toInt8.toInt32)]) rfl rfl rfl)
   ·
    refine Home.go (fun _ => XS.icmpYes XJ10.here hx rfl (pc0 := 64) (pc' := 77) rfl (hb hby at_64) rfl (feq c17).2 (by decide) (by decide)) ?_
    refine Home.nw (own_newO XJ10 hx hZ hown (w253 hw) (w2 hw) (w1 hw) eJ10 rfl (hb hby at_77) (by decide) (by decide)) fun T21 h21 b21 g21 X21 e21 E21 A21 D21 => ?_
    have g_b21 : n0 ≤ b21 := Nat.le_trans (Old.le O0) (Nat.le_of_eq g21.symm)
    have F_value_b21 : Fld Z h21 b21 "java/lang/String" "value" "[B" .null := D21 (Or.inr (w4 hw)) (ty := (.array .byte)) (by decide)
    have F_coder_b21 : Fld Z h21 b21 "java/lang/String" "coder" "B" (.int 0) := D21 (Or.inr (w5 hw)) (ty := .byte) (by decide)
    have O21 := O0.ext E21
    have K21 : Keep h0 h21 ([] : List Addr) := Keep.ext (Keep.refl h0 ([] : List Addr)) E21
    have Cd21 := Cold.add Cd0 E21 (Nat.le_of_eq g21.symm) A21.lt
    refine Rn X21 hx hby sg0_80_2 82 #[si i0, si i1, si i2, si i3, si v1, si v2, si v3, si v11, un, un, un, un, un] [(.int 2), (.ref b21), (.ref b21)] rfl ?_
    refine Home.na (own_newP (aty := .char) X21 hx hZ (w8 hw) e21 (g := (mkF m 82 #[.val (.int i0), .val (.int i1), .val (.int i2), .val (.int i3), .val (.int v1), .val (.int v2), .val (.int v3), .val (.int v11), .unset, .unset, .unset, .unset, .unset] [(.int 2), (.ref b21), (.ref b21)])) rfl (hb hby at_82) rfl (by decide) (cap := 2) (by decide) (by decide) (by decide) (by decide)) fun T22 h22 k22 b22 g22 X22 e22 E22 A22 => ?_
    have g_b22 : n0 ≤ b22 := Nat.le_trans (Old.le O21) (Nat.le_of_eq g22.symm)
    have V22 : Arv Z h22 b22 k22 .char (2 : Int32) [(.int 0), (.int 0)] (.int 0) := (Arv.new A22 (by decide)).pad (pad_rep [] (.int 0) 2)
    have O22 := O21.ext E22
    have K22 : Keep h0 h22 ([] : List Addr) := Keep.ext K21 E22
    have Cd22 := Cold.ext Cd21 E22
    show Home T22 (mkF m 84 #[si i0, si i1, si i2, si i3, si v1, si v2, si v3, si v11, un, un, un, un, un] [(.ref b22), (.ref b21), (.ref b21)])
    refine Rn X22 hx hby sg0_84_3 88 #[si i0, si i1, si i2, si i3, si v1, si v2, si v3, si v11, un, un, un, un, un] [(.int v2), (.int 0), (.ref b22), (.ref b22), (.ref b21), (.ref b21)] rfl ?_
    obtain ⟨cl23, Ar23, q23, S23, M23, H23, G23⟩ := id V22
    refine Home.wr (stC X22 hx hZ e22 Ar23 (j := (0 : Int32)) (inb_of S23 ⟨by decide, by decide⟩) rfl rfl (hb hby at_88)) fun T23 h23 X23 e23 W23 => ?_
    have W23' := Wr.to W23 (congrArg Value.int (nar_char_id bv2 (by decide +kernel) (by decide +kernel)))
    have V23 : Arv Z h23 b22 k22 .char (2 : Int32) [(.int v2), (.int 0)] (.int 0) := Arv.set Ar23 q23 S23 M23 H23 G23 (fits_char_b bv2 (by decide +kernel) (by decide +kernel)) W23' 0 rfl (Nat.le_of_ble_eq_true rfl)
    have O23 := O22.wr W23 g_b22
    have K23 : Keep h0 h23 ([] : List Addr) := Keep.wr K22 W23 (Or.inr (Nat.le_trans E21.1 (Nat.le_of_eq g22.symm)))
    have Cd23 := Cold.wr Cd22 W23 (Safe.arv hZ.alike V22 (by simp))
    have N23 := Fr.snoc X23 N0 g_b22
    refine Rn X23 hx hby sg0_89_3 93 #[si i0, si i1, si i2, si i3, si v1, si v2, si v3, si v11, un, un, un, un, un] [(.int v3), (.int 1), (.ref b22), (.ref b22), (.ref b21), (.ref b21)] rfl ?_
    obtain ⟨cl24, Ar24, q24, S24, M24, H24, G24⟩ := id V23
    refine Home.wr (stC X23 hx hZ e23 Ar24 (j := (1 : Int32)) (inb_of S24 ⟨by decide, by decide⟩) rfl rfl (hb hby at_93)) fun T24 h24 X24 e24 W24 => ?_
    have W24' := Wr.to W24 (congrArg Value.int (nar_char_id bv3 (by decide +kernel) (by decide +kernel)))
    have V24 : Arv Z h24 b22 k22 .char (2 : Int32) [(.int v2), (.int v3)] (.int 0) := Arv.set Ar24 q24 S24 M24 H24 G24 (fits_char_b bv3 (by decide +kernel) (by decide +kernel)) W24' 1 rfl (Nat.le_of_ble_eq_true rfl)
    have O24 := O23.wr W24 g_b22
    have K24 : Keep h0 h24 ([] : List Addr) := Keep.wr K23 W24 (Or.inr (Nat.le_trans E21.1 (Nat.le_of_eq g22.symm)))
    have Cd24 := Cold.wr Cd23 W24 (Safe.arv hZ.alike V23 (by simp))
    have N24 := Fr.snoc X24 N23 g_b22
    show Home T24 (mkF m 94 #[si i0, si i1, si i2, si i3, si v1, si v2, si v3, si v11, un, un, un, un, un] [(.ref b22), (.ref b21), (.ref b21)])
    have q25 := (((A21.ext E22).wr W23).wr W24)
    have ne26 : b21 ≠ b22 := (Nat.ne_of_lt (Nat.lt_of_lt_of_le A21.lt (Nat.le_trans (Nat.le_refl _) (Nat.le_of_eq g22.symm))))
    have q27 := (((F_coder_b21.ext E22).other W23 (Or.inl ne26)).other W24 (Or.inl ne26))
    have q28 := (((F_value_b21.ext E22).other W23 (Or.inl ne26)).other W24 (Or.inl ne26))
    refine Home.call (own_special X24 hx hZ hown rfl (w254 hw) (w255 hw) (w1 hw) (w256 hw) (by decide) (rm46_0 l Z a0 hw [] b21 b22 k22 v2 v3 sv_COMPACT_STRINGS h24 n0 O24 V24 S_COMPACT_STRINGS q25 q27 q28 bv2 bv3 g_b21 hCS) e24 rfl (by rw [hml]; rfl) (a := b21) (argsL := [(.ref b22)]) (rest := [(.ref b21)]) (lenOf own_pd8 rfl) rfl rfl (W := 1) (hb hby at_94)) ?_
    rintro _ T29 L29 X29 ⟨b1_3_2_29, k1_3_2_29, rfl, N29q, sz_b1_3_2_29, K29q, P29_0, P29_1, P29_2, P29_3, P29_4⟩
    have Cd29 := Cold.keep Cd24 K29q (allS (Cold.safe Cd24 (List.mem_of_getElem? (i := 0) rfl)) all0)
    have Cd29b1_3_2_29 := Cold.put Cd29 ⟨Safe.keep K29q (allS (Cold.safe Cd24 (List.mem_of_getElem? (i := 0) rfl)) all0) Cd24.2.1.1 (Safe.new sz_b1_3_2_29), P29_3.lt⟩
    have g_b1_3_2_29 : n0 ≤ b1_3_2_29 := Nat.le_trans (Old.le O24) sz_b1_3_2_29
    have K29 : Keep h0 T29.heap ([] : List Addr) := Keep.trans K24 K29q (allS (Or.inr (Nat.le_trans (Nat.le_refl _) (Nat.le_of_eq g21.symm))) all0)
    have N29 := Fr.app N24 N29q
    refine Rn X29 hx hby sg0_97_1 99 #[si i0, si i1, si i2, si i3, si v1, si v2, si v3, si v11, sr b21, un, un, un, un] [] rfl ?_
    exact J12 (X29.mono (by decide) (by decide)) hZ hown (Cold.nil Cd29b1_3_2_29) N29 rfl K29 b21 b1_3_2_29 k1_3_2_29 ([(v2.toInt8.toInt32), (v3.toInt8.toInt32)] : List Int32) (by unfold own_hb; rw [if_neg c13, if_neg c17]) P29_0 P29_1 P29_2 (Arv.lst P29_4 (cs := [(v2.toInt8.toInt32), (v3.toInt8.toInt32)]) (cs' := [(v2.toInt8.toInt32), (v3.toInt8.toInt32)]) rfl rfl rfl)
 intro vmJ TJ12 lcJ12 hJ12 XJ12 hZ hown CdJ12 NJ12 eJ12 KJ12 host hba kh LH hLH Eh Fch Fvh Vh
 have lbLH : 0 ≤ LH.length ∧ LH.length ≤ 2 := by rw [hLH]; exact own_hb_len _ _ _
 have OJ12 := Old.keep O0 KJ12 all0
 show Home TJ12 (mkF m 99 #[si i0, si i1, si i2, si i3, si v1, si v2, si v3, si v11, sr host, un, un, un, un] [])
 refine Rn XJ12 hx hby sg0_99_1 101 #[si i0, si i1, si i2, si i3, si v1, si v2, si v3, si v11, sr host, un, un, un, un] [(.int 40)] rfl ?_
 refine Home.na (own_newP (aty := .char) XJ12 hx hZ (w8 hw) eJ12 (g := (mkF m 101 #[.val (.int i0), .val (.int i1), .val (.int i2), .val (.int i3), .val (.int v1), .val (.int v2), .val (.int v3), .val (.int v11), .val (.ref host), .unset, .unset, .unset, .unset] [(.int 40)])) rfl (hb hby at_101) rfl (by decide) (cap := 40) (by decide) (by decide) (by decide) (by decide)) fun T30 h30 k30 b30 g30 X30 e30 E30 A30 => ?_
 have g_b30 : n0 ≤ b30 := Nat.le_trans (Old.le OJ12) (Nat.le_of_eq g30.symm)
 have V30 : Arv Z h30 b30 k30 .char (40 : Int32) (List.map Value.int []) (.int 0) := Arv.new A30 (by decide)
 have O30 := OJ12.ext E30
 have Cd30 := Cold.ext CdJ12 E30
 refine Rn X30 hx hby sg0_103_4 109 #[si i0, si i1, si i2, si i3, si v1, si v2, si v3, si v11, sr host, sr b30, un, un, un] [(.int i0), (.int 0), (.ref b30)] rfl ?_
 show Home T30 (mkF m 109 #[si i0, si i1, si i2, si i3, si v1, si v2, si v3, si v11, sr host, sr b30, un, un, un] [(.int i0), (.int (own_n [])), (.ref b30)])
 refine Home.call (own_static X30 hx hZ hown (w9 hw) (w10 hw) (w11 hw) (w12 hw) (by decide) (rm1_0 l Z a0 hw [] b30 i0 [] k30 h30 n0 O30 V30 (Nat.le_trans (own_len_lit (l := []) (n := 0) rfl).2 (by decide)) g_b30) e30 rfl (by rw [hml]; rfl) (argsL := [(.ref b30), (.int (own_n [])), (.int i0)]) (rest := []) (lenOf own_pd10 rfl) rfl rfl (W := 0) (hb hby at_109)) ?_
 rintro _ T31 L31 X31 ⟨rfl, N31q, K31q, P31_0⟩
 have Cd31 := Cold.keep Cd30 K31q (allS (Safe.arv hZ.alike V30 (by simp)) all0)
 have O31 := Old.keep O30 K31q (allS g_b30 all0)
 have N31 := Fr.app NJ12 N31q
 refine Rn X31 hx hby sg0_112_1 114 #[si i0, si i1, si i2, si i3, si v1, si v2, si v3, si v11, sr host, sr b30, .val (.int (own_n ([] ++ (own_put i0)))), un, un] [] rfl ?_
 obtain ⟨r32, hr32⟩ : ∃ z, z = ([] ++ (own_put i0)) := ⟨_, rfl⟩
 rw [← hr32] at P31_0
 have lbr32 : 1 ≤ r32.length ∧ r32.length ≤ 11 := by rw [hr32]; exact (own_len_app (own_len_lit (l := []) (n := 0) rfl) (own_put_len i0))
 rw [← hr32]
 show Home T31 (mkF m 114 #[si i0, si i1, si i2, si i3, si v1, si v2, si v3, si v11, sr host, sr b30, .val (.int (own_n r32)), un, un] [])
 refine Rn X31 hx hby sg0_114_3 120 #[si i0, si i1, si i2, si i3, si v1, si v2, si v3, si v11, sr host, sr b30, .val (.int (own_n r32)), un, un] [(.int 32), (.int (own_n r32)), (.ref b30)] rfl ?_
 have hl33 : r32.length ≤ 11 := lbr32.2
 have hm33 : (own_n r32) = Int32.ofNat r32.length ∧ r32.length < 2147483648 := ⟨rfl, by omega⟩
 have hi33 : ¬ (own_n r32) < (0 : Int32) ∧ (own_n r32) < (40 : Int32) := own_n_in (by omega)
 obtain ⟨cl34, Ar34, q34, S34, M34, H34, G34⟩ := id (own_pad1 P31_0)
 refine Home.wr (stC X31 hx hZ rfl Ar34 (j := (own_n r32)) (inb_of S34 hi33) rfl rfl (hb hby at_120)) fun T34 h34 X34 e34 W34 => ?_
 have W34' := Wr.to W34 (congrArg Value.int (nar_char_id (bnd_lit (32 : Int32)) (by decide +kernel) (by decide +kernel)))
 have V34 : Arv Z h34 b30 k30 .char (40 : Int32) (List.map Value.int (r32 ++ [(32 : Int32)])) (.int 0) := own_setS (vs := (r32 ++ [0])) (ws := (r32 ++ [(32 : Int32)])) Ar34 q34 S34 M34 H34 G34 (fits_char_b (bnd_lit (32 : Int32)) (by decide +kernel) (by decide +kernel)) W34' (own_len_mid hm33) (own_set_mid hm33)
 have N34 := Fr.snoc X34 N31 g_b30
 have O34 := O31.wr W34 g_b30
 have Cd34 := Cold.wr Cd31 W34 (Safe.arv hZ.alike P31_0 (by simp))
 refine Rn X34 hx hby sg0_121_1 124 #[si i0, si i1, si i2, si i3, si v1, si v2, si v3, si v11, sr host, sr b30, .val (.int ((own_n r32) + (1 : Int32))), un, un] [] rfl ?_
 rw [show (own_n r32) + (1 : Int32) = own_n (r32 ++ [(32 : Int32)]) from own_n_snoc _ _]
 obtain ⟨r35, hr35⟩ : ∃ z, z = (r32 ++ [(32 : Int32)]) := ⟨_, rfl⟩
 rw [← hr35] at V34
 have lbr35 : 2 ≤ r35.length ∧ r35.length ≤ 12 := by rw [hr35]; exact (own_len_app lbr32 (own_len_lit (l := [(32 : Int32)]) (n := 1) rfl))
 rw [← hr35]
 show Home T34 (mkF m 124 #[si i0, si i1, si i2, si i3, si v1, si v2, si v3, si v11, sr host, sr b30, .val (.int (own_n r35)), un, un] [])
 refine Home.cut (C := fun E => ∀ {T : State} {lc : List Loc} {hJ : Heap} (X : Stand p l e room_1 (s.setVm vmJ) m #[(.int i0), (.int i1), (.int i2), (.int i3)] below meth c T lc 4 48) (N : Fr n0 lc) (eT : T.heap = hJ) (Kq : Keep h34 hJ ([b30] : List Addr)) (W2 : List Int32) (hW2 : W2 = r35 ++ (own_hc v11 v2 v3)) (vB : Arv Z hJ b30 k30 .char (40 : Int32) (List.map Value.int W2) (.int 0)), @Home p e below E T (mkF m 156 #[si i0, si i1, si i2, si i3, si v1, si v2, si v3, si v11, sr host, sr b30, .val (.int (own_n W2)), un, un] [])) (fun _ J36 => ?_) ?_
 ·
  have hl0 : r35.length ≤ 12 := lbr35.2
  refine Rn X34 hx hby sg0_124_2 127 #[si i0, si i1, si i2, si i3, si v1, si v2, si v3, si v11, sr host, sr b30, .val (.int (own_n r35)), un, un] [(.int 1), (.int v11)] rfl ?_
  by_cases c37 : v11 < (1 : Int32)
  ·
   refine Home.go (fun _ => XS.icmpYes X34.here hx rfl (pc0 := 127) (pc' := 140) rfl (hb hby at_127) rfl (tlt c37).1 (by decide) (by decide)) ?_
   have bd38 : ¬ v11 < (0 : Int32) ∧ ¬ (0 : Int32) < v11 := ⟨bv11.1, (bnd_dn c37 (by decide +kernel))⟩
   refine Rn X34 hx hby sg0_140_2 143 #[si i0, si i1, si i2, si i3, si v1, si v2, si v3, si v11, sr host, sr b30, .val (.int (own_n r35)), un, un] [(.int 2), (.int v11)] rfl ?_
   refine Home.go (fun _ => XS.icmpYes X34.here hx rfl (pc0 := 143) (pc' := 156) rfl (hb hby at_143) rfl (tlt (bnd_lt bd38 (bnd_lit (2 : Int32)) (by decide +kernel))).1 (by decide) (by decide)) ?_
   exact J36 X34 N34 e34 (Keep.refl _ _) r35 (by unfold own_hc; rw [if_pos c37, List.append_nil]) V34
  ·
   refine Home.go (fun _ => XS.icmpNo X34.here hx rfl (hb hby at_127) rfl (flt c37).1) ?_
   refine Rn X34 hx hby sg0_130_3 136 #[si i0, si i1, si i2, si i3, si v1, si v2, si v3, si v11, sr host, sr b30, .val (.int (own_n r35)), un, un] [(.int v2), (.int (own_n r35)), (.ref b30)] rfl ?_
   have hq40 := hl0
   have hm40 : (own_n r35) = Int32.ofNat r35.length ∧ r35.length < 2147483648 := ⟨rfl, by omega⟩
   have hi40 : ¬ (own_n r35) < (0 : Int32) ∧ (own_n r35) < (40 : Int32) := own_n_in (by omega)
   obtain ⟨cl41, Ar41, q41, S41, M41, H41, G41⟩ := id (own_pad1 V34)
   refine Home.wr (stC X34 hx hZ e34 Ar41 (j := (own_n r35)) (inb_of S41 hi40) rfl rfl (hb hby at_136)) fun T41 h41 X41 e41 W41 => ?_
   have W41' := Wr.to W41 (congrArg Value.int (nar_char_id bv2 (by decide +kernel) (by decide +kernel)))
   have V41 : Arv Z h41 b30 k30 .char (40 : Int32) (List.map Value.int (r35 ++ [v2])) (.int 0) := own_setS (vs := (r35 ++ [0])) (ws := (r35 ++ [v2])) Ar41 q41 S41 M41 H41 G41 (fits_char_b bv2 (by decide +kernel) (by decide +kernel)) W41' (own_len_mid hm40) (own_set_mid hm40)
   have k41 : Keep h34 h41 ([b30] : List Addr) := Keep.wr (Keep.refl _ _) W41 (Or.inl (List.mem_of_getElem? (i := 0) rfl))
   have N41 := Fr.snoc X41 N34 g_b30
   refine Rn X41 hx hby sg0_137_1 140 #[si i0, si i1, si i2, si i3, si v1, si v2, si v3, si v11, sr host, sr b30, .val (.int ((own_n r35) + (1 : Int32))), un, un] [] rfl ?_
   rw [show (own_n r35) + (1 : Int32) = own_n (r35 ++ [v2]) from own_n_snoc _ _]
   show Home T41 (mkF m 140 #[si i0, si i1, si i2, si i3, si v1, si v2, si v3, si v11, sr host, sr b30, .val (.int (own_n (r35 ++ [v2]))), un, un] [])
   refine Rn X41 hx hby sg0_140_2 143 #[si i0, si i1, si i2, si i3, si v1, si v2, si v3, si v11, sr host, sr b30, .val (.int (own_n (r35 ++ [v2]))), un, un] [(.int 2), (.int v11)] rfl ?_
   by_cases c42 : v11 < (2 : Int32)
   ·
    refine Home.go (fun _ => XS.icmpYes X41.here hx rfl (pc0 := 143) (pc' := 156) rfl (hb hby at_143) rfl (tlt c42).1 (by decide) (by decide)) ?_
    exact J36 X41 N41 e41 k41 (r35 ++ [v2]) (by unfold own_hc; rw [if_neg c37, if_pos c42]) V41
   ·
    refine Home.go (fun _ => XS.icmpNo X41.here hx rfl (hb hby at_143) rfl (flt c42).1) ?_
    refine Rn X41 hx hby sg0_146_3 152 #[si i0, si i1, si i2, si i3, si v1, si v2, si v3, si v11, sr host, sr b30, .val (.int (own_n (r35 ++ [v2]))), un, un] [(.int v3), (.int (own_n (r35 ++ [v2]))), (.ref b30)] rfl ?_
    have hq45 : (r35 ++ [v2]).length ≤ 13 := by simp only [List.length_append, List.length_cons, List.length_nil]; omega
    have hm45 : (own_n (r35 ++ [v2])) = Int32.ofNat (r35 ++ [v2]).length ∧ (r35 ++ [v2]).length < 2147483648 := ⟨rfl, by omega⟩
    have hi45 : ¬ (own_n (r35 ++ [v2])) < (0 : Int32) ∧ (own_n (r35 ++ [v2])) < (40 : Int32) := own_n_in (by omega)
    obtain ⟨cl46, Ar46, q46, S46, M46, H46, G46⟩ := id (own_pad1 V41)
    refine Home.wr (stC X41 hx hZ e41 Ar46 (j := (own_n (r35 ++ [v2]))) (inb_of S46 hi45) rfl rfl (hb hby at_152)) fun T46 h46 X46 e46 W46 => ?_
    have W46' := Wr.to W46 (congrArg Value.int (nar_char_id bv3 (by decide +kernel) (by decide +kernel)))
    have V46 : Arv Z h46 b30 k30 .char (40 : Int32) (List.map Value.int ((r35 ++ [v2]) ++ [v3])) (.int 0) := own_setS (vs := ((r35 ++ [v2]) ++ [0])) (ws := ((r35 ++ [v2]) ++ [v3])) Ar46 q46 S46 M46 H46 G46 (fits_char_b bv3 (by decide +kernel) (by decide +kernel)) W46' (own_len_mid hm45) (own_set_mid hm45)
    have k46 : Keep h34 h46 ([b30] : List Addr) := Keep.wr k41 W46 (Or.inl (List.mem_of_getElem? (i := 0) rfl))
    have N46 := Fr.snoc X46 N41 g_b30
    refine Rn X46 hx hby sg0_153_1 156 #[si i0, si i1, si i2, si i3, si v1, si v2, si v3, si v11, sr host, sr b30, .val (.int ((own_n (r35 ++ [v2])) + (1 : Int32))), un, un] [] rfl ?_
    rw [show (own_n (r35 ++ [v2])) + (1 : Int32) = own_n ((r35 ++ [v2]) ++ [v3]) from own_n_snoc _ _]
    show Home T46 (mkF m 156 #[si i0, si i1, si i2, si i3, si v1, si v2, si v3, si v11, sr host, sr b30, .val (.int (own_n ((r35 ++ [v2]) ++ [v3]))), un, un] [])
    exact J36 X46 N46 e46 k46 ((r35 ++ [v2]) ++ [v3]) (by unfold own_hc; rw [if_neg c37, if_neg c42]; rw [List.append_assoc]; rfl) V46
 intro TJ36 lcJ36 hJ36 XJ36 NJ36 eJ36 KqJ36 W2 hW2 vW2
 have OJ36 := Old.keep O34 KqJ36 (allS g_b30 all0)
 have CdJ36 := Cold.keep Cd34 KqJ36 (allS (Safe.arv hZ.alike V34 (by simp)) all0)
 have lbW2 : 2 ≤ W2.length ∧ W2.length ≤ 14 := by rw [hW2]; exact own_len_app lbr35 (own_hc_len _ _ _)
 show Home TJ36 (mkF m 156 #[si i0, si i1, si i2, si i3, si v1, si v2, si v3, si v11, sr host, sr b30, .val (.int (own_n W2)), un, un] [])
 refine Rn XJ36 hx hby sg0_156_3 162 #[si i0, si i1, si i2, si i3, si v1, si v2, si v3, si v11, sr host, sr b30, .val (.int (own_n W2)), un, un] [(.int 32), (.int (own_n W2)), (.ref b30)] rfl ?_
 have hl47 : W2.length ≤ 14 := lbW2.2
 have hm47 : (own_n W2) = Int32.ofNat W2.length ∧ W2.length < 2147483648 := ⟨rfl, by omega⟩
 have hi47 : ¬ (own_n W2) < (0 : Int32) ∧ (own_n W2) < (40 : Int32) := own_n_in (by omega)
 obtain ⟨cl48, Ar48, q48, S48, M48, H48, G48⟩ := id (own_pad1 vW2)
 refine Home.wr (stC XJ36 hx hZ eJ36 Ar48 (j := (own_n W2)) (inb_of S48 hi47) rfl rfl (hb hby at_162)) fun T48 h48 X48 e48 W48 => ?_
 have W48' := Wr.to W48 (congrArg Value.int (nar_char_id (bnd_lit (32 : Int32)) (by decide +kernel) (by decide +kernel)))
 have V48 : Arv Z h48 b30 k30 .char (40 : Int32) (List.map Value.int (W2 ++ [(32 : Int32)])) (.int 0) := own_setS (vs := (W2 ++ [0])) (ws := (W2 ++ [(32 : Int32)])) Ar48 q48 S48 M48 H48 G48 (fits_char_b (bnd_lit (32 : Int32)) (by decide +kernel) (by decide +kernel)) W48' (own_len_mid hm47) (own_set_mid hm47)
 have N48 := Fr.snoc X48 NJ36 g_b30
 have O48 := OJ36.wr W48 g_b30
 have Cd48 := Cold.wr CdJ36 W48 (Safe.arv hZ.alike vW2 (by simp))
 refine Rn X48 hx hby sg0_163_1 166 #[si i0, si i1, si i2, si i3, si v1, si v2, si v3, si v11, sr host, sr b30, .val (.int ((own_n W2) + (1 : Int32))), un, un] [] rfl ?_
 rw [show (own_n W2) + (1 : Int32) = own_n (W2 ++ [(32 : Int32)]) from own_n_snoc _ _]
 obtain ⟨r49, hr49⟩ : ∃ z, z = (W2 ++ [(32 : Int32)]) := ⟨_, rfl⟩
 rw [← hr49] at V48
 have lbr49 : 3 ≤ r49.length ∧ r49.length ≤ 15 := by rw [hr49]; exact (own_len_app lbW2 (own_len_lit (l := [(32 : Int32)]) (n := 1) rfl))
 rw [← hr49]
 show Home T48 (mkF m 166 #[si i0, si i1, si i2, si i3, si v1, si v2, si v3, si v11, sr host, sr b30, .val (.int (own_n r49)), un, un] [])
 refine Rn X48 hx hby sg0_166_3 171 #[si i0, si i1, si i2, si i3, si v1, si v2, si v3, si v11, sr host, sr b30, .val (.int (own_n r49)), un, un] [(.int i2), (.int (own_n r49)), (.ref b30)] rfl ?_
 refine Home.call (own_static X48 hx hZ hown (w9 hw) (w10 hw) (w11 hw) (w12 hw) (by decide) (rm1_0 l Z a0 hw [] b30 i2 r49 k30 h48 n0 O48 V48 (Nat.le_trans lbr49.2 (by decide)) g_b30) e48 rfl (by rw [hml]; rfl) (argsL := [(.ref b30), (.int (own_n r49)), (.int i2)]) (rest := []) (lenOf own_pd10 rfl) rfl rfl (W := 0) (hb hby at_171)) ?_
 rintro _ T50 L50 X50 ⟨rfl, N50q, K50q, P50_0⟩
 have Cd50 := Cold.keep Cd48 K50q (allS (Safe.arv hZ.alike V48 (by simp)) all0)
 have O50 := Old.keep O48 K50q (allS g_b30 all0)
 have N50 := Fr.app N48 N50q
 refine Rn X50 hx hby sg0_174_1 176 #[si i0, si i1, si i2, si i3, si v1, si v2, si v3, si v11, sr host, sr b30, .val (.int (own_n (r49 ++ (own_put i2)))), un, un] [] rfl ?_
 obtain ⟨r51, hr51⟩ : ∃ z, z = (r49 ++ (own_put i2)) := ⟨_, rfl⟩
 rw [← hr51] at P50_0
 have lbr51 : 4 ≤ r51.length ∧ r51.length ≤ 26 := by rw [hr51]; exact (own_len_app lbr49 (own_put_len i2))
 rw [← hr51]
 show Home T50 (mkF m 176 #[si i0, si i1, si i2, si i3, si v1, si v2, si v3, si v11, sr host, sr b30, .val (.int (own_n r51)), un, un] [])
 refine Rn X50 hx hby sg0_176_3 182 #[si i0, si i1, si i2, si i3, si v1, si v2, si v3, si v11, sr host, sr b30, .val (.int (own_n r51)), un, un] [(.int 32), (.int (own_n r51)), (.ref b30)] rfl ?_
 have hl52 : r51.length ≤ 26 := lbr51.2
 have hm52 : (own_n r51) = Int32.ofNat r51.length ∧ r51.length < 2147483648 := ⟨rfl, by omega⟩
 have hi52 : ¬ (own_n r51) < (0 : Int32) ∧ (own_n r51) < (40 : Int32) := own_n_in (by omega)
 obtain ⟨cl53, Ar53, q53, S53, M53, H53, G53⟩ := id (own_pad1 P50_0)
 refine Home.wr (stC X50 hx hZ rfl Ar53 (j := (own_n r51)) (inb_of S53 hi52) rfl rfl (hb hby at_182)) fun T53 h53 X53 e53 W53 => ?_
 have W53' := Wr.to W53 (congrArg Value.int (nar_char_id (bnd_lit (32 : Int32)) (by decide +kernel) (by decide +kernel)))
 have V53 : Arv Z h53 b30 k30 .char (40 : Int32) (List.map Value.int (r51 ++ [(32 : Int32)])) (.int 0) := own_setS (vs := (r51 ++ [0])) (ws := (r51 ++ [(32 : Int32)])) Ar53 q53 S53 M53 H53 G53 (fits_char_b (bnd_lit (32 : Int32)) (by decide +kernel) (by decide +kernel)) W53' (own_len_mid hm52) (own_set_mid hm52)
 have N53 := Fr.snoc X53 N50 g_b30
 have O53 := O50.wr W53 g_b30
 have Cd53 := Cold.wr Cd50 W53 (Safe.arv hZ.alike P50_0 (by simp))
 refine Rn X53 hx hby sg0_183_1 186 #[si i0, si i1, si i2, si i3, si v1, si v2, si v3, si v11, sr host, sr b30, .val (.int ((own_n r51) + (1 : Int32))), un, un] [] rfl ?_
 rw [show (own_n r51) + (1 : Int32) = own_n (r51 ++ [(32 : Int32)]) from own_n_snoc _ _]
 obtain ⟨r54, hr54⟩ : ∃ z, z = (r51 ++ [(32 : Int32)]) := ⟨_, rfl⟩
 rw [← hr54] at V53
 have lbr54 : 5 ≤ r54.length ∧ r54.length ≤ 27 := by rw [hr54]; exact (own_len_app lbr51 (own_len_lit (l := [(32 : Int32)]) (n := 1) rfl))
 rw [← hr54]
 show Home T53 (mkF m 186 #[si i0, si i1, si i2, si i3, si v1, si v2, si v3, si v11, sr host, sr b30, .val (.int (own_n r54)), un, un] [])
 refine Rn X53 hx hby sg0_186_3 191 #[si i0, si i1, si i2, si i3, si v1, si v2, si v3, si v11, sr host, sr b30, .val (.int (own_n r54)), un, un] [(.int i3), (.int (own_n r54)), (.ref b30)] rfl ?_
 refine Home.call (own_static X53 hx hZ hown (w9 hw) (w10 hw) (w11 hw) (w12 hw) (by decide) (rm1_0 l Z a0 hw [] b30 i3 r54 k30 h53 n0 O53 V53 (Nat.le_trans lbr54.2 (by decide)) g_b30) e53 rfl (by rw [hml]; rfl) (argsL := [(.ref b30), (.int (own_n r54)), (.int i3)]) (rest := []) (lenOf own_pd10 rfl) rfl rfl (W := 0) (hb hby at_191)) ?_
 rintro _ T55 L55 X55 ⟨rfl, N55q, K55q, P55_0⟩
 have Cd55 := Cold.keep Cd53 K55q (allS (Safe.arv hZ.alike V53 (by simp)) all0)
 have O55 := Old.keep O53 K55q (allS g_b30 all0)
 have N55 := Fr.app N53 N55q
 refine Rn X55 hx hby sg0_194_1 196 #[si i0, si i1, si i2, si i3, si v1, si v2, si v3, si v11, sr host, sr b30, .val (.int (own_n (r54 ++ (own_put i3)))), un, un] [] rfl ?_
 obtain ⟨r56, hr56⟩ : ∃ z, z = (r54 ++ (own_put i3)) := ⟨_, rfl⟩
 rw [← hr56] at P55_0
 have lbr56 : 6 ≤ r56.length ∧ r56.length ≤ 38 := by rw [hr56]; exact (own_len_app lbr54 (own_put_len i3))
 rw [← hr56]
 show Home T55 (mkF m 196 #[si i0, si i1, si i2, si i3, si v1, si v2, si v3, si v11, sr host, sr b30, .val (.int (own_n r56)), un, un] [])
 refine Home.nw (own_newO X55 hx hZ hown (w25 hw) (w26 hw) (w27 hw) rfl rfl (hb hby at_196) (by decide) (by decide)) fun T57 h57 b57 g57 X57 e57 E57 A57 D57 => ?_
 have g_b57 : n0 ≤ b57 := Nat.le_trans (Old.le O55) (Nat.le_of_eq g57.symm)
 have F_id_b57 : Fld Z h57 b57 "com/example/token_relay/tokenrelay/Member" "id" "I" (.int 0) := D57 (Or.inr (w35 hw)) (ty := .int) (by decide)
 have F_host_b57 : Fld Z h57 b57 "com/example/token_relay/tokenrelay/Member" "host" "Ljava/lang/String;" .null := D57 (Or.inr (w44 hw)) (ty := (.object "java/lang/String")) (by decide)
 have F_peerPort_b57 : Fld Z h57 b57 "com/example/token_relay/tokenrelay/Member" "peerPort" "I" (.int 0) := D57 (Or.inr (w46 hw)) (ty := .int) (by decide)
 have F_clientPort_b57 : Fld Z h57 b57 "com/example/token_relay/tokenrelay/Member" "clientPort" "I" (.int 0) := D57 (Or.inr (w48 hw)) (ty := .int) (by decide)
 have O57 := O55.ext E57
 have Cd57 := Cold.ext Cd55 E57
 refine Rn X57 hx hby sg0_199_5 205 #[si i0, si i1, si i2, si i3, si v1, si v2, si v3, si v11, sr host, sr b30, .val (.int (own_n r56)), un, un] [(.int i3), (.int i2), (.ref host), (.int i0), (.ref b57), (.ref b57)] rfl ?_
 have q58 := (((((((((Eh.ext E30).keep K31q).wr W34).keep KqJ36).wr W48).keep K50q).wr W53).keep K55q).ext E57)
 refine Home.call (own_specialW X57 hx hZ hown (own_hEL hw) Cd57 all0 rfl (w28 hw) (w29 hw) (w27 hw) (w30 hw) (by decide) (rm3_0 l Z a0 hw [] b57 i0 host i2 i3 h57 n0 O57 A57 F_id_b57 g_b57 q58 F_host_b57 F_peerPort_b57 F_clientPort_b57) e57 rfl (by rw [hml]; rfl) (a := b57) (argsL := [(.int i0), (.ref host), (.int i2), (.int i3)]) (rest := [(.ref b57)]) (lenOf own_pd12 rfl) rfl rfl (W := 1) (by exact hW0) (by decide) (by decide) (hb hby at_205) (by decide) (by decide)) ?_
 rintro _ T59 L59 X59 ⟨⟨rfl, N59q, K59q, P59_0, P59_1, P59_2, P59_3, P59_4⟩, hZ, hown, Cd59, sR59⟩
 have O59 := Old.keep O57 K59q (allS g_b57 all0)
 have N59 := Fr.app N55 N59q
 show Home T59 (mkF m 208 #[si i0, si i1, si i2, si i3, si v1, si v2, si v3, si v11, sr host, sr b30, .val (.int (own_n r56)), un, un] [(.ref b57)])
 have q68 := (q58.keep K59q)
 have ne69 : host ≠ b30 := (Nat.ne_of_lt (Nat.lt_of_lt_of_le Eh.lt (Nat.le_trans (Nat.le_refl _) (Nat.le_of_eq g30.symm))))
 have le70 : hJ12.size ≤ T31.heap.size := Nat.le_trans E30.1 K31q.1
 have le71 : hJ12.size ≤ h34.size := Nat.le_trans le70 (Nat.le_of_eq W34.size.symm)
 have le72 : hJ12.size ≤ hJ36.size := Nat.le_trans le71 KqJ36.1
 have le73 : hJ12.size ≤ h48.size := Nat.le_trans le72 (Nat.le_of_eq W48.size.symm)
 have le74 : hJ12.size ≤ T50.heap.size := Nat.le_trans le73 K50q.1
 have le75 : hJ12.size ≤ h53.size := Nat.le_trans le74 (Nat.le_of_eq W53.size.symm)
 have le76 : hJ12.size ≤ T55.heap.size := Nat.le_trans le75 K55q.1
 have ne77 : host ≠ b57 := (Nat.ne_of_lt (Nat.lt_of_lt_of_le Eh.lt (Nat.le_trans le76 (Nat.le_of_eq g57.symm))))
 have q78 := ((((((((((Fvh.ext E30).keep K31q (ninS ne69 nin0)).other W34 (Or.inl ne69)).keep KqJ36 (ninS ne69 nin0)).other W48 (Or.inl ne69)).keep K50q (ninS ne69 nin0)).other W53 (Or.inl ne69)).keep K55q (ninS ne69 nin0)).ext E57).keep K59q (ninS ne77 nin0))
 have ne79 : hba ≠ b30 := (Nat.ne_of_lt (Nat.lt_of_lt_of_le Vh.lt (Nat.le_trans (Nat.le_refl _) (Nat.le_of_eq g30.symm))))
 have ne80 : hba ≠ b57 := (Nat.ne_of_lt (Nat.lt_of_lt_of_le Vh.lt (Nat.le_trans le76 (Nat.le_of_eq g57.symm))))
 have q81 := ((((((((((Vh.ext E30).keep K31q (ninS ne79 nin0)).other W34 ne79).keep KqJ36 (ninS ne79 nin0)).other W48 ne79).keep K50q (ninS ne79 nin0)).other W53 ne79).keep K55q (ninS ne79 nin0)).ext E57).keep K59q (ninS ne80 nin0))
 have q82 := ((((((((((Fch.ext E30).keep K31q (ninS ne69 nin0)).other W34 (Or.inl ne69)).keep KqJ36 (ninS ne69 nin0)).other W48 (Or.inl ne69)).keep K50q (ninS ne69 nin0)).other W53 (Or.inl ne69)).keep K55q (ninS ne69 nin0)).ext E57).keep K59q (ninS ne77 nin0))
 refine Home.call (own_virtualW X59 hx hZ hown (own_hEL hw) Cd59 all0 (w49 hw) (w50 hw) (notFace_of_selects (args := #[]) (mvT hZ (w52 hw))) (w52 hw) (w51 hw) (w27 hw) (w53 hw) (by decide) (rm6_0 l Z a0 hw [] b57 sv_COMPACT_STRINGS i0 sv_DigitOnes k_ones sv_DigitTens k_tens host hba kh LH i2 i3 T59.heap n0 O59 S_COMPACT_STRINGS hCS P59_1 S_DigitOnes V_ones S_DigitTens V_tens P59_2 q68 q78 q81 q82 (Nat.le_trans lbLH.2 (by decide)) P59_3 P59_4) rfl P59_0 rfl (by rw [hml]; rfl) (argsL := []) (rest := []) (lenOf own_pd35 rfl) rfl rfl (W := 0) (by exact hW0) (by decide) (by decide) (hb hby at_208) (by decide) (by decide)) ?_
 rintro _ T83 L83 X83 ⟨⟨rs_83, rb_83, rk_83, rfl, N83q, sz_rs_83, K83q, P83_0, P83_1, P83_2, P83_3⟩, hZ, hown, Cd83, sR83⟩
 have Ce83 := Cold.put Cd83 (sR83 rfl _ rfl)
 have g_rs_83 : n0 ≤ rs_83 := Nat.le_trans (Old.le O59) sz_rs_83
 have O83 := Old.keep O59 K83q all0
 have N83 := Fr.app N59 N83q
 show Home T83 (mkF m 211 #[si i0, si i1, si i2, si i3, si v1, si v2, si v3, si v11, sr host, sr b30, .val (.int (own_n r56)), un, un] [(.ref rs_83)])
 obtain ⟨r84, hr84⟩ : ∃ z, z = (cs_rm6_0 i0 LH i2 i3) := ⟨_, rfl⟩
 rw [← hr84] at P83_3
 refine Rn X83 hx hby sg0_211_2 215 #[si i0, si i1, si i2, si i3, si v1, si v2, si v3, si v11, sr host, sr b30, .val (.int (own_n r56)), sr rs_83, un] [(.ref rs_83)] rfl ?_
 refine Home.st (own_pure (own_virtual X83 hx hZ hown (w187 hw) (w113 hw) (notFace_of_selects (args := #[]) (mvT hZ (w115 hw))) (w115 hw) (w114 hw) (w1 hw) (w116 hw) (by decide) (rm17_1 l Z a0 hw [] rs_83 rb_83 rk_83 r84 sv_COMPACT_STRINGS T83.heap n0 O83 P83_2 P83_3 P83_0 S_COMPACT_STRINGS P83_1 hCS (Nat.le_trans (show 6 ≤ r84.length ∧ r84.length ≤ 38 by rw [hr84]; exact (own_cs_len i0 LH i2 i3 (h := lbLH))).2 (by decide))) rfl P83_0 rfl (by rw [hml]; rfl) (argsL := []) (rest := []) (lenOf own_pd24 rfl) rfl rfl (W := 0) (hb hby at_215))) fun T85 X85 e85 => ?_
 refine Rn X85 hx hby sg0_218_1 220 #[si i0, si i1, si i2, si i3, si v1, si v2, si v3, si v11, sr host, sr b30, .val (.int (own_n r56)), sr rs_83, un] [(.int (own_n r56)), (.int (own_n r84))] rfl ?_
 have hl86 := (own_ln86 i0 i1 i2 i3 v1 hv1 v2 hv2 v3 hv3 v11 hv11 LH hLH r32 hr32 r35 hr35 W2 hW2 r49 hr49 r51 hr51 r54 hr54 r56 hr56 r84 hr84)
 refine Home.go (fun _ => XS.icmpNo X85.here hx rfl (hb hby at_220) rfl (teq hl86).2) ?_
 refine Rn X85 hx hby sg0_223_3 230 #[si i0, si i1, si i2, si i3, si v1, si v2, si v3, si v11, sr host, sr b30, .val (.int (own_n r56)), sr rs_83, si 1] [] rfl ?_
 have hall := (own_all0 i0 i1 i2 i3 v1 hv1 v2 hv2 v3 hv3 v11 hv11 LH hLH r32 hr32 r35 hr35 W2 hW2 r49 hr49 r51 hr51 r54 hr54 r56 hr56 r84 hr84)
 have le87 : h30.size ≤ h34.size := Nat.le_trans K31q.1 (Nat.le_of_eq W34.size.symm)
 have le88 : h30.size ≤ hJ36.size := Nat.le_trans le87 KqJ36.1
 have le89 : h30.size ≤ h48.size := Nat.le_trans le88 (Nat.le_of_eq W48.size.symm)
 have le90 : h30.size ≤ T50.heap.size := Nat.le_trans le89 K50q.1
 have le91 : h30.size ≤ h53.size := Nat.le_trans le90 (Nat.le_of_eq W53.size.symm)
 have le92 : h30.size ≤ T55.heap.size := Nat.le_trans le91 K55q.1
 have ne93 : b30 ≠ b57 := (Nat.ne_of_lt (Nat.lt_of_lt_of_le V30.lt (Nat.le_trans le92 (Nat.le_of_eq g57.symm))))
 have q94 := (((P55_0.ext E57).keep K59q (ninS ne93 nin0)).keep K83q nin0)
 have AT : ∀ {E : Option Value → State → List Loc → Prop} {T' : State} {lc : List Loc} (X' : Stand p l e room_1 (s.setVm T83.vm) m #[(.int i0), (.int i1), (.int i2), (.int i3)] below meth c T' lc 15 246) (eT : T'.heap = T83.heap) (j : Nat) (hj : j < 40) {pc : Nat} {L : Array Slot} (hd : decode c.code pc = .ok (.invokestatic 37, 3)) (hL : L.size = c.maxLocals), (∀ T2, Stand p l e room_1 (s.setVm T83.vm) m #[(.int i0), (.int i1), (.int i2), (.int i3)] below meth c T2 lc 15 246 → T2.heap = T83.heap → @Home p e below E T2 (mkF m (pc + 3) L [(.int 1)])) → @Home p e below E T' (mkF m pc L ((.int (Int32.ofNat j)) :: [(.int (own_n r56)), (.ref b30), (.ref rs_83)])) := by
  intro E T' lc X' eT j hj pc L hd hL H
  refine Home.st (own_pure (own_static X' hx hZ hown (w188 hw) (w189 hw) (w11 hw) (w190 hw) (by decide) (rm32_0 l Z a0 hw [] rs_83 b30 (Int32.ofNat j) r56 r84 sv_COMPACT_STRINGS rb_83 rk_83 sv_SIOOBE_FORMATTER k30 T83.heap n0 O83 (own_b39 hj) hl86 (Nat.le_trans lbr56.2 (by decide)) (Nat.le_trans (show 6 ≤ r84.length ∧ r84.length ≤ 38 by rw [hr84]; exact (own_cs_len i0 LH i2 i3 (h := lbLH))).2 (by decide)) P83_0 S_COMPACT_STRINGS P83_1 P83_2 P83_3 S_SIOOBE_FORMATTER hCS isr_sv_SIOOBE_FORMATTER q94) eT rfl hL (argsL := [(.ref rs_83), (.ref b30), (.int (own_n r56)), (.int (Int32.ofNat j))]) (rest := []) (lenOf own_pd39 rfl) rfl rfl (W := 0) hd)) fun T2 X2 e2 => ?_
  show Home T2 (mkF m (pc + 3) L [(.int (f_rm32_0 (Int32.ofNat j) r56 r84))])
  rw [hall j hj]
  exact H T2 X2 e2
 refine Rn X85 hx hby sg0_230_1 232 #[si i0, si i1, si i2, si i3, si v1, si v2, si v3, si v11, sr host, sr b30, .val (.int (own_n r56)), sr rs_83, si 1] [(.int 1)] rfl ?_
 refine Home.go (fun _ => XS.ifNo X85.here hx rfl (hb hby at_232) rfl ((if0 _ _).trans (feq (by decide)).1)) ?_
 refine Rn X85 hx hby sg0_235_4 242 #[si i0, si i1, si i2, si i3, si v1, si v2, si v3, si v11, sr host, sr b30, .val (.int (own_n r56)), sr rs_83, si 1] [(.int 0), (.int (own_n r56)), (.ref b30), (.ref rs_83)] rfl ?_
 refine AT X85 e85 0 (by decide) (hb hby at_242) (by rw [hml]; rfl) fun T96 X96 e96 => ?_
 refine Home.go (fun _ => XS.ifNo X96.here hx rfl (hb hby at_245) rfl ((if0 _ _).trans (feq (by decide)).1)) ?_
 refine Rn X96 hx hby sg0_248_4 255 #[si i0, si i1, si i2, si i3, si v1, si v2, si v3, si v11, sr host, sr b30, .val (.int (own_n r56)), sr rs_83, si 1] [(.int 1), (.int (own_n r56)), (.ref b30), (.ref rs_83)] rfl ?_
 refine AT X96 e96 1 (by decide) (hb hby at_255) (by rw [hml]; rfl) fun T97 X97 e97 => ?_
 refine Home.go (fun _ => XS.ifNo X97.here hx rfl (hb hby at_258) rfl ((if0 _ _).trans (feq (by decide)).1)) ?_
 refine Rn X97 hx hby sg0_261_4 268 #[si i0, si i1, si i2, si i3, si v1, si v2, si v3, si v11, sr host, sr b30, .val (.int (own_n r56)), sr rs_83, si 1] [(.int 2), (.int (own_n r56)), (.ref b30), (.ref rs_83)] rfl ?_
 refine AT X97 e97 2 (by decide) (hb hby at_268) (by rw [hml]; rfl) fun T98 X98 e98 => ?_
 refine Home.go (fun _ => XS.ifNo X98.here hx rfl (hb hby at_271) rfl ((if0 _ _).trans (feq (by decide)).1)) ?_
 refine Rn X98 hx hby sg0_274_4 281 #[si i0, si i1, si i2, si i3, si v1, si v2, si v3, si v11, sr host, sr b30, .val (.int (own_n r56)), sr rs_83, si 1] [(.int 3), (.int (own_n r56)), (.ref b30), (.ref rs_83)] rfl ?_
 refine AT X98 e98 3 (by decide) (hb hby at_281) (by rw [hml]; rfl) fun T99 X99 e99 => ?_
 refine Home.go (fun _ => XS.ifNo X99.here hx rfl (hb hby at_284) rfl ((if0 _ _).trans (feq (by decide)).1)) ?_
 refine Rn X99 hx hby sg0_287_4 294 #[si i0, si i1, si i2, si i3, si v1, si v2, si v3, si v11, sr host, sr b30, .val (.int (own_n r56)), sr rs_83, si 1] [(.int 4), (.int (own_n r56)), (.ref b30), (.ref rs_83)] rfl ?_
 refine AT X99 e99 4 (by decide) (hb hby at_294) (by rw [hml]; rfl) fun T100 X100 e100 => ?_
 refine Home.go (fun _ => XS.ifNo X100.here hx rfl (hb hby at_297) rfl ((if0 _ _).trans (feq (by decide)).1)) ?_
 refine Rn X100 hx hby sg0_300_4 307 #[si i0, si i1, si i2, si i3, si v1, si v2, si v3, si v11, sr host, sr b30, .val (.int (own_n r56)), sr rs_83, si 1] [(.int 5), (.int (own_n r56)), (.ref b30), (.ref rs_83)] rfl ?_
 refine AT X100 e100 5 (by decide) (hb hby at_307) (by rw [hml]; rfl) fun T101 X101 e101 => ?_
 refine Home.go (fun _ => XS.ifNo X101.here hx rfl (hb hby at_310) rfl ((if0 _ _).trans (feq (by decide)).1)) ?_
 refine Rn X101 hx hby sg0_313_4 321 #[si i0, si i1, si i2, si i3, si v1, si v2, si v3, si v11, sr host, sr b30, .val (.int (own_n r56)), sr rs_83, si 1] [(.int 6), (.int (own_n r56)), (.ref b30), (.ref rs_83)] rfl ?_
 refine AT X101 e101 6 (by decide) (hb hby at_321) (by rw [hml]; rfl) fun T102 X102 e102 => ?_
 refine Home.go (fun _ => XS.ifNo X102.here hx rfl (hb hby at_324) rfl ((if0 _ _).trans (feq (by decide)).1)) ?_
 refine Rn X102 hx hby sg0_327_4 335 #[si i0, si i1, si i2, si i3, si v1, si v2, si v3, si v11, sr host, sr b30, .val (.int (own_n r56)), sr rs_83, si 1] [(.int 7), (.int (own_n r56)), (.ref b30), (.ref rs_83)] rfl ?_
 refine AT X102 e102 7 (by decide) (hb hby at_335) (by rw [hml]; rfl) fun T103 X103 e103 => ?_
 refine Home.go (fun _ => XS.ifNo X103.here hx rfl (hb hby at_338) rfl ((if0 _ _).trans (feq (by decide)).1)) ?_
 refine Rn X103 hx hby sg0_341_4 349 #[si i0, si i1, si i2, si i3, si v1, si v2, si v3, si v11, sr host, sr b30, .val (.int (own_n r56)), sr rs_83, si 1] [(.int 8), (.int (own_n r56)), (.ref b30), (.ref rs_83)] rfl ?_
 refine AT X103 e103 8 (by decide) (hb hby at_349) (by rw [hml]; rfl) fun T104 X104 e104 => ?_
 refine Home.go (fun _ => XS.ifNo X104.here hx rfl (hb hby at_352) rfl ((if0 _ _).trans (feq (by decide)).1)) ?_
 refine Rn X104 hx hby sg0_355_4 363 #[si i0, si i1, si i2, si i3, si v1, si v2, si v3, si v11, sr host, sr b30, .val (.int (own_n r56)), sr rs_83, si 1] [(.int 9), (.int (own_n r56)), (.ref b30), (.ref rs_83)] rfl ?_
 refine AT X104 e104 9 (by decide) (hb hby at_363) (by rw [hml]; rfl) fun T105 X105 e105 => ?_
 refine Home.go (fun _ => XS.ifNo X105.here hx rfl (hb hby at_366) rfl ((if0 _ _).trans (feq (by decide)).1)) ?_
 refine Rn X105 hx hby sg0_369_4 378 #[si i0, si i1, si i2, si i3, si v1, si v2, si v3, si v11, sr host, sr b30, .val (.int (own_n r56)), sr rs_83, si 1] [(.int 1)] rfl ?_
 refine Home.go (fun _ => XS.ifNo X105.here hx rfl (hb hby at_378) rfl ((if0 _ _).trans (feq (by decide)).1)) ?_
 refine Rn X105 hx hby sg0_381_4 389 #[si i0, si i1, si i2, si i3, si v1, si v2, si v3, si v11, sr host, sr b30, .val (.int (own_n r56)), sr rs_83, si 1] [(.int 10), (.int (own_n r56)), (.ref b30), (.ref rs_83)] rfl ?_
 refine AT X105 e105 10 (by decide) (hb hby at_389) (by rw [hml]; rfl) fun T106 X106 e106 => ?_
 refine Home.go (fun _ => XS.ifNo X106.here hx rfl (hb hby at_392) rfl ((if0 _ _).trans (feq (by decide)).1)) ?_
 refine Rn X106 hx hby sg0_395_4 403 #[si i0, si i1, si i2, si i3, si v1, si v2, si v3, si v11, sr host, sr b30, .val (.int (own_n r56)), sr rs_83, si 1] [(.int 11), (.int (own_n r56)), (.ref b30), (.ref rs_83)] rfl ?_
 refine AT X106 e106 11 (by decide) (hb hby at_403) (by rw [hml]; rfl) fun T107 X107 e107 => ?_
 refine Home.go (fun _ => XS.ifNo X107.here hx rfl (hb hby at_406) rfl ((if0 _ _).trans (feq (by decide)).1)) ?_
 refine Rn X107 hx hby sg0_409_4 417 #[si i0, si i1, si i2, si i3, si v1, si v2, si v3, si v11, sr host, sr b30, .val (.int (own_n r56)), sr rs_83, si 1] [(.int 12), (.int (own_n r56)), (.ref b30), (.ref rs_83)] rfl ?_
 refine AT X107 e107 12 (by decide) (hb hby at_417) (by rw [hml]; rfl) fun T108 X108 e108 => ?_
 refine Home.go (fun _ => XS.ifNo X108.here hx rfl (hb hby at_420) rfl ((if0 _ _).trans (feq (by decide)).1)) ?_
 refine Rn X108 hx hby sg0_423_4 431 #[si i0, si i1, si i2, si i3, si v1, si v2, si v3, si v11, sr host, sr b30, .val (.int (own_n r56)), sr rs_83, si 1] [(.int 13), (.int (own_n r56)), (.ref b30), (.ref rs_83)] rfl ?_
 refine AT X108 e108 13 (by decide) (hb hby at_431) (by rw [hml]; rfl) fun T109 X109 e109 => ?_
 refine Home.go (fun _ => XS.ifNo X109.here hx rfl (hb hby at_434) rfl ((if0 _ _).trans (feq (by decide)).1)) ?_
 refine Rn X109 hx hby sg0_437_4 445 #[si i0, si i1, si i2, si i3, si v1, si v2, si v3, si v11, sr host, sr b30, .val (.int (own_n r56)), sr rs_83, si 1] [(.int 14), (.int (own_n r56)), (.ref b30), (.ref rs_83)] rfl ?_
 refine AT X109 e109 14 (by decide) (hb hby at_445) (by rw [hml]; rfl) fun T110 X110 e110 => ?_
 refine Home.go (fun _ => XS.ifNo X110.here hx rfl (hb hby at_448) rfl ((if0 _ _).trans (feq (by decide)).1)) ?_
 refine Rn X110 hx hby sg0_451_4 459 #[si i0, si i1, si i2, si i3, si v1, si v2, si v3, si v11, sr host, sr b30, .val (.int (own_n r56)), sr rs_83, si 1] [(.int 15), (.int (own_n r56)), (.ref b30), (.ref rs_83)] rfl ?_
 refine AT X110 e110 15 (by decide) (hb hby at_459) (by rw [hml]; rfl) fun T111 X111 e111 => ?_
 refine Home.go (fun _ => XS.ifNo X111.here hx rfl (hb hby at_462) rfl ((if0 _ _).trans (feq (by decide)).1)) ?_
 refine Rn X111 hx hby sg0_465_4 473 #[si i0, si i1, si i2, si i3, si v1, si v2, si v3, si v11, sr host, sr b30, .val (.int (own_n r56)), sr rs_83, si 1] [(.int 16), (.int (own_n r56)), (.ref b30), (.ref rs_83)] rfl ?_
 refine AT X111 e111 16 (by decide) (hb hby at_473) (by rw [hml]; rfl) fun T112 X112 e112 => ?_
 refine Home.go (fun _ => XS.ifNo X112.here hx rfl (hb hby at_476) rfl ((if0 _ _).trans (feq (by decide)).1)) ?_
 refine Rn X112 hx hby sg0_479_4 487 #[si i0, si i1, si i2, si i3, si v1, si v2, si v3, si v11, sr host, sr b30, .val (.int (own_n r56)), sr rs_83, si 1] [(.int 17), (.int (own_n r56)), (.ref b30), (.ref rs_83)] rfl ?_
 refine AT X112 e112 17 (by decide) (hb hby at_487) (by rw [hml]; rfl) fun T113 X113 e113 => ?_
 refine Home.go (fun _ => XS.ifNo X113.here hx rfl (hb hby at_490) rfl ((if0 _ _).trans (feq (by decide)).1)) ?_
 refine Rn X113 hx hby sg0_493_4 501 #[si i0, si i1, si i2, si i3, si v1, si v2, si v3, si v11, sr host, sr b30, .val (.int (own_n r56)), sr rs_83, si 1] [(.int 18), (.int (own_n r56)), (.ref b30), (.ref rs_83)] rfl ?_
 refine AT X113 e113 18 (by decide) (hb hby at_501) (by rw [hml]; rfl) fun T114 X114 e114 => ?_
 refine Home.go (fun _ => XS.ifNo X114.here hx rfl (hb hby at_504) rfl ((if0 _ _).trans (feq (by decide)).1)) ?_
 refine Rn X114 hx hby sg0_507_4 515 #[si i0, si i1, si i2, si i3, si v1, si v2, si v3, si v11, sr host, sr b30, .val (.int (own_n r56)), sr rs_83, si 1] [(.int 19), (.int (own_n r56)), (.ref b30), (.ref rs_83)] rfl ?_
 refine AT X114 e114 19 (by decide) (hb hby at_515) (by rw [hml]; rfl) fun T115 X115 e115 => ?_
 refine Home.go (fun _ => XS.ifNo X115.here hx rfl (hb hby at_518) rfl ((if0 _ _).trans (feq (by decide)).1)) ?_
 refine Rn X115 hx hby sg0_521_4 530 #[si i0, si i1, si i2, si i3, si v1, si v2, si v3, si v11, sr host, sr b30, .val (.int (own_n r56)), sr rs_83, si 1] [(.int 1)] rfl ?_
 refine Home.go (fun _ => XS.ifNo X115.here hx rfl (hb hby at_530) rfl ((if0 _ _).trans (feq (by decide)).1)) ?_
 refine Rn X115 hx hby sg0_533_4 541 #[si i0, si i1, si i2, si i3, si v1, si v2, si v3, si v11, sr host, sr b30, .val (.int (own_n r56)), sr rs_83, si 1] [(.int 20), (.int (own_n r56)), (.ref b30), (.ref rs_83)] rfl ?_
 refine AT X115 e115 20 (by decide) (hb hby at_541) (by rw [hml]; rfl) fun T116 X116 e116 => ?_
 refine Home.go (fun _ => XS.ifNo X116.here hx rfl (hb hby at_544) rfl ((if0 _ _).trans (feq (by decide)).1)) ?_
 refine Rn X116 hx hby sg0_547_4 555 #[si i0, si i1, si i2, si i3, si v1, si v2, si v3, si v11, sr host, sr b30, .val (.int (own_n r56)), sr rs_83, si 1] [(.int 21), (.int (own_n r56)), (.ref b30), (.ref rs_83)] rfl ?_
 refine AT X116 e116 21 (by decide) (hb hby at_555) (by rw [hml]; rfl) fun T117 X117 e117 => ?_
 refine Home.go (fun _ => XS.ifNo X117.here hx rfl (hb hby at_558) rfl ((if0 _ _).trans (feq (by decide)).1)) ?_
 refine Rn X117 hx hby sg0_561_4 569 #[si i0, si i1, si i2, si i3, si v1, si v2, si v3, si v11, sr host, sr b30, .val (.int (own_n r56)), sr rs_83, si 1] [(.int 22), (.int (own_n r56)), (.ref b30), (.ref rs_83)] rfl ?_
 refine AT X117 e117 22 (by decide) (hb hby at_569) (by rw [hml]; rfl) fun T118 X118 e118 => ?_
 refine Home.go (fun _ => XS.ifNo X118.here hx rfl (hb hby at_572) rfl ((if0 _ _).trans (feq (by decide)).1)) ?_
 refine Rn X118 hx hby sg0_575_4 583 #[si i0, si i1, si i2, si i3, si v1, si v2, si v3, si v11, sr host, sr b30, .val (.int (own_n r56)), sr rs_83, si 1] [(.int 23), (.int (own_n r56)), (.ref b30), (.ref rs_83)] rfl ?_
 refine AT X118 e118 23 (by decide) (hb hby at_583) (by rw [hml]; rfl) fun T119 X119 e119 => ?_
 refine Home.go (fun _ => XS.ifNo X119.here hx rfl (hb hby at_586) rfl ((if0 _ _).trans (feq (by decide)).1)) ?_
 refine Rn X119 hx hby sg0_589_4 597 #[si i0, si i1, si i2, si i3, si v1, si v2, si v3, si v11, sr host, sr b30, .val (.int (own_n r56)), sr rs_83, si 1] [(.int 24), (.int (own_n r56)), (.ref b30), (.ref rs_83)] rfl ?_
 refine AT X119 e119 24 (by decide) (hb hby at_597) (by rw [hml]; rfl) fun T120 X120 e120 => ?_
 refine Home.go (fun _ => XS.ifNo X120.here hx rfl (hb hby at_600) rfl ((if0 _ _).trans (feq (by decide)).1)) ?_
 refine Rn X120 hx hby sg0_603_4 611 #[si i0, si i1, si i2, si i3, si v1, si v2, si v3, si v11, sr host, sr b30, .val (.int (own_n r56)), sr rs_83, si 1] [(.int 25), (.int (own_n r56)), (.ref b30), (.ref rs_83)] rfl ?_
 refine AT X120 e120 25 (by decide) (hb hby at_611) (by rw [hml]; rfl) fun T121 X121 e121 => ?_
 refine Home.go (fun _ => XS.ifNo X121.here hx rfl (hb hby at_614) rfl ((if0 _ _).trans (feq (by decide)).1)) ?_
 refine Rn X121 hx hby sg0_617_4 625 #[si i0, si i1, si i2, si i3, si v1, si v2, si v3, si v11, sr host, sr b30, .val (.int (own_n r56)), sr rs_83, si 1] [(.int 26), (.int (own_n r56)), (.ref b30), (.ref rs_83)] rfl ?_
 refine AT X121 e121 26 (by decide) (hb hby at_625) (by rw [hml]; rfl) fun T122 X122 e122 => ?_
 refine Home.go (fun _ => XS.ifNo X122.here hx rfl (hb hby at_628) rfl ((if0 _ _).trans (feq (by decide)).1)) ?_
 refine Rn X122 hx hby sg0_631_4 639 #[si i0, si i1, si i2, si i3, si v1, si v2, si v3, si v11, sr host, sr b30, .val (.int (own_n r56)), sr rs_83, si 1] [(.int 27), (.int (own_n r56)), (.ref b30), (.ref rs_83)] rfl ?_
 refine AT X122 e122 27 (by decide) (hb hby at_639) (by rw [hml]; rfl) fun T123 X123 e123 => ?_
 refine Home.go (fun _ => XS.ifNo X123.here hx rfl (hb hby at_642) rfl ((if0 _ _).trans (feq (by decide)).1)) ?_
 refine Rn X123 hx hby sg0_645_4 653 #[si i0, si i1, si i2, si i3, si v1, si v2, si v3, si v11, sr host, sr b30, .val (.int (own_n r56)), sr rs_83, si 1] [(.int 28), (.int (own_n r56)), (.ref b30), (.ref rs_83)] rfl ?_
 refine AT X123 e123 28 (by decide) (hb hby at_653) (by rw [hml]; rfl) fun T124 X124 e124 => ?_
 refine Home.go (fun _ => XS.ifNo X124.here hx rfl (hb hby at_656) rfl ((if0 _ _).trans (feq (by decide)).1)) ?_
 refine Rn X124 hx hby sg0_659_4 667 #[si i0, si i1, si i2, si i3, si v1, si v2, si v3, si v11, sr host, sr b30, .val (.int (own_n r56)), sr rs_83, si 1] [(.int 29), (.int (own_n r56)), (.ref b30), (.ref rs_83)] rfl ?_
 refine AT X124 e124 29 (by decide) (hb hby at_667) (by rw [hml]; rfl) fun T125 X125 e125 => ?_
 refine Home.go (fun _ => XS.ifNo X125.here hx rfl (hb hby at_670) rfl ((if0 _ _).trans (feq (by decide)).1)) ?_
 refine Rn X125 hx hby sg0_673_4 682 #[si i0, si i1, si i2, si i3, si v1, si v2, si v3, si v11, sr host, sr b30, .val (.int (own_n r56)), sr rs_83, si 1] [(.int 1)] rfl ?_
 refine Home.go (fun _ => XS.ifNo X125.here hx rfl (hb hby at_682) rfl ((if0 _ _).trans (feq (by decide)).1)) ?_
 refine Rn X125 hx hby sg0_685_4 693 #[si i0, si i1, si i2, si i3, si v1, si v2, si v3, si v11, sr host, sr b30, .val (.int (own_n r56)), sr rs_83, si 1] [(.int 30), (.int (own_n r56)), (.ref b30), (.ref rs_83)] rfl ?_
 refine AT X125 e125 30 (by decide) (hb hby at_693) (by rw [hml]; rfl) fun T126 X126 e126 => ?_
 refine Home.go (fun _ => XS.ifNo X126.here hx rfl (hb hby at_696) rfl ((if0 _ _).trans (feq (by decide)).1)) ?_
 refine Rn X126 hx hby sg0_699_4 707 #[si i0, si i1, si i2, si i3, si v1, si v2, si v3, si v11, sr host, sr b30, .val (.int (own_n r56)), sr rs_83, si 1] [(.int 31), (.int (own_n r56)), (.ref b30), (.ref rs_83)] rfl ?_
 refine AT X126 e126 31 (by decide) (hb hby at_707) (by rw [hml]; rfl) fun T127 X127 e127 => ?_
 refine Home.go (fun _ => XS.ifNo X127.here hx rfl (hb hby at_710) rfl ((if0 _ _).trans (feq (by decide)).1)) ?_
 refine Rn X127 hx hby sg0_713_4 721 #[si i0, si i1, si i2, si i3, si v1, si v2, si v3, si v11, sr host, sr b30, .val (.int (own_n r56)), sr rs_83, si 1] [(.int 32), (.int (own_n r56)), (.ref b30), (.ref rs_83)] rfl ?_
 refine AT X127 e127 32 (by decide) (hb hby at_721) (by rw [hml]; rfl) fun T128 X128 e128 => ?_
 refine Home.go (fun _ => XS.ifNo X128.here hx rfl (hb hby at_724) rfl ((if0 _ _).trans (feq (by decide)).1)) ?_
 refine Rn X128 hx hby sg0_727_4 735 #[si i0, si i1, si i2, si i3, si v1, si v2, si v3, si v11, sr host, sr b30, .val (.int (own_n r56)), sr rs_83, si 1] [(.int 33), (.int (own_n r56)), (.ref b30), (.ref rs_83)] rfl ?_
 refine AT X128 e128 33 (by decide) (hb hby at_735) (by rw [hml]; rfl) fun T129 X129 e129 => ?_
 refine Home.go (fun _ => XS.ifNo X129.here hx rfl (hb hby at_738) rfl ((if0 _ _).trans (feq (by decide)).1)) ?_
 refine Rn X129 hx hby sg0_741_4 749 #[si i0, si i1, si i2, si i3, si v1, si v2, si v3, si v11, sr host, sr b30, .val (.int (own_n r56)), sr rs_83, si 1] [(.int 34), (.int (own_n r56)), (.ref b30), (.ref rs_83)] rfl ?_
 refine AT X129 e129 34 (by decide) (hb hby at_749) (by rw [hml]; rfl) fun T130 X130 e130 => ?_
 refine Home.go (fun _ => XS.ifNo X130.here hx rfl (hb hby at_752) rfl ((if0 _ _).trans (feq (by decide)).1)) ?_
 refine Rn X130 hx hby sg0_755_4 763 #[si i0, si i1, si i2, si i3, si v1, si v2, si v3, si v11, sr host, sr b30, .val (.int (own_n r56)), sr rs_83, si 1] [(.int 35), (.int (own_n r56)), (.ref b30), (.ref rs_83)] rfl ?_
 refine AT X130 e130 35 (by decide) (hb hby at_763) (by rw [hml]; rfl) fun T131 X131 e131 => ?_
 refine Home.go (fun _ => XS.ifNo X131.here hx rfl (hb hby at_766) rfl ((if0 _ _).trans (feq (by decide)).1)) ?_
 refine Rn X131 hx hby sg0_769_4 777 #[si i0, si i1, si i2, si i3, si v1, si v2, si v3, si v11, sr host, sr b30, .val (.int (own_n r56)), sr rs_83, si 1] [(.int 36), (.int (own_n r56)), (.ref b30), (.ref rs_83)] rfl ?_
 refine AT X131 e131 36 (by decide) (hb hby at_777) (by rw [hml]; rfl) fun T132 X132 e132 => ?_
 refine Home.go (fun _ => XS.ifNo X132.here hx rfl (hb hby at_780) rfl ((if0 _ _).trans (feq (by decide)).1)) ?_
 refine Rn X132 hx hby sg0_783_4 791 #[si i0, si i1, si i2, si i3, si v1, si v2, si v3, si v11, sr host, sr b30, .val (.int (own_n r56)), sr rs_83, si 1] [(.int 37), (.int (own_n r56)), (.ref b30), (.ref rs_83)] rfl ?_
 refine AT X132 e132 37 (by decide) (hb hby at_791) (by rw [hml]; rfl) fun T133 X133 e133 => ?_
 refine Home.go (fun _ => XS.ifNo X133.here hx rfl (hb hby at_794) rfl ((if0 _ _).trans (feq (by decide)).1)) ?_
 refine Rn X133 hx hby sg0_797_4 805 #[si i0, si i1, si i2, si i3, si v1, si v2, si v3, si v11, sr host, sr b30, .val (.int (own_n r56)), sr rs_83, si 1] [(.int 38), (.int (own_n r56)), (.ref b30), (.ref rs_83)] rfl ?_
 refine AT X133 e133 38 (by decide) (hb hby at_805) (by rw [hml]; rfl) fun T134 X134 e134 => ?_
 refine Home.go (fun _ => XS.ifNo X134.here hx rfl (hb hby at_808) rfl ((if0 _ _).trans (feq (by decide)).1)) ?_
 refine Rn X134 hx hby sg0_811_4 819 #[si i0, si i1, si i2, si i3, si v1, si v2, si v3, si v11, sr host, sr b30, .val (.int (own_n r56)), sr rs_83, si 1] [(.int 39), (.int (own_n r56)), (.ref b30), (.ref rs_83)] rfl ?_
 refine AT X134 e134 39 (by decide) (hb hby at_819) (by rw [hml]; rfl) fun T135 X135 e135 => ?_
 refine Home.go (fun _ => XS.ifNo X135.here hx rfl (hb hby at_822) rfl ((if0 _ _).trans (feq (by decide)).1)) ?_
 refine Rn X135 hx hby sg0_825_4 834 #[si i0, si i1, si i2, si i3, si v1, si v2, si v3, si v11, sr host, sr b30, .val (.int (own_n r56)), sr rs_83, si 1] [(.int 1)] rfl ?_
 exact HomeW.retN X135 hx hlk hZ (own_hEL hw) e135 Ce83 (t := .boolean) hret (by simp) (hb hby at_834) ⟨rfl, N83⟩ (by decide) (by decide)
theorem comes_1 {Post : Tables → Env → Array Value → State → Outcome → State → Prop} (hpost : ∀ tb e args s v u, (limb_1_1.after args s (.returned v) u = true ∧ limb_1_2.after args s (.returned v) u = true ∧ True) → ReturnedEndW s (.returned v) u (Jvm.fieldLocs frame_1_writes args s ++ Jvm.arrayLocs frame_1_arrays args s ++ Jvm.staticLocs frame_1_statics s) 40 3584 → Post tb e args s (.returned v) u) :
    ArmFor flags0 classFile x code maxLocals ret World_1 tables_1 room_1 Calls_1 rest_1 Pre_1 Post := by
  intro l hfl _ _ p e ha hc hk s m args below hf hA hF happ hP
  obtain ⟨hcalls, hrest, hpre⟩ := hP
  obtain ⟨-, -, -, hnamed, -, -, -, hat⟩ := (Spec.applies_iff hf).mp happ
  obtain ⟨hg, hn⟩ := and_e (Cond.before_iff.mp (show (Jvm.Cond.and given_1 narrow_1).before args s = true from hpre))
  obtain ⟨gg1, gg2⟩ := and_e hg
  obtain ⟨gg3, gg4⟩ := and_e gg2
  obtain ⟨gg5, gg6⟩ := and_e gg4
  obtain ⟨gg7, gg8⟩ := and_e gg6
  obtain ⟨w0, w1, w2, w3, rfl⟩ : ∃ w0 w1 w2 w3 : Value, args = #[w0, w1, w2, w3] := by
    have hs : args.size = 4 := by simpa [Cond.value, given_1] using gg1
    obtain ⟨L⟩ := args
    match L, hs with
    | [w0, w1, w2, w3], _ => exact ⟨w0, w1, w2, w3, rfl⟩
  have hw := fun d (hd : d ∈ tables_1) => atoms_spec (ws := Jvm.Cond.code x code maxLocals ret :: tables_1) hat d (List.mem_cons_of_mem _ hd)
  have hfit : Fit s := fun {y c} hc i hi => by
    obtain ⟨ha, rfl⟩ := Array.getElem?_eq_some_iff.mp hc
    have q := List.all_eq_true.mp ((Array.all_eq_true_iff_forall_mem.mp hF) _ (Array.getElem_mem ha)) i (List.mem_range.mpr hi)
    simpa [Array.getElem?_eq_getElem hi] using q
  obtain ⟨hsets, hown0⟩ := atoms_of _ (rest_1_c_eq ▸ (show rest_1_c.before _ s = true from hrest))
  have hr0 := Cond.before_iff.mp hown0
  obtain ⟨i0, ei0⟩ := is_v gg3
  obtain rfl : w0 = (.int i0) := Option.some.inj ei0
  obtain ⟨i1, ei1⟩ := is_v gg5
  obtain rfl : w1 = (.int i1) := Option.some.inj ei1
  obtain ⟨i2, ei2⟩ := is_v gg7
  obtain rfl : w2 = (.int i2) := Option.some.inj ei2
  obtain ⟨i3, ei3⟩ := is_v gg8
  obtain rfl : w3 = (.int i3) := Option.some.inj ei3
  obtain ⟨sv_DigitOnes, k_ones, ev_ones, V_ones⟩ := own_tbl (vs := own_ones) (w3 hw) (Cond.before_iff.mp (hsets _ (List.mem_of_getElem? (i := 12) rfl))) (Cond.before_iff.mp (hsets _ (List.mem_of_getElem? (i := 13) rfl))) (Cond.before_iff.mp (hsets _ (List.mem_of_getElem? (i := 14) rfl))) (fun _ => rfl) own_onesF own_onesB
  have S_DigitOnes := Sta.start ev_ones (Or.inl (hsets _ (List.mem_of_getElem? (i := 11) rfl)))
  obtain ⟨sv_DigitTens, k_tens, ev_tens, V_tens⟩ := own_tbl (vs := own_tens) (w3 hw) (Cond.before_iff.mp (hsets _ (List.mem_of_getElem? (i := 17) rfl))) (Cond.before_iff.mp (hsets _ (List.mem_of_getElem? (i := 18) rfl))) (Cond.before_iff.mp (hsets _ (List.mem_of_getElem? (i := 19) rfl))) (fun _ => rfl) own_tensF own_tensB
  have S_DigitTens := Sta.start ev_tens (Or.inl (hsets _ (List.mem_of_getElem? (i := 16) rfl)))
  obtain ⟨sv_COMPACT_STRINGS, v_cs⟩ := is_v (Cond.before_iff.mp (hsets _ (List.mem_of_getElem? (i := 1) rfl)))
  have S_COMPACT_STRINGS := Sta.start v_cs (Or.inl (hsets _ (List.mem_of_getElem? (i := 0) rfl)))
  have hCS : ¬ (sv_COMPACT_STRINGS = (0 : Int32)) := gotF (Cond.eq_ints v_cs (Term.int_eval 0)) (not_v (Cond.before_iff.mp (hsets _ (List.mem_of_getElem? (i := 2) rfl))))
  obtain ⟨sv_SIOOBE_FORMATTER, v_sv_SIOOBE_FORMATTER, isr_sv_SIOOBE_FORMATTER⟩ := isR_v (Cond.before_iff.mp (hsets _ (List.mem_of_getElem? (i := 8) rfl)))
  have S_SIOOBE_FORMATTER := Sta.start v_sv_SIOOBE_FORMATTER (Or.inl (hsets _ (List.mem_of_getElem? (i := 7) rfl)))
  have hCH : CHv s own_EL s.vm s.heap := CHv.start (own_hEL hw) (fun p hp => hcalls.1 p hp) (hsets _ (List.mem_of_getElem? (i := 2) rfl)) (w3 hw) (w2 hw)
  obtain ⟨n, o, h1, h2, h3, _, L, rfl, ⟨rfl, N⟩, -, -, hq⟩ := rm0 l s _ hw tables_1 i0 i1 i2 i3 sv_COMPACT_STRINGS sv_DigitOnes k_ones sv_DigitTens k_tens sv_SIOOBE_FORMATTER s.heap s.heap.size (Old.start s) S_COMPACT_STRINGS hCS S_DigitOnes V_ones S_DigitTens V_tens S_SIOOBE_FORMATTER isr_sv_SIOOBE_FORMATTER p e ha hc hk s m _ below hf ((Spec.applies_iff_loose hf).mp happ).1 ⟨rfl, State.Warmed39.refl s, rfl, hCH, fun _ hx => nomatch hx⟩ trivial
  refine ⟨n, _, h1, h2, h3, hpost _ _ _ _ _ _ ⟨Cond.after_iff.mpr rfl, Cond.after_iff.mpr (eq_i res_at (Term.int_eval (1)) rfl), trivial⟩ ⟨hq.1, hq.2.1, hq.2.2.1, (hq.2.2.2.sift fun y hy => Or.inr (N y hy)).mono (by decide) (by decide)⟩⟩
theorem main_1_1 : Claimed_1_1 := comes_1 fun _ _ _ _ _ _ h hF => ⟨h.1, hF⟩
theorem main_1_2 : Claimed_1_2 := comes_1 fun _ _ _ _ _ _ h hF => ⟨h.2.1, hF⟩
end Jvm.Pilot.@@N@@
namespace Jvm.Pilot.@@N@@
open Jvm Jvm.ClassFile Sem Op Lib Jvm.Free Jvm.Stand Jvm.Pilot.@@N@@.Jvm.D
/-! MADE BY PROGRAM (witnessworld.py) out of the Statement's table words and the real class files: 29 classes; the members and pool entries that the words name. The judged class is class 1, her method 1. -/
namespace start1
open Jvm.ClassFile
def u (s : String) : CpInfo := .utf8 (stringToUtf16 s)
/-- a pool by its gaps: so many unusable entries, then the entry; so many at the end -/
def gap : Nat → List CpInfo → List CpInfo
  | 0, r => r
  | n + 1, r => .unusable :: gap n r
def poolList (es : List (Nat × CpInfo)) (last : Nat) : List CpInfo := es.foldr (fun e r => gap e.1 (e.2 :: r)) (gap last [])
def pool (es : List (Nat × CpInfo)) (last : Nat) : Array CpInfo := ⟨poolList es last⟩
def fileOf (pool : Array CpInfo) (this : Nat) (attrs : Array Attribute := #[]) (ms : Array MethodInfo := #[]) (fl : Nat := 33) (sup : Nat := 0) (ifs : Array Nat := #[]) (fds : Array FieldInfo := #[]) : ClassFile where
  minorVersion := 0
  majorVersion := 65
  constantPool := pool
  accessFlags := fl
  thisClass := this
  superClass := sup
  interfaces := ifs
  fields := fds
  methods := ms
  attributes := attrs
def plain (name : String) (sup : Option ClassId) : Class where
  name := name
  kind := .ordinary
  loader := none
  accessFlags := 33
  super := sup
  interfaces := #[]
  cf := none
  fields := #[]
  methods := #[]
  instanceTypes := #[]
  staticTypes := #[]
  resolved := #[]
  callSites := []
  init := .initialized
  statics := none
  mirror := none

def pool0 : Array CpInfo := pool [(5, u "<init>"), (0, u "()V"), (1, .class_ 10), (1, u "java/lang/Object"), (85, u "clone"), (0, u "()Ljava/lang/Object;")] 26

def k0c0 : Code := { maxStack := 0, maxLocals := 1, code := object_method_1_code, exceptionTable := #[], attributes := #[] }
def k0m0 : Method := { name := "<init>", desc := "()V", sig := { parameters := [], returnType := none }, accessFlags := 1, code := some k0c0 }
def k0m1 : Method := { name := "clone", desc := "()Ljava/lang/Object;", sig := { parameters := [], returnType := some (.object "java/lang/Object") }, accessFlags := 260, code := none }
/-- java/lang/Object -/
def k0 : Class := { plain "java/lang/Object" none with
  accessFlags := 33
  interfaces := #[]
  cf := some (fileOf pool0 8 #[] #[{ accessFlags := 1, nameIndex := 5, descriptorIndex := 6, attributes := #[] }, { accessFlags := 260, nameIndex := 96, descriptorIndex := 97, attributes := #[] }] 33 0 #[] #[])
  fields := #[]
  methods := #[k0m0, k0m1]
  instanceTypes := #[]
  staticTypes := #[]
  resolved := Array.replicate 124 none
  statics := none }

def pool1 : Array CpInfo := pool [(2, .class_ 4), (1, u "java/lang/Object"), (0, u "<init>"), (0, u "()V"), (0, .string 8), (0, u ""), (0, .methodref 10 11), (0, .class_ 12), (0, .nameAndType 13 14), (0, u "java/lang/String"), (0, u "valueOf"), (0, u "(C)Ljava/lang/String;"), (0, .methodref 10 16), (0, .nameAndType 5 17), (0, u "([C)V"), (0, .methodref 19 20), (0, .class_ 21), (0, .nameAndType 22 23), (0, u "com/example/token_relay/tokenrelay/MemberToStringPinLaw"), (0, u "put"), (0, u "([CII)I"), (0, .class_ 25), (0, u "com/example/token_relay/tokenrelay/Member"), (0, .methodref 24 27), (0, .nameAndType 5 28), (0, u "(ILjava/lang/String;II)V"), (0, .methodref 24 30), (0, .nameAndType 31 32), (0, u "toString"), (0, u "()Ljava/lang/String;"), (0, .methodref 10 34), (0, .nameAndType 35 36), (0, u "length"), (0, u "()I"), (0, .methodref 19 38), (0, .nameAndType 39 40), (0, u "at"), (0, u "(Ljava/lang/String;[CII)Z"), (0, .methodref 10 42), (0, .nameAndType 43 44), (0, u "charAt"), (0, u "(I)C"), (0, .long 10), (1, .long 100), (1, .long 1000), (1, .long 10000), (1, .long 100000), (1, .long 1000000), (1, .long 10000000), (1, .long 100000000), (1, .long 1000000000), (1, .methodref 19 64), (0, .nameAndType 65 66), (0, u "ch"), (0, u "(J)C"), (2, u "law"), (0, u "(IIII)Z")] 5

def k1m0 : Method := { name := "<init>", desc := "()V", sig := { parameters := [], returnType := none }, accessFlags := 1, code := none }
def k1c1 : Code := { maxStack := 6, maxLocals := 13, code := code, exceptionTable := #[], attributes := #[] }
def k1m1 : Method := { name := "law", desc := "(IIII)Z", sig := { parameters := [.int, .int, .int, .int], returnType := some .boolean }, accessFlags := 9, code := some k1c1 }
def k1c2 : Code := { maxStack := 3, maxLocals := 4, code := method_3_code, exceptionTable := #[], attributes := #[] }
def k1m2 : Method := { name := "at", desc := "(Ljava/lang/String;[CII)Z", sig := { parameters := [(.object "java/lang/String"), (.array .char), .int, .int], returnType := some .boolean }, accessFlags := 10, code := some k1c2 }
def k1c3 : Code := { maxStack := 5, maxLocals := 2, code := method_4_code, exceptionTable := #[], attributes := #[] }
def k1m3 : Method := { name := "ch", desc := "(J)C", sig := { parameters := [.long], returnType := some .char }, accessFlags := 10, code := some k1c3 }
def k1c4 : Code := { maxStack := 6, maxLocals := 7, code := method_5_code, exceptionTable := #[], attributes := #[] }
def k1m4 : Method := { name := "put", desc := "([CII)I", sig := { parameters := [(.array .char), .int, .int], returnType := some .int }, accessFlags := 10, code := some k1c4 }
/-- com/example/token_relay/tokenrelay/MemberToStringPinLaw -/
def k1 : Class := { plain "com/example/token_relay/tokenrelay/MemberToStringPinLaw" (some 0) with
  accessFlags := 49
  interfaces := #[]
  cf := some (fileOf pool1 19 #[] #[{ accessFlags := 1, nameIndex := 5, descriptorIndex := 6, attributes := #[] }, { accessFlags := 9, nameIndex := 69, descriptorIndex := 70, attributes := #[] }, { accessFlags := 10, nameIndex := 39, descriptorIndex := 40, attributes := #[] }, { accessFlags := 10, nameIndex := 65, descriptorIndex := 66, attributes := #[] }, { accessFlags := 10, nameIndex := 22, descriptorIndex := 23, attributes := #[] }] 49 2 #[] #[])
  fields := #[]
  methods := #[k1m0, k1m1, k1m2, k1m3, k1m4]
  instanceTypes := #[]
  staticTypes := #[]
  resolved := Array.replicate 76 none
  statics := none }

def pool2 : Array CpInfo := pool [(1, .class_ 2), (0, u "java/io/Serializable"), (0, .class_ 4), (0, u "java/lang/Object")] 2

/-- java/io/Serializable -/
def k2 : Class := { plain "java/io/Serializable" (some 0) with
  accessFlags := 1537
  interfaces := #[]
  cf := some (fileOf pool2 1 #[] #[] 1537 3 #[] #[])
  fields := #[]
  methods := #[]
  instanceTypes := #[]
  staticTypes := #[]
  resolved := Array.replicate 7 none
  statics := none }

def pool3 : Array CpInfo := pool [(1, .class_ 2), (0, u "java/lang/Comparable"), (0, .class_ 4), (0, u "java/lang/Object")] 7

/-- java/lang/Comparable -/
def k3 : Class := { plain "java/lang/Comparable" (some 0) with
  accessFlags := 1537
  interfaces := #[]
  cf := some (fileOf pool3 1 #[] #[] 1537 3 #[] #[])
  fields := #[]
  methods := #[]
  instanceTypes := #[]
  staticTypes := #[]
  resolved := Array.replicate 12 none
  statics := none }

def pool4 : Array CpInfo := pool [(2, .class_ 4), (1, u "java/lang/CharSequence"), (42, .class_ 48), (0, u "java/lang/CharSequence$1CodePointIterator"), (10, .class_ 60), (0, u "java/lang/CharSequence$1CharIterator"), (5, .class_ 67), (0, u "java/lang/Object")] 63

/-- java/lang/CharSequence -/
def k4 : Class := { plain "java/lang/CharSequence" (some 0) with
  accessFlags := 1537
  interfaces := #[]
  cf := some (fileOf pool4 2 #[.nestMembers #[47, 59]] #[] 1537 66 #[] #[])
  fields := #[]
  methods := #[]
  instanceTypes := #[]
  staticTypes := #[]
  resolved := Array.replicate 131 none
  statics := none }

def pool5 : Array CpInfo := pool [(1, .class_ 2), (0, u "java/lang/constant/Constable"), (0, .class_ 4), (0, u "java/lang/Object")] 6

/-- java/lang/constant/Constable -/
def k5 : Class := { plain "java/lang/constant/Constable" (some 0) with
  accessFlags := 1537
  interfaces := #[]
  cf := some (fileOf pool5 1 #[] #[] 1537 3 #[] #[])
  fields := #[]
  methods := #[]
  instanceTypes := #[]
  staticTypes := #[]
  resolved := Array.replicate 11 none
  statics := none }

def pool6 : Array CpInfo := pool [(1, .class_ 2), (0, u "java/lang/constant/ConstantDesc"), (0, .class_ 4), (0, u "java/lang/Object")] 32

/-- java/lang/constant/ConstantDesc -/
def k6 : Class := { plain "java/lang/constant/ConstantDesc" (some 0) with
  accessFlags := 1537
  interfaces := #[]
  cf := some (fileOf pool6 1 #[] #[] 1537 3 #[] #[])
  fields := #[]
  methods := #[]
  instanceTypes := #[]
  staticTypes := #[]
  resolved := Array.replicate 37 none
  statics := none }

def pool7 : Array CpInfo := pool [(1, .methodref 2 3), (0, .class_ 4), (0, .nameAndType 5 6), (0, u "java/lang/Object"), (0, u "<init>"), (0, u "()V"), (2, .fieldref 10 11), (0, .class_ 12), (0, .nameAndType 13 14), (0, u "java/lang/String"), (0, u "value"), (0, u "[B"), (0, .fieldref 10 16), (0, .nameAndType 17 18), (0, u "coder"), (0, u "B"), (2, u "hash"), (0, u "I"), (2, u "hashIsZero"), (0, u "Z"), (0, .methodref 10 28), (0, .nameAndType 5 29), (0, u "([CIILjava/lang/Void;)V"), (8, .fieldref 10 39), (0, .nameAndType 40 26), (0, u "COMPACT_STRINGS"), (1, .class_ 44), (1, u "java/lang/StringUTF16"), (0, u "compress"), (1, .methodref 42 48), (0, .nameAndType 49 50), (0, u "coderFromArrayLen"), (0, u "([BI)B"), (2, u "toBytes"), (0, .methodref 55 56), (0, .class_ 57), (0, .nameAndType 58 59), (0, u "java/util/Arrays"), (0, u "copyOfRange"), (0, u "([BII)[B"), (47, .class_ 109), (1, u "java/lang/StringLatin1"), (32, u "()Z"), (34, .methodref 42 178), (0, .nameAndType 45 179), (0, u "([CII)[B"), (13, .class_ 195), (1, u "java/lang/System"), (13, .methodref 10 210), (0, .nameAndType 5 211), (0, u "([BB)V"), (0, .methodref 193 213), (0, .nameAndType 214 215), (0, u "arraycopy"), (0, u "(Ljava/lang/Object;ILjava/lang/Object;II)V"), (118, u "()I"), (0, .methodref 10 336), (0, .nameAndType 17 337), (0, u "()B"), (2, u "()[B"), (22, u "([BI)C"), (5, u "(C)Z"), (21, u "(II)V"), (35, u "(I)C"), (61, .methodref 10 490), (0, .nameAndType 5 491), (0, u "(Ljava/lang/AbstractStringBuilder;Ljava/lang/Void;)V"), (0, .methodref 10 493), (0, .nameAndType 494 142), (0, u "isLatin1"), (0, .methodref 107 496), (0, .nameAndType 497 363), (0, u "charAt"), (3, u "checkIndex"), (4, .nameAndType 507 334), (0, u "length"), (24, u "getBytes"), (16, .methodref 550 506), (0, .class_ 551), (0, u "java/lang/AbstractStringBuilder"), (0, .methodref 550 553), (0, .nameAndType 554 340), (0, u "getValue"), (20, .class_ 576), (0, u "java/lang/CharSequence"), (22, u "CASE_INSENSITIVE_ORDER"), (0, u "Ljava/util/Comparator;"), (181, u "valueOf"), (0, u "(C)Ljava/lang/String;"), (37, u "([BIB)V"), (188, u "([C)V"), (4, .methodref 107 1016), (0, .nameAndType 1017 369), (0, u "canEncode"), (0, .methodref 107 1019), (0, .nameAndType 53 1020), (0, u "(C)[B"), (26, .methodref 550 493), (5, .fieldref 1054 1055), (0, .class_ 1056), (0, .nameAndType 1057 1058), (0, u "jdk/internal/util/Preconditions"), (0, u "SIOOBE_FORMATTER"), (0, u "Ljava/util/function/BiFunction;"), (0, .methodref 1054 1060), (0, .nameAndType 501 1061), (0, u "(IILjava/util/function/BiFunction;)I"), (39, u "serialPersistentFields"), (0, u "[Ljava/io/ObjectStreamField;"), (0, .class_ 1104), (0, u "java/lang/String$CaseInsensitiveComparator"), (1, .class_ 1107), (0, u "java/io/Serializable"), (0, .class_ 1109), (0, u "java/lang/Comparable"), (0, .class_ 1111), (0, u "java/lang/constant/Constable"), (0, .class_ 1113), (0, u "java/lang/constant/ConstantDesc"), (2, u "serialVersionUID"), (0, u "J"), (3, u "REPL"), (0, u "C"), (2, u "LATIN1"), (1, u "UTF16"), (105, u "(Ljava/lang/StringBuilder;)V")] 217

def k7m0 : Method := { name := "<init>", desc := "()V", sig := { parameters := [], returnType := none }, accessFlags := 1, code := none }
def k7c1 : Code := { maxStack := 5, maxLocals := 2, code := jdk_42_method_3_code, exceptionTable := #[], attributes := #[] }
def k7m1 : Method := { name := "<init>", desc := "([C)V", sig := { parameters := [(.array .char)], returnType := none }, accessFlags := 1, code := some k7c1 }
def k7c2 : Code := { maxStack := 3, maxLocals := 2, code := jdk_42_method_53_code, exceptionTable := #[], attributes := #[] }
def k7m2 : Method := { name := "<init>", desc := "(Ljava/lang/StringBuilder;)V", sig := { parameters := [(.object "java/lang/StringBuilder")], returnType := none }, accessFlags := 1, code := some k7c2 }
def k7c3 : Code := { maxStack := 2, maxLocals := 1, code := jdk_42_method_54_code, exceptionTable := #[], attributes := #[] }
def k7m3 : Method := { name := "length", desc := "()I", sig := { parameters := [], returnType := some .int }, accessFlags := 1, code := some k7c3 }
def k7c4 : Code := { maxStack := 2, maxLocals := 2, code := jdk_42_method_56_code, exceptionTable := #[], attributes := #[] }
def k7m4 : Method := { name := "charAt", desc := "(I)C", sig := { parameters := [.int], returnType := some .char }, accessFlags := 1, code := some k7c4 }
def k7c5 : Code := { maxStack := 4, maxLocals := 1, code := jdk_42_method_139_code, exceptionTable := #[], attributes := #[] }
def k7m5 : Method := { name := "valueOf", desc := "(C)Ljava/lang/String;", sig := { parameters := [.char], returnType := some (.object "java/lang/String") }, accessFlags := 9, code := some k7c5 }
def k7c6 : Code := { maxStack := 5, maxLocals := 4, code := jdk_42_method_147_code, exceptionTable := #[], attributes := #[] }
def k7m6 : Method := { name := "getBytes", desc := "([BIB)V", sig := { parameters := [(.array .byte), .int, .byte], returnType := none }, accessFlags := 0, code := some k7c6 }
def k7c7 : Code := { maxStack := 4, maxLocals := 6, code := jdk_42_method_149_code, exceptionTable := #[], attributes := #[] }
def k7m7 : Method := { name := "<init>", desc := "([CIILjava/lang/Void;)V", sig := { parameters := [(.array .char), .int, .int, (.object "java/lang/Void")], returnType := none }, accessFlags := 2, code := some k7c7 }
def k7c8 : Code := { maxStack := 5, maxLocals := 5, code := jdk_42_method_150_code, exceptionTable := #[], attributes := #[] }
def k7m8 : Method := { name := "<init>", desc := "(Ljava/lang/AbstractStringBuilder;Ljava/lang/Void;)V", sig := { parameters := [(.object "java/lang/AbstractStringBuilder"), (.object "java/lang/Void")], returnType := none }, accessFlags := 0, code := some k7c8 }
def k7c9 : Code := { maxStack := 2, maxLocals := 3, code := jdk_42_method_151_code, exceptionTable := #[], attributes := #[] }
def k7m9 : Method := { name := "<init>", desc := "([BB)V", sig := { parameters := [(.array .byte), .byte], returnType := none }, accessFlags := 0, code := some k7c9 }
def k7c10 : Code := { maxStack := 1, maxLocals := 1, code := jdk_42_method_152_code, exceptionTable := #[], attributes := #[] }
def k7m10 : Method := { name := "coder", desc := "()B", sig := { parameters := [], returnType := some .byte }, accessFlags := 0, code := some k7c10 }
def k7c11 : Code := { maxStack := 1, maxLocals := 1, code := jdk_42_method_154_code, exceptionTable := #[], attributes := #[] }
def k7m11 : Method := { name := "isLatin1", desc := "()Z", sig := { parameters := [], returnType := some .boolean }, accessFlags := 0, code := some k7c11 }
def k7c12 : Code := { maxStack := 3, maxLocals := 2, code := jdk_42_method_155_code, exceptionTable := #[], attributes := #[] }
def k7m12 : Method := { name := "checkIndex", desc := "(II)V", sig := { parameters := [.int, .int], returnType := none }, accessFlags := 8, code := some k7c12 }
/-- java/lang/String -/
def k7 : Class := { plain "java/lang/String" (some 0) with
  accessFlags := 49
  interfaces := #[2, 3, 4, 5, 6]
  cf := some (fileOf pool7 10 #[.nestMembers #[1103]] #[{ accessFlags := 1, nameIndex := 5, descriptorIndex := 6, attributes := #[] }, { accessFlags := 1, nameIndex := 5, descriptorIndex := 1010, attributes := #[] }, { accessFlags := 1, nameIndex := 5, descriptorIndex := 1233, attributes := #[] }, { accessFlags := 1, nameIndex := 507, descriptorIndex := 334, attributes := #[] }, { accessFlags := 1, nameIndex := 497, descriptorIndex := 427, attributes := #[] }, { accessFlags := 9, nameIndex := 782, descriptorIndex := 783, attributes := #[] }, { accessFlags := 0, nameIndex := 532, descriptorIndex := 821, attributes := #[] }, { accessFlags := 2, nameIndex := 5, descriptorIndex := 29, attributes := #[] }, { accessFlags := 0, nameIndex := 5, descriptorIndex := 491, attributes := #[] }, { accessFlags := 0, nameIndex := 5, descriptorIndex := 211, attributes := #[] }, { accessFlags := 0, nameIndex := 17, descriptorIndex := 337, attributes := #[] }, { accessFlags := 0, nameIndex := 494, descriptorIndex := 142, attributes := #[] }, { accessFlags := 8, nameIndex := 501, descriptorIndex := 391, attributes := #[] }] 49 2 #[1106, 1108, 575, 1110, 1112] #[{ accessFlags := 18, nameIndex := 13, descriptorIndex := 14, attributes := #[] }, { accessFlags := 18, nameIndex := 17, descriptorIndex := 18, attributes := #[] }, { accessFlags := 2, nameIndex := 21, descriptorIndex := 22, attributes := #[] }, { accessFlags := 2, nameIndex := 25, descriptorIndex := 26, attributes := #[] }, { accessFlags := 26, nameIndex := 1116, descriptorIndex := 1117, attributes := #[] }, { accessFlags := 24, nameIndex := 40, descriptorIndex := 26, attributes := #[] }, { accessFlags := 26, nameIndex := 1101, descriptorIndex := 1102, attributes := #[] }, { accessFlags := 26, nameIndex := 1121, descriptorIndex := 1122, attributes := #[] }, { accessFlags := 25, nameIndex := 599, descriptorIndex := 600, attributes := #[] }, { accessFlags := 24, nameIndex := 1125, descriptorIndex := 18, attributes := #[] }, { accessFlags := 24, nameIndex := 1127, descriptorIndex := 18, attributes := #[] }])
  fields := #[{ name := "value", type := (.array .byte), accessFlags := 18, slot := 0, constantValue := 0 }, { name := "coder", type := .byte, accessFlags := 18, slot := 1, constantValue := 0 }, { name := "hash", type := .int, accessFlags := 2, slot := 2, constantValue := 0 }, { name := "hashIsZero", type := .boolean, accessFlags := 2, slot := 3, constantValue := 0 }, { name := "serialVersionUID", type := .long, accessFlags := 26, slot := 0, constantValue := 0 }, { name := "COMPACT_STRINGS", type := .boolean, accessFlags := 24, slot := 1, constantValue := 0 }, { name := "serialPersistentFields", type := (.array (.object "java/io/ObjectStreamField")), accessFlags := 26, slot := 2, constantValue := 0 }, { name := "REPL", type := .char, accessFlags := 26, slot := 3, constantValue := 0 }, { name := "CASE_INSENSITIVE_ORDER", type := (.object "java/util/Comparator"), accessFlags := 25, slot := 4, constantValue := 0 }, { name := "LATIN1", type := .byte, accessFlags := 24, slot := 5, constantValue := 0 }, { name := "UTF16", type := .byte, accessFlags := 24, slot := 6, constantValue := 0 }]
  methods := #[k7m0, k7m1, k7m2, k7m3, k7m4, k7m5, k7m6, k7m7, k7m8, k7m9, k7m10, k7m11, k7m12]
  instanceTypes := #[(.array .byte), .byte, .int, .boolean]
  staticTypes := #[.long, .boolean, (.array (.object "java/io/ObjectStreamField")), .char, (.object "java/util/Comparator"), .byte, .byte]
  resolved := Array.replicate 1451 none
  statics := some 0 }

def pool8 : Array CpInfo := pool [(1, .methodref 2 3), (0, .class_ 4), (0, .nameAndType 5 6), (0, u "java/lang/Object"), (0, u "<init>"), (0, u "()V"), (0, .fieldref 8 9), (0, .class_ 10), (0, .nameAndType 11 12), (0, u "com/example/token_relay/tokenrelay/Member"), (0, u "id"), (0, u "I"), (0, .string 14), (0, u "host"), (0, .methodref 16 17), (0, .class_ 18), (0, .nameAndType 19 20), (0, u "java/util/Objects"), (0, u "requireNonNull"), (0, u "(Ljava/lang/Object;Ljava/lang/String;)Ljava/lang/Object;"), (0, .class_ 22), (0, u "java/lang/String"), (0, .fieldref 8 24), (0, .nameAndType 14 25), (0, u "Ljava/lang/String;"), (0, .fieldref 8 27), (0, .nameAndType 28 12), (0, u "peerPort"), (0, .fieldref 8 30), (0, .nameAndType 31 12), (0, u "clientPort"), (21, .class_ 54), (0, u "java/lang/StringBuilder"), (0, .methodref 53 3), (0, .methodref 53 57), (0, .nameAndType 58 59), (0, u "append"), (0, u "(I)Ljava/lang/StringBuilder;"), (0, .string 61), (0, u " "), (0, .methodref 53 63), (0, .nameAndType 58 64), (0, u "(Ljava/lang/String;)Ljava/lang/StringBuilder;"), (0, .methodref 53 66), (0, .nameAndType 67 68), (0, u "toString"), (0, u "()Ljava/lang/String;"), (0, u "CLIENT_HOST"), (1, u "(ILjava/lang/String;II)V")] 14

def k8c0 : Code := { maxStack := 3, maxLocals := 5, code := prog_8_method_1_code, exceptionTable := #[], attributes := #[] }
def k8m0 : Method := { name := "<init>", desc := "(ILjava/lang/String;II)V", sig := { parameters := [.int, (.object "java/lang/String"), .int, .int], returnType := none }, accessFlags := 1, code := some k8c0 }
def k8c1 : Code := { maxStack := 2, maxLocals := 1, code := prog_8_method_10_code, exceptionTable := #[], attributes := #[] }
def k8m1 : Method := { name := "toString", desc := "()Ljava/lang/String;", sig := { parameters := [], returnType := some (.object "java/lang/String") }, accessFlags := 1, code := some k8c1 }
/-- com/example/token_relay/tokenrelay/Member -/
def k8 : Class := { plain "com/example/token_relay/tokenrelay/Member" (some 0) with
  accessFlags := 33
  interfaces := #[]
  cf := some (fileOf pool8 8 #[] #[{ accessFlags := 1, nameIndex := 5, descriptorIndex := 71, attributes := #[] }, { accessFlags := 1, nameIndex := 67, descriptorIndex := 68, attributes := #[] }] 33 2 #[] #[{ accessFlags := 25, nameIndex := 69, descriptorIndex := 25, attributes := #[] }, { accessFlags := 18, nameIndex := 11, descriptorIndex := 12, attributes := #[] }, { accessFlags := 18, nameIndex := 14, descriptorIndex := 25, attributes := #[] }, { accessFlags := 18, nameIndex := 28, descriptorIndex := 12, attributes := #[] }, { accessFlags := 18, nameIndex := 31, descriptorIndex := 12, attributes := #[] }])
  fields := #[{ name := "CLIENT_HOST", type := (.object "java/lang/String"), accessFlags := 25, slot := 0, constantValue := 0 }, { name := "id", type := .int, accessFlags := 18, slot := 0, constantValue := 0 }, { name := "host", type := (.object "java/lang/String"), accessFlags := 18, slot := 1, constantValue := 0 }, { name := "peerPort", type := .int, accessFlags := 18, slot := 2, constantValue := 0 }, { name := "clientPort", type := .int, accessFlags := 18, slot := 3, constantValue := 0 }]
  methods := #[k8m0, k8m1]
  instanceTypes := #[.int, (.object "java/lang/String"), .int, .int]
  staticTypes := #[(.object "java/lang/String")]
  resolved := Array.replicate 86 none
  statics := none }

def pool9 : Array CpInfo := pool [(2, .class_ 4), (1, u "java/lang/Object"), (0, u "<init>"), (0, u "()V"), (35, .class_ 44), (1, u "java/util/Objects"), (0, u "requireNonNull"), (48, u "(Ljava/lang/Object;Ljava/lang/String;)Ljava/lang/Object;")] 89

def k9m0 : Method := { name := "<init>", desc := "()V", sig := { parameters := [], returnType := none }, accessFlags := 2, code := none }
def k9c1 : Code := { maxStack := 3, maxLocals := 2, code := jdk_31_method_11_code, exceptionTable := #[], attributes := #[] }
def k9m1 : Method := { name := "requireNonNull", desc := "(Ljava/lang/Object;Ljava/lang/String;)Ljava/lang/Object;", sig := { parameters := [(.object "java/lang/Object"), (.object "java/lang/String")], returnType := some (.object "java/lang/Object") }, accessFlags := 9, code := some k9c1 }
/-- java/util/Objects -/
def k9 : Class := { plain "java/util/Objects" (some 0) with
  accessFlags := 49
  interfaces := #[]
  cf := some (fileOf pool9 42 #[] #[{ accessFlags := 2, nameIndex := 5, descriptorIndex := 6, attributes := #[] }, { accessFlags := 9, nameIndex := 45, descriptorIndex := 94, attributes := #[] }] 49 2 #[] #[])
  fields := #[]
  methods := #[k9m0, k9m1]
  instanceTypes := #[]
  staticTypes := #[]
  resolved := Array.replicate 184 none
  statics := none }

def pool10 : Array CpInfo := pool [(1, .class_ 2), (0, u "java/lang/Appendable"), (0, .class_ 4), (0, u "java/lang/Object")] 9

/-- java/lang/Appendable -/
def k10 : Class := { plain "java/lang/Appendable" (some 0) with
  accessFlags := 1537
  interfaces := #[]
  cf := some (fileOf pool10 1 #[] #[] 1537 3 #[] #[])
  fields := #[]
  methods := #[]
  instanceTypes := #[]
  staticTypes := #[]
  resolved := Array.replicate 14 none
  statics := none }

def pool11 : Array CpInfo := pool [(1, .class_ 2), (0, u "java/lang/String"), (0, .methodref 4 5), (0, .class_ 6), (0, .nameAndType 7 8), (0, u "java/lang/Object"), (0, u "<init>"), (0, u "()V"), (1, .class_ 12), (1, u "java/lang/AbstractStringBuilder"), (0, u "EMPTYVALUE"), (0, u "[B"), (0, .fieldref 10 16), (0, .nameAndType 17 14), (0, u "value"), (0, .fieldref 1 19), (0, .nameAndType 20 21), (0, u "COMPACT_STRINGS"), (0, u "Z"), (0, .fieldref 10 23), (0, .nameAndType 24 25), (0, u "coder"), (0, u "B"), (6, .methodref 1 33), (0, .nameAndType 34 35), (0, u "length"), (0, u "()I"), (0, .class_ 37), (0, u "java/lang/Integer"), (1, .integer 2147483647), (0, .methodref 1 41), (0, .nameAndType 24 42), (0, u "()B"), (2, u "append"), (0, u "(Ljava/lang/String;)Ljava/lang/AbstractStringBuilder;"), (1, .class_ 49), (0, u "java/lang/CharSequence"), (19, u "(Ljava/lang/String;)V"), (5, u "maybeLatin1"), (3, .fieldref 10 80), (0, .nameAndType 81 82), (0, u "count"), (0, u "I"), (0, .methodref 10 84), (0, .nameAndType 85 86), (0, u "isLatin1"), (0, u "()Z"), (13, .methodref 10 101), (0, .nameAndType 102 103), (0, u "ensureCapacityInternal"), (0, u "(I)V"), (0, .methodref 10 105), (0, .nameAndType 106 107), (0, u "newCapacity"), (0, u "(I)I"), (0, .methodref 109 110), (0, .class_ 111), (0, .nameAndType 112 113), (0, u "java/util/Arrays"), (0, u "copyOf"), (0, u "([BI)[B"), (0, .methodref 115 116), (0, .class_ 117), (0, .nameAndType 118 119), (0, u "jdk/internal/util/ArraysSupport"), (0, u "newLength"), (0, u "(III)I"), (68, u "getChars"), (19, .methodref 10 209), (0, .nameAndType 210 211), (0, u "putStringAt"), (0, u "(ILjava/lang/String;)V"), (5, u "inflateIfNeededFor"), (2, .nameAndType 221 222), (0, u "getBytes"), (0, u "([BIB)V"), (22, .methodref 36 246), (0, .nameAndType 247 107), (0, u "stringSize"), (0, .methodref 36 249), (0, .nameAndType 188 250), (0, u "(II[B)I"), (146, .methodref 10 398), (0, .nameAndType 217 69), (0, .methodref 1 220), (3, u "()[B"), (40, .class_ 445), (0, u "java/lang/Appendable"), (65, u "(I)Ljava/lang/AbstractStringBuilder;"), (40, u "getValue")] 56

def k11m0 : Method := { name := "<init>", desc := "()V", sig := { parameters := [], returnType := none }, accessFlags := 0, code := none }
def k11c1 : Code := { maxStack := 2, maxLocals := 2, code := jdk_68_method_2_code, exceptionTable := #[], attributes := #[] }
def k11m1 : Method := { name := "<init>", desc := "(I)V", sig := { parameters := [.int], returnType := none }, accessFlags := 0, code := some k11c1 }
def k11c2 : Code := { maxStack := 1, maxLocals := 1, code := jdk_68_method_6_code, exceptionTable := #[], attributes := #[] }
def k11m2 : Method := { name := "length", desc := "()I", sig := { parameters := [], returnType := some .int }, accessFlags := 1, code := some k11c2 }
def k11c3 : Code := { maxStack := 4, maxLocals := 3, code := jdk_68_method_9_code, exceptionTable := #[], attributes := #[] }
def k11m3 : Method := { name := "ensureCapacityInternal", desc := "(I)V", sig := { parameters := [.int], returnType := none }, accessFlags := 2, code := some k11c3 }
def k11c4 : Code := { maxStack := 5, maxLocals := 6, code := jdk_68_method_10_code, exceptionTable := #[], attributes := #[] }
def k11m4 : Method := { name := "newCapacity", desc := "(I)I", sig := { parameters := [.int], returnType := some .int }, accessFlags := 2, code := some k11c4 }
def k11c5 : Code := { maxStack := 3, maxLocals := 3, code := jdk_68_method_22_code, exceptionTable := #[], attributes := #[] }
def k11m5 : Method := { name := "append", desc := "(Ljava/lang/String;)Ljava/lang/AbstractStringBuilder;", sig := { parameters := [(.object "java/lang/String")], returnType := some (.object "java/lang/AbstractStringBuilder") }, accessFlags := 1, code := some k11c5 }
def k11c6 : Code := { maxStack := 4, maxLocals := 4, code := jdk_68_method_32_code, exceptionTable := #[], attributes := #[] }
def k11m6 : Method := { name := "append", desc := "(I)Ljava/lang/AbstractStringBuilder;", sig := { parameters := [.int], returnType := some (.object "java/lang/AbstractStringBuilder") }, accessFlags := 1, code := some k11c6 }
def k11c7 : Code := { maxStack := 1, maxLocals := 1, code := jdk_68_method_64_code, exceptionTable := #[], attributes := #[] }
def k11m7 : Method := { name := "getValue", desc := "()[B", sig := { parameters := [], returnType := some (.array .byte) }, accessFlags := 16, code := some k11c7 }
def k11c8 : Code := { maxStack := 1, maxLocals := 1, code := jdk_68_method_68_code, exceptionTable := #[], attributes := #[] }
def k11m8 : Method := { name := "isLatin1", desc := "()Z", sig := { parameters := [], returnType := some .boolean }, accessFlags := 16, code := some k11c8 }
def k11c9 : Code := { maxStack := 2, maxLocals := 2, code := jdk_68_method_71_code, exceptionTable := #[], attributes := #[] }
def k11m9 : Method := { name := "inflateIfNeededFor", desc := "(Ljava/lang/String;)V", sig := { parameters := [(.object "java/lang/String")], returnType := none }, accessFlags := 2, code := some k11c9 }
def k11c10 : Code := { maxStack := 4, maxLocals := 3, code := jdk_68_method_73_code, exceptionTable := #[], attributes := #[] }
def k11m10 : Method := { name := "putStringAt", desc := "(ILjava/lang/String;)V", sig := { parameters := [.int, (.object "java/lang/String")], returnType := none }, accessFlags := 2, code := some k11c10 }
/-- java/lang/AbstractStringBuilder -/
def k11 : Class := { plain "java/lang/AbstractStringBuilder" (some 0) with
  accessFlags := 1056
  interfaces := #[10, 4]
  cf := some (fileOf pool11 10 #[] #[{ accessFlags := 0, nameIndex := 7, descriptorIndex := 8, attributes := #[] }, { accessFlags := 0, nameIndex := 7, descriptorIndex := 103, attributes := #[] }, { accessFlags := 1, nameIndex := 34, descriptorIndex := 35, attributes := #[] }, { accessFlags := 2, nameIndex := 102, descriptorIndex := 103, attributes := #[] }, { accessFlags := 2, nameIndex := 106, descriptorIndex := 107, attributes := #[] }, { accessFlags := 1, nameIndex := 45, descriptorIndex := 46, attributes := #[] }, { accessFlags := 1, nameIndex := 45, descriptorIndex := 511, attributes := #[] }, { accessFlags := 16, nameIndex := 552, descriptorIndex := 403, attributes := #[] }, { accessFlags := 16, nameIndex := 85, descriptorIndex := 86, attributes := #[] }, { accessFlags := 2, nameIndex := 217, descriptorIndex := 69, attributes := #[] }, { accessFlags := 2, nameIndex := 210, descriptorIndex := 211, attributes := #[] }] 1056 4 #[444, 48] #[{ accessFlags := 0, nameIndex := 17, descriptorIndex := 14, attributes := #[] }, { accessFlags := 0, nameIndex := 24, descriptorIndex := 25, attributes := #[] }, { accessFlags := 0, nameIndex := 75, descriptorIndex := 21, attributes := #[] }, { accessFlags := 0, nameIndex := 81, descriptorIndex := 82, attributes := #[] }, { accessFlags := 26, nameIndex := 13, descriptorIndex := 14, attributes := #[] }])
  fields := #[{ name := "value", type := (.array .byte), accessFlags := 0, slot := 0, constantValue := 0 }, { name := "coder", type := .byte, accessFlags := 0, slot := 1, constantValue := 0 }, { name := "maybeLatin1", type := .boolean, accessFlags := 0, slot := 2, constantValue := 0 }, { name := "count", type := .int, accessFlags := 0, slot := 3, constantValue := 0 }, { name := "EMPTYVALUE", type := (.array .byte), accessFlags := 26, slot := 0, constantValue := 0 }]
  methods := #[k11m0, k11m1, k11m2, k11m3, k11m4, k11m5, k11m6, k11m7, k11m8, k11m9, k11m10]
  instanceTypes := #[(.array .byte), .byte, .boolean, .int]
  staticTypes := #[(.array .byte)]
  resolved := Array.replicate 609 none
  statics := none }

def pool12 : Array CpInfo := pool [(1, .methodref 2 3), (0, .class_ 4), (0, .nameAndType 5 6), (0, u "java/lang/AbstractStringBuilder"), (0, u "<init>"), (0, u "(I)V"), (11, .class_ 20), (1, u "java/lang/String"), (3, .class_ 26), (1, u "java/lang/StringBuilder"), (0, u "append"), (0, u "(Ljava/lang/String;)Ljava/lang/StringBuilder;"), (0, .methodref 2 30), (0, .nameAndType 27 31), (0, u "(Ljava/lang/String;)Ljava/lang/AbstractStringBuilder;"), (21, .methodref 2 54), (0, .nameAndType 27 55), (0, u "(I)Ljava/lang/AbstractStringBuilder;"), (81, .methodref 18 138), (0, .nameAndType 5 139), (0, u "(Ljava/lang/StringBuilder;)V"), (5, u "()V"), (10, u "()I"), (111, u "(I)Ljava/lang/StringBuilder;"), (74, .methodref 2 344), (0, .nameAndType 345 156), (0, u "length"), (3, .class_ 350), (0, u "java/lang/Appendable"), (0, .class_ 352), (0, u "java/io/Serializable"), (0, .class_ 354), (0, u "java/lang/Comparable"), (0, .class_ 356), (0, u "java/lang/CharSequence"), (0, u "serialVersionUID"), (0, u "J"), (40, u "toString"), (0, u "()Ljava/lang/String;")] 21

def k12c0 : Code := { maxStack := 2, maxLocals := 1, code := jdk_67_method_1_code, exceptionTable := #[], attributes := #[] }
def k12m0 : Method := { name := "<init>", desc := "()V", sig := { parameters := [], returnType := none }, accessFlags := 1, code := some k12c0 }
def k12c1 : Code := { maxStack := 2, maxLocals := 2, code := jdk_67_method_7_code, exceptionTable := #[], attributes := #[] }
def k12m1 : Method := { name := "append", desc := "(Ljava/lang/String;)Ljava/lang/StringBuilder;", sig := { parameters := [(.object "java/lang/String")], returnType := some (.object "java/lang/StringBuilder") }, accessFlags := 1, code := some k12c1 }
def k12c2 : Code := { maxStack := 2, maxLocals := 2, code := jdk_67_method_15_code, exceptionTable := #[], attributes := #[] }
def k12m2 : Method := { name := "append", desc := "(I)Ljava/lang/StringBuilder;", sig := { parameters := [.int], returnType := some (.object "java/lang/StringBuilder") }, accessFlags := 1, code := some k12c2 }
def k12c3 : Code := { maxStack := 3, maxLocals := 1, code := jdk_67_method_42_code, exceptionTable := #[], attributes := #[] }
def k12m3 : Method := { name := "toString", desc := "()Ljava/lang/String;", sig := { parameters := [], returnType := some (.object "java/lang/String") }, accessFlags := 1, code := some k12c3 }
def k12c4 : Code := { maxStack := 1, maxLocals := 1, code := jdk_67_method_93_code, exceptionTable := #[], attributes := #[] }
def k12m4 : Method := { name := "length", desc := "()I", sig := { parameters := [], returnType := some .int }, accessFlags := 4161, code := some k12c4 }
/-- java/lang/StringBuilder -/
def k12 : Class := { plain "java/lang/StringBuilder" (some 11) with
  accessFlags := 49
  interfaces := #[10, 2, 3, 4]
  cf := some (fileOf pool12 24 #[] #[{ accessFlags := 1, nameIndex := 5, descriptorIndex := 145, attributes := #[] }, { accessFlags := 1, nameIndex := 27, descriptorIndex := 28, attributes := #[] }, { accessFlags := 1, nameIndex := 27, descriptorIndex := 268, attributes := #[] }, { accessFlags := 1, nameIndex := 399, descriptorIndex := 400, attributes := #[] }, { accessFlags := 4161, nameIndex := 345, descriptorIndex := 156, attributes := #[] }] 49 2 #[349, 351, 353, 355] #[{ accessFlags := 24, nameIndex := 357, descriptorIndex := 358, attributes := #[] }])
  fields := #[{ name := "serialVersionUID", type := .long, accessFlags := 24, slot := 0, constantValue := 0 }]
  methods := #[k12m0, k12m1, k12m2, k12m3, k12m4]
  instanceTypes := #[(.array .byte), .byte, .boolean, .int]
  staticTypes := #[.long]
  resolved := Array.replicate 422 none
  statics := none }

def pool13 : Array CpInfo := pool [(2, .class_ 4), (1, u "java/lang/Object"), (0, u "<init>"), (0, u "()V"), (1, .class_ 10), (1, u "java/lang/Number"), (2, .class_ 14), (0, u "java/io/Serializable"), (0, u "serialVersionUID"), (0, u "J")] 20

def k13m0 : Method := { name := "<init>", desc := "()V", sig := { parameters := [], returnType := none }, accessFlags := 1, code := none }
/-- java/lang/Number -/
def k13 : Class := { plain "java/lang/Number" (some 0) with
  accessFlags := 1057
  interfaces := #[2]
  cf := some (fileOf pool13 8 #[] #[{ accessFlags := 1, nameIndex := 5, descriptorIndex := 6, attributes := #[] }] 1057 2 #[13] #[{ accessFlags := 26, nameIndex := 15, descriptorIndex := 16, attributes := #[] }])
  fields := #[{ name := "serialVersionUID", type := .long, accessFlags := 26, slot := 0, constantValue := 0 }]
  methods := #[k13m0]
  instanceTypes := #[]
  staticTypes := #[.long]
  resolved := Array.replicate 37 none
  statics := none }

def pool14 : Array CpInfo := pool [(1, .class_ 2), (0, u "java/lang/Integer"), (16, u "digits"), (0, u "[C"), (33, u "(I)I"), (19, u "stringSize"), (2, u "getChars"), (0, u "(II[B)I"), (4, .fieldref 1 84), (0, .nameAndType 85 86), (0, u "DigitOnes"), (0, u "[B"), (0, .fieldref 1 88), (0, .nameAndType 89 86), (0, u "DigitTens"), (99, .class_ 190), (0, u "java/lang/Integer$IntegerCache"), (3, u "I"), (8, .class_ 204), (0, u "java/lang/Number"), (2, u "value"), (94, u "TYPE"), (0, u "Ljava/lang/Class;"), (0, .class_ 305), (0, u "java/lang/Comparable"), (0, .class_ 307), (0, u "java/lang/constant/Constable"), (0, .class_ 309), (0, u "java/lang/constant/ConstantDesc"), (0, u "MIN_VALUE"), (1, u "MAX_VALUE"), (3, u "SIZE"), (1, u "BYTES"), (1, u "serialVersionUID"), (0, u "J")] 131

def k14c0 : Code := { maxStack := 4, maxLocals := 7, code := jdk_33_method_12_code, exceptionTable := #[], attributes := #[] }
def k14m0 : Method := { name := "getChars", desc := "(II[B)I", sig := { parameters := [.int, .int, (.array .byte)], returnType := some .int }, accessFlags := 8, code := some k14c0 }
def k14c1 : Code := { maxStack := 2, maxLocals := 4, code := jdk_33_method_13_code, exceptionTable := #[], attributes := #[] }
def k14m1 : Method := { name := "stringSize", desc := "(I)I", sig := { parameters := [.int], returnType := some .int }, accessFlags := 8, code := some k14c1 }
/-- java/lang/Integer -/
def k14 : Class := { plain "java/lang/Integer" (some 13) with
  accessFlags := 49
  interfaces := #[3, 5, 6]
  cf := some (fileOf pool14 1 #[.nestMembers #[189]] #[{ accessFlags := 8, nameIndex := 77, descriptorIndex := 78, attributes := #[] }, { accessFlags := 8, nameIndex := 74, descriptorIndex := 54, attributes := #[] }] 49 203 #[304, 306, 308] #[{ accessFlags := 25, nameIndex := 310, descriptorIndex := 194, attributes := #[] }, { accessFlags := 25, nameIndex := 312, descriptorIndex := 194, attributes := #[] }, { accessFlags := 25, nameIndex := 302, descriptorIndex := 303, attributes := #[] }, { accessFlags := 24, nameIndex := 19, descriptorIndex := 20, attributes := #[] }, { accessFlags := 24, nameIndex := 89, descriptorIndex := 86, attributes := #[] }, { accessFlags := 24, nameIndex := 85, descriptorIndex := 86, attributes := #[] }, { accessFlags := 18, nameIndex := 207, descriptorIndex := 194, attributes := #[] }, { accessFlags := 25, nameIndex := 316, descriptorIndex := 194, attributes := #[] }, { accessFlags := 25, nameIndex := 318, descriptorIndex := 194, attributes := #[] }, { accessFlags := 26, nameIndex := 320, descriptorIndex := 321, attributes := #[] }])
  fields := #[{ name := "MIN_VALUE", type := .int, accessFlags := 25, slot := 0, constantValue := 0 }, { name := "MAX_VALUE", type := .int, accessFlags := 25, slot := 1, constantValue := 0 }, { name := "TYPE", type := (.object "java/lang/Class"), accessFlags := 25, slot := 2, constantValue := 0 }, { name := "digits", type := (.array .char), accessFlags := 24, slot := 3, constantValue := 0 }, { name := "DigitTens", type := (.array .byte), accessFlags := 24, slot := 4, constantValue := 0 }, { name := "DigitOnes", type := (.array .byte), accessFlags := 24, slot := 5, constantValue := 0 }, { name := "value", type := .int, accessFlags := 18, slot := 0, constantValue := 0 }, { name := "SIZE", type := .int, accessFlags := 25, slot := 6, constantValue := 0 }, { name := "BYTES", type := .int, accessFlags := 25, slot := 7, constantValue := 0 }, { name := "serialVersionUID", type := .long, accessFlags := 26, slot := 8, constantValue := 0 }]
  methods := #[k14m0, k14m1]
  instanceTypes := #[.int]
  staticTypes := #[.int, .int, (.object "java/lang/Class"), (.array .char), (.array .byte), (.array .byte), .int, .int, .long]
  resolved := Array.replicate 453 none
  statics := some 1 }

def pool15 : Array CpInfo := pool [(2, .class_ 4), (1, u "java/lang/Object"), (0, u "<init>"), (0, u "()V"), (1, .class_ 10), (1, u "java/lang/System"), (0, u "allowSecurityManager"), (0, u "I"), (16, u "cons"), (0, u "Ljava/io/Console;"), (77, .class_ 110), (1, u "java/lang/System$CallersHolder"), (43, u "initialErrStream"), (0, u "Ljava/io/PrintStream;"), (19, u "security"), (0, u "Ljava/lang/SecurityManager;"), (31, .class_ 209), (0, u "java/lang/System$1"), (7, u "props"), (0, u "Ljava/util/Properties;"), (2, u "lineSeparator"), (0, u "Ljava/lang/String;"), (96, .class_ 321), (1, u "java/lang/System$LoggerFinder"), (5, .class_ 328), (0, u "java/lang/System$Logger"), (67, u "err"), (2, u "out"), (91, u "notSupportedJnuEncoding"), (15, u "in"), (17, u "initialIn"), (0, u "Ljava/io/InputStream;"), (35, u "bootLayer"), (0, u "Ljava/lang/ModuleLayer;"), (99, .class_ 664), (0, u "java/lang/System$2"), (9, u "NEVER"), (2, u "MAYBE"), (49, u "arraycopy"), (0, u "(Ljava/lang/Object;ILjava/lang/Object;II)V"), (72, .class_ 802), (0, u "java/lang/System$Logger$Level")] 31

def k15m0 : Method := { name := "<init>", desc := "()V", sig := { parameters := [], returnType := none }, accessFlags := 2, code := none }
def k15m1 : Method := { name := "arraycopy", desc := "(Ljava/lang/Object;ILjava/lang/Object;II)V", sig := { parameters := [(.object "java/lang/Object"), .int, (.object "java/lang/Object"), .int, .int], returnType := none }, accessFlags := 265, code := none }
/-- java/lang/System -/
def k15 : Class := { plain "java/lang/System" (some 0) with
  accessFlags := 49
  interfaces := #[]
  cf := some (fileOf pool15 8 #[.nestMembers #[319, 327, 801, 108, 663, 208]] #[{ accessFlags := 2, nameIndex := 5, descriptorIndex := 6, attributes := #[] }, { accessFlags := 265, nameIndex := 727, descriptorIndex := 728, attributes := #[] }] 49 2 #[] #[{ accessFlags := 25, nameIndex := 507, descriptorIndex := 526, attributes := #[] }, { accessFlags := 25, nameIndex := 399, descriptorIndex := 155, attributes := #[] }, { accessFlags := 25, nameIndex := 396, descriptorIndex := 155, attributes := #[] }, { accessFlags := 10, nameIndex := 525, descriptorIndex := 526, attributes := #[] }, { accessFlags := 26, nameIndex := 674, descriptorIndex := 12, attributes := #[] }, { accessFlags := 26, nameIndex := 677, descriptorIndex := 12, attributes := #[] }, { accessFlags := 10, nameIndex := 11, descriptorIndex := 12, attributes := #[] }, { accessFlags := 74, nameIndex := 175, descriptorIndex := 176, attributes := #[] }, { accessFlags := 10, nameIndex := 491, descriptorIndex := 222, attributes := #[] }, { accessFlags := 74, nameIndex := 29, descriptorIndex := 30, attributes := #[] }, { accessFlags := 74, nameIndex := 154, descriptorIndex := 155, attributes := #[] }, { accessFlags := 10, nameIndex := 217, descriptorIndex := 218, attributes := #[] }, { accessFlags := 10, nameIndex := 221, descriptorIndex := 222, attributes := #[] }, { accessFlags := 8, nameIndex := 562, descriptorIndex := 563, attributes := #[] }])
  fields := #[{ name := "in", type := (.object "java/io/InputStream"), accessFlags := 25, slot := 0, constantValue := 0 }, { name := "out", type := (.object "java/io/PrintStream"), accessFlags := 25, slot := 1, constantValue := 0 }, { name := "err", type := (.object "java/io/PrintStream"), accessFlags := 25, slot := 2, constantValue := 0 }, { name := "initialIn", type := (.object "java/io/InputStream"), accessFlags := 10, slot := 3, constantValue := 0 }, { name := "NEVER", type := .int, accessFlags := 26, slot := 4, constantValue := 0 }, { name := "MAYBE", type := .int, accessFlags := 26, slot := 5, constantValue := 0 }, { name := "allowSecurityManager", type := .int, accessFlags := 10, slot := 6, constantValue := 0 }, { name := "security", type := (.object "java/lang/SecurityManager"), accessFlags := 74, slot := 7, constantValue := 0 }, { name := "notSupportedJnuEncoding", type := (.object "java/lang/String"), accessFlags := 10, slot := 8, constantValue := 0 }, { name := "cons", type := (.object "java/io/Console"), accessFlags := 74, slot := 9, constantValue := 0 }, { name := "initialErrStream", type := (.object "java/io/PrintStream"), accessFlags := 74, slot := 10, constantValue := 0 }, { name := "props", type := (.object "java/util/Properties"), accessFlags := 10, slot := 11, constantValue := 0 }, { name := "lineSeparator", type := (.object "java/lang/String"), accessFlags := 10, slot := 12, constantValue := 0 }, { name := "bootLayer", type := (.object "java/lang/ModuleLayer"), accessFlags := 8, slot := 13, constantValue := 0 }]
  methods := #[k15m0, k15m1]
  instanceTypes := #[]
  staticTypes := #[(.object "java/io/InputStream"), (.object "java/io/PrintStream"), (.object "java/io/PrintStream"), (.object "java/io/InputStream"), .int, .int, .int, (.object "java/lang/SecurityManager"), (.object "java/lang/String"), (.object "java/io/Console"), (.object "java/io/PrintStream"), (.object "java/util/Properties"), (.object "java/lang/String"), (.object "java/lang/ModuleLayer")]
  resolved := Array.replicate 834 none
  statics := none }

def pool16 : Array CpInfo := pool [(2, .class_ 4), (1, u "java/lang/Object"), (0, u "<init>"), (0, u "()V"), (7, .class_ 16), (1, u "java/util/Arrays"), (57, .class_ 76), (1, u "java/util/Arrays$NaturalOrder"), (32, u "()Ljava/lang/Object;"), (3, .class_ 115), (1, u "java/util/Arrays$LegacyMergeSort"), (1, u "Z"), (10, .nameAndType 129 109), (0, u "clone"), (9, u "copyOfRange"), (10, .methodref 151 152), (0, .class_ 153), (0, .nameAndType 154 155), (0, u "java/lang/System"), (0, u "arraycopy"), (0, u "(Ljava/lang/Object;ILjava/lang/Object;II)V"), (146, u "copyOf"), (1, .methodref 305 306), (0, .class_ 307), (0, .nameAndType 308 309), (0, u "java/lang/Math"), (0, u "min"), (0, u "(II)I"), (0, .methodref 311 128), (0, .class_ 312), (0, u "[B"), (26, .methodref 14 340), (0, .nameAndType 341 342), (0, u "copyOfRangeByte"), (0, u "([BII)[B"), (0, .methodref 14 344), (0, .nameAndType 345 346), (0, u "checkLength"), (0, u "(II)V"), (28, .class_ 376), (0, u "java/util/Arrays$ArrayList"), (68, u "$assertionsDisabled"), (269, u "MIN_ARRAY_SORT_GRAN"), (0, u "I"), (2, u "INSERTIONSORT_THRESHOLD"), (149, u "([BI)[B"), (105, .class_ 976), (0, u "java/util/Arrays$ArrayItr")] 52

def k16m0 : Method := { name := "<init>", desc := "()V", sig := { parameters := [], returnType := none }, accessFlags := 2, code := none }
def k16c1 : Code := { maxStack := 6, maxLocals := 3, code := jdk_65_method_121_code, exceptionTable := #[], attributes := #[] }
def k16m1 : Method := { name := "copyOf", desc := "([BI)[B", sig := { parameters := [(.array .byte), .int], returnType := some (.array .byte) }, accessFlags := 9, code := some k16c1 }
def k16c2 : Code := { maxStack := 4, maxLocals := 2, code := jdk_65_method_131_code, exceptionTable := #[], attributes := #[] }
def k16m2 : Method := { name := "checkLength", desc := "(II)V", sig := { parameters := [.int, .int], returnType := none }, accessFlags := 10, code := some k16c2 }
def k16c3 : Code := { maxStack := 3, maxLocals := 3, code := jdk_65_method_132_code, exceptionTable := #[], attributes := #[] }
def k16m3 : Method := { name := "copyOfRange", desc := "([BII)[B", sig := { parameters := [(.array .byte), .int, .int], returnType := some (.array .byte) }, accessFlags := 9, code := some k16c3 }
def k16c4 : Code := { maxStack := 6, maxLocals := 5, code := jdk_65_method_133_code, exceptionTable := #[], attributes := #[] }
def k16m4 : Method := { name := "copyOfRangeByte", desc := "([BII)[B", sig := { parameters := [(.array .byte), .int, .int], returnType := some (.array .byte) }, accessFlags := 10, code := some k16c4 }
/-- java/util/Arrays -/
def k16 : Class := { plain "java/util/Arrays" (some 0) with
  accessFlags := 49
  interfaces := #[]
  cf := some (fileOf pool16 14 #[.nestMembers #[975, 375, 113, 74]] #[{ accessFlags := 2, nameIndex := 5, descriptorIndex := 6, attributes := #[] }, { accessFlags := 9, nameIndex := 302, descriptorIndex := 869, attributes := #[] }, { accessFlags := 10, nameIndex := 345, descriptorIndex := 346, attributes := #[] }, { accessFlags := 9, nameIndex := 139, descriptorIndex := 342, attributes := #[] }, { accessFlags := 10, nameIndex := 341, descriptorIndex := 342, attributes := #[] }] 49 2 #[] #[{ accessFlags := 26, nameIndex := 715, descriptorIndex := 716, attributes := #[] }, { accessFlags := 26, nameIndex := 719, descriptorIndex := 716, attributes := #[] }, { accessFlags := 4120, nameIndex := 445, descriptorIndex := 117, attributes := #[] }])
  fields := #[{ name := "MIN_ARRAY_SORT_GRAN", type := .int, accessFlags := 26, slot := 0, constantValue := 0 }, { name := "INSERTIONSORT_THRESHOLD", type := .int, accessFlags := 26, slot := 1, constantValue := 0 }, { name := "$assertionsDisabled", type := .boolean, accessFlags := 4120, slot := 2, constantValue := 0 }]
  methods := #[k16m0, k16m1, k16m2, k16m3, k16m4]
  instanceTypes := #[]
  staticTypes := #[.int, .int, .boolean]
  resolved := Array.replicate 1029 none
  statics := none }

def pool17 : Array CpInfo := pool [(1, .class_ 2), (0, u "java/lang/Math"), (1, .class_ 6), (1, u "java/lang/Object"), (0, u "<init>"), (0, u "()V"), (89, .class_ 100), (1, u "java/lang/Math$RandomNumberGeneratorHolder"), (71, u "negativeZeroFloatBits"), (0, u "J"), (2, u "negativeZeroDoubleBits"), (21, u "max"), (2, u "min"), (43, u "$assertionsDisabled"), (0, u "Z"), (88, u "(II)I"), (2, u "twoToTheDoubleScaleDown"), (0, u "D"), (4, u "twoToTheDoubleScaleUp"), (9, u "E"), (3, u "PI"), (2, u "TAU"), (2, u "DEGREES_TO_RADIANS"), (0, u "RADIANS_TO_DEGREES")] 94

def k17m0 : Method := { name := "<init>", desc := "()V", sig := { parameters := [], returnType := none }, accessFlags := 2, code := none }
def k17c1 : Code := { maxStack := 2, maxLocals := 2, code := jdk_29_method_65_code, exceptionTable := #[], attributes := #[] }
def k17m1 : Method := { name := "max", desc := "(II)I", sig := { parameters := [.int, .int], returnType := some .int }, accessFlags := 9, code := some k17c1 }
def k17c2 : Code := { maxStack := 2, maxLocals := 2, code := jdk_29_method_69_code, exceptionTable := #[], attributes := #[] }
def k17m2 : Method := { name := "min", desc := "(II)I", sig := { parameters := [.int, .int], returnType := some .int }, accessFlags := 9, code := some k17c2 }
/-- java/lang/Math -/
def k17 : Class := { plain "java/lang/Math" (some 0) with
  accessFlags := 49
  interfaces := #[]
  cf := some (fileOf pool17 1 #[.nestMembers #[98]] #[{ accessFlags := 2, nameIndex := 7, descriptorIndex := 8, attributes := #[] }, { accessFlags := 9, nameIndex := 198, descriptorIndex := 335, attributes := #[] }, { accessFlags := 9, nameIndex := 201, descriptorIndex := 335, attributes := #[] }] 49 4 #[] #[{ accessFlags := 25, nameIndex := 354, descriptorIndex := 339, attributes := #[] }, { accessFlags := 25, nameIndex := 358, descriptorIndex := 339, attributes := #[] }, { accessFlags := 25, nameIndex := 361, descriptorIndex := 339, attributes := #[] }, { accessFlags := 26, nameIndex := 364, descriptorIndex := 339, attributes := #[] }, { accessFlags := 26, nameIndex := 365, descriptorIndex := 339, attributes := #[] }, { accessFlags := 26, nameIndex := 172, descriptorIndex := 173, attributes := #[] }, { accessFlags := 26, nameIndex := 176, descriptorIndex := 173, attributes := #[] }, { accessFlags := 8, nameIndex := 344, descriptorIndex := 339, attributes := #[] }, { accessFlags := 8, nameIndex := 338, descriptorIndex := 339, attributes := #[] }, { accessFlags := 4120, nameIndex := 245, descriptorIndex := 246, attributes := #[] }])
  fields := #[{ name := "E", type := .double, accessFlags := 25, slot := 0, constantValue := 0 }, { name := "PI", type := .double, accessFlags := 25, slot := 1, constantValue := 0 }, { name := "TAU", type := .double, accessFlags := 25, slot := 2, constantValue := 0 }, { name := "DEGREES_TO_RADIANS", type := .double, accessFlags := 26, slot := 3, constantValue := 0 }, { name := "RADIANS_TO_DEGREES", type := .double, accessFlags := 26, slot := 4, constantValue := 0 }, { name := "negativeZeroFloatBits", type := .long, accessFlags := 26, slot := 5, constantValue := 0 }, { name := "negativeZeroDoubleBits", type := .long, accessFlags := 26, slot := 6, constantValue := 0 }, { name := "twoToTheDoubleScaleUp", type := .double, accessFlags := 8, slot := 7, constantValue := 0 }, { name := "twoToTheDoubleScaleDown", type := .double, accessFlags := 8, slot := 8, constantValue := 0 }, { name := "$assertionsDisabled", type := .boolean, accessFlags := 4120, slot := 9, constantValue := 0 }]
  methods := #[k17m0, k17m1, k17m2]
  instanceTypes := #[]
  staticTypes := #[.double, .double, .double, .double, .double, .long, .long, .double, .double, .boolean]
  resolved := Array.replicate 460 none
  statics := none }

def pool18 : Array CpInfo := pool [(1, .class_ 2), (0, u "java/lang/String"), (1, .class_ 6), (1, u "java/lang/Object"), (0, u "<init>"), (0, u "()V"), (0, .methodref 1 10), (0, .nameAndType 11 12), (0, u "checkIndex"), (0, u "(II)V"), (1, .class_ 16), (1, u "java/lang/StringLatin1"), (36, u "([BI)C"), (36, u "canEncode"), (14, u "(C)Z"), (15, u "$assertionsDisabled"), (0, u "Z"), (98, .class_ 223), (1, u "java/lang/StringLatin1$LinesSpliterator"), (28, u "charAt"), (127, u "toBytes"), (1, u "(C)[B"), (7, .class_ 391), (0, u "java/lang/StringLatin1$CharsSpliterator")] 3

def k18m0 : Method := { name := "<init>", desc := "()V", sig := { parameters := [], returnType := none }, accessFlags := 0, code := none }
def k18c1 : Code := { maxStack := 2, maxLocals := 2, code := jdk_43_method_2_code, exceptionTable := #[], attributes := #[] }
def k18m1 : Method := { name := "charAt", desc := "([BI)C", sig := { parameters := [(.array .byte), .int], returnType := some .char }, accessFlags := 9, code := some k18c1 }
def k18c2 : Code := { maxStack := 2, maxLocals := 1, code := jdk_43_method_3_code, exceptionTable := #[], attributes := #[] }
def k18m2 : Method := { name := "canEncode", desc := "(C)Z", sig := { parameters := [.char], returnType := some .boolean }, accessFlags := 9, code := some k18c2 }
def k18c3 : Code := { maxStack := 4, maxLocals := 1, code := jdk_43_method_46_code, exceptionTable := #[], attributes := #[] }
def k18m3 : Method := { name := "toBytes", desc := "(C)[B", sig := { parameters := [.char], returnType := some (.array .byte) }, accessFlags := 9, code := some k18c3 }
/-- java/lang/StringLatin1 -/
def k18 : Class := { plain "java/lang/StringLatin1" (some 0) with
  accessFlags := 48
  interfaces := #[]
  cf := some (fileOf pool18 14 #[.nestMembers #[390, 221]] #[{ accessFlags := 0, nameIndex := 7, descriptorIndex := 8, attributes := #[] }, { accessFlags := 9, nameIndex := 252, descriptorIndex := 53, attributes := #[] }, { accessFlags := 9, nameIndex := 90, descriptorIndex := 105, attributes := #[] }, { accessFlags := 9, nameIndex := 380, descriptorIndex := 382, attributes := #[] }] 48 4 #[] #[{ accessFlags := 4120, nameIndex := 121, descriptorIndex := 122, attributes := #[] }])
  fields := #[{ name := "$assertionsDisabled", type := .boolean, accessFlags := 4120, slot := 0, constantValue := 0 }]
  methods := #[k18m0, k18m1, k18m2, k18m3]
  instanceTypes := #[]
  staticTypes := #[.boolean]
  resolved := Array.replicate 395 none
  statics := none }

def pool19 : Array CpInfo := pool [(2, .class_ 4), (1, u "java/lang/Object"), (0, u "<init>"), (0, u "()V"), (17, .class_ 26), (1, u "jdk/internal/util/Preconditions"), (6, u "checkIndex"), (21, .class_ 56), (0, u "jdk/internal/util/Preconditions$4"), (57, .class_ 115), (0, u "jdk/internal/util/Preconditions$1"), (7, u "SIOOBE_FORMATTER"), (0, u "Ljava/util/function/BiFunction;"), (0, .class_ 126), (0, u "jdk/internal/util/Preconditions$2"), (3, u "AIOOBE_FORMATTER"), (0, .class_ 132), (0, u "jdk/internal/util/Preconditions$3"), (3, u "IOOBE_FORMATTER"), (41, u "(IILjava/util/function/BiFunction;)I")] 15

def k19m0 : Method := { name := "<init>", desc := "()V", sig := { parameters := [], returnType := none }, accessFlags := 1, code := none }
def k19c1 : Code := { maxStack := 3, maxLocals := 3, code := jdk_41_method_11_code, exceptionTable := #[], attributes := #[] }
def k19m1 : Method := { name := "checkIndex", desc := "(IILjava/util/function/BiFunction;)I", sig := { parameters := [.int, .int, (.object "java/util/function/BiFunction")], returnType := some .int }, accessFlags := 9, code := some k19c1 }
/-- jdk/internal/util/Preconditions -/
def k19 : Class := { plain "jdk/internal/util/Preconditions" (some 0) with
  accessFlags := 33
  interfaces := #[]
  cf := some (fileOf pool19 24 #[.nestMembers #[55, 131, 125, 114]] #[{ accessFlags := 1, nameIndex := 5, descriptorIndex := 6, attributes := #[] }, { accessFlags := 9, nameIndex := 33, descriptorIndex := 178, attributes := #[] }] 33 2 #[] #[{ accessFlags := 25, nameIndex := 123, descriptorIndex := 124, attributes := #[] }, { accessFlags := 25, nameIndex := 130, descriptorIndex := 124, attributes := #[] }, { accessFlags := 25, nameIndex := 136, descriptorIndex := 124, attributes := #[] }])
  fields := #[{ name := "SIOOBE_FORMATTER", type := (.object "java/util/function/BiFunction"), accessFlags := 25, slot := 0, constantValue := 0 }, { name := "AIOOBE_FORMATTER", type := (.object "java/util/function/BiFunction"), accessFlags := 25, slot := 1, constantValue := 0 }, { name := "IOOBE_FORMATTER", type := (.object "java/util/function/BiFunction"), accessFlags := 25, slot := 2, constantValue := 0 }]
  methods := #[k19m0, k19m1]
  instanceTypes := #[]
  staticTypes := #[(.object "java/util/function/BiFunction"), (.object "java/util/function/BiFunction"), (.object "java/util/function/BiFunction")]
  resolved := Array.replicate 194 none
  statics := some 2 }

def pool20 : Array CpInfo := pool [(9, u "<init>"), (6, .class_ 18), (1, u "java/lang/Object"), (0, u "()V"), (1, .class_ 23), (1, u "jdk/internal/util/ArraysSupport"), (0, u "LOG2_ARRAY_LONG_INDEX_SCALE"), (0, u "I"), (2, u "U"), (0, u "Ljdk/internal/misc/Unsafe;"), (8, u "BIG_ENDIAN"), (0, u "Z"), (8, u "LOG2_BYTE_BIT_SIZE"), (4, u "LOG2_ARRAY_INT_INDEX_SCALE"), (54, u "JLA"), (0, u "Ljdk/internal/access/JavaLangAccess;"), (11, u "LOG2_ARRAY_BOOLEAN_INDEX_SCALE"), (9, u "LOG2_ARRAY_BYTE_INDEX_SCALE"), (5, u "LOG2_ARRAY_CHAR_INDEX_SCALE"), (5, u "LOG2_ARRAY_SHORT_INDEX_SCALE"), (18, u "LOG2_ARRAY_FLOAT_INDEX_SCALE"), (24, u "LOG2_ARRAY_DOUBLE_INDEX_SCALE"), (6, .methodref 195 196), (0, .class_ 197), (0, .nameAndType 198 199), (0, u "java/lang/Math"), (0, u "max"), (0, u "(II)I"), (0, .integer 2147483639), (76, u "T_BOOLEAN"), (2, u "T_CHAR"), (1, u "T_FLOAT"), (1, u "T_DOUBLE"), (1, u "T_BYTE"), (1, u "T_SHORT"), (1, u "T_INT"), (1, u "T_LONG"), (1, u "SOFT_MAX_ARRAY_LENGTH"), (56, u "newLength"), (0, u "(III)I")] 25

def k20m0 : Method := { name := "<init>", desc := "()V", sig := { parameters := [], returnType := none }, accessFlags := 2, code := none }
def k20c1 : Code := { maxStack := 3, maxLocals := 4, code := jdk_48_method_27_code, exceptionTable := #[], attributes := #[] }
def k20m1 : Method := { name := "newLength", desc := "(III)I", sig := { parameters := [.int, .int, .int], returnType := some .int }, accessFlags := 9, code := some k20c1 }
/-- jdk/internal/util/ArraysSupport -/
def k20 : Class := { plain "jdk/internal/util/ArraysSupport" (some 0) with
  accessFlags := 33
  interfaces := #[]
  cf := some (fileOf pool20 21 #[] #[{ accessFlags := 2, nameIndex := 9, descriptorIndex := 19, attributes := #[] }, { accessFlags := 9, nameIndex := 351, descriptorIndex := 352, attributes := #[] }] 33 16 #[] #[{ accessFlags := 24, nameIndex := 28, descriptorIndex := 29, attributes := #[] }, { accessFlags := 26, nameIndex := 38, descriptorIndex := 39, attributes := #[] }, { accessFlags := 25, nameIndex := 121, descriptorIndex := 25, attributes := #[] }, { accessFlags := 25, nameIndex := 131, descriptorIndex := 25, attributes := #[] }, { accessFlags := 25, nameIndex := 137, descriptorIndex := 25, attributes := #[] }, { accessFlags := 25, nameIndex := 143, descriptorIndex := 25, attributes := #[] }, { accessFlags := 25, nameIndex := 53, descriptorIndex := 25, attributes := #[] }, { accessFlags := 25, nameIndex := 24, descriptorIndex := 25, attributes := #[] }, { accessFlags := 25, nameIndex := 162, descriptorIndex := 25, attributes := #[] }, { accessFlags := 25, nameIndex := 187, descriptorIndex := 25, attributes := #[] }, { accessFlags := 26, nameIndex := 48, descriptorIndex := 25, attributes := #[] }, { accessFlags := 25, nameIndex := 277, descriptorIndex := 25, attributes := #[] }, { accessFlags := 25, nameIndex := 280, descriptorIndex := 25, attributes := #[] }, { accessFlags := 25, nameIndex := 282, descriptorIndex := 25, attributes := #[] }, { accessFlags := 25, nameIndex := 284, descriptorIndex := 25, attributes := #[] }, { accessFlags := 25, nameIndex := 286, descriptorIndex := 25, attributes := #[] }, { accessFlags := 25, nameIndex := 288, descriptorIndex := 25, attributes := #[] }, { accessFlags := 25, nameIndex := 290, descriptorIndex := 25, attributes := #[] }, { accessFlags := 25, nameIndex := 292, descriptorIndex := 25, attributes := #[] }, { accessFlags := 26, nameIndex := 108, descriptorIndex := 109, attributes := #[] }, { accessFlags := 25, nameIndex := 294, descriptorIndex := 25, attributes := #[] }])
  fields := #[{ name := "U", type := (.object "jdk/internal/misc/Unsafe"), accessFlags := 24, slot := 0, constantValue := 0 }, { name := "BIG_ENDIAN", type := .boolean, accessFlags := 26, slot := 1, constantValue := 0 }, { name := "LOG2_ARRAY_BOOLEAN_INDEX_SCALE", type := .int, accessFlags := 25, slot := 2, constantValue := 0 }, { name := "LOG2_ARRAY_BYTE_INDEX_SCALE", type := .int, accessFlags := 25, slot := 3, constantValue := 0 }, { name := "LOG2_ARRAY_CHAR_INDEX_SCALE", type := .int, accessFlags := 25, slot := 4, constantValue := 0 }, { name := "LOG2_ARRAY_SHORT_INDEX_SCALE", type := .int, accessFlags := 25, slot := 5, constantValue := 0 }, { name := "LOG2_ARRAY_INT_INDEX_SCALE", type := .int, accessFlags := 25, slot := 6, constantValue := 0 }, { name := "LOG2_ARRAY_LONG_INDEX_SCALE", type := .int, accessFlags := 25, slot := 7, constantValue := 0 }, { name := "LOG2_ARRAY_FLOAT_INDEX_SCALE", type := .int, accessFlags := 25, slot := 8, constantValue := 0 }, { name := "LOG2_ARRAY_DOUBLE_INDEX_SCALE", type := .int, accessFlags := 25, slot := 9, constantValue := 0 }, { name := "LOG2_BYTE_BIT_SIZE", type := .int, accessFlags := 26, slot := 10, constantValue := 0 }, { name := "T_BOOLEAN", type := .int, accessFlags := 25, slot := 11, constantValue := 0 }, { name := "T_CHAR", type := .int, accessFlags := 25, slot := 12, constantValue := 0 }, { name := "T_FLOAT", type := .int, accessFlags := 25, slot := 13, constantValue := 0 }, { name := "T_DOUBLE", type := .int, accessFlags := 25, slot := 14, constantValue := 0 }, { name := "T_BYTE", type := .int, accessFlags := 25, slot := 15, constantValue := 0 }, { name := "T_SHORT", type := .int, accessFlags := 25, slot := 16, constantValue := 0 }, { name := "T_INT", type := .int, accessFlags := 25, slot := 17, constantValue := 0 }, { name := "T_LONG", type := .int, accessFlags := 25, slot := 18, constantValue := 0 }, { name := "JLA", type := (.object "jdk/internal/access/JavaLangAccess"), accessFlags := 26, slot := 19, constantValue := 0 }, { name := "SOFT_MAX_ARRAY_LENGTH", type := .int, accessFlags := 25, slot := 20, constantValue := 0 }]
  methods := #[k20m0, k20m1]
  instanceTypes := #[]
  staticTypes := #[(.object "jdk/internal/misc/Unsafe"), .boolean, .int, .int, .int, .int, .int, .int, .int, .int, .int, .int, .int, .int, .int, .int, .int, .int, .int, (.object "jdk/internal/access/JavaLangAccess"), .int]
  resolved := Array.replicate 378 none
  statics := none }

def pool21 : Array CpInfo := pool [(1, .class_ 2), (0, u "java/lang/Cloneable"), (0, .class_ 4), (0, u "java/lang/Object")] 2

/-- java/lang/Cloneable -/
def k21 : Class := { plain "java/lang/Cloneable" (some 0) with
  accessFlags := 1537
  interfaces := #[]
  cf := some (fileOf pool21 1 #[] #[] 1537 3 #[] #[])
  fields := #[]
  methods := #[]
  instanceTypes := #[]
  staticTypes := #[]
  resolved := Array.replicate 7 none
  statics := none }

def pool22 : Array CpInfo := pool [(6, .class_ 8), (1, u "java/lang/Object"), (0, u "<init>"), (0, u "()V"), (1, .class_ 14), (1, u "java/lang/StringUTF16"), (31, u "$assertionsDisabled"), (0, u "Z"), (13, u "HI_BYTE_SHIFT"), (0, u "I"), (2, u "LO_BYTE_SHIFT"), (49, .methodref 12 116), (0, .nameAndType 117 118), (0, u "compress"), (0, u "([CI[BII)I"), (3, u "([CII)[B"), (138, u "coderFromArrayLen"), (0, u "([BI)B"), (106, .class_ 371), (1, u "java/lang/StringUTF16$LinesSpliterator"), (58, u "MAX_LENGTH"), (196, .class_ 628), (0, u "java/lang/StringUTF16$CodePointsSpliterator"), (0, .class_ 630), (0, u "java/lang/StringUTF16$CharsSpliterator")] 4

def k22m0 : Method := { name := "<init>", desc := "()V", sig := { parameters := [], returnType := none }, accessFlags := 0, code := none }
def k22c1 : Code := { maxStack := 2, maxLocals := 2, code := jdk_52_method_15_code, exceptionTable := #[], attributes := #[] }
def k22m1 : Method := { name := "coderFromArrayLen", desc := "([BI)B", sig := { parameters := [(.array .byte), .int], returnType := some .byte }, accessFlags := 8, code := some k22c1 }
def k22c2 : Code := { maxStack := 5, maxLocals := 6, code := jdk_52_method_16_code, exceptionTable := #[], attributes := #[] }
def k22m2 : Method := { name := "compress", desc := "([CII)[B", sig := { parameters := [(.array .char), .int, .int], returnType := some (.array .byte) }, accessFlags := 9, code := some k22c2 }
def k22c3 : Code := { maxStack := 3, maxLocals := 7, code := jdk_52_method_21_code, exceptionTable := #[], attributes := #[] }
def k22m3 : Method := { name := "compress", desc := "([CI[BII)I", sig := { parameters := [(.array .char), .int, (.array .byte), .int, .int], returnType := some .int }, accessFlags := 9, code := some k22c3 }
/-- java/lang/StringUTF16 -/
def k22 : Class := { plain "java/lang/StringUTF16" (some 0) with
  accessFlags := 48
  interfaces := #[]
  cf := some (fileOf pool22 12 #[.nestMembers #[627, 629, 369]] #[{ accessFlags := 0, nameIndex := 9, descriptorIndex := 10, attributes := #[] }, { accessFlags := 8, nameIndex := 261, descriptorIndex := 262, attributes := #[] }, { accessFlags := 9, nameIndex := 117, descriptorIndex := 122, attributes := #[] }, { accessFlags := 9, nameIndex := 117, descriptorIndex := 118, attributes := #[] }] 48 6 #[] #[{ accessFlags := 26, nameIndex := 61, descriptorIndex := 62, attributes := #[] }, { accessFlags := 26, nameIndex := 65, descriptorIndex := 62, attributes := #[] }, { accessFlags := 24, nameIndex := 430, descriptorIndex := 62, attributes := #[] }, { accessFlags := 4120, nameIndex := 46, descriptorIndex := 47, attributes := #[] }])
  fields := #[{ name := "HI_BYTE_SHIFT", type := .int, accessFlags := 26, slot := 0, constantValue := 0 }, { name := "LO_BYTE_SHIFT", type := .int, accessFlags := 26, slot := 1, constantValue := 0 }, { name := "MAX_LENGTH", type := .int, accessFlags := 24, slot := 2, constantValue := 0 }, { name := "$assertionsDisabled", type := .boolean, accessFlags := 4120, slot := 3, constantValue := 0 }]
  methods := #[k22m0, k22m1, k22m2, k22m3]
  instanceTypes := #[]
  staticTypes := #[.int, .int, .int, .boolean]
  resolved := Array.replicate 635 none
  statics := none }

/-- the primitive byte -/
def k23 : Class := { plain "byte" none with kind := .primitive 'B', accessFlags := 0x411 }
/-- [B -/
def k24 : Class := { plain "[B" (some 0) with kind := .array 23 .byte, interfaces := #[21, 2], accessFlags := 1041 }

/-- the primitive char -/
def k25 : Class := { plain "char" none with kind := .primitive 'C', accessFlags := 0x411 }
/-- [C -/
def k26 : Class := { plain "[C" (some 0) with kind := .array 25 .char, interfaces := #[21, 2], accessFlags := 1041 }

/-- the primitive int -/
def k27 : Class := { plain "int" none with kind := .primitive 'I', accessFlags := 0x411 }
/-- [I -/
def k28 : Class := { plain "[I" (some 0) with kind := .array 27 .int, interfaces := #[21, 2], accessFlags := 1041 }

def heap : Heap := #[{ cls := 7, slots := #[.long 0, .int 1, .null, .int 0, .null, .int 0, .int 0], vm := .statics 7 },
  { cls := 14, slots := #[.int 0, .int 0, .null, .null, .ref 4, .ref 3, .int 0, .int 0, .long 0], vm := .statics 14 },
  { cls := 19, slots := #[.null, .null, .null], vm := .statics 19 },
  { cls := 24, slots := #[.int 48, .int 49, .int 50, .int 51, .int 52, .int 53, .int 54, .int 55, .int 56, .int 57, .int 48, .int 49, .int 50, .int 51, .int 52, .int 53, .int 54, .int 55, .int 56, .int 57, .int 48, .int 49, .int 50, .int 51, .int 52, .int 53, .int 54, .int 55, .int 56, .int 57, .int 48, .int 49, .int 50, .int 51, .int 52, .int 53, .int 54, .int 55, .int 56, .int 57, .int 48, .int 49, .int 50, .int 51, .int 52, .int 53, .int 54, .int 55, .int 56, .int 57, .int 48, .int 49, .int 50, .int 51, .int 52, .int 53, .int 54, .int 55, .int 56, .int 57, .int 48, .int 49, .int 50, .int 51, .int 52, .int 53, .int 54, .int 55, .int 56, .int 57, .int 48, .int 49, .int 50, .int 51, .int 52, .int 53, .int 54, .int 55, .int 56, .int 57, .int 48, .int 49, .int 50, .int 51, .int 52, .int 53, .int 54, .int 55, .int 56, .int 57, .int 48, .int 49, .int 50, .int 51, .int 52, .int 53, .int 54, .int 55, .int 56, .int 57], vm := .none },
  { cls := 24, slots := #[.int 48, .int 48, .int 48, .int 48, .int 48, .int 48, .int 48, .int 48, .int 48, .int 48, .int 49, .int 49, .int 49, .int 49, .int 49, .int 49, .int 49, .int 49, .int 49, .int 49, .int 50, .int 50, .int 50, .int 50, .int 50, .int 50, .int 50, .int 50, .int 50, .int 50, .int 51, .int 51, .int 51, .int 51, .int 51, .int 51, .int 51, .int 51, .int 51, .int 51, .int 52, .int 52, .int 52, .int 52, .int 52, .int 52, .int 52, .int 52, .int 52, .int 52, .int 53, .int 53, .int 53, .int 53, .int 53, .int 53, .int 53, .int 53, .int 53, .int 53, .int 54, .int 54, .int 54, .int 54, .int 54, .int 54, .int 54, .int 54, .int 54, .int 54, .int 55, .int 55, .int 55, .int 55, .int 55, .int 55, .int 55, .int 55, .int 55, .int 55, .int 56, .int 56, .int 56, .int 56, .int 56, .int 56, .int 56, .int 56, .int 56, .int 56, .int 57, .int 57, .int 57, .int 57, .int 57, .int 57, .int 57, .int 57, .int 57, .int 57], vm := .none }]
def classes : Array Class := #[k0, k1, k2, k3, k4, k5, k6, k7, k8, k9, k10, k11, k12, k13, k14, k15, k16, k17, k18, k19, k20, k21, k22, k23, k24, k25, k26, k27, k28]
def interned : List (Array UInt16 × Addr) := []
def slotsUsed : Nat := 219
def theMethod : MethodId := ⟨1, 1⟩
def args0 : Array Value := #[.int 5, .int 6, .int 7, .int 8]
def aboutOver (below : List Frame) : State where
  vm := { classes := classes, interned := interned.toArray }
  heap := heap
  slotsUsed := slotsUsed
  threads := #[{ frames := .invoking theMethod args0 :: below }]
def below0 : List Frame := [.native { method := ⟨0, 0⟩, args := #[] }]
def about1 : State := aboutOver below0
def p0 : Program := .bare "" "" ""
def e0 : Env := launch0.env 0 0 0
theorem w_frames : about1.frames = Frame.invoking theMethod args0 :: below0 := rfl
set_option maxRecDepth 65536 in
theorem w_args : argsFit about1.vm theMethod args0 = true := by decide +kernel
set_option maxRecDepth 65536 in
theorem w_heap : heapFits about1 = true := by decide +kernel
set_option maxRecDepth 65536 in
theorem w_runnable : about1.curStatus? = some .runnable := by decide +kernel
set_option maxRecDepth 65536 in
theorem w_alone : about1.alone = true := by decide +kernel
set_option maxRecDepth 65536 in
theorem w_named : about1.methodNamed? x = some theMethod := by decide +kernel
set_option maxRecDepth 65536 in
theorem w_hears : about1.hears theMethod below0 = true := by decide +kernel
set_option maxRecDepth 65536 in
theorem w_ripe : about1.ripe theMethod args0 below0 = true := by decide +kernel
theorem w_running : about1.status = .running := rfl
set_option maxRecDepth 65536 in
theorem w_room : about1.hasRoom e0.platform room_1 = true :=
  launch0.hasRoom_least _ room_1 (by decide +kernel) (by decide +kernel) (by decide +kernel) (by decide +kernel) (by decide +kernel) (by decide +kernel)
theorem allAtoms_all (ts : List Jvm.Cond) (a : Array Jvm.Value) (st : Jvm.State) : (allAtoms ts).before a st = ts.all (fun c => c.before a st) := by
  induction ts with
  | nil => rfl
  | cons c t ih =>
    show (Jvm.Cond.and c (allAtoms t)).before a st = _
    rw [Jvm.Cond.before_and, ih, List.all_cons]
def words1 : List Jvm.Cond := Jvm.Cond.code x code maxLocals ret :: tables_1
/-- a 'code' word, met by the world's own term for the bytes: nothing is compared byte by byte -/
theorem code_word {y : MethodName} {bytes : ByteArray} {mx : Nat} {rt : Option FieldType} {a : Array Value} {s : State} {m : MethodId} {meth : Method} {c : Code} (h1 : s.methodNamed? y = some m) (h2 : s.vm.method? m = some meth) (h3 : meth.code = some c) (h4 : c.code = bytes)
    (h5 : (c.maxLocals == mx && c.exceptionTable.isEmpty && decide (c.maxStack ≤ mostOperands) && decide (meth.sig.returnType = rt) && !meth.locks && decide (parseMethodDescriptor y.desc = some meth.sig)) = true) : (Jvm.Cond.code y bytes mx rt).before a s = true := by
  simp only [Bool.and_eq_true, beq_iff_eq, Bool.not_eq_true', decide_eq_true_eq] at h5
  obtain ⟨⟨⟨⟨⟨g1, g2⟩, g3⟩, g4⟩, g5⟩, g6⟩ := h5
  simp [Cond.before, Cond.holds, Cond.value, h1, h2, h3, h4, g1, g2, g3, g4, g5, g6]
def isCode : Jvm.Cond → Bool
  | .code _ _ _ _ => true
  | _ => false
theorem all_split {L : List Jvm.Cond} {P : Jvm.Cond → Bool} (h1 : L.all (fun c => isCode c || P c) = true) (h2 : ∀ c ∈ L.filter isCode, P c = true) : L.all P = true := by
  refine List.all_eq_true.mpr fun c hc => ?_
  have h := List.all_eq_true.mp h1 c hc
  rcases Bool.eq_false_or_eq_true (isCode c) with hi | hi
  · exact h2 c (List.mem_filter.mpr ⟨hc, hi⟩)
  · simpa [hi] using h
set_option maxRecDepth 65536 in
theorem w_c0 : (Jvm.Cond.code x code maxLocals ret).before args0 about1 = true := code_word (m := ⟨1, 1⟩) (meth := k1m1) (c := k1c1) (by decide +kernel) rfl rfl rfl (by decide +kernel)
set_option maxRecDepth 65536 in
theorem w_c1 : (Jvm.Cond.code ({ cls := "com/example/token_relay/tokenrelay/MemberToStringPinLaw", name := "put", desc := "([CII)I" } : Jvm.MethodName) method_5_code (7 : Nat) (Option.some Jvm.ClassFile.FieldType.int)).before args0 about1 = true := code_word (m := ⟨1, 4⟩) (meth := k1m4) (c := k1c4) (by decide +kernel) rfl rfl rfl (by decide +kernel)
set_option maxRecDepth 65536 in
theorem w_c2 : (Jvm.Cond.code ({ cls := "com/example/token_relay/tokenrelay/MemberToStringPinLaw", name := "ch", desc := "(J)C" } : Jvm.MethodName) method_4_code (2 : Nat) (Option.some Jvm.ClassFile.FieldType.char)).before args0 about1 = true := code_word (m := ⟨1, 3⟩) (meth := k1m3) (c := k1c3) (by decide +kernel) rfl rfl rfl (by decide +kernel)
set_option maxRecDepth 65536 in
theorem w_c3 : (Jvm.Cond.code ({ cls := "com/example/token_relay/tokenrelay/Member", name := "<init>", desc := "(ILjava/lang/String;II)V" } : Jvm.MethodName) prog_8_method_1_code (5 : Nat) (Option.none : Option Jvm.ClassFile.FieldType)).before args0 about1 = true := code_word (m := ⟨8, 0⟩) (meth := k8m0) (c := k8c0) (by decide +kernel) rfl rfl rfl (by decide +kernel)
set_option maxRecDepth 65536 in
theorem w_c4 : (Jvm.Cond.code ({ cls := "java/lang/Object", name := "<init>", desc := "()V" } : Jvm.MethodName) object_method_1_code (1 : Nat) (Option.none : Option Jvm.ClassFile.FieldType)).before args0 about1 = true := code_word (m := ⟨0, 0⟩) (meth := k0m0) (c := k0c0) (by decide +kernel) rfl rfl rfl (by decide +kernel)
set_option maxRecDepth 65536 in
theorem w_c5 : (Jvm.Cond.code ({ cls := "java/util/Objects", name := "requireNonNull", desc := "(Ljava/lang/Object;Ljava/lang/String;)Ljava/lang/Object;" } : Jvm.MethodName) jdk_31_method_11_code (2 : Nat) (Option.some (Jvm.ClassFile.FieldType.object "java/lang/Object"))).before args0 about1 = true := code_word (m := ⟨9, 1⟩) (meth := k9m1) (c := k9c1) (by decide +kernel) rfl rfl rfl (by decide +kernel)
set_option maxRecDepth 65536 in
theorem w_c6 : (Jvm.Cond.code ({ cls := "com/example/token_relay/tokenrelay/Member", name := "toString", desc := "()Ljava/lang/String;" } : Jvm.MethodName) prog_8_method_10_code (1 : Nat) (Option.some (Jvm.ClassFile.FieldType.object "java/lang/String"))).before args0 about1 = true := code_word (m := ⟨8, 1⟩) (meth := k8m1) (c := k8c1) (by decide +kernel) rfl rfl rfl (by decide +kernel)
set_option maxRecDepth 65536 in
theorem w_c7 : (Jvm.Cond.code ({ cls := "java/lang/StringBuilder", name := "<init>", desc := "()V" } : Jvm.MethodName) jdk_67_method_1_code (1 : Nat) (Option.none : Option Jvm.ClassFile.FieldType)).before args0 about1 = true := code_word (m := ⟨12, 0⟩) (meth := k12m0) (c := k12c0) (by decide +kernel) rfl rfl rfl (by decide +kernel)
set_option maxRecDepth 65536 in
theorem w_c8 : (Jvm.Cond.code ({ cls := "java/lang/AbstractStringBuilder", name := "<init>", desc := "(I)V" } : Jvm.MethodName) jdk_68_method_2_code (2 : Nat) (Option.none : Option Jvm.ClassFile.FieldType)).before args0 about1 = true := code_word (m := ⟨11, 1⟩) (meth := k11m1) (c := k11c1) (by decide +kernel) rfl rfl rfl (by decide +kernel)
set_option maxRecDepth 65536 in
theorem w_c9 : (Jvm.Cond.code ({ cls := "java/lang/StringBuilder", name := "append", desc := "(I)Ljava/lang/StringBuilder;" } : Jvm.MethodName) jdk_67_method_15_code (2 : Nat) (Option.some (Jvm.ClassFile.FieldType.object "java/lang/StringBuilder"))).before args0 about1 = true := code_word (m := ⟨12, 2⟩) (meth := k12m2) (c := k12c2) (by decide +kernel) rfl rfl rfl (by decide +kernel)
set_option maxRecDepth 65536 in
theorem w_c10 : (Jvm.Cond.code ({ cls := "java/lang/AbstractStringBuilder", name := "append", desc := "(I)Ljava/lang/AbstractStringBuilder;" } : Jvm.MethodName) jdk_68_method_32_code (4 : Nat) (Option.some (Jvm.ClassFile.FieldType.object "java/lang/AbstractStringBuilder"))).before args0 about1 = true := code_word (m := ⟨11, 6⟩) (meth := k11m6) (c := k11c6) (by decide +kernel) rfl rfl rfl (by decide +kernel)
set_option maxRecDepth 65536 in
theorem w_c11 : (Jvm.Cond.code ({ cls := "java/lang/Integer", name := "stringSize", desc := "(I)I" } : Jvm.MethodName) jdk_33_method_13_code (4 : Nat) (Option.some Jvm.ClassFile.FieldType.int)).before args0 about1 = true := code_word (m := ⟨14, 1⟩) (meth := k14m1) (c := k14c1) (by decide +kernel) rfl rfl rfl (by decide +kernel)
set_option maxRecDepth 65536 in
theorem w_c12 : (Jvm.Cond.code ({ cls := "java/lang/AbstractStringBuilder", name := "ensureCapacityInternal", desc := "(I)V" } : Jvm.MethodName) jdk_68_method_9_code (3 : Nat) (Option.none : Option Jvm.ClassFile.FieldType)).before args0 about1 = true := code_word (m := ⟨11, 3⟩) (meth := k11m3) (c := k11c3) (by decide +kernel) rfl rfl rfl (by decide +kernel)
set_option maxRecDepth 65536 in
theorem w_c13 : (Jvm.Cond.code ({ cls := "java/lang/AbstractStringBuilder", name := "isLatin1", desc := "()Z" } : Jvm.MethodName) jdk_68_method_68_code (1 : Nat) (Option.some Jvm.ClassFile.FieldType.boolean)).before args0 about1 = true := code_word (m := ⟨11, 8⟩) (meth := k11m8) (c := k11c8) (by decide +kernel) rfl rfl rfl (by decide +kernel)
set_option maxRecDepth 65536 in
theorem w_c14 : (Jvm.Cond.code ({ cls := "java/lang/Integer", name := "getChars", desc := "(II[B)I" } : Jvm.MethodName) jdk_33_method_12_code (7 : Nat) (Option.some Jvm.ClassFile.FieldType.int)).before args0 about1 = true := code_word (m := ⟨14, 0⟩) (meth := k14m0) (c := k14c0) (by decide +kernel) rfl rfl rfl (by decide +kernel)
set_option maxRecDepth 65536 in
theorem w_c15 : (Jvm.Cond.code ({ cls := "java/lang/StringBuilder", name := "append", desc := "(Ljava/lang/String;)Ljava/lang/StringBuilder;" } : Jvm.MethodName) jdk_67_method_7_code (2 : Nat) (Option.some (Jvm.ClassFile.FieldType.object "java/lang/StringBuilder"))).before args0 about1 = true := code_word (m := ⟨12, 1⟩) (meth := k12m1) (c := k12c1) (by decide +kernel) rfl rfl rfl (by decide +kernel)
set_option maxRecDepth 65536 in
theorem w_c16 : (Jvm.Cond.code ({ cls := "java/lang/AbstractStringBuilder", name := "append", desc := "(Ljava/lang/String;)Ljava/lang/AbstractStringBuilder;" } : Jvm.MethodName) jdk_68_method_22_code (3 : Nat) (Option.some (Jvm.ClassFile.FieldType.object "java/lang/AbstractStringBuilder"))).before args0 about1 = true := code_word (m := ⟨11, 5⟩) (meth := k11m5) (c := k11c5) (by decide +kernel) rfl rfl rfl (by decide +kernel)
set_option maxRecDepth 65536 in
theorem w_c17 : (Jvm.Cond.code ({ cls := "java/lang/String", name := "length", desc := "()I" } : Jvm.MethodName) jdk_42_method_54_code (1 : Nat) (Option.some Jvm.ClassFile.FieldType.int)).before args0 about1 = true := code_word (m := ⟨7, 3⟩) (meth := k7m3) (c := k7c3) (by decide +kernel) rfl rfl rfl (by decide +kernel)
set_option maxRecDepth 65536 in
theorem w_c18 : (Jvm.Cond.code ({ cls := "java/lang/String", name := "coder", desc := "()B" } : Jvm.MethodName) jdk_42_method_152_code (1 : Nat) (Option.some Jvm.ClassFile.FieldType.byte)).before args0 about1 = true := code_word (m := ⟨7, 10⟩) (meth := k7m10) (c := k7c10) (by decide +kernel) rfl rfl rfl (by decide +kernel)
set_option maxRecDepth 65536 in
theorem w_c19 : (Jvm.Cond.code ({ cls := "java/lang/AbstractStringBuilder", name := "putStringAt", desc := "(ILjava/lang/String;)V" } : Jvm.MethodName) jdk_68_method_73_code (3 : Nat) (Option.none : Option Jvm.ClassFile.FieldType)).before args0 about1 = true := code_word (m := ⟨11, 10⟩) (meth := k11m10) (c := k11c10) (by decide +kernel) rfl rfl rfl (by decide +kernel)
set_option maxRecDepth 65536 in
theorem w_c20 : (Jvm.Cond.code ({ cls := "java/lang/AbstractStringBuilder", name := "inflateIfNeededFor", desc := "(Ljava/lang/String;)V" } : Jvm.MethodName) jdk_68_method_71_code (2 : Nat) (Option.none : Option Jvm.ClassFile.FieldType)).before args0 about1 = true := code_word (m := ⟨11, 9⟩) (meth := k11m9) (c := k11c9) (by decide +kernel) rfl rfl rfl (by decide +kernel)
set_option maxRecDepth 65536 in
theorem w_c21 : (Jvm.Cond.code ({ cls := "java/lang/String", name := "getBytes", desc := "([BIB)V" } : Jvm.MethodName) jdk_42_method_147_code (4 : Nat) (Option.none : Option Jvm.ClassFile.FieldType)).before args0 about1 = true := code_word (m := ⟨7, 6⟩) (meth := k7m6) (c := k7c6) (by decide +kernel) rfl rfl rfl (by decide +kernel)
set_option maxRecDepth 65536 in
theorem w_c22 : (Jvm.Cond.code ({ cls := "java/lang/StringBuilder", name := "toString", desc := "()Ljava/lang/String;" } : Jvm.MethodName) jdk_67_method_42_code (1 : Nat) (Option.some (Jvm.ClassFile.FieldType.object "java/lang/String"))).before args0 about1 = true := code_word (m := ⟨12, 3⟩) (meth := k12m3) (c := k12c3) (by decide +kernel) rfl rfl rfl (by decide +kernel)
set_option maxRecDepth 65536 in
theorem w_c23 : (Jvm.Cond.code ({ cls := "java/lang/String", name := "<init>", desc := "(Ljava/lang/StringBuilder;)V" } : Jvm.MethodName) jdk_42_method_53_code (2 : Nat) (Option.none : Option Jvm.ClassFile.FieldType)).before args0 about1 = true := code_word (m := ⟨7, 2⟩) (meth := k7m2) (c := k7c2) (by decide +kernel) rfl rfl rfl (by decide +kernel)
set_option maxRecDepth 65536 in
theorem w_c24 : (Jvm.Cond.code ({ cls := "java/lang/String", name := "<init>", desc := "(Ljava/lang/AbstractStringBuilder;Ljava/lang/Void;)V" } : Jvm.MethodName) jdk_42_method_150_code (5 : Nat) (Option.none : Option Jvm.ClassFile.FieldType)).before args0 about1 = true := code_word (m := ⟨7, 8⟩) (meth := k7m8) (c := k7c8) (by decide +kernel) rfl rfl rfl (by decide +kernel)
set_option maxRecDepth 65536 in
theorem w_c25 : (Jvm.Cond.code ({ cls := "java/lang/AbstractStringBuilder", name := "getValue", desc := "()[B" } : Jvm.MethodName) jdk_68_method_64_code (1 : Nat) (Option.some (Jvm.ClassFile.FieldType.array Jvm.ClassFile.FieldType.byte))).before args0 about1 = true := code_word (m := ⟨11, 7⟩) (meth := k11m7) (c := k11c7) (by decide +kernel) rfl rfl rfl (by decide +kernel)
set_option maxRecDepth 65536 in
theorem w_c26 : (Jvm.Cond.code ({ cls := "java/lang/StringBuilder", name := "length", desc := "()I" } : Jvm.MethodName) jdk_67_method_93_code (1 : Nat) (Option.some Jvm.ClassFile.FieldType.int)).before args0 about1 = true := code_word (m := ⟨12, 4⟩) (meth := k12m4) (c := k12c4) (by decide +kernel) rfl rfl rfl (by decide +kernel)
set_option maxRecDepth 65536 in
theorem w_c27 : (Jvm.Cond.code ({ cls := "java/lang/AbstractStringBuilder", name := "length", desc := "()I" } : Jvm.MethodName) jdk_68_method_6_code (1 : Nat) (Option.some Jvm.ClassFile.FieldType.int)).before args0 about1 = true := code_word (m := ⟨11, 2⟩) (meth := k11m2) (c := k11c2) (by decide +kernel) rfl rfl rfl (by decide +kernel)
set_option maxRecDepth 65536 in
theorem w_c28 : (Jvm.Cond.code ({ cls := "java/util/Arrays", name := "copyOfRange", desc := "([BII)[B" } : Jvm.MethodName) jdk_65_method_132_code (3 : Nat) (Option.some (Jvm.ClassFile.FieldType.array Jvm.ClassFile.FieldType.byte))).before args0 about1 = true := code_word (m := ⟨16, 3⟩) (meth := k16m3) (c := k16c3) (by decide +kernel) rfl rfl rfl (by decide +kernel)
set_option maxRecDepth 65536 in
theorem w_c29 : (Jvm.Cond.code ({ cls := "java/util/Arrays", name := "copyOfRangeByte", desc := "([BII)[B" } : Jvm.MethodName) jdk_65_method_133_code (5 : Nat) (Option.some (Jvm.ClassFile.FieldType.array Jvm.ClassFile.FieldType.byte))).before args0 about1 = true := code_word (m := ⟨16, 4⟩) (meth := k16m4) (c := k16c4) (by decide +kernel) rfl rfl rfl (by decide +kernel)
set_option maxRecDepth 65536 in
theorem w_c30 : (Jvm.Cond.code ({ cls := "java/util/Arrays", name := "checkLength", desc := "(II)V" } : Jvm.MethodName) jdk_65_method_131_code (2 : Nat) (Option.none : Option Jvm.ClassFile.FieldType)).before args0 about1 = true := code_word (m := ⟨16, 2⟩) (meth := k16m2) (c := k16c2) (by decide +kernel) rfl rfl rfl (by decide +kernel)
set_option maxRecDepth 65536 in
theorem w_c31 : (Jvm.Cond.code ({ cls := "java/lang/Math", name := "min", desc := "(II)I" } : Jvm.MethodName) jdk_29_method_69_code (2 : Nat) (Option.some Jvm.ClassFile.FieldType.int)).before args0 about1 = true := code_word (m := ⟨17, 2⟩) (meth := k17m2) (c := k17c2) (by decide +kernel) rfl rfl rfl (by decide +kernel)
set_option maxRecDepth 65536 in
theorem w_c32 : (Jvm.Cond.code ({ cls := "com/example/token_relay/tokenrelay/MemberToStringPinLaw", name := "at", desc := "(Ljava/lang/String;[CII)Z" } : Jvm.MethodName) method_3_code (4 : Nat) (Option.some Jvm.ClassFile.FieldType.boolean)).before args0 about1 = true := code_word (m := ⟨1, 2⟩) (meth := k1m2) (c := k1c2) (by decide +kernel) rfl rfl rfl (by decide +kernel)
set_option maxRecDepth 65536 in
theorem w_c33 : (Jvm.Cond.code ({ cls := "java/lang/String", name := "charAt", desc := "(I)C" } : Jvm.MethodName) jdk_42_method_56_code (2 : Nat) (Option.some Jvm.ClassFile.FieldType.char)).before args0 about1 = true := code_word (m := ⟨7, 4⟩) (meth := k7m4) (c := k7c4) (by decide +kernel) rfl rfl rfl (by decide +kernel)
set_option maxRecDepth 65536 in
theorem w_c34 : (Jvm.Cond.code ({ cls := "java/lang/String", name := "isLatin1", desc := "()Z" } : Jvm.MethodName) jdk_42_method_154_code (1 : Nat) (Option.some Jvm.ClassFile.FieldType.boolean)).before args0 about1 = true := code_word (m := ⟨7, 11⟩) (meth := k7m11) (c := k7c11) (by decide +kernel) rfl rfl rfl (by decide +kernel)
set_option maxRecDepth 65536 in
theorem w_c35 : (Jvm.Cond.code ({ cls := "java/lang/StringLatin1", name := "charAt", desc := "([BI)C" } : Jvm.MethodName) jdk_43_method_2_code (2 : Nat) (Option.some Jvm.ClassFile.FieldType.char)).before args0 about1 = true := code_word (m := ⟨18, 1⟩) (meth := k18m1) (c := k18c1) (by decide +kernel) rfl rfl rfl (by decide +kernel)
set_option maxRecDepth 65536 in
theorem w_c36 : (Jvm.Cond.code ({ cls := "java/lang/String", name := "checkIndex", desc := "(II)V" } : Jvm.MethodName) jdk_42_method_155_code (2 : Nat) (Option.none : Option Jvm.ClassFile.FieldType)).before args0 about1 = true := code_word (m := ⟨7, 12⟩) (meth := k7m12) (c := k7c12) (by decide +kernel) rfl rfl rfl (by decide +kernel)
set_option maxRecDepth 65536 in
theorem w_c37 : (Jvm.Cond.code ({ cls := "jdk/internal/util/Preconditions", name := "checkIndex", desc := "(IILjava/util/function/BiFunction;)I" } : Jvm.MethodName) jdk_41_method_11_code (3 : Nat) (Option.some Jvm.ClassFile.FieldType.int)).before args0 about1 = true := code_word (m := ⟨19, 1⟩) (meth := k19m1) (c := k19c1) (by decide +kernel) rfl rfl rfl (by decide +kernel)
set_option maxRecDepth 65536 in
theorem w_c38 : (Jvm.Cond.code ({ cls := "java/lang/String", name := "valueOf", desc := "(C)Ljava/lang/String;" } : Jvm.MethodName) jdk_42_method_139_code (1 : Nat) (Option.some (Jvm.ClassFile.FieldType.object "java/lang/String"))).before args0 about1 = true := code_word (m := ⟨7, 5⟩) (meth := k7m5) (c := k7c5) (by decide +kernel) rfl rfl rfl (by decide +kernel)
set_option maxRecDepth 65536 in
theorem w_c39 : (Jvm.Cond.code ({ cls := "java/lang/StringLatin1", name := "canEncode", desc := "(C)Z" } : Jvm.MethodName) jdk_43_method_3_code (1 : Nat) (Option.some Jvm.ClassFile.FieldType.boolean)).before args0 about1 = true := code_word (m := ⟨18, 2⟩) (meth := k18m2) (c := k18c2) (by decide +kernel) rfl rfl rfl (by decide +kernel)
set_option maxRecDepth 65536 in
theorem w_c40 : (Jvm.Cond.code ({ cls := "java/lang/StringLatin1", name := "toBytes", desc := "(C)[B" } : Jvm.MethodName) jdk_43_method_46_code (1 : Nat) (Option.some (Jvm.ClassFile.FieldType.array Jvm.ClassFile.FieldType.byte))).before args0 about1 = true := code_word (m := ⟨18, 3⟩) (meth := k18m3) (c := k18c3) (by decide +kernel) rfl rfl rfl (by decide +kernel)
set_option maxRecDepth 65536 in
theorem w_c41 : (Jvm.Cond.code ({ cls := "java/lang/String", name := "<init>", desc := "([BB)V" } : Jvm.MethodName) jdk_42_method_151_code (3 : Nat) (Option.none : Option Jvm.ClassFile.FieldType)).before args0 about1 = true := code_word (m := ⟨7, 9⟩) (meth := k7m9) (c := k7c9) (by decide +kernel) rfl rfl rfl (by decide +kernel)
set_option maxRecDepth 65536 in
theorem w_c42 : (Jvm.Cond.code ({ cls := "java/lang/AbstractStringBuilder", name := "newCapacity", desc := "(I)I" } : Jvm.MethodName) jdk_68_method_10_code (6 : Nat) (Option.some Jvm.ClassFile.FieldType.int)).before args0 about1 = true := code_word (m := ⟨11, 4⟩) (meth := k11m4) (c := k11c4) (by decide +kernel) rfl rfl rfl (by decide +kernel)
set_option maxRecDepth 65536 in
theorem w_c43 : (Jvm.Cond.code ({ cls := "jdk/internal/util/ArraysSupport", name := "newLength", desc := "(III)I" } : Jvm.MethodName) jdk_48_method_27_code (4 : Nat) (Option.some Jvm.ClassFile.FieldType.int)).before args0 about1 = true := code_word (m := ⟨20, 1⟩) (meth := k20m1) (c := k20c1) (by decide +kernel) rfl rfl rfl (by decide +kernel)
set_option maxRecDepth 65536 in
theorem w_c44 : (Jvm.Cond.code ({ cls := "java/lang/Math", name := "max", desc := "(II)I" } : Jvm.MethodName) jdk_29_method_65_code (2 : Nat) (Option.some Jvm.ClassFile.FieldType.int)).before args0 about1 = true := code_word (m := ⟨17, 1⟩) (meth := k17m1) (c := k17c1) (by decide +kernel) rfl rfl rfl (by decide +kernel)
set_option maxRecDepth 65536 in
theorem w_c45 : (Jvm.Cond.code ({ cls := "java/util/Arrays", name := "copyOf", desc := "([BI)[B" } : Jvm.MethodName) jdk_65_method_121_code (3 : Nat) (Option.some (Jvm.ClassFile.FieldType.array Jvm.ClassFile.FieldType.byte))).before args0 about1 = true := code_word (m := ⟨16, 1⟩) (meth := k16m1) (c := k16c1) (by decide +kernel) rfl rfl rfl (by decide +kernel)
set_option maxRecDepth 65536 in
theorem w_c46 : (Jvm.Cond.code ({ cls := "java/lang/String", name := "<init>", desc := "([C)V" } : Jvm.MethodName) jdk_42_method_3_code (2 : Nat) (Option.none : Option Jvm.ClassFile.FieldType)).before args0 about1 = true := code_word (m := ⟨7, 1⟩) (meth := k7m1) (c := k7c1) (by decide +kernel) rfl rfl rfl (by decide +kernel)
set_option maxRecDepth 65536 in
theorem w_c47 : (Jvm.Cond.code ({ cls := "java/lang/String", name := "<init>", desc := "([CIILjava/lang/Void;)V" } : Jvm.MethodName) jdk_42_method_149_code (6 : Nat) (Option.none : Option Jvm.ClassFile.FieldType)).before args0 about1 = true := code_word (m := ⟨7, 7⟩) (meth := k7m7) (c := k7c7) (by decide +kernel) rfl rfl rfl (by decide +kernel)
set_option maxRecDepth 65536 in
theorem w_c48 : (Jvm.Cond.code ({ cls := "java/lang/StringUTF16", name := "compress", desc := "([CII)[B" } : Jvm.MethodName) jdk_52_method_16_code (6 : Nat) (Option.some (Jvm.ClassFile.FieldType.array Jvm.ClassFile.FieldType.byte))).before args0 about1 = true := code_word (m := ⟨22, 2⟩) (meth := k22m2) (c := k22c2) (by decide +kernel) rfl rfl rfl (by decide +kernel)
set_option maxRecDepth 65536 in
theorem w_c49 : (Jvm.Cond.code ({ cls := "java/lang/StringUTF16", name := "compress", desc := "([CI[BII)I" } : Jvm.MethodName) jdk_52_method_21_code (7 : Nat) (Option.some Jvm.ClassFile.FieldType.int)).before args0 about1 = true := code_word (m := ⟨22, 3⟩) (meth := k22m3) (c := k22c3) (by decide +kernel) rfl rfl rfl (by decide +kernel)
set_option maxRecDepth 65536 in
theorem w_c50 : (Jvm.Cond.code ({ cls := "java/lang/StringUTF16", name := "coderFromArrayLen", desc := "([BI)B" } : Jvm.MethodName) jdk_52_method_15_code (2 : Nat) (Option.some Jvm.ClassFile.FieldType.byte)).before args0 about1 = true := code_word (m := ⟨22, 1⟩) (meth := k22m1) (c := k22c1) (by decide +kernel) rfl rfl rfl (by decide +kernel)
def codes1 : List Jvm.Cond := [Jvm.Cond.code x code maxLocals ret, Jvm.Cond.code ({ cls := "com/example/token_relay/tokenrelay/MemberToStringPinLaw", name := "put", desc := "([CII)I" } : Jvm.MethodName) method_5_code (7 : Nat) (Option.some Jvm.ClassFile.FieldType.int), Jvm.Cond.code ({ cls := "com/example/token_relay/tokenrelay/MemberToStringPinLaw", name := "ch", desc := "(J)C" } : Jvm.MethodName) method_4_code (2 : Nat) (Option.some Jvm.ClassFile.FieldType.char), Jvm.Cond.code ({ cls := "com/example/token_relay/tokenrelay/Member", name := "<init>", desc := "(ILjava/lang/String;II)V" } : Jvm.MethodName) prog_8_method_1_code (5 : Nat) (Option.none : Option Jvm.ClassFile.FieldType), Jvm.Cond.code ({ cls := "java/lang/Object", name := "<init>", desc := "()V" } : Jvm.MethodName) object_method_1_code (1 : Nat) (Option.none : Option Jvm.ClassFile.FieldType), Jvm.Cond.code ({ cls := "java/util/Objects", name := "requireNonNull", desc := "(Ljava/lang/Object;Ljava/lang/String;)Ljava/lang/Object;" } : Jvm.MethodName) jdk_31_method_11_code (2 : Nat) (Option.some (Jvm.ClassFile.FieldType.object "java/lang/Object")), Jvm.Cond.code ({ cls := "com/example/token_relay/tokenrelay/Member", name := "toString", desc := "()Ljava/lang/String;" } : Jvm.MethodName) prog_8_method_10_code (1 : Nat) (Option.some (Jvm.ClassFile.FieldType.object "java/lang/String")), Jvm.Cond.code ({ cls := "java/lang/StringBuilder", name := "<init>", desc := "()V" } : Jvm.MethodName) jdk_67_method_1_code (1 : Nat) (Option.none : Option Jvm.ClassFile.FieldType), Jvm.Cond.code ({ cls := "java/lang/AbstractStringBuilder", name := "<init>", desc := "(I)V" } : Jvm.MethodName) jdk_68_method_2_code (2 : Nat) (Option.none : Option Jvm.ClassFile.FieldType), Jvm.Cond.code ({ cls := "java/lang/StringBuilder", name := "append", desc := "(I)Ljava/lang/StringBuilder;" } : Jvm.MethodName) jdk_67_method_15_code (2 : Nat) (Option.some (Jvm.ClassFile.FieldType.object "java/lang/StringBuilder")), Jvm.Cond.code ({ cls := "java/lang/AbstractStringBuilder", name := "append", desc := "(I)Ljava/lang/AbstractStringBuilder;" } : Jvm.MethodName) jdk_68_method_32_code (4 : Nat) (Option.some (Jvm.ClassFile.FieldType.object "java/lang/AbstractStringBuilder")), Jvm.Cond.code ({ cls := "java/lang/Integer", name := "stringSize", desc := "(I)I" } : Jvm.MethodName) jdk_33_method_13_code (4 : Nat) (Option.some Jvm.ClassFile.FieldType.int), Jvm.Cond.code ({ cls := "java/lang/AbstractStringBuilder", name := "ensureCapacityInternal", desc := "(I)V" } : Jvm.MethodName) jdk_68_method_9_code (3 : Nat) (Option.none : Option Jvm.ClassFile.FieldType), Jvm.Cond.code ({ cls := "java/lang/AbstractStringBuilder", name := "isLatin1", desc := "()Z" } : Jvm.MethodName) jdk_68_method_68_code (1 : Nat) (Option.some Jvm.ClassFile.FieldType.boolean), Jvm.Cond.code ({ cls := "java/lang/Integer", name := "getChars", desc := "(II[B)I" } : Jvm.MethodName) jdk_33_method_12_code (7 : Nat) (Option.some Jvm.ClassFile.FieldType.int), Jvm.Cond.code ({ cls := "java/lang/StringBuilder", name := "append", desc := "(Ljava/lang/String;)Ljava/lang/StringBuilder;" } : Jvm.MethodName) jdk_67_method_7_code (2 : Nat) (Option.some (Jvm.ClassFile.FieldType.object "java/lang/StringBuilder")), Jvm.Cond.code ({ cls := "java/lang/AbstractStringBuilder", name := "append", desc := "(Ljava/lang/String;)Ljava/lang/AbstractStringBuilder;" } : Jvm.MethodName) jdk_68_method_22_code (3 : Nat) (Option.some (Jvm.ClassFile.FieldType.object "java/lang/AbstractStringBuilder")), Jvm.Cond.code ({ cls := "java/lang/String", name := "length", desc := "()I" } : Jvm.MethodName) jdk_42_method_54_code (1 : Nat) (Option.some Jvm.ClassFile.FieldType.int), Jvm.Cond.code ({ cls := "java/lang/String", name := "coder", desc := "()B" } : Jvm.MethodName) jdk_42_method_152_code (1 : Nat) (Option.some Jvm.ClassFile.FieldType.byte), Jvm.Cond.code ({ cls := "java/lang/AbstractStringBuilder", name := "putStringAt", desc := "(ILjava/lang/String;)V" } : Jvm.MethodName) jdk_68_method_73_code (3 : Nat) (Option.none : Option Jvm.ClassFile.FieldType), Jvm.Cond.code ({ cls := "java/lang/AbstractStringBuilder", name := "inflateIfNeededFor", desc := "(Ljava/lang/String;)V" } : Jvm.MethodName) jdk_68_method_71_code (2 : Nat) (Option.none : Option Jvm.ClassFile.FieldType), Jvm.Cond.code ({ cls := "java/lang/String", name := "getBytes", desc := "([BIB)V" } : Jvm.MethodName) jdk_42_method_147_code (4 : Nat) (Option.none : Option Jvm.ClassFile.FieldType), Jvm.Cond.code ({ cls := "java/lang/StringBuilder", name := "toString", desc := "()Ljava/lang/String;" } : Jvm.MethodName) jdk_67_method_42_code (1 : Nat) (Option.some (Jvm.ClassFile.FieldType.object "java/lang/String")), Jvm.Cond.code ({ cls := "java/lang/String", name := "<init>", desc := "(Ljava/lang/StringBuilder;)V" } : Jvm.MethodName) jdk_42_method_53_code (2 : Nat) (Option.none : Option Jvm.ClassFile.FieldType), Jvm.Cond.code ({ cls := "java/lang/String", name := "<init>", desc := "(Ljava/lang/AbstractStringBuilder;Ljava/lang/Void;)V" } : Jvm.MethodName) jdk_42_method_150_code (5 : Nat) (Option.none : Option Jvm.ClassFile.FieldType), Jvm.Cond.code ({ cls := "java/lang/AbstractStringBuilder", name := "getValue", desc := "()[B" } : Jvm.MethodName) jdk_68_method_64_code (1 : Nat) (Option.some (Jvm.ClassFile.FieldType.array Jvm.ClassFile.FieldType.byte)), Jvm.Cond.code ({ cls := "java/lang/StringBuilder", name := "length", desc := "()I" } : Jvm.MethodName) jdk_67_method_93_code (1 : Nat) (Option.some Jvm.ClassFile.FieldType.int), Jvm.Cond.code ({ cls := "java/lang/AbstractStringBuilder", name := "length", desc := "()I" } : Jvm.MethodName) jdk_68_method_6_code (1 : Nat) (Option.some Jvm.ClassFile.FieldType.int), Jvm.Cond.code ({ cls := "java/util/Arrays", name := "copyOfRange", desc := "([BII)[B" } : Jvm.MethodName) jdk_65_method_132_code (3 : Nat) (Option.some (Jvm.ClassFile.FieldType.array Jvm.ClassFile.FieldType.byte)), Jvm.Cond.code ({ cls := "java/util/Arrays", name := "copyOfRangeByte", desc := "([BII)[B" } : Jvm.MethodName) jdk_65_method_133_code (5 : Nat) (Option.some (Jvm.ClassFile.FieldType.array Jvm.ClassFile.FieldType.byte)), Jvm.Cond.code ({ cls := "java/util/Arrays", name := "checkLength", desc := "(II)V" } : Jvm.MethodName) jdk_65_method_131_code (2 : Nat) (Option.none : Option Jvm.ClassFile.FieldType), Jvm.Cond.code ({ cls := "java/lang/Math", name := "min", desc := "(II)I" } : Jvm.MethodName) jdk_29_method_69_code (2 : Nat) (Option.some Jvm.ClassFile.FieldType.int), Jvm.Cond.code ({ cls := "com/example/token_relay/tokenrelay/MemberToStringPinLaw", name := "at", desc := "(Ljava/lang/String;[CII)Z" } : Jvm.MethodName) method_3_code (4 : Nat) (Option.some Jvm.ClassFile.FieldType.boolean), Jvm.Cond.code ({ cls := "java/lang/String", name := "charAt", desc := "(I)C" } : Jvm.MethodName) jdk_42_method_56_code (2 : Nat) (Option.some Jvm.ClassFile.FieldType.char), Jvm.Cond.code ({ cls := "java/lang/String", name := "isLatin1", desc := "()Z" } : Jvm.MethodName) jdk_42_method_154_code (1 : Nat) (Option.some Jvm.ClassFile.FieldType.boolean), Jvm.Cond.code ({ cls := "java/lang/StringLatin1", name := "charAt", desc := "([BI)C" } : Jvm.MethodName) jdk_43_method_2_code (2 : Nat) (Option.some Jvm.ClassFile.FieldType.char), Jvm.Cond.code ({ cls := "java/lang/String", name := "checkIndex", desc := "(II)V" } : Jvm.MethodName) jdk_42_method_155_code (2 : Nat) (Option.none : Option Jvm.ClassFile.FieldType), Jvm.Cond.code ({ cls := "jdk/internal/util/Preconditions", name := "checkIndex", desc := "(IILjava/util/function/BiFunction;)I" } : Jvm.MethodName) jdk_41_method_11_code (3 : Nat) (Option.some Jvm.ClassFile.FieldType.int), Jvm.Cond.code ({ cls := "java/lang/String", name := "valueOf", desc := "(C)Ljava/lang/String;" } : Jvm.MethodName) jdk_42_method_139_code (1 : Nat) (Option.some (Jvm.ClassFile.FieldType.object "java/lang/String")), Jvm.Cond.code ({ cls := "java/lang/StringLatin1", name := "canEncode", desc := "(C)Z" } : Jvm.MethodName) jdk_43_method_3_code (1 : Nat) (Option.some Jvm.ClassFile.FieldType.boolean), Jvm.Cond.code ({ cls := "java/lang/StringLatin1", name := "toBytes", desc := "(C)[B" } : Jvm.MethodName) jdk_43_method_46_code (1 : Nat) (Option.some (Jvm.ClassFile.FieldType.array Jvm.ClassFile.FieldType.byte)), Jvm.Cond.code ({ cls := "java/lang/String", name := "<init>", desc := "([BB)V" } : Jvm.MethodName) jdk_42_method_151_code (3 : Nat) (Option.none : Option Jvm.ClassFile.FieldType), Jvm.Cond.code ({ cls := "java/lang/AbstractStringBuilder", name := "newCapacity", desc := "(I)I" } : Jvm.MethodName) jdk_68_method_10_code (6 : Nat) (Option.some Jvm.ClassFile.FieldType.int), Jvm.Cond.code ({ cls := "jdk/internal/util/ArraysSupport", name := "newLength", desc := "(III)I" } : Jvm.MethodName) jdk_48_method_27_code (4 : Nat) (Option.some Jvm.ClassFile.FieldType.int), Jvm.Cond.code ({ cls := "java/lang/Math", name := "max", desc := "(II)I" } : Jvm.MethodName) jdk_29_method_65_code (2 : Nat) (Option.some Jvm.ClassFile.FieldType.int), Jvm.Cond.code ({ cls := "java/util/Arrays", name := "copyOf", desc := "([BI)[B" } : Jvm.MethodName) jdk_65_method_121_code (3 : Nat) (Option.some (Jvm.ClassFile.FieldType.array Jvm.ClassFile.FieldType.byte)), Jvm.Cond.code ({ cls := "java/lang/String", name := "<init>", desc := "([C)V" } : Jvm.MethodName) jdk_42_method_3_code (2 : Nat) (Option.none : Option Jvm.ClassFile.FieldType), Jvm.Cond.code ({ cls := "java/lang/String", name := "<init>", desc := "([CIILjava/lang/Void;)V" } : Jvm.MethodName) jdk_42_method_149_code (6 : Nat) (Option.none : Option Jvm.ClassFile.FieldType), Jvm.Cond.code ({ cls := "java/lang/StringUTF16", name := "compress", desc := "([CII)[B" } : Jvm.MethodName) jdk_52_method_16_code (6 : Nat) (Option.some (Jvm.ClassFile.FieldType.array Jvm.ClassFile.FieldType.byte)), Jvm.Cond.code ({ cls := "java/lang/StringUTF16", name := "compress", desc := "([CI[BII)I" } : Jvm.MethodName) jdk_52_method_21_code (7 : Nat) (Option.some Jvm.ClassFile.FieldType.int), Jvm.Cond.code ({ cls := "java/lang/StringUTF16", name := "coderFromArrayLen", desc := "([BI)B" } : Jvm.MethodName) jdk_52_method_15_code (2 : Nat) (Option.some Jvm.ClassFile.FieldType.byte)]
set_option maxRecDepth 65536 in
theorem codes_eq : words1.filter isCode = codes1 := rfl
theorem w_codes : ∀ c ∈ words1.filter isCode, c.before args0 about1 = true := by
  rw [codes_eq]
  intro c hc
  simp only [codes1, List.mem_cons, List.not_mem_nil, or_false] at hc
  rcases hc with rfl | rfl | rfl | rfl | rfl | rfl | rfl | rfl | rfl | rfl | rfl | rfl | rfl | rfl | rfl | rfl | rfl | rfl | rfl | rfl | rfl | rfl | rfl | rfl | rfl | rfl | rfl | rfl | rfl | rfl | rfl | rfl | rfl | rfl | rfl | rfl | rfl | rfl | rfl | rfl | rfl | rfl | rfl | rfl | rfl | rfl | rfl | rfl | rfl | rfl | rfl
  · exact w_c0
  · exact w_c1
  · exact w_c2
  · exact w_c3
  · exact w_c4
  · exact w_c5
  · exact w_c6
  · exact w_c7
  · exact w_c8
  · exact w_c9
  · exact w_c10
  · exact w_c11
  · exact w_c12
  · exact w_c13
  · exact w_c14
  · exact w_c15
  · exact w_c16
  · exact w_c17
  · exact w_c18
  · exact w_c19
  · exact w_c20
  · exact w_c21
  · exact w_c22
  · exact w_c23
  · exact w_c24
  · exact w_c25
  · exact w_c26
  · exact w_c27
  · exact w_c28
  · exact w_c29
  · exact w_c30
  · exact w_c31
  · exact w_c32
  · exact w_c33
  · exact w_c34
  · exact w_c35
  · exact w_c36
  · exact w_c37
  · exact w_c38
  · exact w_c39
  · exact w_c40
  · exact w_c41
  · exact w_c42
  · exact w_c43
  · exact w_c44
  · exact w_c45
  · exact w_c46
  · exact w_c47
  · exact w_c48
  · exact w_c49
  · exact w_c50
set_option maxRecDepth 65536 in
theorem w_t1 : (words1.take 24).all (fun c => isCode c || c.before args0 about1) = true := by decide +kernel
set_option maxRecDepth 65536 in
theorem w_t2 : ((words1.drop 24).take 24).all (fun c => isCode c || c.before args0 about1) = true := by decide +kernel
set_option maxRecDepth 65536 in
theorem w_t3 : (((words1.drop 24).drop 24).take 24).all (fun c => isCode c || c.before args0 about1) = true := by decide +kernel
set_option maxRecDepth 65536 in
theorem w_t4 : ((((words1.drop 24).drop 24).drop 24).take 24).all (fun c => isCode c || c.before args0 about1) = true := by decide +kernel
set_option maxRecDepth 65536 in
theorem w_t5 : (((((words1.drop 24).drop 24).drop 24).drop 24).take 24).all (fun c => isCode c || c.before args0 about1) = true := by decide +kernel
set_option maxRecDepth 65536 in
theorem w_t6 : ((((((words1.drop 24).drop 24).drop 24).drop 24).drop 24).take 24).all (fun c => isCode c || c.before args0 about1) = true := by decide +kernel
set_option maxRecDepth 65536 in
theorem w_t7 : (((((((words1.drop 24).drop 24).drop 24).drop 24).drop 24).drop 24).take 24).all (fun c => isCode c || c.before args0 about1) = true := by decide +kernel
set_option maxRecDepth 65536 in
theorem w_t8 : ((((((((words1.drop 24).drop 24).drop 24).drop 24).drop 24).drop 24).drop 24).take 24).all (fun c => isCode c || c.before args0 about1) = true := by decide +kernel
set_option maxRecDepth 65536 in
theorem w_t9 : (((((((((words1.drop 24).drop 24).drop 24).drop 24).drop 24).drop 24).drop 24).drop 24).take 24).all (fun c => isCode c || c.before args0 about1) = true := by decide +kernel
set_option maxRecDepth 65536 in
theorem w_t10 : ((((((((((words1.drop 24).drop 24).drop 24).drop 24).drop 24).drop 24).drop 24).drop 24).drop 24).take 24).all (fun c => isCode c || c.before args0 about1) = true := by decide +kernel
set_option maxRecDepth 65536 in
theorem w_t11 : (((((((((((words1.drop 24).drop 24).drop 24).drop 24).drop 24).drop 24).drop 24).drop 24).drop 24).drop 24).take 24).all (fun c => isCode c || c.before args0 about1) = true := by decide +kernel
set_option maxRecDepth 65536 in
theorem w_t12 : (((((((((((words1.drop 24).drop 24).drop 24).drop 24).drop 24).drop 24).drop 24).drop 24).drop 24).drop 24).drop 24).all (fun c => isCode c || c.before args0 about1) = true := by decide +kernel
theorem w_tables : (allAtoms (Jvm.Cond.code x code maxLocals ret :: tables_1)).before args0 about1 = true := by
  rw [allAtoms_all]
  show words1.all (fun c => c.before args0 about1) = true
  refine all_split ?_ w_codes
  rw [← List.take_append_drop 24 words1, List.all_append, w_t1, ← List.take_append_drop 24 (words1.drop 24), List.all_append, w_t2, ← List.take_append_drop 24 ((words1.drop 24).drop 24), List.all_append, w_t3, ← List.take_append_drop 24 (((words1.drop 24).drop 24).drop 24), List.all_append, w_t4, ← List.take_append_drop 24 ((((words1.drop 24).drop 24).drop 24).drop 24), List.all_append, w_t5, ← List.take_append_drop 24 (((((words1.drop 24).drop 24).drop 24).drop 24).drop 24), List.all_append, w_t6, ← List.take_append_drop 24 ((((((words1.drop 24).drop 24).drop 24).drop 24).drop 24).drop 24), List.all_append, w_t7, ← List.take_append_drop 24 (((((((words1.drop 24).drop 24).drop 24).drop 24).drop 24).drop 24).drop 24), List.all_append, w_t8, ← List.take_append_drop 24 ((((((((words1.drop 24).drop 24).drop 24).drop 24).drop 24).drop 24).drop 24).drop 24), List.all_append, w_t9, ← List.take_append_drop 24 (((((((((words1.drop 24).drop 24).drop 24).drop 24).drop 24).drop 24).drop 24).drop 24).drop 24), List.all_append, w_t10, ← List.take_append_drop 24 ((((((((((words1.drop 24).drop 24).drop 24).drop 24).drop 24).drop 24).drop 24).drop 24).drop 24).drop 24), List.all_append, w_t11, w_t12]
  rfl
set_option maxRecDepth 65536 in
theorem w_rest : rest_1_c.before args0 about1 = true := by decide +kernel
set_option maxRecDepth 65536 in
theorem w_case : (Jvm.Cond.and given_1 narrow_1).before args0 about1 = true := by decide +kernel
set_option maxRecDepth 65536 in
theorem w_consts : constsHeld consts_1 about1 := Jvm.Lit.constsHeldB_iff.mp (by decide +kernel)
theorem w_applies : (headSpec (Jvm.Cond.code x code maxLocals ret :: tables_1) room_1).applies x e0.platform about1 = true :=
  (Spec.applies_iff w_frames).mpr ⟨w_running, w_runnable, w_alone, w_named, w_hears, w_ripe, w_room, w_tables⟩
theorem atStart : AtStart classFile x code maxLocals ret World_1 tables_1 room_1 Calls_1 rest_1 Pre_1 launch0 p0 e0 about1 theMethod args0 below0 :=
  ⟨lists_1, trivial, launch0.admits_env _ _ _, launch0.least_env, fairChoices_fair.cas, fairChoices_fair.clock, w_frames, w_args, w_heap, w_applies, ⟨w_consts, trivial⟩, w_rest, w_case⟩
end start1
theorem witness_1 : WitnessClaimed_1 := ⟨start1.p0, start1.e0, start1.about1, start1.theMethod, start1.args0, start1.below0, start1.atStart⟩
end Jvm.Pilot.@@N@@
