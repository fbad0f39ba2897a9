import JvmDerived
import JvmDerived.Pilot.@@N@@Statement
import JvmDerived.Pilot.@@N@@Code
set_option linter.unusedVariables false
set_option linter.unusedSimpArgs false
namespace Jvm.OwnKit
open Jvm Jvm.ClassFile Sem Op Lib Jvm.Free Jvm.Stand Jvm.LawKit Jvm.RoadKit
section Walk
variable {p : Program} {l : Launch} {e : Env} {R : Room} {s : State} {m : MethodId} {args : Array Value} {below : List Frame} {meth : Method} {c : Code} {T T' : State} {locs : List Loc} {cells slots k n : Nat} {Q : Option Value → Heap → List Loc → Prop} {g g' : JFrame}
/-- from T with the frame g on top the run comes home: it returns, and Q says of what it returned, the heap and the places written -/
def Home {p : Program} {e : Env} {below : List Frame} {s : State} {Q : Option Value → Heap → List Loc → Prop} {k n : Nat} (T : State) (g : JFrame) : Prop :=
  ∃ U o, Steps p.tables e below (T.setTop g) U ∧ U.status = .running ∧ Ended U below o ∧ ∃ v L, o = .returned v ∧ Q v U.heap L ∧ FrameEnd s o U L k n
theorem Home.go (st : ∀ t, Steps p.tables e below (T'.setTop g') t → Steps p.tables e below (T.setTop g) t) (H : @Home p e below s Q k n T' g') : @Home p e below s Q k n T g := by
  obtain ⟨U, o, h1, h2⟩ := H
  exact ⟨U, o, st _ h1, h2⟩
section Cps
variable {S : State → Prop} {S2 : State → Heap → Prop} {W E A D M : Heap → Prop} {A2 : Heap → ClassId → Prop} {O : ClassId → Prop} {h : Heap}
theorem Home.st (q : ∃ T', S T' ∧ T'.heap = h ∧ ∀ t, Steps p.tables e below (T'.setTop g') t → Steps p.tables e below (T.setTop g) t) (H : ∀ T', S T' → T'.heap = h → @Home p e below s Q k n T' g') : @Home p e below s Q k n T g := by
  obtain ⟨T', x, y, st⟩ := q
  exact Home.go st (H T' x y)
theorem Home.wr (q : ∃ T' h', S T' ∧ T'.heap = h' ∧ W h' ∧ ∀ t, Steps p.tables e below (T'.setTop g') t → Steps p.tables e below (T.setTop g) t) (H : ∀ T' h', S T' → T'.heap = h' → W h' → @Home p e below s Q k n T' g') : @Home p e below s Q k n T g := by
  obtain ⟨T', h', x, y, z, st⟩ := q
  exact Home.go st (H T' h' x y z)
theorem Home.nw {B : Addr → Prop} {A3 D3 : Heap → Addr → Prop} {ga : Addr → JFrame} (q : ∃ T' h' b, B b ∧ S T' ∧ T'.heap = h' ∧ E h' ∧ A3 h' b ∧ D3 h' b ∧ ∀ t, Steps p.tables e below (T'.setTop (ga b)) t → Steps p.tables e below (T.setTop g) t) (H : ∀ T' h' b, B b → S T' → T'.heap = h' → E h' → A3 h' b → D3 h' b → @Home p e below s Q k n T' (ga b)) : @Home p e below s Q k n T g := by
  obtain ⟨T', h', b, i, x, y, z, u, v, st⟩ := q
  exact Home.go st (H T' h' b i x y z u v)
theorem Home.na {B : Addr → Prop} {A3 : Heap → ClassId → Addr → Prop} {ga : Addr → JFrame} (q : ∃ T' h' c' b, B b ∧ S T' ∧ T'.heap = h' ∧ E h' ∧ A3 h' c' b ∧ ∀ t, Steps p.tables e below (T'.setTop (ga b)) t → Steps p.tables e below (T.setTop g) t) (H : ∀ T' h' c' b, B b → S T' → T'.heap = h' → E h' → A3 h' c' b → @Home p e below s Q k n T' (ga b)) : @Home p e below s Q k n T g := by
  obtain ⟨T', h', c', b, i, x, y, z, u, st⟩ := q
  exact Home.go st (H T' h' c' b i x y z u)
theorem Home.nr {B : Addr → Prop} {A3 : Heap → ClassId → Addr → Prop} {ga : Addr → JFrame} (q : ∃ T' h' c' b, B b ∧ S T' ∧ T'.heap = h' ∧ E h' ∧ A3 h' c' b ∧ O c' ∧ ∀ t, Steps p.tables e below (T'.setTop (ga b)) t → Steps p.tables e below (T.setTop g) t) (H : ∀ T' h' c' b, B b → S T' → T'.heap = h' → E h' → A3 h' c' b → O c' → @Home p e below s Q k n T' (ga b)) : @Home p e below s Q k n T g := by
  obtain ⟨T', h', c', b, i, x, y, z, u, v, st⟩ := q
  exact Home.go st (H T' h' c' b i x y z u v)
theorem Home.call {S3 : State → List Loc → Prop} {Q3 : Option Value → State → List Loc → Prop} {gv : Option Value → JFrame} (q : ∃ v T' L, S3 T' L ∧ Q3 v T' L ∧ ∀ t, Steps p.tables e below (T'.setTop (gv v)) t → Steps p.tables e below (T.setTop g) t) (H : ∀ v T' L, S3 T' L → Q3 v T' L → @Home p e below s Q k n T' (gv v)) : @Home p e below s Q k n T g := by
  obtain ⟨v, T', L, x, y, st⟩ := q
  exact Home.go st (H v T' L x y)
end Cps
theorem Home.enter (q : g = g') (H : @Home p e below s Q k n T g') : @Home p e below s Q k n T g := by
  subst q; exact H
theorem Home.retN (X : Stand p l e R s m args below meth c T locs cells slots) (hx : p.tables.exec = Jvm.exec) (hlk : meth.locks = false) {pc : Nat} {Ls : Array Slot} {z : Int32} {t : FieldType} {rest : List Value} (hret : meth.sig.returnType = some t) (ht : t = .boolean ∨ t = .byte ∨ t = .char ∨ t = .short)
    (hd : decode c.code pc = .ok (.ireturn, 1)) (hQ : Q (some (.int (nar t z))) T.heap locs) (hk : cells ≤ k) (hn : slots ≤ n) : @Home p e below s Q k n T (mkF m pc Ls (.int z :: rest)) := by
  obtain ⟨fs, hr, hrun, hended, hW, hsame⟩ := X.leave (v := some (.int (nar t z))) (fun h => by rw [hret] at h; cases h) hlk
  exact ⟨_, _, Jvm.RoadKit.retN X hx hret ht hd hr, hrun, hended, _, _, rfl, hQ, ⟨_, rfl⟩, hW, hsame.mono hk hn⟩
theorem Home.ret (X : Stand p l e R s m args below meth c T locs cells slots) (hx : p.tables.exec = Jvm.exec) (hlk : meth.locks = false) {pc : Nat} {Ls : Array Slot} {w : Value} {t : FieldType} {i : Instr} {rest : List Value} (hret : meth.sig.returnType = some t) (hnn : narrow t w = w)
    (hi : (i = .ireturn ∧ (t = .int ∨ t = .boolean ∨ t = .byte ∨ t = .char ∨ t = .short) ∧ ∃ z, w = .int z) ∨ (i = .lreturn ∧ t = .long ∧ ∃ z, w = .long z) ∨ (i = .dreturn ∧ t = .double ∧ ∃ z, w = .double z) ∨ (i = .freturn ∧ t = .float ∧ ∃ z, w = .float z) ∨ (i = .areturn ∧ t.isReference = true ∧ w.isRef = true))
    (hd : decode c.code pc = .ok (i, 1)) (hQ : Q (some w) T.heap locs) (hk : cells ≤ k) (hn : slots ≤ n) : @Home p e below s Q k n T (mkF m pc Ls (w :: rest)) := by
  obtain ⟨fs, hr, hrun, hended, hW, hsame⟩ := X.leave (v := some w) (fun h => by rw [hret] at h; cases h) hlk
  exact ⟨_, _, retOut X hx hret hnn hi hd hr, hrun, hended, _, _, rfl, hQ, ⟨_, rfl⟩, hW, hsame.mono hk hn⟩
theorem Home.retI (X : Stand p l e R s m args below meth c T locs cells slots) (hx : p.tables.exec = Jvm.exec) (hlk : meth.locks = false) {pc : Nat} {Ls : Array Slot} {z : Int32} {rest : List Value} (hret : meth.sig.returnType = some .int)
    (hd : decode c.code pc = .ok (.ireturn, 1)) (hQ : Q (some (.int z)) T.heap locs) (hk : cells ≤ k) (hn : slots ≤ n) : @Home p e below s Q k n T (mkF m pc Ls (.int z :: rest)) :=
  Home.ret X hx hlk hret rfl (Or.inl ⟨rfl, Or.inl rfl, z, rfl⟩) hd hQ hk hn
theorem Home.retJ (X : Stand p l e R s m args below meth c T locs cells slots) (hx : p.tables.exec = Jvm.exec) (hlk : meth.locks = false) {pc : Nat} {Ls : Array Slot} {z : Int64} {rest : List Value} (hret : meth.sig.returnType = some .long)
    (hd : decode c.code pc = .ok (.lreturn, 1)) (hQ : Q (some (.long z)) T.heap locs) (hk : cells ≤ k) (hn : slots ≤ n) : @Home p e below s Q k n T (mkF m pc Ls (.long z :: rest)) :=
  Home.ret X hx hlk hret rfl (Or.inr (Or.inl ⟨rfl, rfl, z, rfl⟩)) hd hQ hk hn
theorem own_narrow_ref {t : FieldType} {w : Value} (hw : w.isRef = true) : narrow t w = w := by
  rcases ref_cases hw with rfl | ⟨a, rfl⟩ <;> cases t <;> rfl
theorem Home.retR (X : Stand p l e R s m args below meth c T locs cells slots) (hx : p.tables.exec = Jvm.exec) (hlk : meth.locks = false) {pc : Nat} {Ls : Array Slot} {w : Value} {t : FieldType} {rest : List Value} (hret : meth.sig.returnType = some t) (ht : t.isReference = true) (hw : w.isRef = true)
    (hd : decode c.code pc = .ok (.areturn, 1)) (hQ : Q (some w) T.heap locs) (hk : cells ≤ k) (hn : slots ≤ n) : @Home p e below s Q k n T (mkF m pc Ls (w :: rest)) :=
  Home.ret X hx hlk hret (own_narrow_ref hw) (Or.inr (Or.inr (Or.inr (Or.inr ⟨rfl, ht, hw⟩)))) hd hQ hk hn
theorem Home.ret0 (X : Stand p l e R s m args below meth c T locs cells slots) (hx : p.tables.exec = Jvm.exec) (hlk : meth.locks = false) {pc : Nat} {Ls : Array Slot} (hret : meth.sig.returnType = none)
    (hd : decode c.code pc = .ok (.return_, 1)) (hQ : Q none T.heap locs) (hk : cells ≤ k) (hn : slots ≤ n) : @Home p e below s Q k n T (mkF m pc Ls []) := by
  obtain ⟨fs, hr, hrun, hended, hW, hsame⟩ := X.leave (v := none) (fun _ => rfl) hlk
  exact ⟨_, _, X.returnOut hx hret hd hr, hrun, hended, _, _, rfl, hQ, ⟨_, rfl⟩, hW, hsame.mono hk hn⟩
end Walk
section New
variable {p : Program} {l : Launch} {e : Env} {R : Room} {s : State} {m : MethodId} {args : Array Value} {below : List Frame} {meth : Method} {c : Code} {T : State} {locs : List Loc} {cells slots : Nat} {Z : State} {a0 : Array Value} {h : Heap}
theorem own_newO (X : Stand p l e R s m args below meth c T locs cells slots) (hx : p.tables.exec = Jvm.exec) (hZ : Z.Warmed39 s.vm) {own C : String} {index n : Nat} (hown : s.vm.findClass own = some m.cls) (w : (Cond.classLink own index C).before a0 Z = true) (wi : (Cond.instantiable C n).before a0 Z = true) (wz : (Cond.initialized C).before a0 Z = true) (eT : T.heap = h)
    {g : JFrame} (hg : g.method = m) (hd : decode c.code g.pc = .ok (.new index, 3)) (hc : cells + 1 ≤ R.cells) (hl : slots + n ≤ R.slots) :
    ∃ T' h' b, b = h.size ∧ Stand p l e R s m args below meth c T' locs (cells + 1) (slots + n) ∧ T'.heap = h' ∧ Ext h h' ∧ Exa Z h' b C ∧ (∀ {O nm d : String} {ty : FieldType}, Laid Z a0 C O nm d → parseFieldDescriptor d = some ty → Fld Z h' b O nm d (defaultValue ty)) ∧
      ∀ target, Steps p.tables e below (T'.setTop { g with pc := g.pc + 3, stack := .ref b :: g.stack }) target → Steps p.tables e below (T.setTop g) target := by
  obtain ⟨T', h', X', e', E', A', D', -, st⟩ := newO X hx hZ hown w wi wz eT hg hd hc hl
  exact ⟨T', h', _, rfl, X', e', E', A', D', st⟩
theorem own_newP (X : Stand p l e R s m args below meth c T locs cells slots) (hx : p.tables.exec = Jvm.exec) (hZ : Z.Warmed39 s.vm) {aty : ArrayType} (w : (Cond.arrayClass (newarray.typeOf aty)).before a0 Z = true) (eT : T.heap = h) {g : JFrame} (hg : g.method = m) (hd : decode c.code g.pc = .ok (.newarray aty, 2)) {n : Int32} {rest : List Value} (hs : g.stack = .int n :: rest)
    (hn : ¬ n < 0) {cap : Nat} (hcap : n.toNatClampNeg ≤ cap) (hb : cap * 8 ≤ 536870912) (hc : cells + 1 ≤ R.cells) (hl : slots + cap ≤ R.slots) :
    ∃ T' h' cA b, b = h.size ∧ Stand p l e R s m args below meth c T' locs (cells + 1) (slots + cap) ∧ T'.heap = h' ∧ Ext h h' ∧ Arr Z h' b (newA cA (newarray.typeOf aty) n) (newarray.typeOf aty) ∧
      ∀ target, Steps p.tables e below (T'.setTop { g with pc := g.pc + 2, stack := .ref b :: rest }) target → Steps p.tables e below (T.setTop g) target := by
  obtain ⟨T', h', cA, X', e', E', A', st⟩ := newP X hx hZ w eT hg hd hs hn hcap hb hc hl
  exact ⟨T', h', cA, _, rfl, X', e', E', A', st⟩
theorem own_newR (X : Stand p l e R s m args below meth c T locs cells slots) (hx : p.tables.exec = Jvm.exec) (hZ : Z.Warmed39 s.vm) {own C : String} {index : Nat} (hown : s.vm.findClass own = some m.cls) (w1 : (Cond.classLink own index C).before a0 Z = true) (w2 : (Cond.arrayOver (.object C)).before a0 Z = true)
    (eT : T.heap = h) {g : JFrame} (hg : g.method = m) (hd : decode c.code g.pc = .ok (.anewarray index, 3)) {n : Int32} {rest : List Value} (hs : g.stack = .int n :: rest) (hn : ¬ n < 0) {cap : Nat} (hcap : n.toNatClampNeg ≤ cap) (hb : cap * 8 ≤ 536870912) (hc : cells + 1 ≤ R.cells) (hl : slots + cap ≤ R.slots) :
    ∃ T' h' cA b, b = h.size ∧ Stand p l e R s m args below meth c T' locs (cells + 1) (slots + cap) ∧ T'.heap = h' ∧ Ext h h' ∧ Arr Z h' b (newA cA (.object C) n) (.object C) ∧ Ovr Z cA C ∧
      ∀ target, Steps p.tables e below (T'.setTop { g with pc := g.pc + 3, stack := .ref b :: rest }) target → Steps p.tables e below (T.setTop g) target := by
  obtain ⟨T', h', cA, X', e', E', A', O', st⟩ := newR X hx hZ hown w1 w2 eT hg hd hs hn hcap hb hc hl
  exact ⟨T', h', cA, _, rfl, X', e', E', A', O', st⟩
end New
section Run
variable {p : Program} {l : Launch} {e : Env} {R : Room} {s : State} {m : MethodId} {args : Array Value} {below : List Frame} {meth : Method} {c : Code} {T : State} {locs : List Loc} {cells slots : Nat} {target : State}
def un32 (f : Int32 → Value) (S : List Value) : Option (List Value) := match S with | .int x :: r => some (f x :: r) | _ => none
def un64 (f : Int64 → Value) (S : List Value) : Option (List Value) := match S with | .long x :: r => some (f x :: r) | _ => none
def bi32 (f : Int32 → Int32 → Int32) (S : List Value) : Option (List Value) := match S with | .int y :: .int x :: r => some (.int (f x y) :: r) | _ => none
def bi64 (f : Int64 → Int64 → Value) (S : List Value) : Option (List Value) := match S with | .long y :: .long x :: r => some (f x y :: r) | _ => none
def sh64 (f : Int64 → Int32 → Int64) (S : List Value) : Option (List Value) := match S with | .int y :: .long x :: r => some (.long (f x y) :: r) | _ => none
/-- the stack behind an instruction that reads and writes the stack alone -/
def stk (i : Instr) (S : List Value) : Option (List Value) := match i with
  | .iconst k => some (.int (Int32.ofInt k) :: S)
  | .bipush k => some (.int (Int8.ofInt k).toInt32 :: S)
  | .sipush k => some (.int (Int16.ofInt k).toInt32 :: S)
  | .lconst k => some (.long (Int64.ofNat k) :: S)
  | .aconst_null => some (.null :: S)
  | .iadd => bi32 (· + ·) S
  | .isub => bi32 (· - ·) S
  | .imul => bi32 (· * ·) S
  | .iand => bi32 (· &&& ·) S
  | .ior => bi32 (· ||| ·) S
  | .ixor => bi32 (· ^^^ ·) S
  | .ishl => bi32 (fun x y => x <<< (y &&& 31)) S
  | .ishr => bi32 (fun x y => x >>> (y &&& 31)) S
  | .iushr => bi32 (fun x y => (x.toUInt32 >>> (y &&& 31).toUInt32).toInt32) S
  | .ladd => bi64 (fun x y => .long (x + y)) S
  | .lsub => bi64 (fun x y => .long (x - y)) S
  | .lmul => bi64 (fun x y => .long (x * y)) S
  | .land => bi64 (fun x y => .long (x &&& y)) S
  | .lor => bi64 (fun x y => .long (x ||| y)) S
  | .lxor => bi64 (fun x y => .long (x ^^^ y)) S
  | .lcmp => bi64 (fun x y => .int (if x > y then 1 else if x = y then 0 else -1)) S
  | .lshl => sh64 (fun x y => x <<< (y &&& 0x3f).toInt64) S
  | .lshr => sh64 (fun x y => x >>> (y &&& 0x3f).toInt64) S
  | .lushr => sh64 (fun x y => (x.toUInt64 >>> (y &&& 0x3f).toInt64.toUInt64).toInt64) S
  | .ineg => un32 (fun x => .int (-x)) S
  | .lneg => un64 (fun x => .long (-x)) S
  | .i2l => un32 (fun x => .long x.toInt64) S
  | .l2i => un64 (fun x => .int x.toInt32) S
  | .i2b => un32 (fun x => .int x.toInt8.toInt32) S
  | .i2c => un32 (fun x => .int x.toUInt32.toUInt16.toUInt32.toInt32) S
  | .i2s => un32 (fun x => .int x.toInt16.toInt32) S
  | .dup => match S with | x :: r => if x.category = 1 then some (x :: x :: r) else none | _ => none
  | .pop => match S with | x :: r => if x.category = 1 then some r else none | _ => none
  | .dup_x1 => match S with | x :: y :: r => if x.category = 1 ∧ y.category = 1 then some (x :: y :: x :: r) else none | _ => none
  | _ => none
theorem un32_s {f : Int32 → Value} {S S' : List Value} (h : un32 f S = some S') : ∃ x r, S = .int x :: r ∧ S' = f x :: r := by
  unfold un32 at h; split at h
  · cases h; exact ⟨_, _, rfl, rfl⟩
  · cases h
theorem un64_s {f : Int64 → Value} {S S' : List Value} (h : un64 f S = some S') : ∃ x r, S = .long x :: r ∧ S' = f x :: r := by
  unfold un64 at h; split at h
  · cases h; exact ⟨_, _, rfl, rfl⟩
  · cases h
theorem bi32_s {f : Int32 → Int32 → Int32} {S S' : List Value} (h : bi32 f S = some S') : ∃ x y r, S = .int y :: .int x :: r ∧ S' = .int (f x y) :: r := by
  unfold bi32 at h; split at h
  · cases h; exact ⟨_, _, _, rfl, rfl⟩
  · cases h
theorem bi64_s {f : Int64 → Int64 → Value} {S S' : List Value} (h : bi64 f S = some S') : ∃ x y r, S = .long y :: .long x :: r ∧ S' = f x y :: r := by
  unfold bi64 at h; split at h
  · cases h; exact ⟨_, _, _, rfl, rfl⟩
  · cases h
theorem sh64_s {f : Int64 → Int32 → Int64} {S S' : List Value} (h : sh64 f S = some S') : ∃ x y r, S = .int y :: .long x :: r ∧ S' = .long (f x y) :: r := by
  unfold sh64 at h; split at h
  · cases h; exact ⟨_, _, _, rfl, rfl⟩
  · cases h
def len1 (i : Instr) : Nat := match i with | .bipush _ => 2 | .sipush _ => 3 | _ => 1
theorem stk_s (X : Stand p l e R s m args below meth c T locs cells slots) (hx : p.tables.exec = Jvm.exec) {i : Instr} {n pc : Nat} {L : Array Slot} {S S' : List Value} (hd : decode c.code pc = .ok (i, n)) (hn : n = len1 i) (h : stk i S = some S')
    (H : Steps p.tables e below (T.setTop (mkF m (pc + n) L S')) target) : Steps p.tables e below (T.setTop (mkF m pc L S)) target := by
  subst hn
  unfold stk at h
  split at h <;> first
    | (cases h; first | exact XS.iconst X.here hx rfl hd H | exact XS.bipush X.here hx rfl hd H | exact XS.sipush X.here hx rfl hd H | exact XS.lconst X.here hx rfl hd H | exact XS.aconstNull X.here hx rfl hd H)
    | (obtain ⟨x, y, r, rfl, rfl⟩ := bi32_s h; first | exact XS.iadd X.here hx rfl hd rfl H | exact XS.isub X.here hx rfl hd rfl H | exact XS.imul X.here hx rfl hd rfl H | exact XS.iand X.here hx rfl hd rfl H | exact XS.ior X.here hx rfl hd rfl H | exact XS.ixor X.here hx rfl hd rfl H | exact XS.ishl X.here hx rfl hd rfl H | exact XS.ishr X.here hx rfl hd rfl H | exact XS.iushr X.here hx rfl hd rfl H)
    | (obtain ⟨x, y, r, rfl, rfl⟩ := bi64_s h; first | exact XS.ladd X.here hx rfl hd rfl H | exact XS.lsub X.here hx rfl hd rfl H | exact XS.lmul X.here hx rfl hd rfl H | exact XS.land X.here hx rfl hd rfl H | exact XS.lor X.here hx rfl hd rfl H | exact XS.lxor X.here hx rfl hd rfl H | exact XS.lcmp X.here hx rfl hd rfl H)
    | (obtain ⟨x, y, r, rfl, rfl⟩ := sh64_s h; first | exact XS.lshl X.here hx rfl hd rfl H | exact XS.lshr X.here hx rfl hd rfl H | exact XS.lushr X.here hx rfl hd rfl H)
    | (obtain ⟨x, r, rfl, rfl⟩ := un32_s h; first | exact XS.ineg X.here hx rfl hd rfl H | exact XS.i2l X.here hx rfl hd rfl H | exact XS.i2b X.here hx rfl hd rfl H | exact XS.i2c X.here hx rfl hd rfl H | exact XS.i2s X.here hx rfl hd rfl H)
    | (obtain ⟨x, r, rfl, rfl⟩ := un64_s h; first | exact XS.lneg X.here hx rfl hd rfl H | exact XS.l2i X.here hx rfl hd rfl H)
    | (split at h <;> (try split at h) <;> first | (cases h; done) | (rename_i q; cases h; first | exact XS.dup X.here hx rfl hd rfl q H | exact XS.pop X.here hx rfl hd rfl q H | exact XS.dupX1 X.here hx rfl hd rfl q.1 q.2 H))
    | cases h
def ldI (L : Array Slot) (S : List Value) (k : Nat) : Option (Array Slot × List Value) := match L[k]? with | some (.val (.int v)) => some (L, .int v :: S) | _ => none
def ldJ (L : Array Slot) (S : List Value) (k : Nat) : Option (Array Slot × List Value) := match L[k]? with | some (.val (.long v)) => some (L, .long v :: S) | _ => none
def ldA (L : Array Slot) (S : List Value) (k : Nat) : Option (Array Slot × List Value) := match L[k]? with | some (.val v) => if v.isRef = true then some (L, v :: S) else none | _ => none
def stI1 (L : Array Slot) (S : List Value) (k : Nat) : Option (Array Slot × List Value) := match S with | .int x :: r => (storeLocals L k (.int x)).map fun l' => (l', r) | _ => none
def stJ1 (L : Array Slot) (S : List Value) (k : Nat) : Option (Array Slot × List Value) := match S with | .long x :: r => (storeLocals L k (.long x)).map fun l' => (l', r) | _ => none
def stA1 (L : Array Slot) (S : List Value) (k : Nat) : Option (Array Slot × List Value) := match S with | x :: r => if x.isRef = true then (storeLocals L k x).map fun l' => (l', r) else none | _ => none
/-- what an instruction does to pc, locals and stack; nothing else is touched -/
def run1 (i : Instr) (n pc : Nat) (L : Array Slot) (S : List Value) : Option (Nat × Array Slot × List Value) := match i with
  | .iload_n k => if n = 1 then (ldI L S k.val).map (pc + n, ·) else none
  | .iload k => if n = 2 then (ldI L S k).map (pc + n, ·) else none
  | .lload_n k => if n = 1 then (ldJ L S k.val).map (pc + n, ·) else none
  | .lload k => if n = 2 then (ldJ L S k).map (pc + n, ·) else none
  | .aload_n k => if n = 1 then (ldA L S k.val).map (pc + n, ·) else none
  | .aload k => if n = 2 then (ldA L S k).map (pc + n, ·) else none
  | .istore_n k => if n = 1 then (stI1 L S k.val).map (pc + n, ·) else none
  | .istore k => if n = 2 then (stI1 L S k).map (pc + n, ·) else none
  | .lstore_n k => if n = 1 then (stJ1 L S k.val).map (pc + n, ·) else none
  | .lstore k => if n = 2 then (stJ1 L S k).map (pc + n, ·) else none
  | .astore_n k => if n = 1 then (stA1 L S k.val).map (pc + n, ·) else none
  | .astore k => if n = 2 then (stA1 L S k).map (pc + n, ·) else none
  | .iinc k cst => if n = 3 then (match L[k]? with | some (.val (.int x)) => (storeLocals L k (.int (x + Int32.ofInt cst))).map fun l' => (pc + n, l', S) | _ => none) else none
  | .goto o => if n = 3 then (if 0 ≤ (pc : Int) + o then some (((pc : Int) + o).toNat, L, S) else none) else none
  | i => if n = len1 i then (stk i S).map fun S' => (pc + n, L, S') else none
theorem ldI_s {L L' : Array Slot} {S S' : List Value} {k : Nat} (h : ldI L S k = some (L', S')) : ∃ v, L[k]? = some (.val (.int v)) ∧ L' = L ∧ S' = .int v :: S := by
  unfold ldI at h; split at h
  · cases h; exact ⟨_, by assumption, rfl, rfl⟩
  · cases h
theorem ldJ_s {L L' : Array Slot} {S S' : List Value} {k : Nat} (h : ldJ L S k = some (L', S')) : ∃ v, L[k]? = some (.val (.long v)) ∧ L' = L ∧ S' = .long v :: S := by
  unfold ldJ at h; split at h
  · cases h; exact ⟨_, by assumption, rfl, rfl⟩
  · cases h
theorem ldA_s {L L' : Array Slot} {S S' : List Value} {k : Nat} (h : ldA L S k = some (L', S')) : ∃ v, L[k]? = some (.val v) ∧ v.isRef = true ∧ L' = L ∧ S' = v :: S := by
  unfold ldA at h; split at h
  · split at h
    · cases h; exact ⟨_, by assumption, by assumption, rfl, rfl⟩
    · cases h
  · cases h
theorem stI1_s {L L' : Array Slot} {S S' : List Value} {k : Nat} (h : stI1 L S k = some (L', S')) : ∃ x, S = .int x :: S' ∧ storeLocals L k (.int x) = some L' := by
  unfold stI1 at h; split at h
  · rw [Option.map_eq_some_iff] at h; obtain ⟨l', h1, h2⟩ := h; cases h2; exact ⟨_, rfl, h1⟩
  · cases h
theorem stJ1_s {L L' : Array Slot} {S S' : List Value} {k : Nat} (h : stJ1 L S k = some (L', S')) : ∃ x, S = .long x :: S' ∧ storeLocals L k (.long x) = some L' := by
  unfold stJ1 at h; split at h
  · rw [Option.map_eq_some_iff] at h; obtain ⟨l', h1, h2⟩ := h; cases h2; exact ⟨_, rfl, h1⟩
  · cases h
theorem stA1_s {L L' : Array Slot} {S S' : List Value} {k : Nat} (h : stA1 L S k = some (L', S')) : ∃ x, S = x :: S' ∧ x.isRef = true ∧ storeLocals L k x = some L' := by
  unfold stA1 at h; split at h
  · split at h
    · rw [Option.map_eq_some_iff] at h; obtain ⟨l', h1, h2⟩ := h; cases h2; exact ⟨_, rfl, by assumption, h1⟩
    · cases h
  · cases h
theorem map_s {α β : Type} {o : Option α} {f : α → β} {y : β} (h : o.map f = some y) : ∃ x, o = some x ∧ f x = y := Option.map_eq_some_iff.mp h
theorem run1_s (X : Stand p l e R s m args below meth c T locs cells slots) (hx : p.tables.exec = Jvm.exec) {i : Instr} {n pc pc' : Nat} {L L' : Array Slot} {S S' : List Value} (hd : decode c.code pc = .ok (i, n)) (h : run1 i n pc L S = some (pc', L', S'))
    (H : Steps p.tables e below (T.setTop (mkF m pc' L' S')) target) : Steps p.tables e below (T.setTop (mkF m pc L S)) target := by
  unfold run1 at h
  split at h <;> split at h <;> first
    | (cases h; done)
    | (rename_i hn; subst hn; obtain ⟨⟨L1, S1⟩, h1, h2⟩ := map_s h; cases h2; first
        | (obtain ⟨v, q1, rfl, rfl⟩ := ldI_s h1; first | exact XS.iloadN X.here hx rfl hd q1 H | exact XS.iload X.here hx rfl hd q1 H)
        | (obtain ⟨v, q1, rfl, rfl⟩ := ldJ_s h1; first | exact XS.lloadN X.here hx rfl hd q1 H | exact XS.lload X.here hx rfl hd q1 H)
        | (obtain ⟨v, q1, q2, rfl, rfl⟩ := ldA_s h1; first | exact XS.aloadN X.here hx rfl hd q1 q2 H | exact XS.aload X.here hx rfl hd q1 q2 H)
        | (obtain ⟨x, rfl, q⟩ := stI1_s h1; first | exact XS.istoreN X.here hx rfl hd rfl q H | exact XS.istore X.here hx rfl hd rfl q H)
        | (obtain ⟨x, rfl, q⟩ := stJ1_s h1; first | exact XS.lstoreN X.here hx rfl hd rfl q H | exact XS.lstore X.here hx rfl hd rfl q H)
        | (obtain ⟨x, rfl, q1, q⟩ := stA1_s h1; first | exact XS.astoreN X.here hx rfl hd rfl q1 q H | exact XS.astore X.here hx rfl hd rfl q1 q H))
    | (rename_i hn; subst hn; split at h <;> first
        | (cases h; done)
        | (rename_i q; obtain ⟨l', h1, h2⟩ := map_s h; cases h2; exact XS.iinc X.here hx rfl hd q h1 H)
        | (rename_i q; cases h; exact XS.goto X.here hx rfl (pc0 := pc) rfl hd q rfl H))
    | (rename_i hn; obtain ⟨S1, h1, h2⟩ := map_s h; cases h2; exact stk_s X hx hd hn h1 H)
def runs : List (Nat × Instr × Nat) → Nat → Array Slot → List Value → Option (Nat × Array Slot × List Value)
  | [], pc, L, S => some (pc, L, S)
  | (q, i, n) :: is, pc, L, S => if q = pc then (match run1 i n pc L S with | some (pc', L', S') => runs is pc' L' S' | none => none) else none
def decs (code : ByteArray) : List (Nat × Instr × Nat) → Prop
  | [] => True
  | (q, i, n) :: is => decode code q = .ok (i, n) ∧ decs code is
theorem runs_s (X : Stand p l e R s m args below meth c T locs cells slots) (hx : p.tables.exec = Jvm.exec) {pc' : Nat} {L' : Array Slot} {S' : List Value} (H : Steps p.tables e below (T.setTop (mkF m pc' L' S')) target) :
    ∀ (is : List (Nat × Instr × Nat)) (pc : Nat) (L : Array Slot) (S : List Value), decs c.code is → runs is pc L S = some (pc', L', S') → Steps p.tables e below (T.setTop (mkF m pc L S)) target
  | [], pc, L, S, _, h => by cases h; exact H
  | (q, i, n) :: is, pc, L, S, hd, h => by
    unfold runs at h
    split at h
    · rename_i e1; subst e1
      split at h
      · rename_i pc1 L1 S1 h1
        exact run1_s X hx hd.1 h1 (runs_s X hx H is pc1 L1 S1 hd.2 h)
      · cases h
    · cases h
variable {Q : Option Value → Heap → List Loc → Prop} {k n : Nat}
theorem Home.run (X : Stand p l e R s m args below meth c T locs cells slots) (hx : p.tables.exec = Jvm.exec) {bytes : ByteArray} (hby : c.code = bytes) {is : List (Nat × Instr × Nat)} (hd : decs bytes is) {pc pc' : Nat} {L L' : Array Slot} {S S' : List Value} (h : runs is pc L S = some (pc', L', S'))
    (H : @Home p e below s Q k n T (mkF m pc' L' S')) : @Home p e below s Q k n T (mkF m pc L S) :=
  Home.go (fun _ kt => runs_s X hx kt is pc L S (by rw [hby]; exact hd) h) H
end Run
section Calls
variable {p : Program} {l : Launch} {e : Env} {R : Room} {s : State} {m : MethodId} {args : Array Value} {below : List Frame} {meth : Method} {c : Code} {T : State} {locs : List Loc} {cells slots : Nat} {Z : State} {a0 : Array Value} {h : Heap} {y z : MethodName} {bytes : ByteArray} {maxL : Nat} {ret : Option FieldType} {rm : Room} {W : Nat} {as' : Array Value} {Q : Option Value → Heap → List Loc → Prop} {own C : String} {index : Nat}
/-- a body's contract, at one heap and one list of arguments -/
abbrev Con (l : Launch) (Z : State) (y : MethodName) (bytes : ByteArray) (maxL : Nat) (ret : Option FieldType) (ws : List Jvm.Cond) (rm : Room) (as' : Array Value) (h : Heap) (Q : Option Value → Heap → List Loc → Prop) : Prop :=
  MetFree l y (head1 (Jvm.Cond.code y bytes maxL ret :: ws) rm) (fun a U => a = as' ∧ Z.Warmed39 U.vm ∧ U.heap = h) (fun _ _ _ _ _ => True) (fun _ U o U' => ∃ v L, o = .returned v ∧ Q v U'.heap L ∧ FrameEnd U o U' L rm.cells rm.slots)
/-- it leaves the heap as it was -/
abbrev Pur (w : Option Value) (h0 : Heap) : Option Value → Heap → List Loc → Prop := fun v h L => v = w ∧ L = [] ∧ h = h0
/-- from a walk that comes home to the contract -/
theorem own_body {ws : List Jvm.Cond} {L0 : Array Slot} (pn : plainFor y = true) (ef : ∀ m, entryFrame m as' maxL = mkF m 0 L0 [])
    (body : ∀ (p : Program) (e : Env) (s : State) (m : MethodId) (below : List Frame) (meth : Method) (c : Code) (s₁ : State), p.tables.exec = Jvm.exec → c.code = bytes → meth.locks = false → c.maxLocals = maxL → meth.sig.returnType = ret → Z.Warmed39 s.vm → s.vm.findClass y.cls = some m.cls → meth.name = y.name →
      Stand p l e rm s m as' below meth c s₁ [] 0 0 → s₁.heap = h → @Home p e below s Q rm.cells rm.slots s₁ (mkF m 0 L0 [])) : Con l Z y bytes maxL ret ws rm as' h Q := by
  refine MetFree.of_bodySF pn hisR ?_
  intro p e s m args below meth c s₁ Bd hml0 hP hK
  obtain ⟨rfl, hZ, hh⟩ := hP
  refine Home.enter (Q := Q) (k := rm.cells) (n := rm.slots) (ef m) ?_
  exact body p e s m below meth c s₁ Bd.exec Bd.bytes (BodyLoose.notSynchronized Bd) hml0 Bd.returns hZ (findClass_of_methodNamed Bd.named) (name_of_methodNamed Bd.named Bd.method).1 (Stand.of_body Bd) (by rw [← hh, Bd.state]; rfl)
theorem own_static (X : Stand p l e R s m args below meth c T locs cells slots) (hx : p.tables.exec = Jvm.exec) (hZ : Z.Warmed39 s.vm) (hown : s.vm.findClass own = some m.cls)
    (w1 : (Cond.methodLink own index y).before a0 Z = true) (w2 : (Cond.static y).before a0 Z = true) (w3 : (Cond.initialized y.cls).before a0 Z = true) (w4 : (Cond.code y bytes maxL ret).before a0 Z = true)
    (hy : y.cls ≠ "java/lang/invoke/MethodHandle" ∧ y.cls ≠ "java/lang/invoke/VarHandle") (hM : Con l Z y bytes maxL ret [] rm as' h Q) (eT : T.heap = h)
    {g : JFrame} (hg : g.method = m) (hsize : g.locals.size = c.maxLocals) {argsL rest : List Value} (hlen : ∀ sig, parseMethodDescriptor y.desc = some sig → argsL.length = sig.parameters.length) (hstack : g.stack = argsL.reverse ++ rest) (ha : argsL.toArray = as')
    (hW : 2 * g.monitorRoom + (rest.map fun v => v.category).sum ≤ W) (hf : rm.frames + 1 ≤ R.frames) (hl : W + (maxL + 11) + rm.locals ≤ R.locals)
    (hdg : decode c.code g.pc = .ok (.invokestatic index, 3)) (hc : cells + rm.cells ≤ R.cells) (hs : slots + rm.slots ≤ R.slots) :
    ∃ v T' L, Stand p l e R s m args below meth c T' (locs ++ L) (cells + rm.cells) (slots + rm.slots) ∧ Q v T'.heap L ∧
      ∀ t, Steps p.tables e below (T'.setTop { g with pc := g.pc + 3, stack := v.toList ++ rest }) t → Steps p.tables e below (T.setTop g) t := by
  obtain ⟨v, _, ⟨T', L', k', n'⟩, -, X', ⟨L, hQ, l', y', z'⟩, st⟩ := Jvm.LawKit.callS X hx (y := y) hown (mvT hZ w1) (mvT hZ w2) (mvT hZ w3) (mvT hZ w4) hy (backOf (W := W) hM hZ w4 w3 hf hl) hg hsize hlen hstack hW hdg (fun _ _ => ⟨ha, eT, hc, hs⟩)
  dsimp only [Pt.U, Pt.locs, Pt.cells, Pt.slots] at X' l' y' z' st hQ
  subst l' y' z'
  exact ⟨v, T', L, X', hQ, st⟩
theorem own_special (X : Stand p l e R s m args below meth c T locs cells slots) (hx : p.tables.exec = Jvm.exec) (hZ : Z.Warmed39 s.vm) (hown : s.vm.findClass own = some m.cls) (hy1 : y.name = "<init>")
    (w1 : (Cond.methodLink own index y).before a0 Z = true) (w2 : (Cond.instanceMethod y).before a0 Z = true) (w3 : (Cond.initialized y.cls).before a0 Z = true) (w4 : (Cond.code y bytes maxL none).before a0 Z = true)
    (hy : y.cls ≠ "java/lang/invoke/MethodHandle" ∧ y.cls ≠ "java/lang/invoke/VarHandle") (hM : Con l Z y bytes maxL none [] rm as' h Q) (eT : T.heap = h)
    {g : JFrame} (hg : g.method = m) (hsize : g.locals.size = c.maxLocals) {a : Addr} {argsL rest : List Value} (hlen : ∀ sig, parseMethodDescriptor y.desc = some sig → argsL.length = sig.parameters.length) (hstack : g.stack = argsL.reverse ++ .ref a :: rest) (ha : (.ref a :: argsL).toArray = as')
    (hW : 2 * g.monitorRoom + (rest.map fun v => v.category).sum ≤ W) (hf : rm.frames + 1 ≤ R.frames) (hl : W + (maxL + 11) + rm.locals ≤ R.locals)
    (hdg : decode c.code g.pc = .ok (.invokespecial index, 3)) (hc : cells + rm.cells ≤ R.cells) (hs : slots + rm.slots ≤ R.slots) :
    ∃ v T' L, Stand p l e R s m args below meth c T' (locs ++ L) (cells + rm.cells) (slots + rm.slots) ∧ Q v T'.heap L ∧
      ∀ t, Steps p.tables e below (T'.setTop { g with pc := g.pc + 3, stack := v.toList ++ rest }) t → Steps p.tables e below (T.setTop g) t := by
  obtain ⟨v, _, ⟨T', L', k', n'⟩, -, X', ⟨L, hQ, l', y', z'⟩, st⟩ := X.specialBack hx (y := y) hy1 hown (mvT hZ w1) (mvT hZ w2) (mvT hZ w4) hy (backOf (W := W) hM hZ w4 w3 hf hl) hg hsize (Steps.refl _) (a := a) hlen hstack hW hdg (fun _ _ => ⟨ha, eT, hc, hs⟩)
  dsimp only [Pt.U, Pt.locs, Pt.cells, Pt.slots] at X' l' y' z' st hQ
  subst l' y' z'
  exact ⟨v, T', L, X', hQ, fun t k => st.trans k⟩
theorem own_virtual (X : Stand p l e R s m args below meth c T locs cells slots) (hx : p.tables.exec = Jvm.exec) (hZ : Z.Warmed39 s.vm) (hown : s.vm.findClass own = some m.cls)
    (w1 : (Cond.methodLink own index y).before a0 Z = true) (w2 : (Cond.declares y).before a0 Z = true) (hnf : NotFace s y) (w3 : (Cond.selects C y z).before a0 Z = true) (w4 : (Cond.instanceMethod z).before a0 Z = true) (w5 : (Cond.initialized z.cls).before a0 Z = true) (w6 : (Cond.code z bytes maxL ret).before a0 Z = true)
    (hy : y.cls ≠ "java/lang/invoke/MethodHandle" ∧ y.cls ≠ "java/lang/invoke/VarHandle") (hM : Con l Z z bytes maxL ret [] rm as' h Q) (eT : T.heap = h) {a : Addr} (E : Exa Z h a C)
    {g : JFrame} (hg : g.method = m) (hsize : g.locals.size = c.maxLocals) {argsL rest : List Value} (hlen : ∀ sig, parseMethodDescriptor y.desc = some sig → argsL.length = sig.parameters.length) (hstack : g.stack = argsL.reverse ++ .ref a :: rest) (ha : (.ref a :: argsL).toArray = as')
    (hW : 2 * g.monitorRoom + (rest.map fun v => v.category).sum ≤ W) (hf : rm.frames + 1 ≤ R.frames) (hl : W + (maxL + 11) + rm.locals ≤ R.locals)
    (hdg : decode c.code g.pc = .ok (.invokevirtual index, 3)) (hc : cells + rm.cells ≤ R.cells) (hs : slots + rm.slots ≤ R.slots) :
    ∃ v T' L, Stand p l e R s m args below meth c T' (locs ++ L) (cells + rm.cells) (slots + rm.slots) ∧ Q v T'.heap L ∧
      ∀ t, Steps p.tables e below (T'.setTop { g with pc := g.pc + 3, stack := v.toList ++ rest }) t → Steps p.tables e below (T.setTop g) t := by
  obtain ⟨cB, kB, q1, q2, q3⟩ := isOf hZ eT E
  obtain ⟨v, _, ⟨T', L', k', n'⟩, -, X', ⟨L, hQ, l', y', z'⟩, st⟩ := X.virtualBack hx (y := y) (z := z) hown (mvT hZ w1) (mvT hZ w2) hnf (mvT hZ w3) (mvT hZ w4) hy (backOf (W := W) hM hZ w6 w5 hf hl) q1 q3 hg hsize (Steps.refl _) hlen hstack hW hdg (fun _ _ => ⟨ha, eT, hc, hs⟩)
  dsimp only [Pt.U, Pt.locs, Pt.cells, Pt.slots] at X' l' y' z' st hQ
  subst l' y' z'
  exact ⟨v, T', L, X', hQ, fun t k => st.trans k⟩
theorem own_face (X : Stand p l e R s m args below meth c T locs cells slots) (hx : p.tables.exec = Jvm.exec) (hZ : Z.Warmed39 s.vm) (hown : s.vm.findClass own = some m.cls) {count : Nat}
    (w1 : (Cond.methodLink own index y).before a0 Z = true) (w2 : (Cond.declares y).before a0 Z = true) (w3 : (Cond.interfaceMethod y.cls y.cls y.name y.desc).before args s = true) (w4 : (Cond.selects C y z).before a0 Z = true) (w5 : (Cond.instanceMethod z).before a0 Z = true)
    (w6 : (Cond.publicMethod z).before a0 Z = true) (w7 : (Cond.unhidden C y.name y.desc).before a0 Z = true) (w8 : (Cond.castable C y.cls).before a0 Z = true) (w9 : (Cond.initialized z.cls).before a0 Z = true) (w10 : (Cond.code z bytes maxL ret).before a0 Z = true)
    (hy : y.cls ≠ "java/lang/invoke/MethodHandle" ∧ y.cls ≠ "java/lang/invoke/VarHandle") (hM : Con l Z z bytes maxL ret [] rm as' h Q) (eT : T.heap = h) {a : Addr} (E : Exa Z h a C)
    {g : JFrame} (hg : g.method = m) (hsize : g.locals.size = c.maxLocals) {argsL rest : List Value} (hlen : ∀ sig, parseMethodDescriptor y.desc = some sig → argsL.length = sig.parameters.length) (hstack : g.stack = argsL.reverse ++ .ref a :: rest) (ha : (.ref a :: argsL).toArray = as')
    (hW : 2 * g.monitorRoom + (rest.map fun v => v.category).sum ≤ W) (hf : rm.frames + 1 ≤ R.frames) (hl : W + (maxL + 11) + rm.locals ≤ R.locals)
    (hdg : decode c.code g.pc = .ok (.invokeinterface index count, 5)) (hc : cells + rm.cells ≤ R.cells) (hs : slots + rm.slots ≤ R.slots) :
    ∃ v T' L, Stand p l e R s m args below meth c T' (locs ++ L) (cells + rm.cells) (slots + rm.slots) ∧ Q v T'.heap L ∧
      ∀ t, Steps p.tables e below (T'.setTop { g with pc := g.pc + 5, stack := v.toList ++ rest }) t → Steps p.tables e below (T.setTop g) t := by
  obtain ⟨cB, kB, q1, q2, q3⟩ := isOf hZ eT E
  obtain ⟨v, _, ⟨T', L', k', n'⟩, -, X', ⟨L, hQ, l', y', z'⟩, st⟩ := X.interfaceBack hx (xi := y) (y := z) hown (mvT hZ w1) (mvT hZ w2) w3 (mvT hZ w4) (mvT hZ w5) (mvT hZ w6) (mvT hZ w7) (mvT hZ w8) hy (backOf (W := W) hM hZ w10 w9 hf hl) q1 q2 q3 hg hsize (Steps.refl _) hlen hstack hW hdg (fun _ _ => ⟨ha, eT, hc, hs⟩)
  dsimp only [Pt.U, Pt.locs, Pt.cells, Pt.slots] at X' l' y' z' st hQ
  subst l' y' z'
  exact ⟨v, T', L, X', hQ, fun t k => st.trans k⟩
theorem own_private (X : Stand p l e R s m args below meth c T locs cells slots) (hx : p.tables.exec = Jvm.exec) (hZ : Z.Warmed39 s.vm) (hown : s.vm.findClass own = some m.cls)
    (w1 : (Cond.methodLink own index y).before a0 Z = true) (w2 : (Cond.instanceMethod y).before a0 Z = true) (w3 : (Cond.selects y.cls y y).before a0 Z = true) (hp : s.PrivateAt y) (w5 : (Cond.initialized y.cls).before a0 Z = true) (w6 : (Cond.code y bytes maxL ret).before a0 Z = true)
    (hy : y.cls ≠ "java/lang/invoke/MethodHandle" ∧ y.cls ≠ "java/lang/invoke/VarHandle") (hM : Con l Z y bytes maxL ret [] rm as' h Q) (eT : T.heap = h) {a : Addr} (E : Exa Z h a C)
    {g : JFrame} (hg : g.method = m) (hsize : g.locals.size = c.maxLocals) {argsL rest : List Value} (hlen : ∀ sig, parseMethodDescriptor y.desc = some sig → argsL.length = sig.parameters.length) (hstack : g.stack = argsL.reverse ++ .ref a :: rest) (ha : (.ref a :: argsL).toArray = as')
    (hW : 2 * g.monitorRoom + (rest.map fun v => v.category).sum ≤ W) (hf : rm.frames + 1 ≤ R.frames) (hl : W + (maxL + 11) + rm.locals ≤ R.locals)
    (hdg : decode c.code g.pc = .ok (.invokevirtual index, 3)) (hc : cells + rm.cells ≤ R.cells) (hs : slots + rm.slots ≤ R.slots) :
    ∃ v T' L, Stand p l e R s m args below meth c T' (locs ++ L) (cells + rm.cells) (slots + rm.slots) ∧ Q v T'.heap L ∧
      ∀ t, Steps p.tables e below (T'.setTop { g with pc := g.pc + 3, stack := v.toList ++ rest }) t → Steps p.tables e below (T.setTop g) t := by
  obtain ⟨cq, q1, q2⟩ := E.cell
  obtain ⟨v, _, ⟨T', L', k', n'⟩, -, X', ⟨L, hQ, l', y', z'⟩, st⟩ := X.privateBack hx (y := y) hown (mvT hZ w1) (mvT hZ w2) (mvT hZ w3) hp (mvT hZ w6) hy (backOf (W := W) hM hZ w6 w5 hf hl) hg hsize (Steps.refl _) (a := a) (by rw [eT]; exact q1) q2 hlen hstack hW hdg (fun _ _ => ⟨ha, eT, hc, hs⟩)
  dsimp only [Pt.U, Pt.locs, Pt.cells, Pt.slots] at X' l' y' z' st hQ
  subst l' y' z'
  exact ⟨v, T', L, X', hQ, fun t k => st.trans k⟩
/-- a call that left the heap as it was -/
theorem own_pure {w : Option Value} {g : JFrame} {g' : Option Value → JFrame} (q : ∃ v T' L, Stand p l e R s m args below meth c T' (locs ++ L) (cells + rm.cells) (slots + rm.slots) ∧ Pur w h v T'.heap L ∧ ∀ t, Steps p.tables e below (T'.setTop (g' v)) t → Steps p.tables e below (T.setTop g) t)
    (hc : rm.cells = 0 := by rfl) (hs : rm.slots = 0 := by rfl) : ∃ T', Stand p l e R s m args below meth c T' locs cells slots ∧ T'.heap = h ∧ ∀ t, Steps p.tables e below (T'.setTop (g' w)) t → Steps p.tables e below (T.setTop g) t := by
  obtain ⟨v, T', L, X', ⟨rfl, rfl, hh⟩, st⟩ := q
  rw [List.append_nil, hc, hs] at X'
  exact ⟨T', X', hh, st⟩
end Calls
section Facts
variable {Z : State} {h h' : Heap} {a b : Addr} {C n d : String} {v : Value} {n0 : Nat}
theorem Old.le (O : Old Z n0 h) : n0 ≤ h.size := O.1 ▸ O.2.1
end Facts
end Jvm.OwnKit
namespace Jvm.OwnKit
open Jvm Jvm.ClassFile Sem Op Lib Jvm.Free Jvm.Stand Jvm.LawKit Jvm.RoadKit
section Arrays
variable {p : Program} {l : Launch} {e : Env} {R : Room} {s : State} {m : MethodId} {args : Array Value} {below : List Frame} {meth : Method} {c : Code} {T : State} {locs : List Loc} {cells slots : Nat} {Z : State} {h : Heap}
theorem own_alen (X : Stand p l e R s m args below meth c T locs cells slots) (hx : p.tables.exec = Jvm.exec) (hZ : Z.Warmed39 s.vm) (eT : T.heap = h) {a : Addr} {cl : Cell} {ty : FieldType} {z : Int32} (A : Arr Z h a cl ty) (S : cl.slots.size = z.toNatClampNeg) (M : ¬ z < 0)
    {g : JFrame} (hg : g.method = m) {rest : List Value} (hs : g.stack = .ref a :: rest) (hd : decode c.code g.pc = .ok (.arraylength, 1)) :
    ∀ t, Steps p.tables e below (T.setTop { g with pc := g.pc + 1, stack := .int z :: rest }) t → Steps p.tables e below (T.setTop g) t := fun t k =>
  X.arraylength hx (by rw [eT]; exact A.1) (State.isArrayOf_alike hZ.alike A.2.1) hg hs hd _ (by rw [len_of S M]; exact k)
end Arrays
end Jvm.OwnKit
namespace Jvm.OwnKit
open Jvm Jvm.ClassFile Sem Op Lib Jvm.Free Jvm.Stand Jvm.LawKit Jvm.RoadKit
theorem Ins.keep {Z : State} {h h' : Heap} {a : Addr} {C : String} {b : Bool} {ws : List Addr} (F : Ins Z h a C b) (K : Keep h h' ws) : Ins Z h' a C b := by
  obtain ⟨cell, cT, h1, h2, h3⟩ := F
  obtain ⟨c', e1, e2, e3, -⟩ := K.2.2 _ _ h1
  exact ⟨c', cT, e1, h2, by rw [e2, e3]; exact h3⟩
theorem cat1_of {v : Value} (h : v.isRef = true) : v.category = 1 := by
  rcases ref_cases h with rfl | ⟨a, rfl⟩ <;> rfl
theorem fits_refv {t : FieldType} {v : Value} (h : v.isRef = true) (ht : t.isReference = true) : fits t v = true := by
  rcases ref_cases h with rfl | ⟨a, rfl⟩ <;> cases t <;> first | rfl | cases ht
section Bounds
variable {x y a b c d : Int32}
theorem bnd_and (x m : Int32) (h : 0 ≤ m.toInt) : ¬ (x &&& m) < (0 : Int32) ∧ ¬ m < (x &&& m) := by
  have q := c_and x m h
  have e : (0 : Int32).toInt = 0 := rfl
  rw [Int32.lt_iff_toInt_lt, Int32.lt_iff_toInt_lt, e]; omega
theorem bnd_and' (x m : Int32) (h : 0 ≤ m.toInt) : ¬ (m &&& x) < (0 : Int32) ∧ ¬ m < (m &&& x) := by
  have q := c_and' m x h
  have e : (0 : Int32).toInt = 0 := rfl
  rw [Int32.lt_iff_toInt_lt, Int32.lt_iff_toInt_lt, e]; omega
theorem bnd_mono (h : ¬ x < a ∧ ¬ b < x) (h1 : c.toInt ≤ a.toInt) (h2 : b.toInt ≤ d.toInt) : ¬ x < c ∧ ¬ d < x := by
  simp only [Int32.lt_iff_toInt_lt] at *; omega
theorem bnd_lt (h : ¬ x < a ∧ ¬ b < x) (k : ¬ y < c ∧ ¬ d < y) (q : b.toInt < c.toInt) : x < y := by
  simp only [Int32.lt_iff_toInt_lt] at *; omega
theorem bnd_nlt (h : ¬ x < a ∧ ¬ b < x) (k : ¬ y < c ∧ ¬ d < y) (q : d.toInt ≤ a.toInt) : ¬ x < y := by
  simp only [Int32.lt_iff_toInt_lt] at *; omega
theorem bnd_ne (h : ¬ x < a ∧ ¬ b < x) (k : ¬ y < c ∧ ¬ d < y) (q : b.toInt < c.toInt ∨ d.toInt < a.toInt) : ¬ x = y := by
  intro e; subst e
  simp only [Int32.lt_iff_toInt_lt] at *; omega
theorem bnd_rem (h : ¬ x < a ∧ ¬ b < x) (h1 : 0 ≤ a.toInt) (h2 : 0 < y.toInt) : ¬ (x % y) < (0 : Int32) ∧ ¬ (y - 1) < (x % y) := by
  have q := (c_iremV x y).1
  have e : (0 : Int32).toInt = 0 := rfl
  have e1 := c_isub y 1
  have e2 : (1 : Int32).toInt = 1 := rfl
  have r := rng32 y
  have r2 := rng32 (y - 1)
  simp only [Int32.lt_iff_toInt_lt, e] at *
  have h0 : 0 ≤ x.toInt := by omega
  have q := q h0 h2
  omega
theorem bnd_add {lo hi : Int32} (h : ¬ x < a ∧ ¬ b < x) (k : ¬ y < c ∧ ¬ d < y) (q1 : lo.toInt = a.toInt + c.toInt) (q2 : hi.toInt = b.toInt + d.toInt) (q3 : -2147483648 ≤ a.toInt + c.toInt) (q4 : b.toInt + d.toInt < 2147483648) : ¬ (x + y) < lo ∧ ¬ hi < (x + y) := by
  have e := c_iadd x y
  have r := rng32 (x + y)
  simp only [Int32.lt_iff_toInt_lt] at *
  omega
theorem bnd_sub {lo hi : Int32} (h : ¬ x < a ∧ ¬ b < x) (k : ¬ y < c ∧ ¬ d < y) (q1 : lo.toInt = a.toInt - d.toInt) (q2 : hi.toInt = b.toInt - c.toInt) (q3 : -2147483648 ≤ a.toInt - d.toInt) (q4 : b.toInt - c.toInt < 2147483648) : ¬ (x - y) < lo ∧ ¬ hi < (x - y) := by
  have e := c_isub x y
  have r := rng32 (x - y)
  simp only [Int32.lt_iff_toInt_lt] at *
  omega
theorem bnd_ushr (x : Int32) {q hi : Int32} {k : Nat} (hk : q.toBitVec.toNat % 32 = k ∧ 0 < k) (hh : hi.toInt = 4294967296 / (2 ^ k : Nat) - 1) : ¬ ((x.toUInt32 >>> (q &&& 31).toUInt32).toInt32) < (0 : Int32) ∧ ¬ hi < ((x.toUInt32 >>> (q &&& 31).toUInt32).toInt32) := by
  have e := c_iushr x q k hk.1 hk.2
  have e0 : (0 : Int32).toInt = 0 := rfl
  simp only [Int32.lt_iff_toInt_lt, e, hh, e0]
  have p : (0 : Int) < (2 ^ k : Nat) := by exact_mod_cast Nat.two_pow_pos k
  have m0 := Int.emod_nonneg x.toInt (show (4294967296 : Int) ≠ 0 by decide)
  have m1 := Int.emod_lt_of_pos x.toInt (show (0 : Int) < 4294967296 by decide)
  have d0 := Int.ediv_nonneg m0 (Int.le_of_lt p)
  have hk32 : k < 32 := by rw [← hk.1]; exact Nat.mod_lt _ (by decide)
  have dd : (4294967296 : Int) = (2 ^ (32 - k) : Nat) * (2 ^ k : Nat) := by
    rw [← Int.natCast_mul, ← Nat.pow_add, Nat.sub_add_cancel (Nat.le_of_lt hk32)]; rfl
  have d1 : x.toInt % 4294967296 / (2 ^ k : Nat) < (2 ^ (32 - k) : Nat) := by
    apply Int.ediv_lt_of_lt_mul p; rw [← dd]; exact m1
  have d2 : (4294967296 : Int) / (2 ^ k : Nat) = (2 ^ (32 - k) : Nat) := by
    rw [dd]; exact Int.mul_ediv_cancel _ (by omega)
  omega
theorem bnd_i2c (x : Int32) : ¬ (x.toUInt32.toUInt16.toUInt32.toInt32) < (0 : Int32) ∧ ¬ (65535 : Int32) < (x.toUInt32.toUInt16.toUInt32.toInt32) := by
  have q := c_i2c x
  have e : (0 : Int32).toInt = 0 := rfl
  have e1 : (65535 : Int32).toInt = 65535 := rfl
  simp only [Int32.lt_iff_toInt_lt, e, e1]; omega
theorem bnd_i2b (x : Int32) : ¬ (x.toInt8.toInt32) < (-128 : Int32) ∧ ¬ (127 : Int32) < (x.toInt8.toInt32) := by
  have q := c_i2b x
  have e : (-128 : Int32).toInt = -128 := rfl
  have e1 : (127 : Int32).toInt = 127 := rfl
  simp only [Int32.lt_iff_toInt_lt, e, e1]; omega
theorem i2c_id (h : ¬ x < a ∧ ¬ b < x) (h1 : 0 ≤ a.toInt) (h2 : b.toInt ≤ 65535) : x.toUInt32.toUInt16.toUInt32.toInt32 = x := by
  have q := c_i2c x
  simp only [Int32.lt_iff_toInt_lt] at h
  apply Int32.toInt_inj.mp; omega
theorem i2b_id (h : ¬ x < a ∧ ¬ b < x) (h1 : -128 ≤ a.toInt) (h2 : b.toInt ≤ 127) : x.toInt8.toInt32 = x := by
  have q := c_i2b x
  simp only [Int32.lt_iff_toInt_lt] at h
  apply Int32.toInt_inj.mp; omega
theorem bnd_lit (k : Int32) : ¬ k < k ∧ ¬ k < k := by
  simp only [Int32.lt_iff_toInt_lt]; omega
theorem bnd_all (x : Int32) : ¬ x < (-2147483648 : Int32) ∧ ¬ (2147483647 : Int32) < x := by
  have r := rng32 x
  have e1 : (-2147483648 : Int32).toInt = -2147483648 := rfl
  have e2 : (2147483647 : Int32).toInt = 2147483647 := rfl
  simp only [Int32.lt_iff_toInt_lt, e1, e2]; omega
theorem bnd_up (h : c < x) (q : d.toInt = c.toInt + 1) : ¬ x < d := by
  simp only [Int32.lt_iff_toInt_lt] at *; omega
theorem bnd_dn (h : x < c) (q : d.toInt = c.toInt - 1) : ¬ d < x := by
  simp only [Int32.lt_iff_toInt_lt] at *; omega
theorem bnd_eql (h : x = c) : ¬ x < c := by
  subst h; simp only [Int32.lt_iff_toInt_lt]; omega
theorem bnd_eqr (h : x = c) : ¬ c < x := by
  subst h; simp only [Int32.lt_iff_toInt_lt]; omega
theorem bnd_nel (h : ¬ x < c) (k : ¬ x = c) (q : d.toInt = c.toInt + 1) : ¬ x < d := by
  rw [← Int32.toInt_inj] at k; simp only [Int32.lt_iff_toInt_lt] at *; omega
theorem bnd_ner (h : ¬ c < x) (k : ¬ x = c) (q : d.toInt = c.toInt - 1) : ¬ d < x := by
  rw [← Int32.toInt_inj] at k; simp only [Int32.lt_iff_toInt_lt] at *; omega
theorem bnd_fix (h : ¬ x < c ∧ ¬ c < x) : x = c := by
  rw [← Int32.toInt_inj]; simp only [Int32.lt_iff_toInt_lt] at *; omega
theorem nar_char_id (h : ¬ x < a ∧ ¬ b < x) (h1 : 0 ≤ a.toInt) (h2 : b.toInt ≤ 65535) : nar .char x = x := i2c_id h h1 h2
theorem nar_byte_id (h : ¬ x < a ∧ ¬ b < x) (h1 : -128 ≤ a.toInt) (h2 : b.toInt ≤ 127) : nar .byte x = x := i2b_id h h1 h2
theorem nar_i2c (x : Int32) : nar .char (x.toUInt32.toUInt16.toUInt32.toInt32) = x.toUInt32.toUInt16.toUInt32.toInt32 := nar_char_id (bnd_i2c x) (by decide) (by decide)
theorem nar_i2b (x : Int32) : nar .byte (x.toInt8.toInt32) = x.toInt8.toInt32 := nar_byte_id (bnd_i2b x) (by decide) (by decide)
theorem nar_bool_id (h : ¬ x < a ∧ ¬ b < x) (h1 : 0 ≤ a.toInt) (h2 : b.toInt ≤ 1) : nar .boolean x = x := by
  simp only [Int32.lt_iff_toInt_lt] at h
  have hx : x.toInt = 0 ∨ x.toInt = 1 := by omega
  rcases hx with q | q
  · have : x = 0 := Int32.toInt_inj.mp q
    subst this; rfl
  · have : x = 1 := Int32.toInt_inj.mp q
    subst this; rfl
end Bounds
theorem Wr.to {h h' : Heap} {a : Addr} {sl : Nat} {v w : Value} (W : Wr h h' a sl v) (q : v = w) : Wr h h' a sl w := q ▸ W
theorem fits_char_b {x a b : Int32} (h : ¬ x < a ∧ ¬ b < x) (h1 : 0 ≤ a.toInt) (h2 : b.toInt ≤ 65535) : fits .char (.int x) = true := by
  have q := fits_nar_char x
  rw [nar_char_id h h1 h2] at q; exact q
theorem fits_byte_b {x a b : Int32} (h : ¬ x < a ∧ ¬ b < x) (h1 : -128 ≤ a.toInt) (h2 : b.toInt ≤ 127) : fits .byte (.int x) = true := by
  have q := fits_nar_byte x
  rw [i2b_id h h1 h2] at q; exact q
/-- null, or an object of exactly that class -/
def Nul (Z : State) (h : Heap) (x : Value) (C : String) : Prop := x = .null ∨ ∃ a, x = .ref a ∧ Exa Z h a C
section Nulls
variable {Z : State} {h h' : Heap} {x : Value} {C : String}
theorem Nul.null (Z : State) (h : Heap) (C : String) : Nul Z h .null C := Or.inl rfl
theorem Nul.of {a : Addr} (E : Exa Z h a C) : Nul Z h (.ref a) C := Or.inr ⟨a, rfl, E⟩
theorem Nul.ext (N : Nul Z h x C) (E : Ext h h') : Nul Z h' x C := N.imp id fun ⟨a, e, F⟩ => ⟨a, e, F.ext E⟩
theorem Nul.wr {a : Addr} {sl : Nat} {v : Value} (N : Nul Z h x C) (W : Wr h h' a sl v) : Nul Z h' x C := N.imp id fun ⟨a, e, F⟩ => ⟨a, e, F.wr W⟩
theorem Nul.keep {ws : List Addr} (N : Nul Z h x C) (K : Keep h h' ws) : Nul Z h' x C := N.imp id fun ⟨a, e, F⟩ => ⟨a, e, F.keep K⟩
theorem Nul.isRef (N : Nul Z h x C) : x.isRef = true := by rcases N with rfl | ⟨a, rfl, -⟩ <;> rfl
theorem Sto.ofN {a : Addr} {c : Cell} {ty : FieldType} {k : ClassId} {K : String} (A : Arr Z h a c ty) (q : c.cls = k) (O : Ovr Z k K) (N : Nul Z h x C) (f : ∀ {y : Addr}, Exa Z h y C → Ins Z h y K true) : Sto Z h a x := by
  rcases N with rfl | ⟨y, rfl, E⟩
  · exact Or.inl rfl
  · exact Sto.ofV A q O (f E)
end Nulls
section NotSub
variable {Z : State} {a0 : Array Value} {C S O K : String} {nn : Nat}
theorem own_ns_root (w : (Jvm.Cond.noSuperclass O).before a0 Z = true) (wk : (Jvm.Cond.instantiable K nn).before a0 Z = true) (hn : O ≠ K) : NS Z O K := by
  obtain ⟨c, k, h1, h2, h3, -, -⟩ := Cond.noSuperclass_spec w
  obtain ⟨t, kt, g1, -⟩ := Cond.instantiable_spec wk
  have ne := ids_ne h1 g1 hn
  refine ⟨c, t, h1, g1, fun fuel => ?_⟩
  cases fuel with
  | zero => rfl
  | succ f => simp [Vm.isSubclassAux, ne, h2, h3]
theorem own_ns_no (w : (Jvm.Cond.superclass C S).before a0 Z = true) (wk : (Jvm.Cond.instantiable K nn).before a0 Z = true) (n : NS Z C K) (hn : C ≠ K) : ∃ c t, Z.vm.findClass C = some c ∧ Z.vm.findClass K = some t ∧ Z.vm.assignable c t = false := by
  obtain ⟨c, t, h0, g0, n3⟩ := n
  obtain ⟨p, k, kp, h1, h2, h3, h4, h5, -, h7⟩ := Cond.superclass_spec h0 w
  obtain ⟨t', kt, g1, g2, g3, g4, -⟩ := Cond.instantiable_spec wk
  cases g0.symm.trans g1
  have ne := ids_ne h0 g0 hn
  have g5 : kt.isInterface = false := by simp only [Bool.or_eq_false_iff] at g4; exact g4.1
  refine ⟨c, t, h0, g0, ?_⟩
  show Z.vm.assignableAux (255 + 1) c t = false
  simp [Vm.assignableAux, ne, h2, g2, h5, g3, g5, Vm.isSubclass, n3]
end NotSub
theorem Fld.to {Z : State} {h : Heap} {a : Addr} {C n d : String} {v w : Value} (F : Fld Z h a C n d v) (q : v = w) : Fld Z h a C n d w := q ▸ F
end Jvm.OwnKit
namespace Jvm.Pilot.@@N@@
open Jvm Jvm.ClassFile Sem Op Lib Jvm.Free Jvm.Stand Jvm.LawKit Jvm.RoadKit Jvm.OwnKit Bundle Jvm.Pilot.@@N@@.Jvm.D
theorem own_lenk {Z : State} {args : Array Value} {t : Term} {a : Addr} {c : Cell} {ty : FieldType} {k : Int32} (ev : t.eval args Z none [] Z = some (.ref a)) (A : Arr Z Z.heap a c ty) (h : (Jvm.Cond.eq (Jvm.Term.length t) (Jvm.Term.int k)).value args Z none Z [] = some true) : c.slots.size < 2 ^ 31 ∧ c.slots.size.toInt32 = k := by
  have e := eqv_i (Term.int_eval k) h
  have ha := A.fin (U := Z) (Vm.Alike.refl _)
  by_cases q : c.slots.size < 2 ^ 31
  · have e2 := len_f (first := Z) (o := none) (idx := []) (args := args) ev ha q
    rw [e] at e2
    exact ⟨q, by injection e2 with e3; injection e3 with e4; exact e4.symm⟩
  · exfalso
    simp [Term.eval, ev, ha, q] at e
theorem sg0_0_1 : decs code [(0, .iload_n 0, 1)] := ⟨at_0, trivial⟩
theorem own_w0 {Z : State} {a0 : Array Value} (hw : ∀ d ∈ tables_1, d.before a0 Z = true) : (Jvm.Cond.constant "com/example/wary_meter/warymeter/ColumnNamesPinLaw" (7 : Nat) (2147483647 : Int32)).before a0 Z = true := hw _ (List.mem_of_getElem? (i := 0) rfl)
theorem sg0_3_2 : decs code [(3, .iand, 1), (4, .iconst 4, 1)] := ⟨at_3, at_4, trivial⟩
theorem sg0_6_1 : decs code [(6, .istore 4, 2)] := ⟨at_6, trivial⟩
theorem sg0_8_1 : decs code [(8, .iload_n 1, 1)] := ⟨at_8, trivial⟩
theorem own_w1 {Z : State} {a0 : Array Value} (hw : ∀ d ∈ tables_1, d.before a0 Z = true) : (Jvm.Cond.methodLink "com/example/wary_meter/warymeter/ColumnNamesPinLaw" (8 : Nat) ({ cls := "com/example/wary_meter/warymeter/ColumnNamesPinLaw", name := "draw", desc := "(I)Ljava/lang/String;" } : Jvm.MethodName)).before a0 Z = true := hw _ (List.mem_of_getElem? (i := 1) rfl)
theorem d1_0 : decode method_3_code 0 = .ok (.iload_n 0, 1) := by decide +kernel
theorem d1_1 : decode method_3_code 1 = .ok (.bipush 16, 2) := by decide +kernel
theorem d1_3 : decode method_3_code 3 = .ok (.iushr, 1) := by decide +kernel
theorem d1_4 : decode method_3_code 4 = .ok (.iconst 3, 1) := by decide +kernel
theorem d1_5 : decode method_3_code 5 = .ok (.iand, 1) := by decide +kernel
theorem d1_6 : decode method_3_code 6 = .ok (.iconst 3, 1) := by decide +kernel
theorem sg1_0_6 : decs method_3_code [(0, .iload_n 0, 1), (1, .bipush 16, 2), (3, .iushr, 1), (4, .iconst 3, 1), (5, .iand, 1), (6, .iconst 3, 1)] := ⟨d1_0, d1_1, d1_3, d1_4, d1_5, d1_6, trivial⟩
theorem d1_7 : decode method_3_code 7 = .ok (.if_icmp .ne 5, 3) := by decide +kernel
theorem d1_10 : decode method_3_code 10 = .ok (.aconst_null, 1) := by decide +kernel
theorem sg1_10_1 : decs method_3_code [(10, .aconst_null, 1)] := ⟨d1_10, trivial⟩
theorem d1_11 : decode method_3_code 11 = .ok (.areturn, 1) := by decide +kernel
theorem d1_12 : decode method_3_code 12 = .ok (.iconst 2, 1) := by decide +kernel
theorem sg1_12_1 : decs method_3_code [(12, .iconst 2, 1)] := ⟨d1_12, trivial⟩
theorem d1_13 : decode method_3_code 13 = .ok (.newarray .char, 2) := by decide +kernel
theorem own_w5 {Z : State} {a0 : Array Value} (hw : ∀ d ∈ tables_1, d.before a0 Z = true) : (Jvm.Cond.arrayClass Jvm.ClassFile.FieldType.char).before a0 Z = true := hw _ (List.mem_of_getElem? (i := 5) rfl)
theorem d1_15 : decode method_3_code 15 = .ok (.astore_n 1, 1) := by decide +kernel
theorem d1_16 : decode method_3_code 16 = .ok (.aload_n 1, 1) := by decide +kernel
theorem d1_17 : decode method_3_code 17 = .ok (.iconst 0, 1) := by decide +kernel
theorem d1_18 : decode method_3_code 18 = .ok (.iload_n 0, 1) := by decide +kernel
theorem d1_19 : decode method_3_code 19 = .ok (.sipush 255, 3) := by decide +kernel
theorem d1_22 : decode method_3_code 22 = .ok (.iand, 1) := by decide +kernel
theorem d1_23 : decode method_3_code 23 = .ok (.i2c, 1) := by decide +kernel
theorem sg1_15_7 : decs method_3_code [(15, .astore_n 1, 1), (16, .aload_n 1, 1), (17, .iconst 0, 1), (18, .iload_n 0, 1), (19, .sipush 255, 3), (22, .iand, 1), (23, .i2c, 1)] := ⟨d1_15, d1_16, d1_17, d1_18, d1_19, d1_22, d1_23, trivial⟩
theorem d1_24 : decode method_3_code 24 = .ok (.castore, 1) := by decide +kernel
theorem d1_25 : decode method_3_code 25 = .ok (.aload_n 1, 1) := by decide +kernel
theorem d1_26 : decode method_3_code 26 = .ok (.iconst 1, 1) := by decide +kernel
theorem d1_27 : decode method_3_code 27 = .ok (.iload_n 0, 1) := by decide +kernel
theorem d1_28 : decode method_3_code 28 = .ok (.bipush 8, 2) := by decide +kernel
theorem d1_30 : decode method_3_code 30 = .ok (.iushr, 1) := by decide +kernel
theorem d1_31 : decode method_3_code 31 = .ok (.sipush 255, 3) := by decide +kernel
theorem d1_34 : decode method_3_code 34 = .ok (.iand, 1) := by decide +kernel
theorem d1_35 : decode method_3_code 35 = .ok (.i2c, 1) := by decide +kernel
theorem sg1_25_8 : decs method_3_code [(25, .aload_n 1, 1), (26, .iconst 1, 1), (27, .iload_n 0, 1), (28, .bipush 8, 2), (30, .iushr, 1), (31, .sipush 255, 3), (34, .iand, 1), (35, .i2c, 1)] := ⟨d1_25, d1_26, d1_27, d1_28, d1_30, d1_31, d1_34, d1_35, trivial⟩
theorem d1_36 : decode method_3_code 36 = .ok (.castore, 1) := by decide +kernel
theorem d1_37 : decode method_3_code 37 = .ok (.new 36, 3) := by decide +kernel
theorem own_w6 {Z : State} {a0 : Array Value} (hw : ∀ d ∈ tables_1, d.before a0 Z = true) : (Jvm.Cond.classLink "com/example/wary_meter/warymeter/ColumnNamesPinLaw" (36 : Nat) "java/lang/String").before a0 Z = true := hw _ (List.mem_of_getElem? (i := 6) rfl)
theorem own_w7 {Z : State} {a0 : Array Value} (hw : ∀ d ∈ tables_1, d.before a0 Z = true) : (Jvm.Cond.instantiable "java/lang/String" (4 : Nat)).before a0 Z = true := hw _ (List.mem_of_getElem? (i := 7) rfl)
theorem own_w8 {Z : State} {a0 : Array Value} (hw : ∀ d ∈ tables_1, d.before a0 Z = true) : (Jvm.Cond.initialized "java/lang/String").before a0 Z = true := hw _ (List.mem_of_getElem? (i := 8) rfl)
theorem own_w32 {Z : State} {a0 : Array Value} (hw : ∀ d ∈ tables_1, d.before a0 Z = true) : (Jvm.Cond.laysFinal "java/lang/String" "java/lang/String" "coder" "B").before a0 Z = true := hw _ (List.mem_of_getElem? (i := 32) rfl)
theorem own_w34 {Z : State} {a0 : Array Value} (hw : ∀ d ∈ tables_1, d.before a0 Z = true) : (Jvm.Cond.laysFinal "java/lang/String" "java/lang/String" "value" "[B").before a0 Z = true := hw _ (List.mem_of_getElem? (i := 34) rfl)
theorem d1_40 : decode method_3_code 40 = .ok (.dup, 1) := by decide +kernel
theorem d1_41 : decode method_3_code 41 = .ok (.aload_n 1, 1) := by decide +kernel
theorem sg1_40_2 : decs method_3_code [(40, .dup, 1), (41, .aload_n 1, 1)] := ⟨d1_40, d1_41, trivial⟩
theorem d1_42 : decode method_3_code 42 = .ok (.invokespecial 38, 3) := by decide +kernel
theorem own_w9 {Z : State} {a0 : Array Value} (hw : ∀ d ∈ tables_1, d.before a0 Z = true) : (Jvm.Cond.methodLink "com/example/wary_meter/warymeter/ColumnNamesPinLaw" (38 : Nat) ({ cls := "java/lang/String", name := "<init>", desc := "([C)V" } : Jvm.MethodName)).before a0 Z = true := hw _ (List.mem_of_getElem? (i := 9) rfl)
theorem d2_0 : decode jdk_42_method_3_code 0 = .ok (.aload_n 0, 1) := by decide +kernel
theorem d2_1 : decode jdk_42_method_3_code 1 = .ok (.aload_n 1, 1) := by decide +kernel
theorem d2_2 : decode jdk_42_method_3_code 2 = .ok (.iconst 0, 1) := by decide +kernel
theorem d2_3 : decode jdk_42_method_3_code 3 = .ok (.aload_n 1, 1) := by decide +kernel
theorem sg2_0_4 : decs jdk_42_method_3_code [(0, .aload_n 0, 1), (1, .aload_n 1, 1), (2, .iconst 0, 1), (3, .aload_n 1, 1)] := ⟨d2_0, d2_1, d2_2, d2_3, trivial⟩
theorem d2_4 : decode jdk_42_method_3_code 4 = .ok (.arraylength, 1) := by decide +kernel
theorem d2_5 : decode jdk_42_method_3_code 5 = .ok (.aconst_null, 1) := by decide +kernel
theorem sg2_5_1 : decs jdk_42_method_3_code [(5, .aconst_null, 1)] := ⟨d2_5, trivial⟩
theorem d2_6 : decode jdk_42_method_3_code 6 = .ok (.invokespecial 27, 3) := by decide +kernel
theorem own_w12 {Z : State} {a0 : Array Value} (hw : ∀ d ∈ tables_1, d.before a0 Z = true) : (Jvm.Cond.methodLink "java/lang/String" (27 : Nat) ({ cls := "java/lang/String", name := "<init>", desc := "([CIILjava/lang/Void;)V" } : Jvm.MethodName)).before a0 Z = true := hw _ (List.mem_of_getElem? (i := 12) rfl)
theorem d3_0 : decode jdk_42_method_149_code 0 = .ok (.aload_n 0, 1) := by decide +kernel
theorem sg3_0_1 : decs jdk_42_method_149_code [(0, .aload_n 0, 1)] := ⟨d3_0, trivial⟩
theorem d3_1 : decode jdk_42_method_149_code 1 = .ok (.invokespecial 1, 3) := by decide +kernel
theorem own_w16 {Z : State} {a0 : Array Value} (hw : ∀ d ∈ tables_1, d.before a0 Z = true) : (Jvm.Cond.methodLink "java/lang/String" (1 : Nat) ({ cls := "java/lang/Object", name := "<init>", desc := "()V" } : Jvm.MethodName)).before a0 Z = true := hw _ (List.mem_of_getElem? (i := 16) rfl)
theorem own_w18 {Z : State} {a0 : Array Value} (hw : ∀ d ∈ tables_1, d.before a0 Z = true) : (Jvm.Cond.code ({ cls := "java/lang/Object", name := "<init>", desc := "()V" } : Jvm.MethodName) object_method_1_code (1 : Nat) (Option.none : Option Jvm.ClassFile.FieldType)).before a0 Z = true := hw _ (List.mem_of_getElem? (i := 18) rfl)
theorem own_w17 {Z : State} {a0 : Array Value} (hw : ∀ d ∈ tables_1, d.before a0 Z = true) : (Jvm.Cond.instanceMethod ({ cls := "java/lang/Object", name := "<init>", desc := "()V" } : Jvm.MethodName)).before a0 Z = true := hw _ (List.mem_of_getElem? (i := 17) rfl)
theorem d3_4 : decode jdk_42_method_149_code 4 = .ok (.iload_n 3, 1) := by decide +kernel
theorem sg3_4_1 : decs jdk_42_method_149_code [(4, .iload_n 3, 1)] := ⟨d3_4, trivial⟩
theorem d3_5 : decode jdk_42_method_149_code 5 = .ok (.ifCond .ne 22, 3) := by decide +kernel
theorem d3_27 : decode jdk_42_method_149_code 27 = .ok (.getstatic 38, 3) := by decide +kernel
theorem own_w19 {Z : State} {a0 : Array Value} (hw : ∀ d ∈ tables_1, d.before a0 Z = true) : (Jvm.Cond.fieldLink "java/lang/String" (38 : Nat) "java/lang/String" "COMPACT_STRINGS" "Z").before a0 Z = true := hw _ (List.mem_of_getElem? (i := 19) rfl)
theorem d3_30 : decode jdk_42_method_149_code 30 = .ok (.ifCond .eq 28, 3) := by decide +kernel
theorem d3_33 : decode jdk_42_method_149_code 33 = .ok (.aload_n 1, 1) := by decide +kernel
theorem d3_34 : decode jdk_42_method_149_code 34 = .ok (.iload_n 2, 1) := by decide +kernel
theorem d3_35 : decode jdk_42_method_149_code 35 = .ok (.iload_n 3, 1) := by decide +kernel
theorem sg3_33_3 : decs jdk_42_method_149_code [(33, .aload_n 1, 1), (34, .iload_n 2, 1), (35, .iload_n 3, 1)] := ⟨d3_33, d3_34, d3_35, trivial⟩
theorem d3_36 : decode jdk_42_method_149_code 36 = .ok (.invokestatic 177, 3) := by decide +kernel
theorem own_w20 {Z : State} {a0 : Array Value} (hw : ∀ d ∈ tables_1, d.before a0 Z = true) : (Jvm.Cond.methodLink "java/lang/String" (177 : Nat) ({ cls := "java/lang/StringUTF16", name := "compress", desc := "([CII)[B" } : Jvm.MethodName)).before a0 Z = true := hw _ (List.mem_of_getElem? (i := 20) rfl)
theorem d5_0 : decode jdk_52_method_16_code 0 = .ok (.iload_n 2, 1) := by decide +kernel
theorem sg5_0_1 : decs jdk_52_method_16_code [(0, .iload_n 2, 1)] := ⟨d5_0, trivial⟩
theorem d5_1 : decode jdk_52_method_16_code 1 = .ok (.newarray .byte, 2) := by decide +kernel
theorem own_w24 {Z : State} {a0 : Array Value} (hw : ∀ d ∈ tables_1, d.before a0 Z = true) : (Jvm.Cond.arrayClass Jvm.ClassFile.FieldType.byte).before a0 Z = true := hw _ (List.mem_of_getElem? (i := 24) rfl)
theorem d5_3 : decode jdk_52_method_16_code 3 = .ok (.astore_n 3, 1) := by decide +kernel
theorem d5_4 : decode jdk_52_method_16_code 4 = .ok (.aload_n 0, 1) := by decide +kernel
theorem d5_5 : decode jdk_52_method_16_code 5 = .ok (.iload_n 1, 1) := by decide +kernel
theorem d5_6 : decode jdk_52_method_16_code 6 = .ok (.aload_n 3, 1) := by decide +kernel
theorem d5_7 : decode jdk_52_method_16_code 7 = .ok (.iconst 0, 1) := by decide +kernel
theorem d5_8 : decode jdk_52_method_16_code 8 = .ok (.iload_n 2, 1) := by decide +kernel
theorem sg5_3_6 : decs jdk_52_method_16_code [(3, .astore_n 3, 1), (4, .aload_n 0, 1), (5, .iload_n 1, 1), (6, .aload_n 3, 1), (7, .iconst 0, 1), (8, .iload_n 2, 1)] := ⟨d5_3, d5_4, d5_5, d5_6, d5_7, d5_8, trivial⟩
theorem d5_9 : decode jdk_52_method_16_code 9 = .ok (.invokestatic 115, 3) := by decide +kernel
theorem own_w25 {Z : State} {a0 : Array Value} (hw : ∀ d ∈ tables_1, d.before a0 Z = true) : (Jvm.Cond.methodLink "java/lang/StringUTF16" (115 : Nat) ({ cls := "java/lang/StringUTF16", name := "compress", desc := "([CI[BII)I" } : Jvm.MethodName)).before a0 Z = true := hw _ (List.mem_of_getElem? (i := 25) rfl)
theorem d6_0 : decode jdk_52_method_21_code 0 = .ok (.iconst 0, 1) := by decide +kernel
theorem d6_1 : decode jdk_52_method_21_code 1 = .ok (.istore 5, 2) := by decide +kernel
theorem d6_3 : decode jdk_52_method_21_code 3 = .ok (.iload 5, 2) := by decide +kernel
theorem d6_5 : decode jdk_52_method_21_code 5 = .ok (.iload 4, 2) := by decide +kernel
theorem sg6_0_4 : decs jdk_52_method_21_code [(0, .iconst 0, 1), (1, .istore 5, 2), (3, .iload 5, 2), (5, .iload 4, 2)] := ⟨d6_0, d6_1, d6_3, d6_5, trivial⟩
theorem d6_7 : decode jdk_52_method_21_code 7 = .ok (.if_icmp .ge 37, 3) := by decide +kernel
theorem d6_10 : decode jdk_52_method_21_code 10 = .ok (.aload_n 0, 1) := by decide +kernel
theorem d6_11 : decode jdk_52_method_21_code 11 = .ok (.iload_n 1, 1) := by decide +kernel
theorem sg6_10_2 : decs jdk_52_method_21_code [(10, .aload_n 0, 1), (11, .iload_n 1, 1)] := ⟨d6_10, d6_11, trivial⟩
theorem d6_12 : decode jdk_52_method_21_code 12 = .ok (.caload, 1) := by decide +kernel
theorem d6_13 : decode jdk_52_method_21_code 13 = .ok (.istore 6, 2) := by decide +kernel
theorem d6_15 : decode jdk_52_method_21_code 15 = .ok (.iload 6, 2) := by decide +kernel
theorem d6_17 : decode jdk_52_method_21_code 17 = .ok (.sipush 255, 3) := by decide +kernel
theorem sg6_13_3 : decs jdk_52_method_21_code [(13, .istore 6, 2), (15, .iload 6, 2), (17, .sipush 255, 3)] := ⟨d6_13, d6_15, d6_17, trivial⟩
theorem d6_20 : decode jdk_52_method_21_code 20 = .ok (.if_icmp .le 6, 3) := by decide +kernel
theorem d6_26 : decode jdk_52_method_21_code 26 = .ok (.aload_n 2, 1) := by decide +kernel
theorem d6_27 : decode jdk_52_method_21_code 27 = .ok (.iload_n 3, 1) := by decide +kernel
theorem d6_28 : decode jdk_52_method_21_code 28 = .ok (.iload 6, 2) := by decide +kernel
theorem d6_30 : decode jdk_52_method_21_code 30 = .ok (.i2b, 1) := by decide +kernel
theorem sg6_26_4 : decs jdk_52_method_21_code [(26, .aload_n 2, 1), (27, .iload_n 3, 1), (28, .iload 6, 2), (30, .i2b, 1)] := ⟨d6_26, d6_27, d6_28, d6_30, trivial⟩
theorem d6_31 : decode jdk_52_method_21_code 31 = .ok (.bastore, 1) := by decide +kernel
theorem d6_32 : decode jdk_52_method_21_code 32 = .ok (.iinc 1 1, 3) := by decide +kernel
theorem d6_35 : decode jdk_52_method_21_code 35 = .ok (.iinc 3 1, 3) := by decide +kernel
theorem d6_38 : decode jdk_52_method_21_code 38 = .ok (.iinc 5 1, 3) := by decide +kernel
theorem d6_41 : decode jdk_52_method_21_code 41 = .ok (.goto (-38), 3) := by decide +kernel
theorem sg6_32_6 : decs jdk_52_method_21_code [(32, .iinc 1 1, 3), (35, .iinc 3 1, 3), (38, .iinc 5 1, 3), (41, .goto (-38), 3), (3, .iload 5, 2), (5, .iload 4, 2)] := ⟨d6_32, d6_35, d6_38, d6_41, d6_3, d6_5, trivial⟩
theorem d6_44 : decode jdk_52_method_21_code 44 = .ok (.iload 4, 2) := by decide +kernel
theorem sg6_44_1 : decs jdk_52_method_21_code [(44, .iload 4, 2)] := ⟨d6_44, trivial⟩
theorem d6_46 : decode jdk_52_method_21_code 46 = .ok (.ireturn, 1) := by decide +kernel
theorem ef_rm6_0 (m : MethodId) (x0 : Addr) (x1 : Int32) (x2 : Addr) (x4 : Int32) : entryFrame m #[(.ref x0), (.int x1), (.ref x2), (.int x1), (.int x4)] 7 = mkF m 0 #[.val (.ref x0), .val (.int x1), .val (.ref x2), .val (.int x1), .val (.int x4), .unset, .unset] [] := by first | (simp [entryFrame, mkF, argsToLocals, Value.category]; done) | rfl
theorem own_pn0 : plainName "java/lang/StringUTF16" = true := by first | (simp [plainName, overriddenIn]; done) | decide +kernel
theorem own_w27 {Z : State} {a0 : Array Value} (hw : ∀ d ∈ tables_1, d.before a0 Z = true) : (Jvm.Cond.code ({ cls := "java/lang/StringUTF16", name := "compress", desc := "([CI[BII)I" } : Jvm.MethodName) jdk_52_method_21_code (7 : Nat) (Option.some Jvm.ClassFile.FieldType.int)).before a0 Z = true := hw _ (List.mem_of_getElem? (i := 27) rfl)
theorem own_w22 {Z : State} {a0 : Array Value} (hw : ∀ d ∈ tables_1, d.before a0 Z = true) : (Jvm.Cond.initialized "java/lang/StringUTF16").before a0 Z = true := hw _ (List.mem_of_getElem? (i := 22) rfl)
theorem own_pd0 : parseMethodDescriptor "([CI[BII)I" = some ⟨[(.array .char), .int, (.array .byte), .int, .int], some .int⟩ := by decide +kernel
theorem own_w26 {Z : State} {a0 : Array Value} (hw : ∀ d ∈ tables_1, d.before a0 Z = true) : (Jvm.Cond.static ({ cls := "java/lang/StringUTF16", name := "compress", desc := "([CI[BII)I" } : Jvm.MethodName)).before a0 Z = true := hw _ (List.mem_of_getElem? (i := 26) rfl)
theorem d5_12 : decode jdk_52_method_16_code 12 = .ok (.istore 4, 2) := by decide +kernel
theorem d5_14 : decode jdk_52_method_16_code 14 = .ok (.iload 4, 2) := by decide +kernel
theorem d5_16 : decode jdk_52_method_16_code 16 = .ok (.iload_n 2, 1) := by decide +kernel
theorem sg5_12_3 : decs jdk_52_method_16_code [(12, .istore 4, 2), (14, .iload 4, 2), (16, .iload_n 2, 1)] := ⟨d5_12, d5_14, d5_16, trivial⟩
theorem d5_17 : decode jdk_52_method_16_code 17 = .ok (.if_icmp .eq 40, 3) := by decide +kernel
theorem d5_57 : decode jdk_52_method_16_code 57 = .ok (.aload_n 3, 1) := by decide +kernel
theorem sg5_57_1 : decs jdk_52_method_16_code [(57, .aload_n 3, 1)] := ⟨d5_57, trivial⟩
theorem d5_58 : decode jdk_52_method_16_code 58 = .ok (.areturn, 1) := by decide +kernel
theorem ef_rm5_0 (m : MethodId) (x0 : Addr) (x1 : Int32) (x2 : Int32) : entryFrame m #[(.ref x0), (.int x1), (.int x2)] 6 = mkF m 0 #[.val (.ref x0), .val (.int x1), .val (.int x2), .unset, .unset, .unset] [] := by first | (simp [entryFrame, mkF, argsToLocals, Value.category]; done) | rfl
theorem own_w23 {Z : State} {a0 : Array Value} (hw : ∀ d ∈ tables_1, d.before a0 Z = true) : (Jvm.Cond.code ({ cls := "java/lang/StringUTF16", name := "compress", desc := "([CII)[B" } : Jvm.MethodName) jdk_52_method_16_code (6 : Nat) (Option.some (Jvm.ClassFile.FieldType.array Jvm.ClassFile.FieldType.byte))).before a0 Z = true := hw _ (List.mem_of_getElem? (i := 23) rfl)
theorem own_pd1 : parseMethodDescriptor "([CII)[B" = some ⟨[(.array .char), .int, .int], some (.array .byte)⟩ := by decide +kernel
theorem own_w21 {Z : State} {a0 : Array Value} (hw : ∀ d ∈ tables_1, d.before a0 Z = true) : (Jvm.Cond.static ({ cls := "java/lang/StringUTF16", name := "compress", desc := "([CII)[B" } : Jvm.MethodName)).before a0 Z = true := hw _ (List.mem_of_getElem? (i := 21) rfl)
theorem d3_39 : decode jdk_42_method_149_code 39 = .ok (.astore 5, 2) := by decide +kernel
theorem d3_41 : decode jdk_42_method_149_code 41 = .ok (.aload_n 0, 1) := by decide +kernel
theorem d3_42 : decode jdk_42_method_149_code 42 = .ok (.aload 5, 2) := by decide +kernel
theorem d3_44 : decode jdk_42_method_149_code 44 = .ok (.iload_n 3, 1) := by decide +kernel
theorem sg3_39_4 : decs jdk_42_method_149_code [(39, .astore 5, 2), (41, .aload_n 0, 1), (42, .aload 5, 2), (44, .iload_n 3, 1)] := ⟨d3_39, d3_41, d3_42, d3_44, trivial⟩
theorem d3_45 : decode jdk_42_method_149_code 45 = .ok (.invokestatic 47, 3) := by decide +kernel
theorem own_w28 {Z : State} {a0 : Array Value} (hw : ∀ d ∈ tables_1, d.before a0 Z = true) : (Jvm.Cond.methodLink "java/lang/String" (47 : Nat) ({ cls := "java/lang/StringUTF16", name := "coderFromArrayLen", desc := "([BI)B" } : Jvm.MethodName)).before a0 Z = true := hw _ (List.mem_of_getElem? (i := 28) rfl)
theorem d7_0 : decode jdk_52_method_15_code 0 = .ok (.iload_n 1, 1) := by decide +kernel
theorem d7_1 : decode jdk_52_method_15_code 1 = .ok (.aload_n 0, 1) := by decide +kernel
theorem sg7_0_2 : decs jdk_52_method_15_code [(0, .iload_n 1, 1), (1, .aload_n 0, 1)] := ⟨d7_0, d7_1, trivial⟩
theorem d7_2 : decode jdk_52_method_15_code 2 = .ok (.arraylength, 1) := by decide +kernel
theorem d7_3 : decode jdk_52_method_15_code 3 = .ok (.isub, 1) := by decide +kernel
theorem d7_4 : decode jdk_52_method_15_code 4 = .ok (.bipush 31, 2) := by decide +kernel
theorem d7_6 : decode jdk_52_method_15_code 6 = .ok (.iushr, 1) := by decide +kernel
theorem d7_7 : decode jdk_52_method_15_code 7 = .ok (.i2b, 1) := by decide +kernel
theorem sg7_3_4 : decs jdk_52_method_15_code [(3, .isub, 1), (4, .bipush 31, 2), (6, .iushr, 1), (7, .i2b, 1)] := ⟨d7_3, d7_4, d7_6, d7_7, trivial⟩
theorem d7_8 : decode jdk_52_method_15_code 8 = .ok (.ireturn, 1) := by decide +kernel
theorem ef_rm7_0 (m : MethodId) (x0 : Addr) (x1 : Int32) : entryFrame m #[(.ref x0), (.int x1)] 2 = mkF m 0 #[.val (.ref x0), .val (.int x1)] [] := by first | (simp [entryFrame, mkF, argsToLocals, Value.category]; done) | rfl
theorem own_w30 {Z : State} {a0 : Array Value} (hw : ∀ d ∈ tables_1, d.before a0 Z = true) : (Jvm.Cond.code ({ cls := "java/lang/StringUTF16", name := "coderFromArrayLen", desc := "([BI)B" } : Jvm.MethodName) jdk_52_method_15_code (2 : Nat) (Option.some Jvm.ClassFile.FieldType.byte)).before a0 Z = true := hw _ (List.mem_of_getElem? (i := 30) rfl)
theorem own_pd2 : parseMethodDescriptor "([BI)B" = some ⟨[(.array .byte), .int], some .byte⟩ := by decide +kernel
theorem own_w29 {Z : State} {a0 : Array Value} (hw : ∀ d ∈ tables_1, d.before a0 Z = true) : (Jvm.Cond.static ({ cls := "java/lang/StringUTF16", name := "coderFromArrayLen", desc := "([BI)B" } : Jvm.MethodName)).before a0 Z = true := hw _ (List.mem_of_getElem? (i := 29) rfl)
theorem d3_48 : decode jdk_42_method_149_code 48 = .ok (.putfield 15, 3) := by decide +kernel
theorem own_w31 {Z : State} {a0 : Array Value} (hw : ∀ d ∈ tables_1, d.before a0 Z = true) : (Jvm.Cond.fieldLink "java/lang/String" (15 : Nat) "java/lang/String" "coder" "B").before a0 Z = true := hw _ (List.mem_of_getElem? (i := 31) rfl)
theorem d3_51 : decode jdk_42_method_149_code 51 = .ok (.aload_n 0, 1) := by decide +kernel
theorem d3_52 : decode jdk_42_method_149_code 52 = .ok (.aload 5, 2) := by decide +kernel
theorem sg3_51_2 : decs jdk_42_method_149_code [(51, .aload_n 0, 1), (52, .aload 5, 2)] := ⟨d3_51, d3_52, trivial⟩
theorem d3_54 : decode jdk_42_method_149_code 54 = .ok (.putfield 9, 3) := by decide +kernel
theorem own_w33 {Z : State} {a0 : Array Value} (hw : ∀ d ∈ tables_1, d.before a0 Z = true) : (Jvm.Cond.fieldLink "java/lang/String" (9 : Nat) "java/lang/String" "value" "[B").before a0 Z = true := hw _ (List.mem_of_getElem? (i := 33) rfl)
theorem d3_57 : decode jdk_42_method_149_code 57 = .ok (.return_, 1) := by decide +kernel
theorem ef_rm3_0 (m : MethodId) (x0 : Addr) (x1 : Addr) (x2 : Int32) (x3 : Int32) : entryFrame m #[(.ref x0), (.ref x1), (.int x2), (.int x3), .null] 6 = mkF m 0 #[.val (.ref x0), .val (.ref x1), .val (.int x2), .val (.int x3), .val .null, .unset] [] := by first | (simp [entryFrame, mkF, argsToLocals, Value.category]; done) | rfl
theorem own_pn1 : plainName "java/lang/String" = true := by first | (simp [plainName, overriddenIn]; done) | decide +kernel
theorem own_w15 {Z : State} {a0 : Array Value} (hw : ∀ d ∈ tables_1, d.before a0 Z = true) : (Jvm.Cond.code ({ cls := "java/lang/String", name := "<init>", desc := "([CIILjava/lang/Void;)V" } : Jvm.MethodName) jdk_42_method_149_code (6 : Nat) (Option.none : Option Jvm.ClassFile.FieldType)).before a0 Z = true := hw _ (List.mem_of_getElem? (i := 15) rfl)
theorem own_pd3 : parseMethodDescriptor "([CIILjava/lang/Void;)V" = some ⟨[(.array .char), .int, .int, (.object "java/lang/Void")], none⟩ := by decide +kernel
theorem own_w13 {Z : State} {a0 : Array Value} (hw : ∀ d ∈ tables_1, d.before a0 Z = true) : (Jvm.Cond.instanceMethod ({ cls := "java/lang/String", name := "<init>", desc := "([CIILjava/lang/Void;)V" } : Jvm.MethodName)).before a0 Z = true := hw _ (List.mem_of_getElem? (i := 13) rfl)
theorem d2_9 : decode jdk_42_method_3_code 9 = .ok (.return_, 1) := by decide +kernel
theorem ef_rm2_0 (m : MethodId) (x0 : Addr) (x1 : Addr) : entryFrame m #[(.ref x0), (.ref x1)] 2 = mkF m 0 #[.val (.ref x0), .val (.ref x1)] [] := by first | (simp [entryFrame, mkF, argsToLocals, Value.category]; done) | rfl
theorem own_w11 {Z : State} {a0 : Array Value} (hw : ∀ d ∈ tables_1, d.before a0 Z = true) : (Jvm.Cond.code ({ cls := "java/lang/String", name := "<init>", desc := "([C)V" } : Jvm.MethodName) jdk_42_method_3_code (2 : Nat) (Option.none : Option Jvm.ClassFile.FieldType)).before a0 Z = true := hw _ (List.mem_of_getElem? (i := 11) rfl)
theorem own_pd4 : parseMethodDescriptor "([C)V" = some ⟨[(.array .char)], none⟩ := by decide +kernel
theorem own_w10 {Z : State} {a0 : Array Value} (hw : ∀ d ∈ tables_1, d.before a0 Z = true) : (Jvm.Cond.instanceMethod ({ cls := "java/lang/String", name := "<init>", desc := "([C)V" } : Jvm.MethodName)).before a0 Z = true := hw _ (List.mem_of_getElem? (i := 10) rfl)
theorem d1_45 : decode method_3_code 45 = .ok (.areturn, 1) := by decide +kernel
theorem ef_rm1_0 (m : MethodId) (x0 : Int32) : entryFrame m #[(.int x0)] 2 = mkF m 0 #[.val (.int x0), .unset] [] := by first | (simp [entryFrame, mkF, argsToLocals, Value.category]; done) | rfl
theorem own_pn2 : plainName "com/example/wary_meter/warymeter/ColumnNamesPinLaw" = true := by first | (simp [plainName, overriddenIn]; done) | decide +kernel
theorem own_w4 {Z : State} {a0 : Array Value} (hw : ∀ d ∈ tables_1, d.before a0 Z = true) : (Jvm.Cond.code ({ cls := "com/example/wary_meter/warymeter/ColumnNamesPinLaw", name := "draw", desc := "(I)Ljava/lang/String;" } : Jvm.MethodName) method_3_code (2 : Nat) (Option.some (Jvm.ClassFile.FieldType.object "java/lang/String"))).before a0 Z = true := hw _ (List.mem_of_getElem? (i := 4) rfl)
theorem own_w3 {Z : State} {a0 : Array Value} (hw : ∀ d ∈ tables_1, d.before a0 Z = true) : (Jvm.Cond.initialized "com/example/wary_meter/warymeter/ColumnNamesPinLaw").before a0 Z = true := hw _ (List.mem_of_getElem? (i := 3) rfl)
theorem own_pd5 : parseMethodDescriptor "(I)Ljava/lang/String;" = some ⟨[.int], some (.object "java/lang/String")⟩ := by decide +kernel
theorem own_w2 {Z : State} {a0 : Array Value} (hw : ∀ d ∈ tables_1, d.before a0 Z = true) : (Jvm.Cond.static ({ cls := "com/example/wary_meter/warymeter/ColumnNamesPinLaw", name := "draw", desc := "(I)Ljava/lang/String;" } : Jvm.MethodName)).before a0 Z = true := hw _ (List.mem_of_getElem? (i := 2) rfl)
theorem sg0_14_1 : decs code [(14, .iload_n 2, 1)] := ⟨at_14, trivial⟩
theorem sg0_20_1 : decs code [(20, .iload_n 3, 1)] := ⟨at_20, trivial⟩
theorem own_w35 {Z : State} {a0 : Array Value} (hw : ∀ d ∈ tables_1, d.before a0 Z = true) : (Jvm.Cond.classLink "com/example/wary_meter/warymeter/ColumnNamesPinLaw" (14 : Nat) "java/util/ArrayList").before a0 Z = true := hw _ (List.mem_of_getElem? (i := 35) rfl)
theorem own_w36 {Z : State} {a0 : Array Value} (hw : ∀ d ∈ tables_1, d.before a0 Z = true) : (Jvm.Cond.instantiable "java/util/ArrayList" (3 : Nat)).before a0 Z = true := hw _ (List.mem_of_getElem? (i := 36) rfl)
theorem own_w37 {Z : State} {a0 : Array Value} (hw : ∀ d ∈ tables_1, d.before a0 Z = true) : (Jvm.Cond.initialized "java/util/ArrayList").before a0 Z = true := hw _ (List.mem_of_getElem? (i := 37) rfl)
theorem own_w55 {Z : State} {a0 : Array Value} (hw : ∀ d ∈ tables_1, d.before a0 Z = true) : (Jvm.Cond.lays "java/util/ArrayList" "java/util/AbstractList" "modCount" "I").before a0 Z = true := hw _ (List.mem_of_getElem? (i := 55) rfl)
theorem own_w58 {Z : State} {a0 : Array Value} (hw : ∀ d ∈ tables_1, d.before a0 Z = true) : (Jvm.Cond.lays "java/util/ArrayList" "java/util/ArrayList" "elementData" "[Ljava/lang/Object;").before a0 Z = true := hw _ (List.mem_of_getElem? (i := 58) rfl)
theorem own_w73 {Z : State} {a0 : Array Value} (hw : ∀ d ∈ tables_1, d.before a0 Z = true) : (Jvm.Cond.lays "java/util/ArrayList" "java/util/ArrayList" "size" "I").before a0 Z = true := hw _ (List.mem_of_getElem? (i := 73) rfl)
theorem sg0_29_1 : decs code [(29, .dup, 1)] := ⟨at_29, trivial⟩
theorem own_w38 {Z : State} {a0 : Array Value} (hw : ∀ d ∈ tables_1, d.before a0 Z = true) : (Jvm.Cond.methodLink "com/example/wary_meter/warymeter/ColumnNamesPinLaw" (16 : Nat) ({ cls := "java/util/ArrayList", name := "<init>", desc := "()V" } : Jvm.MethodName)).before a0 Z = true := hw _ (List.mem_of_getElem? (i := 38) rfl)
theorem d8_0 : decode jdk_38_method_2_code 0 = .ok (.aload_n 0, 1) := by decide +kernel
theorem sg8_0_1 : decs jdk_38_method_2_code [(0, .aload_n 0, 1)] := ⟨d8_0, trivial⟩
theorem d8_1 : decode jdk_38_method_2_code 1 = .ok (.invokespecial 1, 3) := by decide +kernel
theorem own_w41 {Z : State} {a0 : Array Value} (hw : ∀ d ∈ tables_1, d.before a0 Z = true) : (Jvm.Cond.methodLink "java/util/ArrayList" (1 : Nat) ({ cls := "java/util/AbstractList", name := "<init>", desc := "()V" } : Jvm.MethodName)).before a0 Z = true := hw _ (List.mem_of_getElem? (i := 41) rfl)
theorem d9_0 : decode jdk_39_method_1_code 0 = .ok (.aload_n 0, 1) := by decide +kernel
theorem sg9_0_1 : decs jdk_39_method_1_code [(0, .aload_n 0, 1)] := ⟨d9_0, trivial⟩
theorem d9_1 : decode jdk_39_method_1_code 1 = .ok (.invokespecial 1, 3) := by decide +kernel
theorem own_w47 {Z : State} {a0 : Array Value} (hw : ∀ d ∈ tables_1, d.before a0 Z = true) : (Jvm.Cond.methodLink "java/util/AbstractList" (1 : Nat) ({ cls := "java/util/AbstractCollection", name := "<init>", desc := "()V" } : Jvm.MethodName)).before a0 Z = true := hw _ (List.mem_of_getElem? (i := 47) rfl)
theorem d10_0 : decode jdk_22_method_1_code 0 = .ok (.aload_n 0, 1) := by decide +kernel
theorem sg10_0_1 : decs jdk_22_method_1_code [(0, .aload_n 0, 1)] := ⟨d10_0, trivial⟩
theorem d10_1 : decode jdk_22_method_1_code 1 = .ok (.invokespecial 1, 3) := by decide +kernel
theorem own_w53 {Z : State} {a0 : Array Value} (hw : ∀ d ∈ tables_1, d.before a0 Z = true) : (Jvm.Cond.methodLink "java/util/AbstractCollection" (1 : Nat) ({ cls := "java/lang/Object", name := "<init>", desc := "()V" } : Jvm.MethodName)).before a0 Z = true := hw _ (List.mem_of_getElem? (i := 53) rfl)
theorem d10_4 : decode jdk_22_method_1_code 4 = .ok (.return_, 1) := by decide +kernel
theorem ef_rm10_0 (m : MethodId) (x0 : Addr) : entryFrame m #[(.ref x0)] 1 = mkF m 0 #[.val (.ref x0)] [] := by first | (simp [entryFrame, mkF, argsToLocals, Value.category]; done) | rfl
theorem own_pn3 : plainName "java/util/AbstractCollection" = true := by first | (simp [plainName, overriddenIn]; done) | decide +kernel
theorem own_w52 {Z : State} {a0 : Array Value} (hw : ∀ d ∈ tables_1, d.before a0 Z = true) : (Jvm.Cond.code ({ cls := "java/util/AbstractCollection", name := "<init>", desc := "()V" } : Jvm.MethodName) jdk_22_method_1_code (1 : Nat) (Option.none : Option Jvm.ClassFile.FieldType)).before a0 Z = true := hw _ (List.mem_of_getElem? (i := 52) rfl)
theorem own_w51 {Z : State} {a0 : Array Value} (hw : ∀ d ∈ tables_1, d.before a0 Z = true) : (Jvm.Cond.initialized "java/util/AbstractCollection").before a0 Z = true := hw _ (List.mem_of_getElem? (i := 51) rfl)
theorem own_pd6 : parseMethodDescriptor "()V" = some ⟨[], none⟩ := by decide +kernel
theorem own_w48 {Z : State} {a0 : Array Value} (hw : ∀ d ∈ tables_1, d.before a0 Z = true) : (Jvm.Cond.instanceMethod ({ cls := "java/util/AbstractCollection", name := "<init>", desc := "()V" } : Jvm.MethodName)).before a0 Z = true := hw _ (List.mem_of_getElem? (i := 48) rfl)
theorem d9_4 : decode jdk_39_method_1_code 4 = .ok (.aload_n 0, 1) := by decide +kernel
theorem d9_5 : decode jdk_39_method_1_code 5 = .ok (.iconst 0, 1) := by decide +kernel
theorem sg9_4_2 : decs jdk_39_method_1_code [(4, .aload_n 0, 1), (5, .iconst 0, 1)] := ⟨d9_4, d9_5, trivial⟩
theorem d9_6 : decode jdk_39_method_1_code 6 = .ok (.putfield 7, 3) := by decide +kernel
theorem own_w54 {Z : State} {a0 : Array Value} (hw : ∀ d ∈ tables_1, d.before a0 Z = true) : (Jvm.Cond.fieldLink "java/util/AbstractList" (7 : Nat) "java/util/AbstractList" "modCount" "I").before a0 Z = true := hw _ (List.mem_of_getElem? (i := 54) rfl)
theorem d9_9 : decode jdk_39_method_1_code 9 = .ok (.return_, 1) := by decide +kernel
theorem ef_rm9_0 (m : MethodId) (x0 : Addr) : entryFrame m #[(.ref x0)] 1 = mkF m 0 #[.val (.ref x0)] [] := by first | (simp [entryFrame, mkF, argsToLocals, Value.category]; done) | rfl
theorem own_pn4 : plainName "java/util/AbstractList" = true := by first | (simp [plainName, overriddenIn]; done) | decide +kernel
theorem own_w46 {Z : State} {a0 : Array Value} (hw : ∀ d ∈ tables_1, d.before a0 Z = true) : (Jvm.Cond.code ({ cls := "java/util/AbstractList", name := "<init>", desc := "()V" } : Jvm.MethodName) jdk_39_method_1_code (1 : Nat) (Option.none : Option Jvm.ClassFile.FieldType)).before a0 Z = true := hw _ (List.mem_of_getElem? (i := 46) rfl)
theorem own_w45 {Z : State} {a0 : Array Value} (hw : ∀ d ∈ tables_1, d.before a0 Z = true) : (Jvm.Cond.initialized "java/util/AbstractList").before a0 Z = true := hw _ (List.mem_of_getElem? (i := 45) rfl)
theorem own_w42 {Z : State} {a0 : Array Value} (hw : ∀ d ∈ tables_1, d.before a0 Z = true) : (Jvm.Cond.instanceMethod ({ cls := "java/util/AbstractList", name := "<init>", desc := "()V" } : Jvm.MethodName)).before a0 Z = true := hw _ (List.mem_of_getElem? (i := 42) rfl)
theorem d8_4 : decode jdk_38_method_2_code 4 = .ok (.aload_n 0, 1) := by decide +kernel
theorem sg8_4_1 : decs jdk_38_method_2_code [(4, .aload_n 0, 1)] := ⟨d8_4, trivial⟩
theorem d8_5 : decode jdk_38_method_2_code 5 = .ok (.getstatic 39, 3) := by decide +kernel
theorem own_w56 {Z : State} {a0 : Array Value} (hw : ∀ d ∈ tables_1, d.before a0 Z = true) : (Jvm.Cond.fieldLink "java/util/ArrayList" (39 : Nat) "java/util/ArrayList" "DEFAULTCAPACITY_EMPTY_ELEMENTDATA" "[Ljava/lang/Object;").before a0 Z = true := hw _ (List.mem_of_getElem? (i := 56) rfl)
theorem d8_8 : decode jdk_38_method_2_code 8 = .ok (.putfield 9, 3) := by decide +kernel
theorem own_w57 {Z : State} {a0 : Array Value} (hw : ∀ d ∈ tables_1, d.before a0 Z = true) : (Jvm.Cond.fieldLink "java/util/ArrayList" (9 : Nat) "java/util/ArrayList" "elementData" "[Ljava/lang/Object;").before a0 Z = true := hw _ (List.mem_of_getElem? (i := 57) rfl)
theorem d8_11 : decode jdk_38_method_2_code 11 = .ok (.return_, 1) := by decide +kernel
theorem ef_rm8_0 (m : MethodId) (x0 : Addr) : entryFrame m #[(.ref x0)] 1 = mkF m 0 #[.val (.ref x0)] [] := by first | (simp [entryFrame, mkF, argsToLocals, Value.category]; done) | rfl
theorem own_pn5 : plainName "java/util/ArrayList" = true := by first | (simp [plainName, overriddenIn]; done) | decide +kernel
theorem own_w40 {Z : State} {a0 : Array Value} (hw : ∀ d ∈ tables_1, d.before a0 Z = true) : (Jvm.Cond.code ({ cls := "java/util/ArrayList", name := "<init>", desc := "()V" } : Jvm.MethodName) jdk_38_method_2_code (1 : Nat) (Option.none : Option Jvm.ClassFile.FieldType)).before a0 Z = true := hw _ (List.mem_of_getElem? (i := 40) rfl)
theorem own_w39 {Z : State} {a0 : Array Value} (hw : ∀ d ∈ tables_1, d.before a0 Z = true) : (Jvm.Cond.instanceMethod ({ cls := "java/util/ArrayList", name := "<init>", desc := "()V" } : Jvm.MethodName)).before a0 Z = true := hw _ (List.mem_of_getElem? (i := 39) rfl)
theorem sg0_33_2 : decs code [(33, .astore 8, 2), (35, .iload 4, 2)] := ⟨at_33, at_35, trivial⟩
theorem sg0_40_1 : decs code [(40, .aload 8, 2)] := ⟨at_40, trivial⟩
theorem own_w76 {Z : State} {a0 : Array Value} (hw : ∀ d ∈ tables_1, d.before a0 Z = true) : (Jvm.Cond.classLink "com/example/wary_meter/warymeter/ColumnNamesPinLaw" (17 : Nat) "com/example/wary_meter/warymeter/Column").before a0 Z = true := hw _ (List.mem_of_getElem? (i := 76) rfl)
theorem own_w77 {Z : State} {a0 : Array Value} (hw : ∀ d ∈ tables_1, d.before a0 Z = true) : (Jvm.Cond.instantiable "com/example/wary_meter/warymeter/Column" (4 : Nat)).before a0 Z = true := hw _ (List.mem_of_getElem? (i := 77) rfl)
theorem own_w61 {Z : State} {a0 : Array Value} (hw : ∀ d ∈ tables_1, d.before a0 Z = true) : (Jvm.Cond.initialized "com/example/wary_meter/warymeter/Column").before a0 Z = true := hw _ (List.mem_of_getElem? (i := 61) rfl)
theorem own_w91 {Z : State} {a0 : Array Value} (hw : ∀ d ∈ tables_1, d.before a0 Z = true) : (Jvm.Cond.laysFinal "com/example/wary_meter/warymeter/Column" "com/example/wary_meter/warymeter/Column" "name" "Ljava/lang/String;").before a0 Z = true := hw _ (List.mem_of_getElem? (i := 91) rfl)
theorem own_w93 {Z : State} {a0 : Array Value} (hw : ∀ d ∈ tables_1, d.before a0 Z = true) : (Jvm.Cond.laysFinal "com/example/wary_meter/warymeter/Column" "com/example/wary_meter/warymeter/Column" "value" "Ljava/util/function/Function;").before a0 Z = true := hw _ (List.mem_of_getElem? (i := 93) rfl)
theorem own_w95 {Z : State} {a0 : Array Value} (hw : ∀ d ∈ tables_1, d.before a0 Z = true) : (Jvm.Cond.laysFinal "com/example/wary_meter/warymeter/Column" "com/example/wary_meter/warymeter/Column" "key" "Ljava/util/function/Function;").before a0 Z = true := hw _ (List.mem_of_getElem? (i := 95) rfl)
theorem own_w97 {Z : State} {a0 : Array Value} (hw : ∀ d ∈ tables_1, d.before a0 Z = true) : (Jvm.Cond.laysFinal "com/example/wary_meter/warymeter/Column" "com/example/wary_meter/warymeter/Column" "text" "Ljava/util/function/Function;").before a0 Z = true := hw _ (List.mem_of_getElem? (i := 97) rfl)
theorem sg0_45_1 : decs code [(45, .dup, 1)] := ⟨at_45, trivial⟩
theorem sg0_48_1 : decs code [(48, .aconst_null, 1)] := ⟨at_48, trivial⟩
theorem own_w78 {Z : State} {a0 : Array Value} (hw : ∀ d ∈ tables_1, d.before a0 Z = true) : (Jvm.Cond.methodLink "com/example/wary_meter/warymeter/ColumnNamesPinLaw" (19 : Nat) ({ cls := "com/example/wary_meter/warymeter/Column", name := "<init>", desc := "(Ljava/lang/String;Ljava/util/function/Function;)V" } : Jvm.MethodName)).before a0 Z = true := hw _ (List.mem_of_getElem? (i := 78) rfl)
theorem d13_0 : decode prog_3_method_1_code 0 = .ok (.aload_n 0, 1) := by decide +kernel
theorem sg13_0_1 : decs prog_3_method_1_code [(0, .aload_n 0, 1)] := ⟨d13_0, trivial⟩
theorem d13_1 : decode prog_3_method_1_code 1 = .ok (.aload_n 1, 1) := by decide +kernel
theorem d13_2 : decode prog_3_method_1_code 2 = .ok (.aload_n 2, 1) := by decide +kernel
theorem d13_3 : decode prog_3_method_1_code 3 = .ok (.aconst_null, 1) := by decide +kernel
theorem d13_4 : decode prog_3_method_1_code 4 = .ok (.aconst_null, 1) := by decide +kernel
theorem sg13_2_3 : decs prog_3_method_1_code [(2, .aload_n 2, 1), (3, .aconst_null, 1), (4, .aconst_null, 1)] := ⟨d13_2, d13_3, d13_4, trivial⟩
theorem d13_5 : decode prog_3_method_1_code 5 = .ok (.invokespecial 23, 3) := by decide +kernel
theorem own_w81 {Z : State} {a0 : Array Value} (hw : ∀ d ∈ tables_1, d.before a0 Z = true) : (Jvm.Cond.methodLink "com/example/wary_meter/warymeter/Column" (23 : Nat) ({ cls := "com/example/wary_meter/warymeter/Column", name := "<init>", desc := "(Ljava/lang/String;Ljava/util/function/Function;Ljava/util/function/Function;Ljava/util/function/Function;)V" } : Jvm.MethodName)).before a0 Z = true := hw _ (List.mem_of_getElem? (i := 81) rfl)
theorem d14_0 : decode prog_3_method_2_code 0 = .ok (.aload_n 0, 1) := by decide +kernel
theorem sg14_0_1 : decs prog_3_method_2_code [(0, .aload_n 0, 1)] := ⟨d14_0, trivial⟩
theorem d14_1 : decode prog_3_method_2_code 1 = .ok (.invokespecial 1, 3) := by decide +kernel
theorem own_w84 {Z : State} {a0 : Array Value} (hw : ∀ d ∈ tables_1, d.before a0 Z = true) : (Jvm.Cond.methodLink "com/example/wary_meter/warymeter/Column" (1 : Nat) ({ cls := "java/lang/Record", name := "<init>", desc := "()V" } : Jvm.MethodName)).before a0 Z = true := hw _ (List.mem_of_getElem? (i := 84) rfl)
theorem d15_0 : decode jdk_30_method_1_code 0 = .ok (.aload_n 0, 1) := by decide +kernel
theorem sg15_0_1 : decs jdk_30_method_1_code [(0, .aload_n 0, 1)] := ⟨d15_0, trivial⟩
theorem d15_1 : decode jdk_30_method_1_code 1 = .ok (.invokespecial 1, 3) := by decide +kernel
theorem own_w89 {Z : State} {a0 : Array Value} (hw : ∀ d ∈ tables_1, d.before a0 Z = true) : (Jvm.Cond.methodLink "java/lang/Record" (1 : Nat) ({ cls := "java/lang/Object", name := "<init>", desc := "()V" } : Jvm.MethodName)).before a0 Z = true := hw _ (List.mem_of_getElem? (i := 89) rfl)
theorem d15_4 : decode jdk_30_method_1_code 4 = .ok (.return_, 1) := by decide +kernel
theorem ef_rm15_0 (m : MethodId) (x0 : Addr) : entryFrame m #[(.ref x0)] 1 = mkF m 0 #[.val (.ref x0)] [] := by first | (simp [entryFrame, mkF, argsToLocals, Value.category]; done) | rfl
theorem own_pn6 : plainName "java/lang/Record" = true := by first | (simp [plainName, overriddenIn]; done) | decide +kernel
theorem own_w88 {Z : State} {a0 : Array Value} (hw : ∀ d ∈ tables_1, d.before a0 Z = true) : (Jvm.Cond.code ({ cls := "java/lang/Record", name := "<init>", desc := "()V" } : Jvm.MethodName) jdk_30_method_1_code (1 : Nat) (Option.none : Option Jvm.ClassFile.FieldType)).before a0 Z = true := hw _ (List.mem_of_getElem? (i := 88) rfl)
theorem own_w87 {Z : State} {a0 : Array Value} (hw : ∀ d ∈ tables_1, d.before a0 Z = true) : (Jvm.Cond.initialized "java/lang/Record").before a0 Z = true := hw _ (List.mem_of_getElem? (i := 87) rfl)
theorem own_w85 {Z : State} {a0 : Array Value} (hw : ∀ d ∈ tables_1, d.before a0 Z = true) : (Jvm.Cond.instanceMethod ({ cls := "java/lang/Record", name := "<init>", desc := "()V" } : Jvm.MethodName)).before a0 Z = true := hw _ (List.mem_of_getElem? (i := 85) rfl)
theorem d14_4 : decode prog_3_method_2_code 4 = .ok (.aload_n 0, 1) := by decide +kernel
theorem sg14_4_1 : decs prog_3_method_2_code [(4, .aload_n 0, 1)] := ⟨d14_4, trivial⟩
theorem d14_5 : decode prog_3_method_2_code 5 = .ok (.aload_n 1, 1) := by decide +kernel
theorem d14_6 : decode prog_3_method_2_code 6 = .ok (.putfield 7, 3) := by decide +kernel
theorem own_w90 {Z : State} {a0 : Array Value} (hw : ∀ d ∈ tables_1, d.before a0 Z = true) : (Jvm.Cond.fieldLink "com/example/wary_meter/warymeter/Column" (7 : Nat) "com/example/wary_meter/warymeter/Column" "name" "Ljava/lang/String;").before a0 Z = true := hw _ (List.mem_of_getElem? (i := 90) rfl)
theorem d14_9 : decode prog_3_method_2_code 9 = .ok (.aload_n 0, 1) := by decide +kernel
theorem d14_10 : decode prog_3_method_2_code 10 = .ok (.aload_n 2, 1) := by decide +kernel
theorem sg14_9_2 : decs prog_3_method_2_code [(9, .aload_n 0, 1), (10, .aload_n 2, 1)] := ⟨d14_9, d14_10, trivial⟩
theorem d14_11 : decode prog_3_method_2_code 11 = .ok (.putfield 13, 3) := by decide +kernel
theorem own_w92 {Z : State} {a0 : Array Value} (hw : ∀ d ∈ tables_1, d.before a0 Z = true) : (Jvm.Cond.fieldLink "com/example/wary_meter/warymeter/Column" (13 : Nat) "com/example/wary_meter/warymeter/Column" "value" "Ljava/util/function/Function;").before a0 Z = true := hw _ (List.mem_of_getElem? (i := 92) rfl)
theorem d14_14 : decode prog_3_method_2_code 14 = .ok (.aload_n 0, 1) := by decide +kernel
theorem d14_15 : decode prog_3_method_2_code 15 = .ok (.aload_n 3, 1) := by decide +kernel
theorem sg14_14_2 : decs prog_3_method_2_code [(14, .aload_n 0, 1), (15, .aload_n 3, 1)] := ⟨d14_14, d14_15, trivial⟩
theorem d14_16 : decode prog_3_method_2_code 16 = .ok (.putfield 17, 3) := by decide +kernel
theorem own_w94 {Z : State} {a0 : Array Value} (hw : ∀ d ∈ tables_1, d.before a0 Z = true) : (Jvm.Cond.fieldLink "com/example/wary_meter/warymeter/Column" (17 : Nat) "com/example/wary_meter/warymeter/Column" "key" "Ljava/util/function/Function;").before a0 Z = true := hw _ (List.mem_of_getElem? (i := 94) rfl)
theorem d14_19 : decode prog_3_method_2_code 19 = .ok (.aload_n 0, 1) := by decide +kernel
theorem d14_20 : decode prog_3_method_2_code 20 = .ok (.aload 4, 2) := by decide +kernel
theorem sg14_19_2 : decs prog_3_method_2_code [(19, .aload_n 0, 1), (20, .aload 4, 2)] := ⟨d14_19, d14_20, trivial⟩
theorem d14_22 : decode prog_3_method_2_code 22 = .ok (.putfield 20, 3) := by decide +kernel
theorem own_w96 {Z : State} {a0 : Array Value} (hw : ∀ d ∈ tables_1, d.before a0 Z = true) : (Jvm.Cond.fieldLink "com/example/wary_meter/warymeter/Column" (20 : Nat) "com/example/wary_meter/warymeter/Column" "text" "Ljava/util/function/Function;").before a0 Z = true := hw _ (List.mem_of_getElem? (i := 96) rfl)
theorem d14_25 : decode prog_3_method_2_code 25 = .ok (.return_, 1) := by decide +kernel
theorem ef_rm14_0 (m : MethodId) (x0 : Addr) (x1 : Value) (hx1 : x1.isRef = true) : entryFrame m #[(.ref x0), x1, .null, .null, .null] 5 = mkF m 0 #[.val (.ref x0), .val x1, .val .null, .val .null, .val .null] [] := by rcases ref_cases hx1 with rfl | ⟨ax1, rfl⟩ <;> first | (simp [entryFrame, mkF, argsToLocals, Value.category]; done) | rfl
theorem own_pn7 : plainName "com/example/wary_meter/warymeter/Column" = true := by first | (simp [plainName, overriddenIn]; done) | decide +kernel
theorem own_w83 {Z : State} {a0 : Array Value} (hw : ∀ d ∈ tables_1, d.before a0 Z = true) : (Jvm.Cond.code ({ cls := "com/example/wary_meter/warymeter/Column", name := "<init>", desc := "(Ljava/lang/String;Ljava/util/function/Function;Ljava/util/function/Function;Ljava/util/function/Function;)V" } : Jvm.MethodName) prog_3_method_2_code (5 : Nat) (Option.none : Option Jvm.ClassFile.FieldType)).before a0 Z = true := hw _ (List.mem_of_getElem? (i := 83) rfl)
theorem own_pd7 : parseMethodDescriptor "(Ljava/lang/String;Ljava/util/function/Function;Ljava/util/function/Function;Ljava/util/function/Function;)V" = some ⟨[(.object "java/lang/String"), (.object "java/util/function/Function"), (.object "java/util/function/Function"), (.object "java/util/function/Function")], none⟩ := by decide +kernel
theorem own_w82 {Z : State} {a0 : Array Value} (hw : ∀ d ∈ tables_1, d.before a0 Z = true) : (Jvm.Cond.instanceMethod ({ cls := "com/example/wary_meter/warymeter/Column", name := "<init>", desc := "(Ljava/lang/String;Ljava/util/function/Function;Ljava/util/function/Function;Ljava/util/function/Function;)V" } : Jvm.MethodName)).before a0 Z = true := hw _ (List.mem_of_getElem? (i := 82) rfl)
theorem d13_8 : decode prog_3_method_1_code 8 = .ok (.return_, 1) := by decide +kernel
theorem ef_rm13_0 (m : MethodId) (x0 : Addr) (x1 : Value) (hx1 : x1.isRef = true) : entryFrame m #[(.ref x0), x1, .null] 3 = mkF m 0 #[.val (.ref x0), .val x1, .val .null] [] := by rcases ref_cases hx1 with rfl | ⟨ax1, rfl⟩ <;> first | (simp [entryFrame, mkF, argsToLocals, Value.category]; done) | rfl
theorem own_w80 {Z : State} {a0 : Array Value} (hw : ∀ d ∈ tables_1, d.before a0 Z = true) : (Jvm.Cond.code ({ cls := "com/example/wary_meter/warymeter/Column", name := "<init>", desc := "(Ljava/lang/String;Ljava/util/function/Function;)V" } : Jvm.MethodName) prog_3_method_1_code (3 : Nat) (Option.none : Option Jvm.ClassFile.FieldType)).before a0 Z = true := hw _ (List.mem_of_getElem? (i := 80) rfl)
theorem own_pd8 : parseMethodDescriptor "(Ljava/lang/String;Ljava/util/function/Function;)V" = some ⟨[(.object "java/lang/String"), (.object "java/util/function/Function")], none⟩ := by decide +kernel
theorem own_w79 {Z : State} {a0 : Array Value} (hw : ∀ d ∈ tables_1, d.before a0 Z = true) : (Jvm.Cond.instanceMethod ({ cls := "com/example/wary_meter/warymeter/Column", name := "<init>", desc := "(Ljava/lang/String;Ljava/util/function/Function;)V" } : Jvm.MethodName)).before a0 Z = true := hw _ (List.mem_of_getElem? (i := 79) rfl)
theorem own_w98 {Z : State} {a0 : Array Value} (hw : ∀ d ∈ tables_1, d.before a0 Z = true) : (Jvm.Cond.methodLink "com/example/wary_meter/warymeter/ColumnNamesPinLaw" (22 : Nat) ({ cls := "java/util/List", name := "add", desc := "(Ljava/lang/Object;)Z" } : Jvm.MethodName)).before a0 Z = true := hw _ (List.mem_of_getElem? (i := 98) rfl)
theorem d16_0 : decode jdk_38_method_25_code 0 = .ok (.aload_n 0, 1) := by decide +kernel
theorem d16_1 : decode jdk_38_method_25_code 1 = .ok (.dup, 1) := by decide +kernel
theorem sg16_0_2 : decs jdk_38_method_25_code [(0, .aload_n 0, 1), (1, .dup, 1)] := ⟨d16_0, d16_1, trivial⟩
theorem d16_2 : decode jdk_38_method_25_code 2 = .ok (.getfield 63, 3) := by decide +kernel
theorem own_w106 {Z : State} {a0 : Array Value} (hw : ∀ d ∈ tables_1, d.before a0 Z = true) : (Jvm.Cond.fieldLink "java/util/ArrayList" (63 : Nat) "java/util/ArrayList" "modCount" "I").before a0 Z = true := hw _ (List.mem_of_getElem? (i := 106) rfl)
theorem own_w107 {Z : State} {a0 : Array Value} (hw : ∀ d ∈ tables_1, d.before a0 Z = true) : (Jvm.Cond.sameField "java/util/ArrayList" "java/util/AbstractList" "modCount" "I").before a0 Z = true := hw _ (List.mem_of_getElem? (i := 107) rfl)
theorem d16_5 : decode jdk_38_method_25_code 5 = .ok (.iconst 1, 1) := by decide +kernel
theorem d16_6 : decode jdk_38_method_25_code 6 = .ok (.iadd, 1) := by decide +kernel
theorem sg16_5_2 : decs jdk_38_method_25_code [(5, .iconst 1, 1), (6, .iadd, 1)] := ⟨d16_5, d16_6, trivial⟩
theorem d16_7 : decode jdk_38_method_25_code 7 = .ok (.putfield 63, 3) := by decide +kernel
theorem d16_10 : decode jdk_38_method_25_code 10 = .ok (.aload_n 0, 1) := by decide +kernel
theorem d16_11 : decode jdk_38_method_25_code 11 = .ok (.aload_n 1, 1) := by decide +kernel
theorem d16_12 : decode jdk_38_method_25_code 12 = .ok (.aload_n 0, 1) := by decide +kernel
theorem sg16_10_3 : decs jdk_38_method_25_code [(10, .aload_n 0, 1), (11, .aload_n 1, 1), (12, .aload_n 0, 1)] := ⟨d16_10, d16_11, d16_12, trivial⟩
theorem d16_13 : decode jdk_38_method_25_code 13 = .ok (.getfield 9, 3) := by decide +kernel
theorem d16_16 : decode jdk_38_method_25_code 16 = .ok (.aload_n 0, 1) := by decide +kernel
theorem sg16_16_1 : decs jdk_38_method_25_code [(16, .aload_n 0, 1)] := ⟨d16_16, trivial⟩
theorem d16_17 : decode jdk_38_method_25_code 17 = .ok (.getfield 48, 3) := by decide +kernel
theorem own_w72 {Z : State} {a0 : Array Value} (hw : ∀ d ∈ tables_1, d.before a0 Z = true) : (Jvm.Cond.fieldLink "java/util/ArrayList" (48 : Nat) "java/util/ArrayList" "size" "I").before a0 Z = true := hw _ (List.mem_of_getElem? (i := 72) rfl)
theorem d16_20 : decode jdk_38_method_25_code 20 = .ok (.invokevirtual 131, 3) := by decide +kernel
theorem own_w108 {Z : State} {a0 : Array Value} (hw : ∀ d ∈ tables_1, d.before a0 Z = true) : (Jvm.Cond.methodLink "java/util/ArrayList" (131 : Nat) ({ cls := "java/util/ArrayList", name := "add", desc := "(Ljava/lang/Object;[Ljava/lang/Object;I)V" } : Jvm.MethodName)).before a0 Z = true := hw _ (List.mem_of_getElem? (i := 108) rfl)
theorem d17_0 : decode jdk_38_method_24_code 0 = .ok (.iload_n 3, 1) := by decide +kernel
theorem d17_1 : decode jdk_38_method_24_code 1 = .ok (.aload_n 2, 1) := by decide +kernel
theorem sg17_0_2 : decs jdk_38_method_24_code [(0, .iload_n 3, 1), (1, .aload_n 2, 1)] := ⟨d17_0, d17_1, trivial⟩
theorem d17_2 : decode jdk_38_method_24_code 2 = .ok (.arraylength, 1) := by decide +kernel
theorem d17_3 : decode jdk_38_method_24_code 3 = .ok (.if_icmp .ne 8, 3) := by decide +kernel
theorem d17_6 : decode jdk_38_method_24_code 6 = .ok (.aload_n 0, 1) := by decide +kernel
theorem sg17_6_1 : decs jdk_38_method_24_code [(6, .aload_n 0, 1)] := ⟨d17_6, trivial⟩
theorem d17_7 : decode jdk_38_method_24_code 7 = .ok (.invokevirtual 129, 3) := by decide +kernel
theorem own_w113 {Z : State} {a0 : Array Value} (hw : ∀ d ∈ tables_1, d.before a0 Z = true) : (Jvm.Cond.methodLink "java/util/ArrayList" (129 : Nat) ({ cls := "java/util/ArrayList", name := "grow", desc := "()[Ljava/lang/Object;" } : Jvm.MethodName)).before a0 Z = true := hw _ (List.mem_of_getElem? (i := 113) rfl)
theorem d18_0 : decode jdk_38_method_7_code 0 = .ok (.aload_n 0, 1) := by decide +kernel
theorem d18_1 : decode jdk_38_method_7_code 1 = .ok (.aload_n 0, 1) := by decide +kernel
theorem sg18_0_2 : decs jdk_38_method_7_code [(0, .aload_n 0, 1), (1, .aload_n 0, 1)] := ⟨d18_0, d18_1, trivial⟩
theorem d18_2 : decode jdk_38_method_7_code 2 = .ok (.getfield 48, 3) := by decide +kernel
theorem d18_5 : decode jdk_38_method_7_code 5 = .ok (.iconst 1, 1) := by decide +kernel
theorem d18_6 : decode jdk_38_method_7_code 6 = .ok (.iadd, 1) := by decide +kernel
theorem sg18_5_2 : decs jdk_38_method_7_code [(5, .iconst 1, 1), (6, .iadd, 1)] := ⟨d18_5, d18_6, trivial⟩
theorem d18_7 : decode jdk_38_method_7_code 7 = .ok (.invokevirtual 69, 3) := by decide +kernel
theorem own_w118 {Z : State} {a0 : Array Value} (hw : ∀ d ∈ tables_1, d.before a0 Z = true) : (Jvm.Cond.methodLink "java/util/ArrayList" (69 : Nat) ({ cls := "java/util/ArrayList", name := "grow", desc := "(I)[Ljava/lang/Object;" } : Jvm.MethodName)).before a0 Z = true := hw _ (List.mem_of_getElem? (i := 118) rfl)
theorem d19_0 : decode jdk_38_method_6_code 0 = .ok (.aload_n 0, 1) := by decide +kernel
theorem sg19_0_1 : decs jdk_38_method_6_code [(0, .aload_n 0, 1)] := ⟨d19_0, trivial⟩
theorem d19_1 : decode jdk_38_method_6_code 1 = .ok (.getfield 9, 3) := by decide +kernel
theorem d19_4 : decode jdk_38_method_6_code 4 = .ok (.arraylength, 1) := by decide +kernel
theorem d19_5 : decode jdk_38_method_6_code 5 = .ok (.istore_n 2, 1) := by decide +kernel
theorem d19_6 : decode jdk_38_method_6_code 6 = .ok (.iload_n 2, 1) := by decide +kernel
theorem sg19_5_2 : decs jdk_38_method_6_code [(5, .istore_n 2, 1), (6, .iload_n 2, 1)] := ⟨d19_5, d19_6, trivial⟩
theorem d19_7 : decode jdk_38_method_6_code 7 = .ok (.ifCond .gt 13, 3) := by decide +kernel
theorem d19_10 : decode jdk_38_method_6_code 10 = .ok (.aload_n 0, 1) := by decide +kernel
theorem sg19_10_1 : decs jdk_38_method_6_code [(10, .aload_n 0, 1)] := ⟨d19_10, trivial⟩
theorem d19_11 : decode jdk_38_method_6_code 11 = .ok (.getfield 9, 3) := by decide +kernel
theorem d19_14 : decode jdk_38_method_6_code 14 = .ok (.getstatic 39, 3) := by decide +kernel
theorem d19_17 : decode jdk_38_method_6_code 17 = .ok (.if_acmp .eq 28, 3) := by decide +kernel
theorem d19_45 : decode jdk_38_method_6_code 45 = .ok (.aload_n 0, 1) := by decide +kernel
theorem d19_46 : decode jdk_38_method_6_code 46 = .ok (.bipush 10, 2) := by decide +kernel
theorem d19_48 : decode jdk_38_method_6_code 48 = .ok (.iload_n 1, 1) := by decide +kernel
theorem sg19_45_3 : decs jdk_38_method_6_code [(45, .aload_n 0, 1), (46, .bipush 10, 2), (48, .iload_n 1, 1)] := ⟨d19_45, d19_46, d19_48, trivial⟩
theorem d19_49 : decode jdk_38_method_6_code 49 = .ok (.invokestatic 79, 3) := by decide +kernel
theorem own_w123 {Z : State} {a0 : Array Value} (hw : ∀ d ∈ tables_1, d.before a0 Z = true) : (Jvm.Cond.methodLink "java/util/ArrayList" (79 : Nat) ({ cls := "java/lang/Math", name := "max", desc := "(II)I" } : Jvm.MethodName)).before a0 Z = true := hw _ (List.mem_of_getElem? (i := 123) rfl)
theorem d20_0 : decode jdk_29_method_65_code 0 = .ok (.iload_n 0, 1) := by decide +kernel
theorem d20_1 : decode jdk_29_method_65_code 1 = .ok (.iload_n 1, 1) := by decide +kernel
theorem sg20_0_2 : decs jdk_29_method_65_code [(0, .iload_n 0, 1), (1, .iload_n 1, 1)] := ⟨d20_0, d20_1, trivial⟩
theorem d20_2 : decode jdk_29_method_65_code 2 = .ok (.if_icmp .lt 7, 3) := by decide +kernel
theorem d20_5 : decode jdk_29_method_65_code 5 = .ok (.iload_n 0, 1) := by decide +kernel
theorem d20_6 : decode jdk_29_method_65_code 6 = .ok (.goto 4, 3) := by decide +kernel
theorem sg20_5_2 : decs jdk_29_method_65_code [(5, .iload_n 0, 1), (6, .goto 4, 3)] := ⟨d20_5, d20_6, trivial⟩
theorem d20_10 : decode jdk_29_method_65_code 10 = .ok (.ireturn, 1) := by decide +kernel
theorem ef_rm20_0 (m : MethodId) (x0 : Int32) (x1 : Int32) : entryFrame m #[(.int x0), (.int x1)] 2 = mkF m 0 #[.val (.int x0), .val (.int x1)] [] := by first | (simp [entryFrame, mkF, argsToLocals, Value.category]; done) | rfl
theorem own_w126 {Z : State} {a0 : Array Value} (hw : ∀ d ∈ tables_1, d.before a0 Z = true) : (Jvm.Cond.code ({ cls := "java/lang/Math", name := "max", desc := "(II)I" } : Jvm.MethodName) jdk_29_method_65_code (2 : Nat) (Option.some Jvm.ClassFile.FieldType.int)).before a0 Z = true := hw _ (List.mem_of_getElem? (i := 126) rfl)
theorem own_w125 {Z : State} {a0 : Array Value} (hw : ∀ d ∈ tables_1, d.before a0 Z = true) : (Jvm.Cond.initialized "java/lang/Math").before a0 Z = true := hw _ (List.mem_of_getElem? (i := 125) rfl)
theorem own_pd9 : parseMethodDescriptor "(II)I" = some ⟨[.int, .int], some .int⟩ := by decide +kernel
theorem own_w124 {Z : State} {a0 : Array Value} (hw : ∀ d ∈ tables_1, d.before a0 Z = true) : (Jvm.Cond.static ({ cls := "java/lang/Math", name := "max", desc := "(II)I" } : Jvm.MethodName)).before a0 Z = true := hw _ (List.mem_of_getElem? (i := 124) rfl)
theorem d19_52 : decode jdk_38_method_6_code 52 = .ok (.anewarray 7, 3) := by decide +kernel
theorem own_w127 {Z : State} {a0 : Array Value} (hw : ∀ d ∈ tables_1, d.before a0 Z = true) : (Jvm.Cond.classLink "java/util/ArrayList" (7 : Nat) "java/lang/Object").before a0 Z = true := hw _ (List.mem_of_getElem? (i := 127) rfl)
theorem own_w128 {Z : State} {a0 : Array Value} (hw : ∀ d ∈ tables_1, d.before a0 Z = true) : (Jvm.Cond.arrayOver (Jvm.ClassFile.FieldType.object "java/lang/Object")).before a0 Z = true := hw _ (List.mem_of_getElem? (i := 128) rfl)
theorem d19_55 : decode jdk_38_method_6_code 55 = .ok (.dup_x1, 1) := by decide +kernel
theorem sg19_55_1 : decs jdk_38_method_6_code [(55, .dup_x1, 1)] := ⟨d19_55, trivial⟩
theorem d19_56 : decode jdk_38_method_6_code 56 = .ok (.putfield 9, 3) := by decide +kernel
theorem d19_59 : decode jdk_38_method_6_code 59 = .ok (.areturn, 1) := by decide +kernel
theorem ef_rm19_0 (m : MethodId) (x0 : Addr) (x1 : Int32) : entryFrame m #[(.ref x0), (.int x1)] 4 = mkF m 0 #[.val (.ref x0), .val (.int x1), .unset, .unset] [] := by first | (simp [entryFrame, mkF, argsToLocals, Value.category]; done) | rfl
theorem own_w122 {Z : State} {a0 : Array Value} (hw : ∀ d ∈ tables_1, d.before a0 Z = true) : (Jvm.Cond.code ({ cls := "java/util/ArrayList", name := "grow", desc := "(I)[Ljava/lang/Object;" } : Jvm.MethodName) jdk_38_method_6_code (4 : Nat) (Option.some (Jvm.ClassFile.FieldType.array (Jvm.ClassFile.FieldType.object "java/lang/Object")))).before a0 Z = true := hw _ (List.mem_of_getElem? (i := 122) rfl)
theorem own_pd10 : parseMethodDescriptor "(I)[Ljava/lang/Object;" = some ⟨[.int], some (.array (.object "java/lang/Object"))⟩ := by decide +kernel
theorem own_w121 {Z : State} {a0 : Array Value} (hw : ∀ d ∈ tables_1, d.before a0 Z = true) : (Jvm.Cond.selects "java/util/ArrayList" ({ cls := "java/util/ArrayList", name := "grow", desc := "(I)[Ljava/lang/Object;" } : Jvm.MethodName) ({ cls := "java/util/ArrayList", name := "grow", desc := "(I)[Ljava/lang/Object;" } : Jvm.MethodName)).before a0 Z = true := hw _ (List.mem_of_getElem? (i := 121) rfl)
theorem own_w119 {Z : State} {a0 : Array Value} (hw : ∀ d ∈ tables_1, d.before a0 Z = true) : (Jvm.Cond.instanceMethod ({ cls := "java/util/ArrayList", name := "grow", desc := "(I)[Ljava/lang/Object;" } : Jvm.MethodName)).before a0 Z = true := hw _ (List.mem_of_getElem? (i := 119) rfl)
theorem own_w120 {Z : State} {a0 : Array Value} (hw : ∀ d ∈ tables_1, d.before a0 Z = true) : (Jvm.Cond.privateMethod ({ cls := "java/util/ArrayList", name := "grow", desc := "(I)[Ljava/lang/Object;" } : Jvm.MethodName)).before a0 Z = true := hw _ (List.mem_of_getElem? (i := 120) rfl)
theorem d18_10 : decode jdk_38_method_7_code 10 = .ok (.areturn, 1) := by decide +kernel
theorem ef_rm18_0 (m : MethodId) (x0 : Addr) : entryFrame m #[(.ref x0)] 1 = mkF m 0 #[.val (.ref x0)] [] := by first | (simp [entryFrame, mkF, argsToLocals, Value.category]; done) | rfl
theorem own_w117 {Z : State} {a0 : Array Value} (hw : ∀ d ∈ tables_1, d.before a0 Z = true) : (Jvm.Cond.code ({ cls := "java/util/ArrayList", name := "grow", desc := "()[Ljava/lang/Object;" } : Jvm.MethodName) jdk_38_method_7_code (1 : Nat) (Option.some (Jvm.ClassFile.FieldType.array (Jvm.ClassFile.FieldType.object "java/lang/Object")))).before a0 Z = true := hw _ (List.mem_of_getElem? (i := 117) rfl)
theorem own_pd11 : parseMethodDescriptor "()[Ljava/lang/Object;" = some ⟨[], some (.array (.object "java/lang/Object"))⟩ := by decide +kernel
theorem own_w116 {Z : State} {a0 : Array Value} (hw : ∀ d ∈ tables_1, d.before a0 Z = true) : (Jvm.Cond.selects "java/util/ArrayList" ({ cls := "java/util/ArrayList", name := "grow", desc := "()[Ljava/lang/Object;" } : Jvm.MethodName) ({ cls := "java/util/ArrayList", name := "grow", desc := "()[Ljava/lang/Object;" } : Jvm.MethodName)).before a0 Z = true := hw _ (List.mem_of_getElem? (i := 116) rfl)
theorem own_w114 {Z : State} {a0 : Array Value} (hw : ∀ d ∈ tables_1, d.before a0 Z = true) : (Jvm.Cond.instanceMethod ({ cls := "java/util/ArrayList", name := "grow", desc := "()[Ljava/lang/Object;" } : Jvm.MethodName)).before a0 Z = true := hw _ (List.mem_of_getElem? (i := 114) rfl)
theorem own_w115 {Z : State} {a0 : Array Value} (hw : ∀ d ∈ tables_1, d.before a0 Z = true) : (Jvm.Cond.privateMethod ({ cls := "java/util/ArrayList", name := "grow", desc := "()[Ljava/lang/Object;" } : Jvm.MethodName)).before a0 Z = true := hw _ (List.mem_of_getElem? (i := 115) rfl)
theorem d17_10 : decode jdk_38_method_24_code 10 = .ok (.astore_n 2, 1) := by decide +kernel
theorem d17_11 : decode jdk_38_method_24_code 11 = .ok (.aload_n 2, 1) := by decide +kernel
theorem d17_12 : decode jdk_38_method_24_code 12 = .ok (.iload_n 3, 1) := by decide +kernel
theorem d17_13 : decode jdk_38_method_24_code 13 = .ok (.aload_n 1, 1) := by decide +kernel
theorem sg17_10_4 : decs jdk_38_method_24_code [(10, .astore_n 2, 1), (11, .aload_n 2, 1), (12, .iload_n 3, 1), (13, .aload_n 1, 1)] := ⟨d17_10, d17_11, d17_12, d17_13, trivial⟩
theorem d17_14 : decode jdk_38_method_24_code 14 = .ok (.aastore, 1) := by decide +kernel
theorem own_w129 {Z : State} {a0 : Array Value} (hw : ∀ d ∈ tables_1, d.before a0 Z = true) : (Jvm.Cond.castable "com/example/wary_meter/warymeter/Column" "java/lang/Object").before a0 Z = true := hw _ (List.mem_of_getElem? (i := 129) rfl)
theorem d17_15 : decode jdk_38_method_24_code 15 = .ok (.aload_n 0, 1) := by decide +kernel
theorem d17_16 : decode jdk_38_method_24_code 16 = .ok (.iload_n 3, 1) := by decide +kernel
theorem d17_17 : decode jdk_38_method_24_code 17 = .ok (.iconst 1, 1) := by decide +kernel
theorem d17_18 : decode jdk_38_method_24_code 18 = .ok (.iadd, 1) := by decide +kernel
theorem sg17_15_4 : decs jdk_38_method_24_code [(15, .aload_n 0, 1), (16, .iload_n 3, 1), (17, .iconst 1, 1), (18, .iadd, 1)] := ⟨d17_15, d17_16, d17_17, d17_18, trivial⟩
theorem d17_19 : decode jdk_38_method_24_code 19 = .ok (.putfield 48, 3) := by decide +kernel
theorem d17_22 : decode jdk_38_method_24_code 22 = .ok (.return_, 1) := by decide +kernel
theorem ef_rm17_0 (m : MethodId) (x0 : Addr) (x1 : Addr) (x2 : Addr) (x3 : Int32) : entryFrame m #[(.ref x0), (.ref x1), (.ref x2), (.int x3)] 4 = mkF m 0 #[.val (.ref x0), .val (.ref x1), .val (.ref x2), .val (.int x3)] [] := by first | (simp [entryFrame, mkF, argsToLocals, Value.category]; done) | rfl
theorem own_w112 {Z : State} {a0 : Array Value} (hw : ∀ d ∈ tables_1, d.before a0 Z = true) : (Jvm.Cond.code ({ cls := "java/util/ArrayList", name := "add", desc := "(Ljava/lang/Object;[Ljava/lang/Object;I)V" } : Jvm.MethodName) jdk_38_method_24_code (4 : Nat) (Option.none : Option Jvm.ClassFile.FieldType)).before a0 Z = true := hw _ (List.mem_of_getElem? (i := 112) rfl)
theorem own_pd12 : parseMethodDescriptor "(Ljava/lang/Object;[Ljava/lang/Object;I)V" = some ⟨[(.object "java/lang/Object"), (.array (.object "java/lang/Object")), .int], none⟩ := by decide +kernel
theorem own_w111 {Z : State} {a0 : Array Value} (hw : ∀ d ∈ tables_1, d.before a0 Z = true) : (Jvm.Cond.selects "java/util/ArrayList" ({ cls := "java/util/ArrayList", name := "add", desc := "(Ljava/lang/Object;[Ljava/lang/Object;I)V" } : Jvm.MethodName) ({ cls := "java/util/ArrayList", name := "add", desc := "(Ljava/lang/Object;[Ljava/lang/Object;I)V" } : Jvm.MethodName)).before a0 Z = true := hw _ (List.mem_of_getElem? (i := 111) rfl)
theorem own_w109 {Z : State} {a0 : Array Value} (hw : ∀ d ∈ tables_1, d.before a0 Z = true) : (Jvm.Cond.instanceMethod ({ cls := "java/util/ArrayList", name := "add", desc := "(Ljava/lang/Object;[Ljava/lang/Object;I)V" } : Jvm.MethodName)).before a0 Z = true := hw _ (List.mem_of_getElem? (i := 109) rfl)
theorem own_w110 {Z : State} {a0 : Array Value} (hw : ∀ d ∈ tables_1, d.before a0 Z = true) : (Jvm.Cond.privateMethod ({ cls := "java/util/ArrayList", name := "add", desc := "(Ljava/lang/Object;[Ljava/lang/Object;I)V" } : Jvm.MethodName)).before a0 Z = true := hw _ (List.mem_of_getElem? (i := 110) rfl)
theorem d16_23 : decode jdk_38_method_25_code 23 = .ok (.iconst 1, 1) := by decide +kernel
theorem sg16_23_1 : decs jdk_38_method_25_code [(23, .iconst 1, 1)] := ⟨d16_23, trivial⟩
theorem d16_24 : decode jdk_38_method_25_code 24 = .ok (.ireturn, 1) := by decide +kernel
theorem ef_rm16_0 (m : MethodId) (x0 : Addr) (x1 : Addr) : entryFrame m #[(.ref x0), (.ref x1)] 2 = mkF m 0 #[.val (.ref x0), .val (.ref x1)] [] := by first | (simp [entryFrame, mkF, argsToLocals, Value.category]; done) | rfl
theorem own_w105 {Z : State} {a0 : Array Value} (hw : ∀ d ∈ tables_1, d.before a0 Z = true) : (Jvm.Cond.code ({ cls := "java/util/ArrayList", name := "add", desc := "(Ljava/lang/Object;)Z" } : Jvm.MethodName) jdk_38_method_25_code (2 : Nat) (Option.some Jvm.ClassFile.FieldType.boolean)).before a0 Z = true := hw _ (List.mem_of_getElem? (i := 105) rfl)
theorem own_pd13 : parseMethodDescriptor "(Ljava/lang/Object;)Z" = some ⟨[(.object "java/lang/Object")], some .boolean⟩ := by decide +kernel
theorem own_w101 {Z : State} {a0 : Array Value} (hw : ∀ d ∈ tables_1, d.before a0 Z = true) : (Jvm.Cond.selects "java/util/ArrayList" ({ cls := "java/util/List", name := "add", desc := "(Ljava/lang/Object;)Z" } : Jvm.MethodName) ({ cls := "java/util/ArrayList", name := "add", desc := "(Ljava/lang/Object;)Z" } : Jvm.MethodName)).before a0 Z = true := hw _ (List.mem_of_getElem? (i := 101) rfl)
theorem own_w99 {Z : State} {a0 : Array Value} (hw : ∀ d ∈ tables_1, d.before a0 Z = true) : (Jvm.Cond.declares ({ cls := "java/util/List", name := "add", desc := "(Ljava/lang/Object;)Z" } : Jvm.MethodName)).before a0 Z = true := hw _ (List.mem_of_getElem? (i := 99) rfl)
theorem own_w100 {Z : State} {a0 : Array Value} (hw : ∀ d ∈ tables_1, d.before a0 Z = true) : (Jvm.Cond.interfaceMethod "java/util/List" "java/util/List" "add" "(Ljava/lang/Object;)Z").before a0 Z = true := hw _ (List.mem_of_getElem? (i := 100) rfl)
theorem own_w102 {Z : State} {a0 : Array Value} (hw : ∀ d ∈ tables_1, d.before a0 Z = true) : (Jvm.Cond.instanceMethod ({ cls := "java/util/ArrayList", name := "add", desc := "(Ljava/lang/Object;)Z" } : Jvm.MethodName)).before a0 Z = true := hw _ (List.mem_of_getElem? (i := 102) rfl)
theorem own_w103 {Z : State} {a0 : Array Value} (hw : ∀ d ∈ tables_1, d.before a0 Z = true) : (Jvm.Cond.publicMethod ({ cls := "java/util/ArrayList", name := "add", desc := "(Ljava/lang/Object;)Z" } : Jvm.MethodName)).before a0 Z = true := hw _ (List.mem_of_getElem? (i := 103) rfl)
theorem own_w104 {Z : State} {a0 : Array Value} (hw : ∀ d ∈ tables_1, d.before a0 Z = true) : (Jvm.Cond.unhidden "java/util/ArrayList" "add" "(Ljava/lang/Object;)Z").before a0 Z = true := hw _ (List.mem_of_getElem? (i := 104) rfl)
theorem own_w70 {Z : State} {a0 : Array Value} (hw : ∀ d ∈ tables_1, d.before a0 Z = true) : (Jvm.Cond.castable "java/util/ArrayList" "java/util/List").before a0 Z = true := hw _ (List.mem_of_getElem? (i := 70) rfl)
theorem sg0_57_1 : decs code [(57, .pop, 1)] := ⟨at_57, trivial⟩
theorem sg0_57_3 : decs code [(57, .pop, 1), (58, .iload 4, 2), (60, .iconst 1, 1)] := ⟨at_57, at_58, at_60, trivial⟩
theorem sg0_64_1 : decs code [(64, .aload 8, 2)] := ⟨at_64, trivial⟩
theorem sg0_69_1 : decs code [(69, .dup, 1)] := ⟨at_69, trivial⟩
theorem sg0_72_1 : decs code [(72, .aconst_null, 1)] := ⟨at_72, trivial⟩
theorem sg17_11_3 : decs jdk_38_method_24_code [(11, .aload_n 2, 1), (12, .iload_n 3, 1), (13, .aload_n 1, 1)] := ⟨d17_11, d17_12, d17_13, trivial⟩
theorem ef_rm17_1 (m : MethodId) (x0 : Addr) (x1 : Addr) (x2 : Addr) (x3 : Int32) : entryFrame m #[(.ref x0), (.ref x1), (.ref x2), (.int x3)] 4 = mkF m 0 #[.val (.ref x0), .val (.ref x1), .val (.ref x2), .val (.int x3)] [] := by first | (simp [entryFrame, mkF, argsToLocals, Value.category]; done) | rfl
theorem ef_rm16_1 (m : MethodId) (x0 : Addr) (x1 : Addr) : entryFrame m #[(.ref x0), (.ref x1)] 2 = mkF m 0 #[.val (.ref x0), .val (.ref x1)] [] := by first | (simp [entryFrame, mkF, argsToLocals, Value.category]; done) | rfl
theorem sg0_81_1 : decs code [(81, .pop, 1)] := ⟨at_81, trivial⟩
theorem sg0_81_3 : decs code [(81, .pop, 1), (82, .iload 4, 2), (84, .iconst 2, 1)] := ⟨at_81, at_82, at_84, trivial⟩
theorem sg0_88_1 : decs code [(88, .aload 8, 2)] := ⟨at_88, trivial⟩
theorem sg0_93_1 : decs code [(93, .dup, 1)] := ⟨at_93, trivial⟩
theorem sg0_96_1 : decs code [(96, .aconst_null, 1)] := ⟨at_96, trivial⟩
theorem ef_rm17_2 (m : MethodId) (x0 : Addr) (x1 : Addr) (x2 : Addr) (x3 : Int32) : entryFrame m #[(.ref x0), (.ref x1), (.ref x2), (.int x3)] 4 = mkF m 0 #[.val (.ref x0), .val (.ref x1), .val (.ref x2), .val (.int x3)] [] := by first | (simp [entryFrame, mkF, argsToLocals, Value.category]; done) | rfl
theorem ef_rm16_2 (m : MethodId) (x0 : Addr) (x1 : Addr) : entryFrame m #[(.ref x0), (.ref x1)] 2 = mkF m 0 #[.val (.ref x0), .val (.ref x1)] [] := by first | (simp [entryFrame, mkF, argsToLocals, Value.category]; done) | rfl
theorem sg0_105_1 : decs code [(105, .pop, 1)] := ⟨at_105, trivial⟩
theorem sg0_105_2 : decs code [(105, .pop, 1), (106, .aload 8, 2)] := ⟨at_105, at_106, trivial⟩
theorem own_w59 {Z : State} {a0 : Array Value} (hw : ∀ d ∈ tables_1, d.before a0 Z = true) : (Jvm.Cond.methodLink "com/example/wary_meter/warymeter/ColumnNamesPinLaw" (28 : Nat) ({ cls := "com/example/wary_meter/warymeter/Column", name := "names", desc := "(Ljava/util/List;)[Ljava/lang/String;" } : Jvm.MethodName)).before a0 Z = true := hw _ (List.mem_of_getElem? (i := 59) rfl)
theorem d11_0 : decode prog_3_method_4_code 0 = .ok (.aload_n 0, 1) := by decide +kernel
theorem sg11_0_1 : decs prog_3_method_4_code [(0, .aload_n 0, 1)] := ⟨d11_0, trivial⟩
theorem d11_1 : decode prog_3_method_4_code 1 = .ok (.invokeinterface 30 1, 5) := by decide +kernel
theorem own_w63 {Z : State} {a0 : Array Value} (hw : ∀ d ∈ tables_1, d.before a0 Z = true) : (Jvm.Cond.methodLink "com/example/wary_meter/warymeter/Column" (30 : Nat) ({ cls := "java/util/List", name := "size", desc := "()I" } : Jvm.MethodName)).before a0 Z = true := hw _ (List.mem_of_getElem? (i := 63) rfl)
theorem d12_0 : decode jdk_38_method_8_code 0 = .ok (.aload_n 0, 1) := by decide +kernel
theorem sg12_0_1 : decs jdk_38_method_8_code [(0, .aload_n 0, 1)] := ⟨d12_0, trivial⟩
theorem d12_1 : decode jdk_38_method_8_code 1 = .ok (.getfield 48, 3) := by decide +kernel
theorem d12_4 : decode jdk_38_method_8_code 4 = .ok (.ireturn, 1) := by decide +kernel
theorem ef_rm12_0 (m : MethodId) (x0 : Addr) : entryFrame m #[(.ref x0)] 1 = mkF m 0 #[.val (.ref x0)] [] := by first | (simp [entryFrame, mkF, argsToLocals, Value.category]; done) | rfl
theorem own_w71 {Z : State} {a0 : Array Value} (hw : ∀ d ∈ tables_1, d.before a0 Z = true) : (Jvm.Cond.code ({ cls := "java/util/ArrayList", name := "size", desc := "()I" } : Jvm.MethodName) jdk_38_method_8_code (1 : Nat) (Option.some Jvm.ClassFile.FieldType.int)).before a0 Z = true := hw _ (List.mem_of_getElem? (i := 71) rfl)
theorem own_pd14 : parseMethodDescriptor "()I" = some ⟨[], some .int⟩ := by decide +kernel
theorem own_w66 {Z : State} {a0 : Array Value} (hw : ∀ d ∈ tables_1, d.before a0 Z = true) : (Jvm.Cond.selects "java/util/ArrayList" ({ cls := "java/util/List", name := "size", desc := "()I" } : Jvm.MethodName) ({ cls := "java/util/ArrayList", name := "size", desc := "()I" } : Jvm.MethodName)).before a0 Z = true := hw _ (List.mem_of_getElem? (i := 66) rfl)
theorem own_w64 {Z : State} {a0 : Array Value} (hw : ∀ d ∈ tables_1, d.before a0 Z = true) : (Jvm.Cond.declares ({ cls := "java/util/List", name := "size", desc := "()I" } : Jvm.MethodName)).before a0 Z = true := hw _ (List.mem_of_getElem? (i := 64) rfl)
theorem own_w65 {Z : State} {a0 : Array Value} (hw : ∀ d ∈ tables_1, d.before a0 Z = true) : (Jvm.Cond.interfaceMethod "java/util/List" "java/util/List" "size" "()I").before a0 Z = true := hw _ (List.mem_of_getElem? (i := 65) rfl)
theorem own_w67 {Z : State} {a0 : Array Value} (hw : ∀ d ∈ tables_1, d.before a0 Z = true) : (Jvm.Cond.instanceMethod ({ cls := "java/util/ArrayList", name := "size", desc := "()I" } : Jvm.MethodName)).before a0 Z = true := hw _ (List.mem_of_getElem? (i := 67) rfl)
theorem own_w68 {Z : State} {a0 : Array Value} (hw : ∀ d ∈ tables_1, d.before a0 Z = true) : (Jvm.Cond.publicMethod ({ cls := "java/util/ArrayList", name := "size", desc := "()I" } : Jvm.MethodName)).before a0 Z = true := hw _ (List.mem_of_getElem? (i := 68) rfl)
theorem own_w69 {Z : State} {a0 : Array Value} (hw : ∀ d ∈ tables_1, d.before a0 Z = true) : (Jvm.Cond.unhidden "java/util/ArrayList" "size" "()I").before a0 Z = true := hw _ (List.mem_of_getElem? (i := 69) rfl)
theorem d11_6 : decode prog_3_method_4_code 6 = .ok (.anewarray 36, 3) := by decide +kernel
theorem own_w74 {Z : State} {a0 : Array Value} (hw : ∀ d ∈ tables_1, d.before a0 Z = true) : (Jvm.Cond.classLink "com/example/wary_meter/warymeter/Column" (36 : Nat) "java/lang/String").before a0 Z = true := hw _ (List.mem_of_getElem? (i := 74) rfl)
theorem own_w75 {Z : State} {a0 : Array Value} (hw : ∀ d ∈ tables_1, d.before a0 Z = true) : (Jvm.Cond.arrayOver (Jvm.ClassFile.FieldType.object "java/lang/String")).before a0 Z = true := hw _ (List.mem_of_getElem? (i := 75) rfl)
theorem d11_9 : decode prog_3_method_4_code 9 = .ok (.astore_n 1, 1) := by decide +kernel
theorem d11_10 : decode prog_3_method_4_code 10 = .ok (.iconst 0, 1) := by decide +kernel
theorem d11_11 : decode prog_3_method_4_code 11 = .ok (.istore_n 2, 1) := by decide +kernel
theorem d11_12 : decode prog_3_method_4_code 12 = .ok (.iload_n 2, 1) := by decide +kernel
theorem d11_13 : decode prog_3_method_4_code 13 = .ok (.aload_n 1, 1) := by decide +kernel
theorem sg11_9_5 : decs prog_3_method_4_code [(9, .astore_n 1, 1), (10, .iconst 0, 1), (11, .istore_n 2, 1), (12, .iload_n 2, 1), (13, .aload_n 1, 1)] := ⟨d11_9, d11_10, d11_11, d11_12, d11_13, trivial⟩
theorem d11_14 : decode prog_3_method_4_code 14 = .ok (.arraylength, 1) := by decide +kernel
theorem d11_15 : decode prog_3_method_4_code 15 = .ok (.if_icmp .ge 25, 3) := by decide +kernel
theorem d11_18 : decode prog_3_method_4_code 18 = .ok (.aload_n 1, 1) := by decide +kernel
theorem d11_19 : decode prog_3_method_4_code 19 = .ok (.iload_n 2, 1) := by decide +kernel
theorem d11_20 : decode prog_3_method_4_code 20 = .ok (.aload_n 0, 1) := by decide +kernel
theorem d11_21 : decode prog_3_method_4_code 21 = .ok (.iload_n 2, 1) := by decide +kernel
theorem sg11_18_4 : decs prog_3_method_4_code [(18, .aload_n 1, 1), (19, .iload_n 2, 1), (20, .aload_n 0, 1), (21, .iload_n 2, 1)] := ⟨d11_18, d11_19, d11_20, d11_21, trivial⟩
theorem d11_22 : decode prog_3_method_4_code 22 = .ok (.invokeinterface 38 2, 5) := by decide +kernel
theorem own_w130 {Z : State} {a0 : Array Value} (hw : ∀ d ∈ tables_1, d.before a0 Z = true) : (Jvm.Cond.methodLink "com/example/wary_meter/warymeter/Column" (38 : Nat) ({ cls := "java/util/List", name := "get", desc := "(I)Ljava/lang/Object;" } : Jvm.MethodName)).before a0 Z = true := hw _ (List.mem_of_getElem? (i := 130) rfl)
theorem d21_0 : decode jdk_38_method_20_code 0 = .ok (.iload_n 1, 1) := by decide +kernel
theorem d21_1 : decode jdk_38_method_20_code 1 = .ok (.aload_n 0, 1) := by decide +kernel
theorem sg21_0_2 : decs jdk_38_method_20_code [(0, .iload_n 1, 1), (1, .aload_n 0, 1)] := ⟨d21_0, d21_1, trivial⟩
theorem d21_2 : decode jdk_38_method_20_code 2 = .ok (.getfield 48, 3) := by decide +kernel
theorem d21_5 : decode jdk_38_method_20_code 5 = .ok (.invokestatic 118, 3) := by decide +kernel
theorem own_w138 {Z : State} {a0 : Array Value} (hw : ∀ d ∈ tables_1, d.before a0 Z = true) : (Jvm.Cond.methodLink "java/util/ArrayList" (118 : Nat) ({ cls := "java/util/Objects", name := "checkIndex", desc := "(II)I" } : Jvm.MethodName)).before a0 Z = true := hw _ (List.mem_of_getElem? (i := 138) rfl)
theorem d22_0 : decode jdk_31_method_17_code 0 = .ok (.iload_n 0, 1) := by decide +kernel
theorem d22_1 : decode jdk_31_method_17_code 1 = .ok (.iload_n 1, 1) := by decide +kernel
theorem d22_2 : decode jdk_31_method_17_code 2 = .ok (.aconst_null, 1) := by decide +kernel
theorem sg22_0_3 : decs jdk_31_method_17_code [(0, .iload_n 0, 1), (1, .iload_n 1, 1), (2, .aconst_null, 1)] := ⟨d22_0, d22_1, d22_2, trivial⟩
theorem d22_3 : decode jdk_31_method_17_code 3 = .ok (.invokestatic 105, 3) := by decide +kernel
theorem own_w142 {Z : State} {a0 : Array Value} (hw : ∀ d ∈ tables_1, d.before a0 Z = true) : (Jvm.Cond.methodLink "java/util/Objects" (105 : Nat) ({ cls := "jdk/internal/util/Preconditions", name := "checkIndex", desc := "(IILjava/util/function/BiFunction;)I" } : Jvm.MethodName)).before a0 Z = true := hw _ (List.mem_of_getElem? (i := 142) rfl)
theorem d23_0 : decode jdk_41_method_11_code 0 = .ok (.iload_n 0, 1) := by decide +kernel
theorem sg23_0_1 : decs jdk_41_method_11_code [(0, .iload_n 0, 1)] := ⟨d23_0, trivial⟩
theorem d23_1 : decode jdk_41_method_11_code 1 = .ok (.ifCond .lt 8, 3) := by decide +kernel
theorem d23_4 : decode jdk_41_method_11_code 4 = .ok (.iload_n 0, 1) := by decide +kernel
theorem d23_5 : decode jdk_41_method_11_code 5 = .ok (.iload_n 1, 1) := by decide +kernel
theorem sg23_4_2 : decs jdk_41_method_11_code [(4, .iload_n 0, 1), (5, .iload_n 1, 1)] := ⟨d23_4, d23_5, trivial⟩
theorem d23_6 : decode jdk_41_method_11_code 6 = .ok (.if_icmp .lt 10, 3) := by decide +kernel
theorem d23_16 : decode jdk_41_method_11_code 16 = .ok (.iload_n 0, 1) := by decide +kernel
theorem sg23_16_1 : decs jdk_41_method_11_code [(16, .iload_n 0, 1)] := ⟨d23_16, trivial⟩
theorem d23_17 : decode jdk_41_method_11_code 17 = .ok (.ireturn, 1) := by decide +kernel
theorem ef_rm23_0 (m : MethodId) (x0 : Int32) (x1 : Int32) : entryFrame m #[(.int x0), (.int x1), .null] 3 = mkF m 0 #[.val (.int x0), .val (.int x1), .val .null] [] := by first | (simp [entryFrame, mkF, argsToLocals, Value.category]; done) | rfl
theorem own_pn8 : plainName "jdk/internal/util/Preconditions" = true := by first | (simp [plainName, overriddenIn]; done) | decide +kernel
theorem own_w145 {Z : State} {a0 : Array Value} (hw : ∀ d ∈ tables_1, d.before a0 Z = true) : (Jvm.Cond.code ({ cls := "jdk/internal/util/Preconditions", name := "checkIndex", desc := "(IILjava/util/function/BiFunction;)I" } : Jvm.MethodName) jdk_41_method_11_code (3 : Nat) (Option.some Jvm.ClassFile.FieldType.int)).before a0 Z = true := hw _ (List.mem_of_getElem? (i := 145) rfl)
theorem own_w144 {Z : State} {a0 : Array Value} (hw : ∀ d ∈ tables_1, d.before a0 Z = true) : (Jvm.Cond.initialized "jdk/internal/util/Preconditions").before a0 Z = true := hw _ (List.mem_of_getElem? (i := 144) rfl)
theorem own_pd15 : parseMethodDescriptor "(IILjava/util/function/BiFunction;)I" = some ⟨[.int, .int, (.object "java/util/function/BiFunction")], some .int⟩ := by decide +kernel
theorem own_w143 {Z : State} {a0 : Array Value} (hw : ∀ d ∈ tables_1, d.before a0 Z = true) : (Jvm.Cond.static ({ cls := "jdk/internal/util/Preconditions", name := "checkIndex", desc := "(IILjava/util/function/BiFunction;)I" } : Jvm.MethodName)).before a0 Z = true := hw _ (List.mem_of_getElem? (i := 143) rfl)
theorem d22_6 : decode jdk_31_method_17_code 6 = .ok (.ireturn, 1) := by decide +kernel
theorem ef_rm22_0 (m : MethodId) (x0 : Int32) (x1 : Int32) : entryFrame m #[(.int x0), (.int x1)] 2 = mkF m 0 #[.val (.int x0), .val (.int x1)] [] := by first | (simp [entryFrame, mkF, argsToLocals, Value.category]; done) | rfl
theorem own_pn9 : plainName "java/util/Objects" = true := by first | (simp [plainName, overriddenIn]; done) | decide +kernel
theorem own_w141 {Z : State} {a0 : Array Value} (hw : ∀ d ∈ tables_1, d.before a0 Z = true) : (Jvm.Cond.code ({ cls := "java/util/Objects", name := "checkIndex", desc := "(II)I" } : Jvm.MethodName) jdk_31_method_17_code (2 : Nat) (Option.some Jvm.ClassFile.FieldType.int)).before a0 Z = true := hw _ (List.mem_of_getElem? (i := 141) rfl)
theorem own_w140 {Z : State} {a0 : Array Value} (hw : ∀ d ∈ tables_1, d.before a0 Z = true) : (Jvm.Cond.initialized "java/util/Objects").before a0 Z = true := hw _ (List.mem_of_getElem? (i := 140) rfl)
theorem own_w139 {Z : State} {a0 : Array Value} (hw : ∀ d ∈ tables_1, d.before a0 Z = true) : (Jvm.Cond.static ({ cls := "java/util/Objects", name := "checkIndex", desc := "(II)I" } : Jvm.MethodName)).before a0 Z = true := hw _ (List.mem_of_getElem? (i := 139) rfl)
theorem d21_8 : decode jdk_38_method_20_code 8 = .ok (.pop, 1) := by decide +kernel
theorem d21_9 : decode jdk_38_method_20_code 9 = .ok (.aload_n 0, 1) := by decide +kernel
theorem d21_10 : decode jdk_38_method_20_code 10 = .ok (.iload_n 1, 1) := by decide +kernel
theorem sg21_8_3 : decs jdk_38_method_20_code [(8, .pop, 1), (9, .aload_n 0, 1), (10, .iload_n 1, 1)] := ⟨d21_8, d21_9, d21_10, trivial⟩
theorem d21_11 : decode jdk_38_method_20_code 11 = .ok (.invokevirtual 123, 3) := by decide +kernel
theorem own_w146 {Z : State} {a0 : Array Value} (hw : ∀ d ∈ tables_1, d.before a0 Z = true) : (Jvm.Cond.methodLink "java/util/ArrayList" (123 : Nat) ({ cls := "java/util/ArrayList", name := "elementData", desc := "(I)Ljava/lang/Object;" } : Jvm.MethodName)).before a0 Z = true := hw _ (List.mem_of_getElem? (i := 146) rfl)
theorem d24_0 : decode jdk_38_method_18_code 0 = .ok (.aload_n 0, 1) := by decide +kernel
theorem sg24_0_1 : decs jdk_38_method_18_code [(0, .aload_n 0, 1)] := ⟨d24_0, trivial⟩
theorem d24_1 : decode jdk_38_method_18_code 1 = .ok (.getfield 9, 3) := by decide +kernel
theorem d24_4 : decode jdk_38_method_18_code 4 = .ok (.iload_n 1, 1) := by decide +kernel
theorem sg24_4_1 : decs jdk_38_method_18_code [(4, .iload_n 1, 1)] := ⟨d24_4, trivial⟩
theorem d24_5 : decode jdk_38_method_18_code 5 = .ok (.aaload, 1) := by decide +kernel
theorem d24_6 : decode jdk_38_method_18_code 6 = .ok (.areturn, 1) := by decide +kernel
theorem ef_rm24_0 (m : MethodId) (x0 : Addr) (x1 : Int32) : entryFrame m #[(.ref x0), (.int x1)] 2 = mkF m 0 #[.val (.ref x0), .val (.int x1)] [] := by first | (simp [entryFrame, mkF, argsToLocals, Value.category]; done) | rfl
theorem own_w150 {Z : State} {a0 : Array Value} (hw : ∀ d ∈ tables_1, d.before a0 Z = true) : (Jvm.Cond.code ({ cls := "java/util/ArrayList", name := "elementData", desc := "(I)Ljava/lang/Object;" } : Jvm.MethodName) jdk_38_method_18_code (2 : Nat) (Option.some (Jvm.ClassFile.FieldType.object "java/lang/Object"))).before a0 Z = true := hw _ (List.mem_of_getElem? (i := 150) rfl)
theorem own_pd16 : parseMethodDescriptor "(I)Ljava/lang/Object;" = some ⟨[.int], some (.object "java/lang/Object")⟩ := by decide +kernel
theorem own_w149 {Z : State} {a0 : Array Value} (hw : ∀ d ∈ tables_1, d.before a0 Z = true) : (Jvm.Cond.selects "java/util/ArrayList" ({ cls := "java/util/ArrayList", name := "elementData", desc := "(I)Ljava/lang/Object;" } : Jvm.MethodName) ({ cls := "java/util/ArrayList", name := "elementData", desc := "(I)Ljava/lang/Object;" } : Jvm.MethodName)).before a0 Z = true := hw _ (List.mem_of_getElem? (i := 149) rfl)
theorem own_w147 {Z : State} {a0 : Array Value} (hw : ∀ d ∈ tables_1, d.before a0 Z = true) : (Jvm.Cond.declares ({ cls := "java/util/ArrayList", name := "elementData", desc := "(I)Ljava/lang/Object;" } : Jvm.MethodName)).before a0 Z = true := hw _ (List.mem_of_getElem? (i := 147) rfl)
theorem own_w148 {Z : State} {a0 : Array Value} (hw : ∀ d ∈ tables_1, d.before a0 Z = true) : (Jvm.Cond.instanceMethod ({ cls := "java/util/ArrayList", name := "elementData", desc := "(I)Ljava/lang/Object;" } : Jvm.MethodName)).before a0 Z = true := hw _ (List.mem_of_getElem? (i := 148) rfl)
theorem d21_14 : decode jdk_38_method_20_code 14 = .ok (.areturn, 1) := by decide +kernel
theorem ef_rm21_0 (m : MethodId) (x0 : Addr) (x1 : Int32) : entryFrame m #[(.ref x0), (.int x1)] 2 = mkF m 0 #[.val (.ref x0), .val (.int x1)] [] := by first | (simp [entryFrame, mkF, argsToLocals, Value.category]; done) | rfl
theorem own_w137 {Z : State} {a0 : Array Value} (hw : ∀ d ∈ tables_1, d.before a0 Z = true) : (Jvm.Cond.code ({ cls := "java/util/ArrayList", name := "get", desc := "(I)Ljava/lang/Object;" } : Jvm.MethodName) jdk_38_method_20_code (2 : Nat) (Option.some (Jvm.ClassFile.FieldType.object "java/lang/Object"))).before a0 Z = true := hw _ (List.mem_of_getElem? (i := 137) rfl)
theorem own_w133 {Z : State} {a0 : Array Value} (hw : ∀ d ∈ tables_1, d.before a0 Z = true) : (Jvm.Cond.selects "java/util/ArrayList" ({ cls := "java/util/List", name := "get", desc := "(I)Ljava/lang/Object;" } : Jvm.MethodName) ({ cls := "java/util/ArrayList", name := "get", desc := "(I)Ljava/lang/Object;" } : Jvm.MethodName)).before a0 Z = true := hw _ (List.mem_of_getElem? (i := 133) rfl)
theorem own_w131 {Z : State} {a0 : Array Value} (hw : ∀ d ∈ tables_1, d.before a0 Z = true) : (Jvm.Cond.declares ({ cls := "java/util/List", name := "get", desc := "(I)Ljava/lang/Object;" } : Jvm.MethodName)).before a0 Z = true := hw _ (List.mem_of_getElem? (i := 131) rfl)
theorem own_w132 {Z : State} {a0 : Array Value} (hw : ∀ d ∈ tables_1, d.before a0 Z = true) : (Jvm.Cond.interfaceMethod "java/util/List" "java/util/List" "get" "(I)Ljava/lang/Object;").before a0 Z = true := hw _ (List.mem_of_getElem? (i := 132) rfl)
theorem own_w134 {Z : State} {a0 : Array Value} (hw : ∀ d ∈ tables_1, d.before a0 Z = true) : (Jvm.Cond.instanceMethod ({ cls := "java/util/ArrayList", name := "get", desc := "(I)Ljava/lang/Object;" } : Jvm.MethodName)).before a0 Z = true := hw _ (List.mem_of_getElem? (i := 134) rfl)
theorem own_w135 {Z : State} {a0 : Array Value} (hw : ∀ d ∈ tables_1, d.before a0 Z = true) : (Jvm.Cond.publicMethod ({ cls := "java/util/ArrayList", name := "get", desc := "(I)Ljava/lang/Object;" } : Jvm.MethodName)).before a0 Z = true := hw _ (List.mem_of_getElem? (i := 135) rfl)
theorem own_w136 {Z : State} {a0 : Array Value} (hw : ∀ d ∈ tables_1, d.before a0 Z = true) : (Jvm.Cond.unhidden "java/util/ArrayList" "get" "(I)Ljava/lang/Object;").before a0 Z = true := hw _ (List.mem_of_getElem? (i := 136) rfl)
theorem d11_27 : decode prog_3_method_4_code 27 = .ok (.checkcast 8, 3) := by decide +kernel
theorem own_w151 {Z : State} {a0 : Array Value} (hw : ∀ d ∈ tables_1, d.before a0 Z = true) : (Jvm.Cond.classLink "com/example/wary_meter/warymeter/Column" (8 : Nat) "com/example/wary_meter/warymeter/Column").before a0 Z = true := hw _ (List.mem_of_getElem? (i := 151) rfl)
theorem d11_30 : decode prog_3_method_4_code 30 = .ok (.invokevirtual 42, 3) := by decide +kernel
theorem own_w153 {Z : State} {a0 : Array Value} (hw : ∀ d ∈ tables_1, d.before a0 Z = true) : (Jvm.Cond.methodLink "com/example/wary_meter/warymeter/Column" (42 : Nat) ({ cls := "com/example/wary_meter/warymeter/Column", name := "name", desc := "()Ljava/lang/String;" } : Jvm.MethodName)).before a0 Z = true := hw _ (List.mem_of_getElem? (i := 153) rfl)
theorem d25_0 : decode prog_3_method_10_code 0 = .ok (.aload_n 0, 1) := by decide +kernel
theorem sg25_0_1 : decs prog_3_method_10_code [(0, .aload_n 0, 1)] := ⟨d25_0, trivial⟩
theorem d25_1 : decode prog_3_method_10_code 1 = .ok (.getfield 7, 3) := by decide +kernel
theorem d25_4 : decode prog_3_method_10_code 4 = .ok (.areturn, 1) := by decide +kernel
theorem ef_rm25_0 (m : MethodId) (x0 : Addr) : entryFrame m #[(.ref x0)] 1 = mkF m 0 #[.val (.ref x0)] [] := by first | (simp [entryFrame, mkF, argsToLocals, Value.category]; done) | rfl
theorem own_w157 {Z : State} {a0 : Array Value} (hw : ∀ d ∈ tables_1, d.before a0 Z = true) : (Jvm.Cond.code ({ cls := "com/example/wary_meter/warymeter/Column", name := "name", desc := "()Ljava/lang/String;" } : Jvm.MethodName) prog_3_method_10_code (1 : Nat) (Option.some (Jvm.ClassFile.FieldType.object "java/lang/String"))).before a0 Z = true := hw _ (List.mem_of_getElem? (i := 157) rfl)
theorem own_pd17 : parseMethodDescriptor "()Ljava/lang/String;" = some ⟨[], some (.object "java/lang/String")⟩ := by decide +kernel
theorem own_w156 {Z : State} {a0 : Array Value} (hw : ∀ d ∈ tables_1, d.before a0 Z = true) : (Jvm.Cond.selects "com/example/wary_meter/warymeter/Column" ({ cls := "com/example/wary_meter/warymeter/Column", name := "name", desc := "()Ljava/lang/String;" } : Jvm.MethodName) ({ cls := "com/example/wary_meter/warymeter/Column", name := "name", desc := "()Ljava/lang/String;" } : Jvm.MethodName)).before a0 Z = true := hw _ (List.mem_of_getElem? (i := 156) rfl)
theorem own_w154 {Z : State} {a0 : Array Value} (hw : ∀ d ∈ tables_1, d.before a0 Z = true) : (Jvm.Cond.declares ({ cls := "com/example/wary_meter/warymeter/Column", name := "name", desc := "()Ljava/lang/String;" } : Jvm.MethodName)).before a0 Z = true := hw _ (List.mem_of_getElem? (i := 154) rfl)
theorem own_w155 {Z : State} {a0 : Array Value} (hw : ∀ d ∈ tables_1, d.before a0 Z = true) : (Jvm.Cond.instanceMethod ({ cls := "com/example/wary_meter/warymeter/Column", name := "name", desc := "()Ljava/lang/String;" } : Jvm.MethodName)).before a0 Z = true := hw _ (List.mem_of_getElem? (i := 155) rfl)
theorem d11_33 : decode prog_3_method_4_code 33 = .ok (.aastore, 1) := by decide +kernel
theorem d11_34 : decode prog_3_method_4_code 34 = .ok (.iinc 2 1, 3) := by decide +kernel
theorem d11_37 : decode prog_3_method_4_code 37 = .ok (.goto (-25), 3) := by decide +kernel
theorem sg11_34_4 : decs prog_3_method_4_code [(34, .iinc 2 1, 3), (37, .goto (-25), 3), (12, .iload_n 2, 1), (13, .aload_n 1, 1)] := ⟨d11_34, d11_37, d11_12, d11_13, trivial⟩
theorem ef_rm23_1 (m : MethodId) (x0 : Int32) (x1 : Int32) : entryFrame m #[(.int x0), (.int x1), .null] 3 = mkF m 0 #[.val (.int x0), .val (.int x1), .val .null] [] := by first | (simp [entryFrame, mkF, argsToLocals, Value.category]; done) | rfl
theorem ef_rm22_1 (m : MethodId) (x0 : Int32) (x1 : Int32) : entryFrame m #[(.int x0), (.int x1)] 2 = mkF m 0 #[.val (.int x0), .val (.int x1)] [] := by first | (simp [entryFrame, mkF, argsToLocals, Value.category]; done) | rfl
theorem ef_rm24_1 (m : MethodId) (x0 : Addr) (x1 : Int32) : entryFrame m #[(.ref x0), (.int x1)] 2 = mkF m 0 #[.val (.ref x0), .val (.int x1)] [] := by first | (simp [entryFrame, mkF, argsToLocals, Value.category]; done) | rfl
theorem ef_rm21_1 (m : MethodId) (x0 : Addr) (x1 : Int32) : entryFrame m #[(.ref x0), (.int x1)] 2 = mkF m 0 #[.val (.ref x0), .val (.int x1)] [] := by first | (simp [entryFrame, mkF, argsToLocals, Value.category]; done) | rfl
theorem ef_rm23_2 (m : MethodId) (x0 : Int32) (x1 : Int32) : entryFrame m #[(.int x0), (.int x1), .null] 3 = mkF m 0 #[.val (.int x0), .val (.int x1), .val .null] [] := by first | (simp [entryFrame, mkF, argsToLocals, Value.category]; done) | rfl
theorem ef_rm22_2 (m : MethodId) (x0 : Int32) (x1 : Int32) : entryFrame m #[(.int x0), (.int x1)] 2 = mkF m 0 #[.val (.int x0), .val (.int x1)] [] := by first | (simp [entryFrame, mkF, argsToLocals, Value.category]; done) | rfl
theorem ef_rm24_2 (m : MethodId) (x0 : Addr) (x1 : Int32) : entryFrame m #[(.ref x0), (.int x1)] 2 = mkF m 0 #[.val (.ref x0), .val (.int x1)] [] := by first | (simp [entryFrame, mkF, argsToLocals, Value.category]; done) | rfl
theorem ef_rm21_2 (m : MethodId) (x0 : Addr) (x1 : Int32) : entryFrame m #[(.ref x0), (.int x1)] 2 = mkF m 0 #[.val (.ref x0), .val (.int x1)] [] := by first | (simp [entryFrame, mkF, argsToLocals, Value.category]; done) | rfl
theorem d11_40 : decode prog_3_method_4_code 40 = .ok (.aload_n 1, 1) := by decide +kernel
theorem sg11_40_1 : decs prog_3_method_4_code [(40, .aload_n 1, 1)] := ⟨d11_40, trivial⟩
theorem d11_41 : decode prog_3_method_4_code 41 = .ok (.areturn, 1) := by decide +kernel
theorem ef_rm11_0 (m : MethodId) (x0 : Addr) : entryFrame m #[(.ref x0)] 3 = mkF m 0 #[.val (.ref x0), .unset, .unset] [] := by first | (simp [entryFrame, mkF, argsToLocals, Value.category]; done) | rfl
theorem own_w62 {Z : State} {a0 : Array Value} (hw : ∀ d ∈ tables_1, d.before a0 Z = true) : (Jvm.Cond.code ({ cls := "com/example/wary_meter/warymeter/Column", name := "names", desc := "(Ljava/util/List;)[Ljava/lang/String;" } : Jvm.MethodName) prog_3_method_4_code (3 : Nat) (Option.some (Jvm.ClassFile.FieldType.array (Jvm.ClassFile.FieldType.object "java/lang/String")))).before a0 Z = true := hw _ (List.mem_of_getElem? (i := 62) rfl)
theorem own_pd18 : parseMethodDescriptor "(Ljava/util/List;)[Ljava/lang/String;" = some ⟨[(.object "java/util/List")], some (.array (.object "java/lang/String"))⟩ := by decide +kernel
theorem own_w60 {Z : State} {a0 : Array Value} (hw : ∀ d ∈ tables_1, d.before a0 Z = true) : (Jvm.Cond.static ({ cls := "com/example/wary_meter/warymeter/Column", name := "names", desc := "(Ljava/util/List;)[Ljava/lang/String;" } : Jvm.MethodName)).before a0 Z = true := hw _ (List.mem_of_getElem? (i := 60) rfl)
theorem sg0_111_2 : decs code [(111, .astore 9, 2), (113, .aload 9, 2)] := ⟨at_111, at_113, trivial⟩
theorem sg0_118_1 : decs code [(118, .aload 9, 2)] := ⟨at_118, trivial⟩
theorem sg0_121_1 : decs code [(121, .iload 4, 2)] := ⟨at_121, trivial⟩
theorem sg0_128_1 : decs code [(128, .iload 4, 2)] := ⟨at_128, trivial⟩
theorem sg0_133_2 : decs code [(133, .aload 9, 2), (135, .iconst 0, 1)] := ⟨at_133, at_135, trivial⟩
theorem own_w158 {Z : State} {a0 : Array Value} (hw : ∀ d ∈ tables_1, d.before a0 Z = true) : (Jvm.Cond.methodLink "com/example/wary_meter/warymeter/ColumnNamesPinLaw" (32 : Nat) ({ cls := "com/example/wary_meter/warymeter/ColumnNamesPinLaw", name := "same", desc := "(Ljava/lang/String;Ljava/lang/String;)Z" } : Jvm.MethodName)).before a0 Z = true := hw _ (List.mem_of_getElem? (i := 158) rfl)
theorem d26_0 : decode method_4_code 0 = .ok (.aload_n 0, 1) := by decide +kernel
theorem d26_1 : decode method_4_code 1 = .ok (.ifnonnull 13, 3) := by decide +kernel
theorem d26_4 : decode method_4_code 4 = .ok (.aload_n 1, 1) := by decide +kernel
theorem sg26_4_1 : decs method_4_code [(4, .aload_n 1, 1)] := ⟨d26_4, trivial⟩
theorem d26_5 : decode method_4_code 5 = .ok (.ifnonnull 7, 3) := by decide +kernel
theorem d26_8 : decode method_4_code 8 = .ok (.iconst 1, 1) := by decide +kernel
theorem d26_9 : decode method_4_code 9 = .ok (.goto 4, 3) := by decide +kernel
theorem sg26_8_2 : decs method_4_code [(8, .iconst 1, 1), (9, .goto 4, 3)] := ⟨d26_8, d26_9, trivial⟩
theorem d26_13 : decode method_4_code 13 = .ok (.ireturn, 1) := by decide +kernel
theorem d26_14 : decode method_4_code 14 = .ok (.aload_n 0, 1) := by decide +kernel
theorem d26_15 : decode method_4_code 15 = .ok (.aload_n 1, 1) := by decide +kernel
theorem sg26_14_2 : decs method_4_code [(14, .aload_n 0, 1), (15, .aload_n 1, 1)] := ⟨d26_14, d26_15, trivial⟩
theorem d26_16 : decode method_4_code 16 = .ok (.invokevirtual 41, 3) := by decide +kernel
theorem own_w161 {Z : State} {a0 : Array Value} (hw : ∀ d ∈ tables_1, d.before a0 Z = true) : (Jvm.Cond.methodLink "com/example/wary_meter/warymeter/ColumnNamesPinLaw" (41 : Nat) ({ cls := "java/lang/String", name := "equals", desc := "(Ljava/lang/Object;)Z" } : Jvm.MethodName)).before a0 Z = true := hw _ (List.mem_of_getElem? (i := 161) rfl)
theorem d27_0 : decode jdk_42_method_66_code 0 = .ok (.aload_n 0, 1) := by decide +kernel
theorem d27_1 : decode jdk_42_method_66_code 1 = .ok (.aload_n 1, 1) := by decide +kernel
theorem sg27_0_2 : decs jdk_42_method_66_code [(0, .aload_n 0, 1), (1, .aload_n 1, 1)] := ⟨d27_0, d27_1, trivial⟩
theorem d27_2 : decode jdk_42_method_66_code 2 = .ok (.if_acmp .ne 5, 3) := by decide +kernel
theorem d27_5 : decode jdk_42_method_66_code 5 = .ok (.iconst 1, 1) := by decide +kernel
theorem sg27_5_1 : decs jdk_42_method_66_code [(5, .iconst 1, 1)] := ⟨d27_5, trivial⟩
theorem d27_6 : decode jdk_42_method_66_code 6 = .ok (.ireturn, 1) := by decide +kernel
theorem ef_rm27_0 (m : MethodId) (x0 : Addr) : entryFrame m #[(.ref x0), (.ref x0)] 3 = mkF m 0 #[.val (.ref x0), .val (.ref x0), .unset] [] := by first | (simp [entryFrame, mkF, argsToLocals, Value.category]; done) | rfl
theorem own_w165 {Z : State} {a0 : Array Value} (hw : ∀ d ∈ tables_1, d.before a0 Z = true) : (Jvm.Cond.code ({ cls := "java/lang/String", name := "equals", desc := "(Ljava/lang/Object;)Z" } : Jvm.MethodName) jdk_42_method_66_code (3 : Nat) (Option.some Jvm.ClassFile.FieldType.boolean)).before a0 Z = true := hw _ (List.mem_of_getElem? (i := 165) rfl)
theorem own_w164 {Z : State} {a0 : Array Value} (hw : ∀ d ∈ tables_1, d.before a0 Z = true) : (Jvm.Cond.selects "java/lang/String" ({ cls := "java/lang/String", name := "equals", desc := "(Ljava/lang/Object;)Z" } : Jvm.MethodName) ({ cls := "java/lang/String", name := "equals", desc := "(Ljava/lang/Object;)Z" } : Jvm.MethodName)).before a0 Z = true := hw _ (List.mem_of_getElem? (i := 164) rfl)
theorem own_w162 {Z : State} {a0 : Array Value} (hw : ∀ d ∈ tables_1, d.before a0 Z = true) : (Jvm.Cond.declares ({ cls := "java/lang/String", name := "equals", desc := "(Ljava/lang/Object;)Z" } : Jvm.MethodName)).before a0 Z = true := hw _ (List.mem_of_getElem? (i := 162) rfl)
theorem own_w163 {Z : State} {a0 : Array Value} (hw : ∀ d ∈ tables_1, d.before a0 Z = true) : (Jvm.Cond.instanceMethod ({ cls := "java/lang/String", name := "equals", desc := "(Ljava/lang/Object;)Z" } : Jvm.MethodName)).before a0 Z = true := hw _ (List.mem_of_getElem? (i := 163) rfl)
theorem d26_19 : decode method_4_code 19 = .ok (.ireturn, 1) := by decide +kernel
theorem ef_rm26_0 (m : MethodId) (x0 : Value) (hx0 : x0.isRef = true) : entryFrame m #[x0, x0] 2 = mkF m 0 #[.val x0, .val x0] [] := by rcases ref_cases hx0 with rfl | ⟨ax0, rfl⟩ <;> first | (simp [entryFrame, mkF, argsToLocals, Value.category]; done) | rfl
theorem own_w160 {Z : State} {a0 : Array Value} (hw : ∀ d ∈ tables_1, d.before a0 Z = true) : (Jvm.Cond.code ({ cls := "com/example/wary_meter/warymeter/ColumnNamesPinLaw", name := "same", desc := "(Ljava/lang/String;Ljava/lang/String;)Z" } : Jvm.MethodName) method_4_code (2 : Nat) (Option.some Jvm.ClassFile.FieldType.boolean)).before a0 Z = true := hw _ (List.mem_of_getElem? (i := 160) rfl)
theorem own_pd19 : parseMethodDescriptor "(Ljava/lang/String;Ljava/lang/String;)Z" = some ⟨[(.object "java/lang/String"), (.object "java/lang/String")], some .boolean⟩ := by decide +kernel
theorem own_w159 {Z : State} {a0 : Array Value} (hw : ∀ d ∈ tables_1, d.before a0 Z = true) : (Jvm.Cond.static ({ cls := "com/example/wary_meter/warymeter/ColumnNamesPinLaw", name := "same", desc := "(Ljava/lang/String;Ljava/lang/String;)Z" } : Jvm.MethodName)).before a0 Z = true := hw _ (List.mem_of_getElem? (i := 159) rfl)
theorem sg0_147_2 : decs code [(147, .iload 4, 2), (149, .iconst 1, 1)] := ⟨at_147, at_149, trivial⟩
theorem sg0_153_2 : decs code [(153, .aload 9, 2), (155, .iconst 1, 1)] := ⟨at_153, at_155, trivial⟩
theorem sg0_167_2 : decs code [(167, .iload 4, 2), (169, .iconst 2, 1)] := ⟨at_167, at_169, trivial⟩
theorem sg0_173_2 : decs code [(173, .aload 9, 2), (175, .iconst 2, 1)] := ⟨at_173, at_175, trivial⟩
theorem sg0_187_1 : decs code [(187, .iconst 1, 1)] := ⟨at_187, trivial⟩
theorem sg0_106_1 : decs code [(106, .aload 8, 2)] := ⟨at_106, trivial⟩
theorem ef_rm12_1 (m : MethodId) (x0 : Addr) : entryFrame m #[(.ref x0)] 1 = mkF m 0 #[.val (.ref x0)] [] := by first | (simp [entryFrame, mkF, argsToLocals, Value.category]; done) | rfl
theorem ef_rm23_3 (m : MethodId) (x0 : Int32) (x1 : Int32) : entryFrame m #[(.int x0), (.int x1), .null] 3 = mkF m 0 #[.val (.int x0), .val (.int x1), .val .null] [] := by first | (simp [entryFrame, mkF, argsToLocals, Value.category]; done) | rfl
theorem ef_rm22_3 (m : MethodId) (x0 : Int32) (x1 : Int32) : entryFrame m #[(.int x0), (.int x1)] 2 = mkF m 0 #[.val (.int x0), .val (.int x1)] [] := by first | (simp [entryFrame, mkF, argsToLocals, Value.category]; done) | rfl
theorem ef_rm24_3 (m : MethodId) (x0 : Addr) (x1 : Int32) : entryFrame m #[(.ref x0), (.int x1)] 2 = mkF m 0 #[.val (.ref x0), .val (.int x1)] [] := by first | (simp [entryFrame, mkF, argsToLocals, Value.category]; done) | rfl
theorem ef_rm21_3 (m : MethodId) (x0 : Addr) (x1 : Int32) : entryFrame m #[(.ref x0), (.int x1)] 2 = mkF m 0 #[.val (.ref x0), .val (.int x1)] [] := by first | (simp [entryFrame, mkF, argsToLocals, Value.category]; done) | rfl
theorem ef_rm23_4 (m : MethodId) (x0 : Int32) (x1 : Int32) : entryFrame m #[(.int x0), (.int x1), .null] 3 = mkF m 0 #[.val (.int x0), .val (.int x1), .val .null] [] := by first | (simp [entryFrame, mkF, argsToLocals, Value.category]; done) | rfl
theorem ef_rm22_4 (m : MethodId) (x0 : Int32) (x1 : Int32) : entryFrame m #[(.int x0), (.int x1)] 2 = mkF m 0 #[.val (.int x0), .val (.int x1)] [] := by first | (simp [entryFrame, mkF, argsToLocals, Value.category]; done) | rfl
theorem ef_rm24_4 (m : MethodId) (x0 : Addr) (x1 : Int32) : entryFrame m #[(.ref x0), (.int x1)] 2 = mkF m 0 #[.val (.ref x0), .val (.int x1)] [] := by first | (simp [entryFrame, mkF, argsToLocals, Value.category]; done) | rfl
theorem ef_rm21_4 (m : MethodId) (x0 : Addr) (x1 : Int32) : entryFrame m #[(.ref x0), (.int x1)] 2 = mkF m 0 #[.val (.ref x0), .val (.int x1)] [] := by first | (simp [entryFrame, mkF, argsToLocals, Value.category]; done) | rfl
theorem ef_rm11_1 (m : MethodId) (x0 : Addr) : entryFrame m #[(.ref x0)] 3 = mkF m 0 #[.val (.ref x0), .unset, .unset] [] := by first | (simp [entryFrame, mkF, argsToLocals, Value.category]; done) | rfl
theorem sg0_82_2 : decs code [(82, .iload 4, 2), (84, .iconst 2, 1)] := ⟨at_82, at_84, trivial⟩
theorem ef_rm12_2 (m : MethodId) (x0 : Addr) : entryFrame m #[(.ref x0)] 1 = mkF m 0 #[.val (.ref x0)] [] := by first | (simp [entryFrame, mkF, argsToLocals, Value.category]; done) | rfl
theorem ef_rm23_5 (m : MethodId) (x0 : Int32) (x1 : Int32) : entryFrame m #[(.int x0), (.int x1), .null] 3 = mkF m 0 #[.val (.int x0), .val (.int x1), .val .null] [] := by first | (simp [entryFrame, mkF, argsToLocals, Value.category]; done) | rfl
theorem ef_rm22_5 (m : MethodId) (x0 : Int32) (x1 : Int32) : entryFrame m #[(.int x0), (.int x1)] 2 = mkF m 0 #[.val (.int x0), .val (.int x1)] [] := by first | (simp [entryFrame, mkF, argsToLocals, Value.category]; done) | rfl
theorem ef_rm24_5 (m : MethodId) (x0 : Addr) (x1 : Int32) : entryFrame m #[(.ref x0), (.int x1)] 2 = mkF m 0 #[.val (.ref x0), .val (.int x1)] [] := by first | (simp [entryFrame, mkF, argsToLocals, Value.category]; done) | rfl
theorem ef_rm21_5 (m : MethodId) (x0 : Addr) (x1 : Int32) : entryFrame m #[(.ref x0), (.int x1)] 2 = mkF m 0 #[.val (.ref x0), .val (.int x1)] [] := by first | (simp [entryFrame, mkF, argsToLocals, Value.category]; done) | rfl
theorem ef_rm11_2 (m : MethodId) (x0 : Addr) : entryFrame m #[(.ref x0)] 3 = mkF m 0 #[.val (.ref x0), .unset, .unset] [] := by first | (simp [entryFrame, mkF, argsToLocals, Value.category]; done) | rfl
theorem sg0_58_2 : decs code [(58, .iload 4, 2), (60, .iconst 1, 1)] := ⟨at_58, at_60, trivial⟩
theorem ef_rm12_3 (m : MethodId) (x0 : Addr) : entryFrame m #[(.ref x0)] 1 = mkF m 0 #[.val (.ref x0)] [] := by first | (simp [entryFrame, mkF, argsToLocals, Value.category]; done) | rfl
theorem ef_rm11_3 (m : MethodId) (x0 : Addr) : entryFrame m #[(.ref x0)] 3 = mkF m 0 #[.val (.ref x0), .unset, .unset] [] := by first | (simp [entryFrame, mkF, argsToLocals, Value.category]; done) | rfl
theorem ef_rm0 (m : MethodId) (x0 : Int32) (x1 : Int32) (x2 : Int32) (x3 : Int32) : entryFrame m #[(.int x0), (.int x1), (.int x2), (.int x3)] maxLocals = mkF m 0 #[.val (.int x0), .val (.int x1), .val (.int x2), .val (.int x3), .unset, .unset, .unset, .unset, .unset, .unset] [] := by first | (simp [entryFrame, mkF, argsToLocals, Value.category, maxLocals]; done) | rfl
set_option maxRecDepth 65536 in
set_option maxHeartbeats 40000000 in
theorem rm6_0 (l : Launch) (Z : State) (a0 : Array Value) (hw : ∀ d ∈ tables_1, d.before a0 Z = true) (ws : List Jvm.Cond) (o0 : Addr) (o2 : Addr) (k_o0 : ClassId) (u1 : Int32) (u2 : Int32) (k_o2 : ClassId) (h0 : Heap) (n0 : Nat) (O0 : Old Z n0 h0) (V_o0 : Arv Z h0 o0 k_o0 .char (2 : Int32) [(.int u1), (.int u2)] (.int (0 : Int32))) (bnd_u1 : ¬ u1 < (0 : Int32) ∧ ¬ (255 : Int32) < u1) (V_o2 : Arv Z h0 o2 k_o2 .byte (2 : Int32) [(.int (0 : Int32)), (.int (0 : Int32))] (.int (0 : Int32))) (g_o2 : n0 ≤ o2) (ne_o0_o2 : o0 ≠ o2) (bnd_u2 : ¬ u2 < (0 : Int32) ∧ ¬ (255 : Int32) < u2) :
    Con l Z (⟨"java/lang/StringUTF16", "compress", "([CI[BII)I"⟩ : MethodName) jdk_52_method_21_code 7 (some .int) ws ({ frames := 0, cells := 0, slots := 0, locals := 0 } : Room) #[(.ref o0), (.int (0 : Int32)), (.ref o2), (.int (0 : Int32)), (.int (2 : Int32))] h0 (fun v h L => v = some (.int (2 : Int32)) ∧ Fr n0 L ∧ Keep h0 h [o2] ∧ Arv Z h o2 k_o2 .byte (2 : Int32) [(.int (u1.toInt8.toInt32)), (.int (u2.toInt8.toInt32))] (.int (0 : Int32))) := by
  refine own_body (plainFor_of_name own_pn0) (fun m => ef_rm6_0 m o0 (0 : Int32) o2 (2 : Int32)) ?_
  intro p e s m below meth c s₁ hx hby hlk hml hret hZ hown hnm X0 e0
  have N0 := Fr.nil n0
  refine Home.run X0 hx hby sg6_0_4 (pc' := 7) (L' := #[.val (.ref o0), .val (.int (0 : Int32)), .val (.ref o2), .val (.int (0 : Int32)), .val (.int (2 : Int32)), .val (.int (0 : Int32)), .unset]) (S' := [(.int (2 : Int32)), (.int (0 : Int32))]) rfl ?_
  refine Home.go (fun _ => XS.icmpNo X0.here hx rfl (hb hby d6_7) rfl (tlt (by decide)).2.1) ?_
  refine Home.run X0 hx hby sg6_10_2 (pc' := 12) (L' := #[.val (.ref o0), .val (.int (0 : Int32)), .val (.ref o2), .val (.int (0 : Int32)), .val (.int (2 : Int32)), .val (.int (0 : Int32)), .unset]) (S' := [(.int (0 : Int32)), (.ref o0)]) rfl ?_
  obtain ⟨cl1, Ar1, q1, S1, M1, H1, G1⟩ := id V_o0
  have i1 : ¬ ((0 : Int32) < 0 ∨ cl1.slots.size ≤ ((0 : Int32)).toNatClampNeg) := inb_of S1 ⟨by decide, by decide⟩
  refine Home.go (X0.caload hx (j := (0 : Int32)) (v := (.int u1)) (by rw [e0]; exact Ar1.1) (State.isArrayOf_alike hZ.alike Ar1.2.1) Ar1.2.2 i1 (Has.at H1 i1 rfl) rfl rfl (hb hby d6_12)) ?_
  refine Home.run X0 hx hby sg6_13_3 (pc' := 20) (L' := #[.val (.ref o0), .val (.int (0 : Int32)), .val (.ref o2), .val (.int (0 : Int32)), .val (.int (2 : Int32)), .val (.int (0 : Int32)), .val (.int u1)]) (S' := [(.int (255 : Int32)), (.int u1)]) rfl ?_
  refine Home.go (fun _ => XS.icmpYes X0.here hx rfl (pc0 := 20) (pc' := 26) rfl (hb hby d6_20) rfl (flt (bnd_nlt (bnd_lit (255 : Int32)) bnd_u1 (by decide +kernel))).2.2.2 (by decide) (by decide)) ?_
  refine Home.run X0 hx hby sg6_26_4 (pc' := 31) (L' := #[.val (.ref o0), .val (.int (0 : Int32)), .val (.ref o2), .val (.int (0 : Int32)), .val (.int (2 : Int32)), .val (.int (0 : Int32)), .val (.int u1)]) (S' := [(.int (u1.toInt8.toInt32)), (.int (0 : Int32)), (.ref o2)]) rfl ?_
  obtain ⟨cl2, Ar2, q2, S2, M2, H2, G2⟩ := id V_o2
  refine Home.wr (stB X0 hx hZ e0 Ar2 (j := (0 : Int32)) (inb_of S2 ⟨by decide, by decide⟩) rfl rfl (hb hby d6_31)) fun T2 h2 X2 e2 W2 => ?_
  have W2' := Wr.to W2 (congrArg Value.int (nar_byte_id (bnd_i2b u1) (by decide +kernel) (by decide +kernel)))
  have V2 : Arv Z h2 o2 k_o2 .byte (2 : Int32) [(.int (u1.toInt8.toInt32)), (.int (0 : Int32))] (.int (0 : Int32)) := Arv.set Ar2 q2 S2 M2 H2 G2 (fits_byte_b (bnd_i2b u1) (by decide +kernel) (by decide +kernel)) W2' 0 rfl (Nat.le_of_ble_eq_true rfl)
  have O2 := O0.wr W2 g_o2
  have K2 : Keep h0 h2 ([o2] : List Addr) := Keep.wr (Keep.refl h0 ([o2] : List Addr)) W2 (Or.inl (List.mem_of_getElem? (i := 0) rfl))
  have N2 := Fr.snoc X2 N0 g_o2
  show Home T2 (mkF m 32 #[.val (.ref o0), .val (.int (0 : Int32)), .val (.ref o2), .val (.int (0 : Int32)), .val (.int (2 : Int32)), .val (.int (0 : Int32)), .val (.int u1)] [])
  refine Home.run X2 hx hby sg6_32_6 (pc' := 7) (L' := #[.val (.ref o0), .val (.int (1 : Int32)), .val (.ref o2), .val (.int (1 : Int32)), .val (.int (2 : Int32)), .val (.int (1 : Int32)), .val (.int u1)]) (S' := [(.int (2 : Int32)), (.int (1 : Int32))]) rfl ?_
  refine Home.go (fun _ => XS.icmpNo X2.here hx rfl (hb hby d6_7) rfl (tlt (by decide)).2.1) ?_
  refine Home.run X2 hx hby sg6_10_2 (pc' := 12) (L' := #[.val (.ref o0), .val (.int (1 : Int32)), .val (.ref o2), .val (.int (1 : Int32)), .val (.int (2 : Int32)), .val (.int (1 : Int32)), .val (.int u1)]) (S' := [(.int (1 : Int32)), (.ref o0)]) rfl ?_
  have q3 := (V_o0.other W2 ne_o0_o2)
  obtain ⟨cl4, Ar4, q4, S4, M4, H4, G4⟩ := id q3
  have i4 : ¬ ((1 : Int32) < 0 ∨ cl4.slots.size ≤ ((1 : Int32)).toNatClampNeg) := inb_of S4 ⟨by decide, by decide⟩
  refine Home.go (X2.caload hx (j := (1 : Int32)) (v := (.int u2)) (by rw [e2]; exact Ar4.1) (State.isArrayOf_alike hZ.alike Ar4.2.1) Ar4.2.2 i4 (Has.at H4 i4 rfl) rfl rfl (hb hby d6_12)) ?_
  refine Home.run X2 hx hby sg6_13_3 (pc' := 20) (L' := #[.val (.ref o0), .val (.int (1 : Int32)), .val (.ref o2), .val (.int (1 : Int32)), .val (.int (2 : Int32)), .val (.int (1 : Int32)), .val (.int u2)]) (S' := [(.int (255 : Int32)), (.int u2)]) rfl ?_
  refine Home.go (fun _ => XS.icmpYes X2.here hx rfl (pc0 := 20) (pc' := 26) rfl (hb hby d6_20) rfl (flt (bnd_nlt (bnd_lit (255 : Int32)) bnd_u2 (by decide +kernel))).2.2.2 (by decide) (by decide)) ?_
  refine Home.run X2 hx hby sg6_26_4 (pc' := 31) (L' := #[.val (.ref o0), .val (.int (1 : Int32)), .val (.ref o2), .val (.int (1 : Int32)), .val (.int (2 : Int32)), .val (.int (1 : Int32)), .val (.int u2)]) (S' := [(.int (u2.toInt8.toInt32)), (.int (1 : Int32)), (.ref o2)]) rfl ?_
  obtain ⟨cl5, Ar5, q5, S5, M5, H5, G5⟩ := id V2
  refine Home.wr (stB X2 hx hZ e2 Ar5 (j := (1 : Int32)) (inb_of S5 ⟨by decide, by decide⟩) rfl rfl (hb hby d6_31)) fun T5 h5 X5 e5 W5 => ?_
  have W5' := Wr.to W5 (congrArg Value.int (nar_byte_id (bnd_i2b u2) (by decide +kernel) (by decide +kernel)))
  have V5 : Arv Z h5 o2 k_o2 .byte (2 : Int32) [(.int (u1.toInt8.toInt32)), (.int (u2.toInt8.toInt32))] (.int (0 : Int32)) := Arv.set Ar5 q5 S5 M5 H5 G5 (fits_byte_b (bnd_i2b u2) (by decide +kernel) (by decide +kernel)) W5' 1 rfl (Nat.le_of_ble_eq_true rfl)
  have O5 := O2.wr W5 g_o2
  have K5 : Keep h0 h5 ([o2] : List Addr) := Keep.wr K2 W5 (Or.inl (List.mem_of_getElem? (i := 0) rfl))
  have N5 := Fr.snoc X5 N2 g_o2
  show Home T5 (mkF m 32 #[.val (.ref o0), .val (.int (1 : Int32)), .val (.ref o2), .val (.int (1 : Int32)), .val (.int (2 : Int32)), .val (.int (1 : Int32)), .val (.int u2)] [])
  refine Home.run X5 hx hby sg6_32_6 (pc' := 7) (L' := #[.val (.ref o0), .val (.int (2 : Int32)), .val (.ref o2), .val (.int (2 : Int32)), .val (.int (2 : Int32)), .val (.int (2 : Int32)), .val (.int u2)]) (S' := [(.int (2 : Int32)), (.int (2 : Int32))]) rfl ?_
  refine Home.go (fun _ => XS.icmpYes X5.here hx rfl (pc0 := 7) (pc' := 44) rfl (hb hby d6_7) rfl (flt (by decide)).2.1 (by decide) (by decide)) ?_
  refine Home.run X5 hx hby sg6_44_1 (pc' := 46) (L' := #[.val (.ref o0), .val (.int (2 : Int32)), .val (.ref o2), .val (.int (2 : Int32)), .val (.int (2 : Int32)), .val (.int (2 : Int32)), .val (.int u2)]) (S' := [(.int (2 : Int32))]) rfl ?_
  exact Home.retI X5 hx hlk hret (hb hby d6_46) (by rw [show T5.heap = h5 from e5]; exact ⟨rfl, N5, K5, V5⟩) (by decide) (by decide)
set_option maxRecDepth 65536 in
set_option maxHeartbeats 40000000 in
theorem rm5_0 (l : Launch) (Z : State) (a0 : Array Value) (hw : ∀ d ∈ tables_1, d.before a0 Z = true) (ws : List Jvm.Cond) (o0 : Addr) (k_o0 : ClassId) (u1 : Int32) (u2 : Int32) (h0 : Heap) (n0 : Nat) (O0 : Old Z n0 h0) (V_o0 : Arv Z h0 o0 k_o0 .char (2 : Int32) [(.int u1), (.int u2)] (.int (0 : Int32))) (bnd_u1 : ¬ u1 < (0 : Int32) ∧ ¬ (255 : Int32) < u1) (bnd_u2 : ¬ u2 < (0 : Int32) ∧ ¬ (255 : Int32) < u2) :
    Con l Z (⟨"java/lang/StringUTF16", "compress", "([CII)[B"⟩ : MethodName) jdk_52_method_16_code 6 (some (.array .byte)) ws ({ frames := 1, cells := 1, slots := 2, locals := 18 } : Room) #[(.ref o0), (.int (0 : Int32)), (.int (2 : Int32))] h0 (fun v h L => ∃ (b1 : Addr), ∃ (k1 : ClassId), v = some (.ref b1) ∧ Fr n0 L ∧ h0.size ≤ b1 ∧ Keep h0 h [] ∧ Arv Z h b1 k1 .byte (2 : Int32) [(.int (u1.toInt8.toInt32)), (.int (u2.toInt8.toInt32))] (.int (0 : Int32))) := by
  refine own_body (plainFor_of_name own_pn0) (fun m => ef_rm5_0 m o0 (0 : Int32) (2 : Int32)) ?_
  intro p e s m below meth c s₁ hx hby hlk hml hret hZ hown hnm X0 e0
  have N0 := Fr.nil n0
  refine Home.run X0 hx hby sg5_0_1 (pc' := 1) (L' := #[.val (.ref o0), .val (.int (0 : Int32)), .val (.int (2 : Int32)), .unset, .unset, .unset]) (S' := [(.int (2 : Int32))]) rfl ?_
  refine Home.na (own_newP (aty := .byte) X0 hx hZ (own_w24 hw) e0 (g := (mkF m 1 #[.val (.ref o0), .val (.int (0 : Int32)), .val (.int (2 : Int32)), .unset, .unset, .unset] [(.int (2 : Int32))])) rfl (hb hby d5_1) rfl (by decide) (cap := 2) (by decide) (by decide) (by decide) (by decide)) fun T1 h1 k1 b1 g1 X1 e1 E1 A1 => ?_
  have g_b1 : n0 ≤ b1 := Nat.le_trans (Old.le O0) (Nat.le_of_eq g1.symm)
  have V1 : Arv Z h1 b1 k1 .byte (2 : Int32) [(.int (0 : Int32)), (.int (0 : Int32))] (.int (0 : Int32)) := (Arv.new A1 (by decide)).pad (pad_rep [] (.int (0 : Int32)) 2)
  have O1 := O0.ext E1
  have K1 : Keep h0 h1 ([] : List Addr) := Keep.ext (Keep.refl h0 ([] : List Addr)) E1
  refine Home.run X1 hx hby sg5_3_6 (pc' := 9) (L' := #[.val (.ref o0), .val (.int (0 : Int32)), .val (.int (2 : Int32)), .val (.ref b1), .unset, .unset]) (S' := [(.int (2 : Int32)), (.int (0 : Int32)), (.ref b1), (.int (0 : Int32)), (.ref o0)]) rfl ?_
  have ne2 : o0 ≠ b1 := (Nat.ne_of_lt (Nat.lt_of_lt_of_le V_o0.lt (Nat.le_trans (Nat.le_refl _) (Nat.le_of_eq g1.symm))))
  have q3 := (V_o0.ext E1)
  refine Home.call (own_static X1 hx hZ hown (own_w25 hw) (own_w26 hw) (own_w22 hw) (own_w27 hw) (by decide) (rm6_0 l Z a0 hw [] o0 b1 k_o0 u1 u2 k1 h1 n0 O1 q3 bnd_u1 V1 g_b1 ne2 bnd_u2) e1 rfl (by rw [hml]; rfl) (argsL := [(.ref o0), (.int (0 : Int32)), (.ref b1), (.int (0 : Int32)), (.int (2 : Int32))]) (rest := []) (lenOf own_pd0 rfl) rfl rfl (W := 0) (by show 2 * 0 + _ ≤ _; exact Nat.le_of_eq rfl) (by decide) (by decide) (hb hby d5_9) (by decide) (by decide)) ?_
  rintro _ T4 L4 X4 ⟨rfl, N4q, K4q, P4_0⟩
  have O4 := Old.keep O1 K4q (allS g_b1 all0)
  have K4 : Keep h0 T4.heap ([] : List Addr) := Keep.trans K1 K4q (allS (Or.inr (Nat.le_trans (Nat.le_refl _) (Nat.le_of_eq g1.symm))) all0)
  have N4 := Fr.app N0 N4q
  show Home T4 (mkF m 12 #[.val (.ref o0), .val (.int (0 : Int32)), .val (.int (2 : Int32)), .val (.ref b1), .unset, .unset] [(.int (2 : Int32))])
  refine Home.run X4 hx hby sg5_12_3 (pc' := 17) (L' := #[.val (.ref o0), .val (.int (0 : Int32)), .val (.int (2 : Int32)), .val (.ref b1), .val (.int (2 : Int32)), .unset]) (S' := [(.int (2 : Int32)), (.int (2 : Int32))]) rfl ?_
  refine Home.go (fun _ => XS.icmpYes X4.here hx rfl (pc0 := 17) (pc' := 57) rfl (hb hby d5_17) rfl (teq (by decide)).1 (by decide) (by decide)) ?_
  refine Home.run X4 hx hby sg5_57_1 (pc' := 58) (L' := #[.val (.ref o0), .val (.int (0 : Int32)), .val (.int (2 : Int32)), .val (.ref b1), .val (.int (2 : Int32)), .unset]) (S' := [(.ref b1)]) rfl ?_
  exact Home.retR X4 hx hlk hret rfl rfl (hb hby d5_58) ⟨b1, k1, rfl, N4, (Nat.le_trans (Nat.le_refl _) (Nat.le_of_eq g1.symm)), K4, P4_0⟩ (by decide) (by decide)
set_option maxRecDepth 65536 in
set_option maxHeartbeats 40000000 in
theorem rm7_0 (l : Launch) (Z : State) (a0 : Array Value) (hw : ∀ d ∈ tables_1, d.before a0 Z = true) (ws : List Jvm.Cond) (o0 : Addr) (k_o0 : ClassId) (u1 : Int32) (u2 : Int32) (h0 : Heap) (n0 : Nat) (O0 : Old Z n0 h0) (V_o0 : Arv Z h0 o0 k_o0 .byte (2 : Int32) [(.int u1), (.int u2)] (.int (0 : Int32))) :
    Con l Z (⟨"java/lang/StringUTF16", "coderFromArrayLen", "([BI)B"⟩ : MethodName) jdk_52_method_15_code 2 (some .byte) ws ({ frames := 0, cells := 0, slots := 0, locals := 0 } : Room) #[(.ref o0), (.int (2 : Int32))] h0 (Pur (some (.int (0 : Int32))) h0) := by
  refine own_body (plainFor_of_name own_pn0) (fun m => ef_rm7_0 m o0 (2 : Int32)) ?_
  intro p e s m below meth c s₁ hx hby hlk hml hret hZ hown hnm X0 e0
  have N0 := Fr.nil n0
  refine Home.run X0 hx hby sg7_0_2 (pc' := 2) (L' := #[.val (.ref o0), .val (.int (2 : Int32))]) (S' := [(.ref o0), (.int (2 : Int32))]) rfl ?_
  obtain ⟨cl1, Ar1, q1, S1, M1, H1, G1⟩ := id V_o0
  refine Home.go (own_alen X0 hx hZ e0 Ar1 S1 M1 rfl rfl (hb hby d7_2)) ?_
  refine Home.run X0 hx hby sg7_3_4 (pc' := 8) (L' := #[.val (.ref o0), .val (.int (2 : Int32))]) (S' := [(.int (0 : Int32))]) rfl ?_
  exact Home.retN X0 hx hlk (t := .byte) hret (by simp) (hb hby d7_8) ⟨congrArg some (congrArg Value.int (by first | rfl | exact nar_i2c _ | exact nar_i2b _)), rfl, e0⟩ (by decide) (by decide)
set_option maxRecDepth 65536 in
set_option maxHeartbeats 40000000 in
theorem rm3_0 (l : Launch) (Z : State) (a0 : Array Value) (hw : ∀ d ∈ tables_1, d.before a0 Z = true) (ws : List Jvm.Cond) (o0 : Addr) (o1 : Addr) (sv_COMPACT_STRINGS : Int32) (k_o1 : ClassId) (u1 : Int32) (u2 : Int32) (h0 : Heap) (n0 : Nat) (O0 : Old Z n0 h0) (S_COMPACT_STRINGS : Sta Z Z.heap "java/lang/String" "COMPACT_STRINGS" "Z" (.int sv_COMPACT_STRINGS)) (hCS : ¬ (sv_COMPACT_STRINGS = (0 : Int32))) (V_o1 : Arv Z h0 o1 k_o1 .char (2 : Int32) [(.int u1), (.int u2)] (.int (0 : Int32))) (bnd_u1 : ¬ u1 < (0 : Int32) ∧ ¬ (255 : Int32) < u1) (bnd_u2 : ¬ u2 < (0 : Int32) ∧ ¬ (255 : Int32) < u2) (E_o0 : Exa Z h0 o0 "java/lang/String") (F_coder_o0 : Fld Z h0 o0 "java/lang/String" "coder" "B" (.int (0 : Int32))) (g_o0 : n0 ≤ o0) (F_value_o0 : Fld Z h0 o0 "java/lang/String" "value" "[B" .null) :
    Con l Z (⟨"java/lang/String", "<init>", "([CIILjava/lang/Void;)V"⟩ : MethodName) jdk_42_method_149_code 6 none ws ({ frames := 2, cells := 1, slots := 2, locals := 35 } : Room) #[(.ref o0), (.ref o1), (.int (0 : Int32)), (.int (2 : Int32)), .null] h0 (fun v h L => ∃ (b1_3 : Addr), ∃ (k1_3 : ClassId), v = none ∧ Fr n0 L ∧ h0.size ≤ b1_3 ∧ Keep h0 h [o0] ∧ Exa Z h o0 "java/lang/String" ∧ Fld Z h o0 "java/lang/String" "coder" "B" (.int (0 : Int32)) ∧ Fld Z h o0 "java/lang/String" "value" "[B" (.ref b1_3) ∧ Arv Z h b1_3 k1_3 .byte (2 : Int32) [(.int (u1.toInt8.toInt32)), (.int (u2.toInt8.toInt32))] (.int (0 : Int32))) := by
  refine own_body (plainFor_of_name own_pn1) (fun m => ef_rm3_0 m o0 o1 (0 : Int32) (2 : Int32)) ?_
  intro p e s m below meth c s₁ hx hby hlk hml hret hZ hown hnm X0 e0
  have N0 := Fr.nil n0
  refine Home.run X0 hx hby sg3_0_1 (pc' := 1) (L' := #[.val (.ref o0), .val (.ref o1), .val (.int (0 : Int32)), .val (.int (2 : Int32)), .val .null, .unset]) (S' := [(.ref o0)]) rfl ?_
  refine Home.st (initO X0 hx hZ hown (own_w16 hw) (own_w17 hw) (own_w18 hw) e0 rfl (by rw [hml]; rfl) rfl (hb hby d3_1) (by decide) (W := 0) (by show 2 * 0 + _ ≤ _; exact Nat.le_of_eq rfl) (by decide)) fun T1 X1 e1 => ?_
  refine Home.run X1 hx hby sg3_4_1 (pc' := 5) (L' := #[.val (.ref o0), .val (.ref o1), .val (.int (0 : Int32)), .val (.int (2 : Int32)), .val .null, .unset]) (S' := [(.int (2 : Int32))]) rfl ?_
  refine Home.go (fun _ => XS.ifYes X1.here hx rfl (pc0 := 5) (pc' := 27) rfl (hb hby d3_5) rfl ((if0 _ _).trans (feq (by decide)).2) (by decide) (by decide)) ?_
  refine Home.st (getS2 X1 hx hZ hown (host := "") (Or.inl (own_w19 hw)) Via.refl e1 (S_COMPACT_STRINGS.ext O0.2) rfl (hb hby d3_27)) fun T2 X2 e2 => ?_
  refine Home.go (fun _ => XS.ifNo X2.here hx rfl (hb hby d3_30) rfl ((if0 _ _).trans (feq hCS).1)) ?_
  refine Home.run X2 hx hby sg3_33_3 (pc' := 36) (L' := #[.val (.ref o0), .val (.ref o1), .val (.int (0 : Int32)), .val (.int (2 : Int32)), .val .null, .unset]) (S' := [(.int (2 : Int32)), (.int (0 : Int32)), (.ref o1)]) rfl ?_
  refine Home.call (own_static X2 hx hZ hown (own_w20 hw) (own_w21 hw) (own_w22 hw) (own_w23 hw) (by decide) (rm5_0 l Z a0 hw [] o1 k_o1 u1 u2 h0 n0 O0 V_o1 bnd_u1 bnd_u2) e2 rfl (by rw [hml]; rfl) (argsL := [(.ref o1), (.int (0 : Int32)), (.int (2 : Int32))]) (rest := []) (lenOf own_pd1 rfl) rfl rfl (W := 0) (by show 2 * 0 + _ ≤ _; exact Nat.le_of_eq rfl) (by decide) (by decide) (hb hby d3_36) (by decide) (by decide)) ?_
  rintro _ T3 L3 X3 ⟨b1_3, k1_3, rfl, N3q, sz_b1_3, K3q, P3_0⟩
  have g_b1_3 : n0 ≤ b1_3 := Nat.le_trans (Old.le O0) sz_b1_3
  have O3 := Old.keep O0 K3q all0
  have K3 : Keep h0 T3.heap ([o0] : List Addr) := Keep.trans (Keep.refl h0 ([o0] : List Addr)) K3q all0
  have N3 := Fr.app N0 N3q
  show Home T3 (mkF m 39 #[.val (.ref o0), .val (.ref o1), .val (.int (0 : Int32)), .val (.int (2 : Int32)), .val .null, .unset] [(.ref b1_3)])
  refine Home.run X3 hx hby sg3_39_4 (pc' := 45) (L' := #[.val (.ref o0), .val (.ref o1), .val (.int (0 : Int32)), .val (.int (2 : Int32)), .val .null, .val (.ref b1_3)]) (S' := [(.int (2 : Int32)), (.ref b1_3), (.ref o0)]) rfl ?_
  refine Home.st (own_pure (own_static X3 hx hZ hown (own_w28 hw) (own_w29 hw) (own_w22 hw) (own_w30 hw) (by decide) (rm7_0 l Z a0 hw [] b1_3 k1_3 (u1.toInt8.toInt32) (u2.toInt8.toInt32) T3.heap n0 O3 P3_0) rfl rfl (by rw [hml]; rfl) (argsL := [(.ref b1_3), (.int (2 : Int32))]) (rest := [(.ref o0)]) (lenOf own_pd2 rfl) rfl rfl (W := 1) (by show 2 * 0 + _ ≤ _; exact Nat.le_of_eq rfl) (by decide) (by decide) (hb hby d3_45) (by decide) (by decide))) fun T4 X4 e4 => ?_
  have q5 := (E_o0.keep K3q)
  have q6 := (F_coder_o0.keep K3q nin0)
  refine Home.wr (putFN X4 hx hZ hown (own_w31 hw) Via.refl e4 q6 q5 (Or.inr ⟨(own_w32 hw), rfl, hnm⟩) (own_w7 hw) (ty := .byte) (v := (.int (0 : Int32))) (v' := (.int (0 : Int32))) (by decide) rfl rfl rfl rfl (hb hby d3_48)) fun T7 h7 X7 e7 W7 => ?_
  have Fw7 := q6.same W7
  have O7 := O3.wr W7 g_o0
  have K7 : Keep h0 h7 ([o0] : List Addr) := Keep.wr K3 W7 (Or.inl (List.mem_of_getElem? (i := 0) rfl))
  have N7 := Fr.snoc X7 N3 g_o0
  show Home T7 (mkF m 51 #[.val (.ref o0), .val (.ref o1), .val (.int (0 : Int32)), .val (.int (2 : Int32)), .val .null, .val (.ref b1_3)] [])
  refine Home.run X7 hx hby sg3_51_2 (pc' := 54) (L' := #[.val (.ref o0), .val (.ref o1), .val (.int (0 : Int32)), .val (.int (2 : Int32)), .val .null, .val (.ref b1_3)]) (S' := [(.ref b1_3), (.ref o0)]) rfl ?_
  have q8 := (q5.wr W7)
  have q9 := ((F_value_o0.keep K3q nin0).other W7 (Or.inr (slot_ne (Or.inr (own_w34 hw)) (Or.inr (own_w32 hw)) (by decide) (t := (.array .byte)) (t' := .byte) (by decide) (by decide))))
  refine Home.wr (putF X7 hx hZ hown (host := "") (Or.inl (own_w33 hw)) Via.refl e7 q9 q8 (Or.inr ⟨(own_w34 hw), rfl, hnm⟩) (own_w7 hw) (ty := (.array .byte)) (by decide) rfl rfl rfl rfl (hb hby d3_54)) fun T10 h10 X10 e10 W10 => ?_
  have Fw10 := q9.same W10
  have O10 := O7.wr W10 g_o0
  have K10 : Keep h0 h10 ([o0] : List Addr) := Keep.wr K7 W10 (Or.inl (List.mem_of_getElem? (i := 0) rfl))
  have N10 := Fr.snoc X10 N7 g_o0
  show Home T10 (mkF m 57 #[.val (.ref o0), .val (.ref o1), .val (.int (0 : Int32)), .val (.int (2 : Int32)), .val .null, .val (.ref b1_3)] [])
  have q11 := (q8.wr W10)
  have q12 := (Fw7.other W10 (Or.inr (slot_ne (Or.inr (own_w32 hw)) (Or.inr (own_w34 hw)) (by decide) (t := .byte) (t' := (.array .byte)) (by decide) (by decide))))
  have ne13 : b1_3 ≠ o0 := (Ne.symm (Nat.ne_of_lt (Nat.lt_of_lt_of_le E_o0.lt (Nat.le_trans (Nat.le_refl _) sz_b1_3))))
  have q14 := ((P3_0.other W7 ne13).other W10 ne13)
  exact Home.ret0 X10 hx hlk hret (hb hby d3_57) (by rw [show T10.heap = h10 from e10]; exact ⟨b1_3, k1_3, rfl, N10, (Nat.le_trans (Nat.le_refl _) sz_b1_3), K10, q11, q12, Fw10, q14⟩) (by decide) (by decide)
set_option maxRecDepth 65536 in
set_option maxHeartbeats 40000000 in
theorem rm2_0 (l : Launch) (Z : State) (a0 : Array Value) (hw : ∀ d ∈ tables_1, d.before a0 Z = true) (ws : List Jvm.Cond) (o0 : Addr) (o1 : Addr) (k_o1 : ClassId) (u1 : Int32) (u2 : Int32) (sv_COMPACT_STRINGS : Int32) (h0 : Heap) (n0 : Nat) (O0 : Old Z n0 h0) (V_o1 : Arv Z h0 o1 k_o1 .char (2 : Int32) [(.int u1), (.int u2)] (.int (0 : Int32))) (S_COMPACT_STRINGS : Sta Z Z.heap "java/lang/String" "COMPACT_STRINGS" "Z" (.int sv_COMPACT_STRINGS)) (E_o0 : Exa Z h0 o0 "java/lang/String") (F_coder_o0 : Fld Z h0 o0 "java/lang/String" "coder" "B" (.int (0 : Int32))) (F_value_o0 : Fld Z h0 o0 "java/lang/String" "value" "[B" .null) (bnd_u1 : ¬ u1 < (0 : Int32) ∧ ¬ (255 : Int32) < u1) (bnd_u2 : ¬ u2 < (0 : Int32) ∧ ¬ (255 : Int32) < u2) (g_o0 : n0 ≤ o0) (hCS : ¬ (sv_COMPACT_STRINGS = (0 : Int32))) :
    Con l Z (⟨"java/lang/String", "<init>", "([C)V"⟩ : MethodName) jdk_42_method_3_code 2 none ws ({ frames := 3, cells := 1, slots := 2, locals := 52 } : Room) #[(.ref o0), (.ref o1)] h0 (fun v h L => ∃ (b1_3_2 : Addr), ∃ (k1_3_2 : ClassId), v = none ∧ Fr n0 L ∧ h0.size ≤ b1_3_2 ∧ Keep h0 h [o0] ∧ Exa Z h o0 "java/lang/String" ∧ Fld Z h o0 "java/lang/String" "coder" "B" (.int (0 : Int32)) ∧ Fld Z h o0 "java/lang/String" "value" "[B" (.ref b1_3_2) ∧ Arv Z h b1_3_2 k1_3_2 .byte (2 : Int32) [(.int (u1.toInt8.toInt32)), (.int (u2.toInt8.toInt32))] (.int (0 : Int32))) := by
  refine own_body (plainFor_of_name own_pn1) (fun m => ef_rm2_0 m o0 o1) ?_
  intro p e s m below meth c s₁ hx hby hlk hml hret hZ hown hnm X0 e0
  have N0 := Fr.nil n0
  refine Home.run X0 hx hby sg2_0_4 (pc' := 4) (L' := #[.val (.ref o0), .val (.ref o1)]) (S' := [(.ref o1), (.int (0 : Int32)), (.ref o1), (.ref o0)]) rfl ?_
  obtain ⟨cl1, Ar1, q1, S1, M1, H1, G1⟩ := id V_o1
  refine Home.go (own_alen X0 hx hZ e0 Ar1 S1 M1 rfl rfl (hb hby d2_4)) ?_
  refine Home.run X0 hx hby sg2_5_1 (pc' := 6) (L' := #[.val (.ref o0), .val (.ref o1)]) (S' := [.null, (.int (2 : Int32)), (.int (0 : Int32)), (.ref o1), (.ref o0)]) rfl ?_
  refine Home.call (own_special X0 hx hZ hown rfl (own_w12 hw) (own_w13 hw) (own_w8 hw) (own_w15 hw) (by decide) (rm3_0 l Z a0 hw [] o0 o1 sv_COMPACT_STRINGS k_o1 u1 u2 h0 n0 O0 S_COMPACT_STRINGS hCS V_o1 bnd_u1 bnd_u2 E_o0 F_coder_o0 g_o0 F_value_o0) e0 rfl (by rw [hml]; rfl) (a := o0) (argsL := [(.ref o1), (.int (0 : Int32)), (.int (2 : Int32)), .null]) (rest := []) (lenOf own_pd3 rfl) rfl rfl (W := 0) (by show 2 * 0 + _ ≤ _; exact Nat.le_of_eq rfl) (by decide) (by decide) (hb hby d2_6) (by decide) (by decide)) ?_
  rintro _ T2 L2 X2 ⟨b1_3_2, k1_3_2, rfl, N2q, sz_b1_3_2, K2q, P2_0, P2_1, P2_2, P2_3⟩
  have g_b1_3_2 : n0 ≤ b1_3_2 := Nat.le_trans (Old.le O0) sz_b1_3_2
  have O2 := Old.keep O0 K2q (allS g_o0 all0)
  have K2 : Keep h0 T2.heap ([o0] : List Addr) := Keep.trans (Keep.refl h0 ([o0] : List Addr)) K2q (allS (Or.inl (List.mem_of_getElem? (i := 0) rfl)) all0)
  have N2 := Fr.app N0 N2q
  show Home T2 (mkF m 9 #[.val (.ref o0), .val (.ref o1)] [])
  exact Home.ret0 X2 hx hlk hret (hb hby d2_9) ⟨b1_3_2, k1_3_2, rfl, N2, (Nat.le_trans (Nat.le_refl _) sz_b1_3_2), K2, P2_0, P2_1, P2_2, P2_3⟩ (by decide) (by decide)
set_option maxRecDepth 65536 in
set_option maxHeartbeats 40000000 in
theorem rm1_0 (l : Launch) (Z : State) (a0 : Array Value) (hw : ∀ d ∈ tables_1, d.before a0 Z = true) (ws : List Jvm.Cond) (i0 : Int32) (sv_COMPACT_STRINGS : Int32) (h0 : Heap) (n0 : Nat) (O0 : Old Z n0 h0) (S_COMPACT_STRINGS : Sta Z Z.heap "java/lang/String" "COMPACT_STRINGS" "Z" (.int sv_COMPACT_STRINGS)) (hCS : ¬ (sv_COMPACT_STRINGS = (0 : Int32))) :
    Con l Z (⟨"com/example/wary_meter/warymeter/ColumnNamesPinLaw", "draw", "(I)Ljava/lang/String;"⟩ : MethodName) method_3_code 2 (some (.object "java/lang/String")) ws ({ frames := 4, cells := 3, slots := 8, locals := 66 } : Room) #[(.int i0)] h0 (fun v h L => ∃ (rv : Value), v = some rv ∧ Fr n0 L ∧ Keep h0 h [] ∧ Nul Z h rv "java/lang/String") := by
  refine own_body (plainFor_of_name own_pn2) (fun m => ef_rm1_0 m i0) ?_
  intro p e s m below meth c s₁ hx hby hlk hml hret hZ hown hnm X0 e0
  have N0 := Fr.nil n0
  refine Home.run X0 hx hby sg1_0_6 (pc' := 7) (L' := #[.val (.int i0), .unset]) (S' := [(.int (3 : Int32)), (.int (((i0.toUInt32 >>> ((16 : Int32) &&& 31).toUInt32).toInt32) &&& (3 : Int32)))]) rfl ?_
  by_cases c1 : (((i0.toUInt32 >>> ((16 : Int32) &&& 31).toUInt32).toInt32) &&& (3 : Int32)) = (3 : Int32)
  · skip
    refine Home.go (fun _ => XS.icmpNo X0.here hx rfl (hb hby d1_7) rfl (teq c1).2) ?_
    have bd2 : ¬ (((i0.toUInt32 >>> ((16 : Int32) &&& 31).toUInt32).toInt32) &&& (3 : Int32)) < (3 : Int32) ∧ ¬ (3 : Int32) < (((i0.toUInt32 >>> ((16 : Int32) &&& 31).toUInt32).toInt32) &&& (3 : Int32)) := ⟨(bnd_eql c1), (bnd_eqr c1)⟩
    refine Home.run X0 hx hby sg1_10_1 (pc' := 11) (L' := #[.val (.int i0), .unset]) (S' := [.null]) rfl ?_
    exact Home.retR X0 hx hlk hret rfl rfl (hb hby d1_11) (by rw [show s₁.heap = h0 from e0]; exact ⟨_, rfl, N0, (Keep.refl h0 ([] : List Addr)), Nul.null Z _ "java/lang/String"⟩) (by decide) (by decide)
  · skip
    refine Home.go (fun _ => XS.icmpYes X0.here hx rfl (pc0 := 7) (pc' := 12) rfl (hb hby d1_7) rfl (feq c1).2 (by decide) (by decide)) ?_
    have bd3 : ¬ (((i0.toUInt32 >>> ((16 : Int32) &&& 31).toUInt32).toInt32) &&& (3 : Int32)) < (0 : Int32) ∧ ¬ (2 : Int32) < (((i0.toUInt32 >>> ((16 : Int32) &&& 31).toUInt32).toInt32) &&& (3 : Int32)) := ⟨(bnd_and ((i0.toUInt32 >>> ((16 : Int32) &&& 31).toUInt32).toInt32) (3 : Int32) (by decide)).1, (bnd_ner (bnd_and ((i0.toUInt32 >>> ((16 : Int32) &&& 31).toUInt32).toInt32) (3 : Int32) (by decide)).2 c1 (by decide +kernel))⟩
    refine Home.run X0 hx hby sg1_12_1 (pc' := 13) (L' := #[.val (.int i0), .unset]) (S' := [(.int (2 : Int32))]) rfl ?_
    refine Home.na (own_newP (aty := .char) X0 hx hZ (own_w5 hw) e0 (g := (mkF m 13 #[.val (.int i0), .unset] [(.int (2 : Int32))])) rfl (hb hby d1_13) rfl (by decide) (cap := 2) (by decide) (by decide) (by decide) (by decide)) fun T4 h4 k4 b4 g4 X4 e4 E4 A4 => ?_
    have g_b4 : n0 ≤ b4 := Nat.le_trans (Old.le O0) (Nat.le_of_eq g4.symm)
    have V4 : Arv Z h4 b4 k4 .char (2 : Int32) [(.int (0 : Int32)), (.int (0 : Int32))] (.int (0 : Int32)) := (Arv.new A4 (by decide)).pad (pad_rep [] (.int (0 : Int32)) 2)
    have O4 := O0.ext E4
    have K4 : Keep h0 h4 ([] : List Addr) := Keep.ext (Keep.refl h0 ([] : List Addr)) E4
    refine Home.run X4 hx hby sg1_15_7 (pc' := 24) (L' := #[.val (.int i0), .val (.ref b4)]) (S' := [(.int ((i0 &&& (255 : Int32)).toUInt32.toUInt16.toUInt32.toInt32)), (.int (0 : Int32)), (.ref b4)]) rfl ?_
    rw [i2c_id (bnd_and i0 (255 : Int32) (by decide)) (by decide +kernel) (by decide +kernel)]
    obtain ⟨cl5, Ar5, q5, S5, M5, H5, G5⟩ := id V4
    refine Home.wr (stC X4 hx hZ e4 Ar5 (j := (0 : Int32)) (inb_of S5 ⟨by decide, by decide⟩) rfl rfl (hb hby d1_24)) fun T5 h5 X5 e5 W5 => ?_
    have W5' := Wr.to W5 (congrArg Value.int (nar_char_id (bnd_and i0 (255 : Int32) (by decide)) (by decide +kernel) (by decide +kernel)))
    have V5 : Arv Z h5 b4 k4 .char (2 : Int32) [(.int (i0 &&& (255 : Int32))), (.int (0 : Int32))] (.int (0 : Int32)) := Arv.set Ar5 q5 S5 M5 H5 G5 (fits_char_b (bnd_and i0 (255 : Int32) (by decide)) (by decide +kernel) (by decide +kernel)) W5' 0 rfl (Nat.le_of_ble_eq_true rfl)
    have O5 := O4.wr W5 g_b4
    have K5 : Keep h0 h5 ([] : List Addr) := Keep.wr K4 W5 (Or.inr (Nat.le_trans (Nat.le_refl _) (Nat.le_of_eq g4.symm)))
    have N5 := Fr.snoc X5 N0 g_b4
    show Home T5 (mkF m 25 #[.val (.int i0), .val (.ref b4)] [])
    refine Home.run X5 hx hby sg1_25_8 (pc' := 36) (L' := #[.val (.int i0), .val (.ref b4)]) (S' := [(.int ((((i0.toUInt32 >>> ((8 : Int32) &&& 31).toUInt32).toInt32) &&& (255 : Int32)).toUInt32.toUInt16.toUInt32.toInt32)), (.int (1 : Int32)), (.ref b4)]) rfl ?_
    rw [i2c_id (bnd_and ((i0.toUInt32 >>> ((8 : Int32) &&& 31).toUInt32).toInt32) (255 : Int32) (by decide)) (by decide +kernel) (by decide +kernel)]
    obtain ⟨cl6, Ar6, q6, S6, M6, H6, G6⟩ := id V5
    refine Home.wr (stC X5 hx hZ e5 Ar6 (j := (1 : Int32)) (inb_of S6 ⟨by decide, by decide⟩) rfl rfl (hb hby d1_36)) fun T6 h6 X6 e6 W6 => ?_
    have W6' := Wr.to W6 (congrArg Value.int (nar_char_id (bnd_and ((i0.toUInt32 >>> ((8 : Int32) &&& 31).toUInt32).toInt32) (255 : Int32) (by decide)) (by decide +kernel) (by decide +kernel)))
    have V6 : Arv Z h6 b4 k4 .char (2 : Int32) [(.int (i0 &&& (255 : Int32))), (.int (((i0.toUInt32 >>> ((8 : Int32) &&& 31).toUInt32).toInt32) &&& (255 : Int32)))] (.int (0 : Int32)) := Arv.set Ar6 q6 S6 M6 H6 G6 (fits_char_b (bnd_and ((i0.toUInt32 >>> ((8 : Int32) &&& 31).toUInt32).toInt32) (255 : Int32) (by decide)) (by decide +kernel) (by decide +kernel)) W6' 1 rfl (Nat.le_of_ble_eq_true rfl)
    have O6 := O5.wr W6 g_b4
    have K6 : Keep h0 h6 ([] : List Addr) := Keep.wr K5 W6 (Or.inr (Nat.le_trans (Nat.le_refl _) (Nat.le_of_eq g4.symm)))
    have N6 := Fr.snoc X6 N5 g_b4
    show Home T6 (mkF m 37 #[.val (.int i0), .val (.ref b4)] [])
    refine Home.nw (own_newO X6 hx hZ hown (own_w6 hw) (own_w7 hw) (own_w8 hw) e6 rfl (hb hby d1_37) (by decide) (by decide)) fun T7 h7 b7 g7 X7 e7 E7 A7 D7 => ?_
    have g_b7 : n0 ≤ b7 := Nat.le_trans (Old.le O6) (Nat.le_of_eq g7.symm)
    have F_coder_b7 : Fld Z h7 b7 "java/lang/String" "coder" "B" (.int (0 : Int32)) := D7 (Or.inr (own_w32 hw)) (ty := .byte) (by decide)
    have F_value_b7 : Fld Z h7 b7 "java/lang/String" "value" "[B" .null := D7 (Or.inr (own_w34 hw)) (ty := (.array .byte)) (by decide)
    have O7 := O6.ext E7
    have K7 : Keep h0 h7 ([] : List Addr) := Keep.ext K6 E7
    refine Home.run X7 hx hby sg1_40_2 (pc' := 42) (L' := #[.val (.int i0), .val (.ref b4)]) (S' := [(.ref b4), (.ref b7), (.ref b7)]) rfl ?_
    have q8 := (V6.ext E7)
    refine Home.call (own_special X7 hx hZ hown rfl (own_w9 hw) (own_w10 hw) (own_w8 hw) (own_w11 hw) (by decide) (rm2_0 l Z a0 hw [] b7 b4 k4 (i0 &&& (255 : Int32)) (((i0.toUInt32 >>> ((8 : Int32) &&& 31).toUInt32).toInt32) &&& (255 : Int32)) sv_COMPACT_STRINGS h7 n0 O7 q8 S_COMPACT_STRINGS A7 F_coder_b7 F_value_b7 (bnd_and i0 (255 : Int32) (by decide)) (bnd_and ((i0.toUInt32 >>> ((8 : Int32) &&& 31).toUInt32).toInt32) (255 : Int32) (by decide)) g_b7 hCS) e7 rfl (by rw [hml]; rfl) (a := b7) (argsL := [(.ref b4)]) (rest := [(.ref b7)]) (lenOf own_pd4 rfl) rfl rfl (W := 1) (by show 2 * 0 + _ ≤ _; exact Nat.le_of_eq rfl) (by decide) (by decide) (hb hby d1_42) (by decide) (by decide)) ?_
    rintro _ T9 L9 X9 ⟨b1_3_2_9, k1_3_2_9, rfl, N9q, sz_b1_3_2_9, K9q, P9_0, P9_1, P9_2, P9_3⟩
    have g_b1_3_2_9 : n0 ≤ b1_3_2_9 := Nat.le_trans (Old.le O7) sz_b1_3_2_9
    have le10 : h0.size ≤ h5.size := Nat.le_trans E4.1 (Nat.le_of_eq W5.size.symm)
    have le11 : h0.size ≤ h6.size := Nat.le_trans le10 (Nat.le_of_eq W6.size.symm)
    have O9 := Old.keep O7 K9q (allS g_b7 all0)
    have K9 : Keep h0 T9.heap ([] : List Addr) := Keep.trans K7 K9q (allS (Or.inr (Nat.le_trans le11 (Nat.le_of_eq g7.symm))) all0)
    have N9 := Fr.app N6 N9q
    show Home T9 (mkF m 45 #[.val (.int i0), .val (.ref b4)] [(.ref b7)])
    exact Home.retR X9 hx hlk hret rfl rfl (hb hby d1_45) ⟨_, rfl, N9, K9, Nul.of P9_0⟩ (by decide) (by decide)
set_option maxRecDepth 65536 in
set_option maxHeartbeats 40000000 in
theorem rm10_0 (l : Launch) (Z : State) (a0 : Array Value) (hw : ∀ d ∈ tables_1, d.before a0 Z = true) (ws : List Jvm.Cond) (o0 : Addr) (h0 : Heap) (n0 : Nat) (O0 : Old Z n0 h0) :
    Con l Z (⟨"java/util/AbstractCollection", "<init>", "()V"⟩ : MethodName) jdk_22_method_1_code 1 none ws ({ frames := 1, cells := 0, slots := 0, locals := 12 } : Room) #[(.ref o0)] h0 (Pur none h0) := by
  refine own_body (plainFor_of_name own_pn3) (fun m => ef_rm10_0 m o0) ?_
  intro p e s m below meth c s₁ hx hby hlk hml hret hZ hown hnm X0 e0
  have N0 := Fr.nil n0
  refine Home.run X0 hx hby sg10_0_1 (pc' := 1) (L' := #[.val (.ref o0)]) (S' := [(.ref o0)]) rfl ?_
  refine Home.st (initO X0 hx hZ hown (own_w53 hw) (own_w17 hw) (own_w18 hw) e0 rfl (by rw [hml]; rfl) rfl (hb hby d10_1) (by decide) (W := 0) (by show 2 * 0 + _ ≤ _; exact Nat.le_of_eq rfl) (by decide)) fun T1 X1 e1 => ?_
  exact Home.ret0 X1 hx hlk hret (hb hby d10_4) ⟨rfl, rfl, e1⟩ (by decide) (by decide)
set_option maxRecDepth 65536 in
set_option maxHeartbeats 40000000 in
theorem rm9_0 (l : Launch) (Z : State) (a0 : Array Value) (hw : ∀ d ∈ tables_1, d.before a0 Z = true) (ws : List Jvm.Cond) (o0 : Addr) (h0 : Heap) (n0 : Nat) (O0 : Old Z n0 h0) (E_o0 : Exa Z h0 o0 "java/util/ArrayList") (F_modCount_o0 : Fld Z h0 o0 "java/util/AbstractList" "modCount" "I" (.int (0 : Int32))) (g_o0 : n0 ≤ o0) (F_elementData_o0 : Fld Z h0 o0 "java/util/ArrayList" "elementData" "[Ljava/lang/Object;" .null) (F_size_o0 : Fld Z h0 o0 "java/util/ArrayList" "size" "I" (.int (0 : Int32))) :
    Con l Z (⟨"java/util/AbstractList", "<init>", "()V"⟩ : MethodName) jdk_39_method_1_code 1 none ws ({ frames := 2, cells := 0, slots := 0, locals := 24 } : Room) #[(.ref o0)] h0 (fun v h L => v = none ∧ Fr n0 L ∧ Keep h0 h [o0] ∧ Exa Z h o0 "java/util/ArrayList" ∧ Fld Z h o0 "java/util/AbstractList" "modCount" "I" (.int (0 : Int32)) ∧ Fld Z h o0 "java/util/ArrayList" "elementData" "[Ljava/lang/Object;" .null ∧ Fld Z h o0 "java/util/ArrayList" "size" "I" (.int (0 : Int32))) := by
  refine own_body (plainFor_of_name own_pn4) (fun m => ef_rm9_0 m o0) ?_
  intro p e s m below meth c s₁ hx hby hlk hml hret hZ hown hnm X0 e0
  have N0 := Fr.nil n0
  refine Home.run X0 hx hby sg9_0_1 (pc' := 1) (L' := #[.val (.ref o0)]) (S' := [(.ref o0)]) rfl ?_
  refine Home.st (own_pure (own_special X0 hx hZ hown rfl (own_w47 hw) (own_w48 hw) (own_w51 hw) (own_w52 hw) (by decide) (rm10_0 l Z a0 hw [] o0 h0 n0 O0) e0 rfl (by rw [hml]; rfl) (a := o0) (argsL := []) (rest := []) (lenOf own_pd6 rfl) rfl rfl (W := 0) (by show 2 * 0 + _ ≤ _; exact Nat.le_of_eq rfl) (by decide) (by decide) (hb hby d9_1) (by decide) (by decide))) fun T1 X1 e1 => ?_
  refine Home.run X1 hx hby sg9_4_2 (pc' := 6) (L' := #[.val (.ref o0)]) (S' := [(.int (0 : Int32)), (.ref o0)]) rfl ?_
  refine Home.wr (putF X1 hx hZ hown (host := "") (Or.inl (own_w54 hw)) Via.refl e1 F_modCount_o0 E_o0 (Or.inl (own_w55 hw)) (own_w36 hw) (ty := .int) (by decide) rfl rfl rfl rfl (hb hby d9_6)) fun T2 h2 X2 e2 W2 => ?_
  have Fw2 := F_modCount_o0.same W2
  have O2 := O0.wr W2 g_o0
  have K2 : Keep h0 h2 ([o0] : List Addr) := Keep.wr (Keep.refl h0 ([o0] : List Addr)) W2 (Or.inl (List.mem_of_getElem? (i := 0) rfl))
  have N2 := Fr.snoc X2 N0 g_o0
  show Home T2 (mkF m 9 #[.val (.ref o0)] [])
  have q3 := (E_o0.wr W2)
  have q4 := (F_elementData_o0.other W2 (Or.inr (slot_ne (Or.inl (own_w58 hw)) (Or.inl (own_w55 hw)) (by decide) (t := (.array (.object "java/lang/Object"))) (t' := .int) (by decide) (by decide))))
  have q5 := (F_size_o0.other W2 (Or.inr (slot_ne (Or.inl (own_w73 hw)) (Or.inl (own_w55 hw)) (by decide) (t := .int) (t' := .int) (by decide) (by decide))))
  exact Home.ret0 X2 hx hlk hret (hb hby d9_9) (by rw [show T2.heap = h2 from e2]; exact ⟨rfl, N2, K2, q3, Fw2, q4, q5⟩) (by decide) (by decide)
set_option maxRecDepth 65536 in
set_option maxHeartbeats 40000000 in
theorem rm8_0 (l : Launch) (Z : State) (a0 : Array Value) (hw : ∀ d ∈ tables_1, d.before a0 Z = true) (ws : List Jvm.Cond) (o0 : Addr) (sv_DEFAULTCAPACITY_EMPTY_ELEMENTDATA : Addr) (h0 : Heap) (n0 : Nat) (O0 : Old Z n0 h0) (E_o0 : Exa Z h0 o0 "java/util/ArrayList") (F_modCount_o0 : Fld Z h0 o0 "java/util/AbstractList" "modCount" "I" (.int (0 : Int32))) (F_elementData_o0 : Fld Z h0 o0 "java/util/ArrayList" "elementData" "[Ljava/lang/Object;" .null) (F_size_o0 : Fld Z h0 o0 "java/util/ArrayList" "size" "I" (.int (0 : Int32))) (g_o0 : n0 ≤ o0) (S_DEFAULTCAPACITY_EMPTY_ELEMENTDATA : Sta Z Z.heap "java/util/ArrayList" "DEFAULTCAPACITY_EMPTY_ELEMENTDATA" "[Ljava/lang/Object;" (.ref sv_DEFAULTCAPACITY_EMPTY_ELEMENTDATA)) :
    Con l Z (⟨"java/util/ArrayList", "<init>", "()V"⟩ : MethodName) jdk_38_method_2_code 1 none ws ({ frames := 3, cells := 0, slots := 0, locals := 36 } : Room) #[(.ref o0)] h0 (fun v h L => v = none ∧ Fr n0 L ∧ Keep h0 h [o0] ∧ Exa Z h o0 "java/util/ArrayList" ∧ Fld Z h o0 "java/util/AbstractList" "modCount" "I" (.int (0 : Int32)) ∧ Fld Z h o0 "java/util/ArrayList" "elementData" "[Ljava/lang/Object;" (.ref sv_DEFAULTCAPACITY_EMPTY_ELEMENTDATA) ∧ Fld Z h o0 "java/util/ArrayList" "size" "I" (.int (0 : Int32))) := by
  refine own_body (plainFor_of_name own_pn5) (fun m => ef_rm8_0 m o0) ?_
  intro p e s m below meth c s₁ hx hby hlk hml hret hZ hown hnm X0 e0
  have N0 := Fr.nil n0
  refine Home.run X0 hx hby sg8_0_1 (pc' := 1) (L' := #[.val (.ref o0)]) (S' := [(.ref o0)]) rfl ?_
  refine Home.call (own_special X0 hx hZ hown rfl (own_w41 hw) (own_w42 hw) (own_w45 hw) (own_w46 hw) (by decide) (rm9_0 l Z a0 hw [] o0 h0 n0 O0 E_o0 F_modCount_o0 g_o0 F_elementData_o0 F_size_o0) e0 rfl (by rw [hml]; rfl) (a := o0) (argsL := []) (rest := []) (lenOf own_pd6 rfl) rfl rfl (W := 0) (by show 2 * 0 + _ ≤ _; exact Nat.le_of_eq rfl) (by decide) (by decide) (hb hby d8_1) (by decide) (by decide)) ?_
  rintro _ T1 L1 X1 ⟨rfl, N1q, K1q, P1_0, P1_1, P1_2, P1_3⟩
  have O1 := Old.keep O0 K1q (allS g_o0 all0)
  have K1 : Keep h0 T1.heap ([o0] : List Addr) := Keep.trans (Keep.refl h0 ([o0] : List Addr)) K1q (allS (Or.inl (List.mem_of_getElem? (i := 0) rfl)) all0)
  have N1 := Fr.app N0 N1q
  refine Home.run X1 hx hby sg8_4_1 (pc' := 5) (L' := #[.val (.ref o0)]) (S' := [(.ref o0)]) rfl ?_
  refine Home.st (getS2 X1 hx hZ hown (host := "") (Or.inl (own_w56 hw)) Via.refl rfl (S_DEFAULTCAPACITY_EMPTY_ELEMENTDATA.ext O1.2) rfl (hb hby d8_5)) fun T2 X2 e2 => ?_
  show Home T2 (mkF m 8 #[.val (.ref o0)] [(.ref sv_DEFAULTCAPACITY_EMPTY_ELEMENTDATA), (.ref o0)])
  refine Home.wr (putF X2 hx hZ hown (host := "") (Or.inl (own_w57 hw)) Via.refl e2 P1_2 P1_0 (Or.inl (own_w58 hw)) (own_w36 hw) (ty := (.array (.object "java/lang/Object"))) (by decide) rfl rfl rfl rfl (hb hby d8_8)) fun T3 h3 X3 e3 W3 => ?_
  have Fw3 := P1_2.same W3
  have O3 := O1.wr W3 g_o0
  have K3 : Keep h0 h3 ([o0] : List Addr) := Keep.wr K1 W3 (Or.inl (List.mem_of_getElem? (i := 0) rfl))
  have N3 := Fr.snoc X3 N1 g_o0
  have q4 := (P1_0.wr W3)
  have q5 := (P1_1.other W3 (Or.inr (slot_ne (Or.inl (own_w55 hw)) (Or.inl (own_w58 hw)) (by decide) (t := .int) (t' := (.array (.object "java/lang/Object"))) (by decide) (by decide))))
  have q6 := (P1_3.other W3 (Or.inr (slot_ne (Or.inl (own_w73 hw)) (Or.inl (own_w58 hw)) (by decide) (t := .int) (t' := (.array (.object "java/lang/Object"))) (by decide) (by decide))))
  exact Home.ret0 X3 hx hlk hret (hb hby d8_11) (by rw [show T3.heap = h3 from e3]; exact ⟨rfl, N3, K3, q4, q5, Fw3, q6⟩) (by decide) (by decide)
set_option maxRecDepth 65536 in
set_option maxHeartbeats 40000000 in
theorem rm15_0 (l : Launch) (Z : State) (a0 : Array Value) (hw : ∀ d ∈ tables_1, d.before a0 Z = true) (ws : List Jvm.Cond) (o0 : Addr) (h0 : Heap) (n0 : Nat) (O0 : Old Z n0 h0) :
    Con l Z (⟨"java/lang/Record", "<init>", "()V"⟩ : MethodName) jdk_30_method_1_code 1 none ws ({ frames := 1, cells := 0, slots := 0, locals := 12 } : Room) #[(.ref o0)] h0 (Pur none h0) := by
  refine own_body (plainFor_of_name own_pn6) (fun m => ef_rm15_0 m o0) ?_
  intro p e s m below meth c s₁ hx hby hlk hml hret hZ hown hnm X0 e0
  have N0 := Fr.nil n0
  refine Home.run X0 hx hby sg15_0_1 (pc' := 1) (L' := #[.val (.ref o0)]) (S' := [(.ref o0)]) rfl ?_
  refine Home.st (initO X0 hx hZ hown (own_w89 hw) (own_w17 hw) (own_w18 hw) e0 rfl (by rw [hml]; rfl) rfl (hb hby d15_1) (by decide) (W := 0) (by show 2 * 0 + _ ≤ _; exact Nat.le_of_eq rfl) (by decide)) fun T1 X1 e1 => ?_
  exact Home.ret0 X1 hx hlk hret (hb hby d15_4) ⟨rfl, rfl, e1⟩ (by decide) (by decide)
set_option maxRecDepth 65536 in
set_option maxHeartbeats 40000000 in
theorem rm14_0 (l : Launch) (Z : State) (a0 : Array Value) (hw : ∀ d ∈ tables_1, d.before a0 Z = true) (ws : List Jvm.Cond) (o0 : Addr) (o1 : Value) (h0 : Heap) (n0 : Nat) (O0 : Old Z n0 h0) (isr_o1 : o1.isRef = true) (E_o0 : Exa Z h0 o0 "com/example/wary_meter/warymeter/Column") (F_name_o0 : Fld Z h0 o0 "com/example/wary_meter/warymeter/Column" "name" "Ljava/lang/String;" .null) (g_o0 : n0 ≤ o0) (F_value_o0 : Fld Z h0 o0 "com/example/wary_meter/warymeter/Column" "value" "Ljava/util/function/Function;" .null) (F_key_o0 : Fld Z h0 o0 "com/example/wary_meter/warymeter/Column" "key" "Ljava/util/function/Function;" .null) (F_text_o0 : Fld Z h0 o0 "com/example/wary_meter/warymeter/Column" "text" "Ljava/util/function/Function;" .null) :
    Con l Z (⟨"com/example/wary_meter/warymeter/Column", "<init>", "(Ljava/lang/String;Ljava/util/function/Function;Ljava/util/function/Function;Ljava/util/function/Function;)V"⟩ : MethodName) prog_3_method_2_code 5 none ws ({ frames := 2, cells := 0, slots := 0, locals := 24 } : Room) #[(.ref o0), o1, .null, .null, .null] h0 (fun v h L => v = none ∧ Fr n0 L ∧ Keep h0 h [o0] ∧ Exa Z h o0 "com/example/wary_meter/warymeter/Column" ∧ Fld Z h o0 "com/example/wary_meter/warymeter/Column" "name" "Ljava/lang/String;" o1 ∧ Fld Z h o0 "com/example/wary_meter/warymeter/Column" "value" "Ljava/util/function/Function;" .null ∧ Fld Z h o0 "com/example/wary_meter/warymeter/Column" "key" "Ljava/util/function/Function;" .null ∧ Fld Z h o0 "com/example/wary_meter/warymeter/Column" "text" "Ljava/util/function/Function;" .null) := by
  refine own_body (plainFor_of_name own_pn7) (fun m => ef_rm14_0 m o0 o1 (isr_o1)) ?_
  intro p e s m below meth c s₁ hx hby hlk hml hret hZ hown hnm X0 e0
  have N0 := Fr.nil n0
  refine Home.run X0 hx hby sg14_0_1 (pc' := 1) (L' := #[.val (.ref o0), .val o1, .val .null, .val .null, .val .null]) (S' := [(.ref o0)]) rfl ?_
  refine Home.st (own_pure (own_special X0 hx hZ hown rfl (own_w84 hw) (own_w85 hw) (own_w87 hw) (own_w88 hw) (by decide) (rm15_0 l Z a0 hw [] o0 h0 n0 O0) e0 rfl (by rw [hml]; rfl) (a := o0) (argsL := []) (rest := []) (lenOf own_pd6 rfl) rfl rfl (W := 0) (by show 2 * 0 + _ ≤ _; exact Nat.le_of_eq rfl) (by decide) (by decide) (hb hby d14_1) (by decide) (by decide))) fun T1 X1 e1 => ?_
  refine Home.run X1 hx hby sg14_4_1 (pc' := 5) (L' := #[.val (.ref o0), .val o1, .val .null, .val .null, .val .null]) (S' := [(.ref o0)]) rfl ?_
  refine Home.go (fun _ => XS.aloadN X1.here hx rfl (hb hby d14_5) rfl (isr_o1)) ?_
  refine Home.wr (putF X1 hx hZ hown (host := "") (Or.inl (own_w90 hw)) Via.refl e1 F_name_o0 E_o0 (Or.inr ⟨(own_w91 hw), rfl, hnm⟩) (own_w77 hw) (ty := (.object "java/lang/String")) (by decide) (own_narrow_ref (isr_o1)) (fits_refv (isr_o1) rfl) rfl rfl (hb hby d14_6)) fun T2 h2 X2 e2 W2 => ?_
  have Fw2 := F_name_o0.same W2
  have O2 := O0.wr W2 g_o0
  have K2 : Keep h0 h2 ([o0] : List Addr) := Keep.wr (Keep.refl h0 ([o0] : List Addr)) W2 (Or.inl (List.mem_of_getElem? (i := 0) rfl))
  have N2 := Fr.snoc X2 N0 g_o0
  show Home T2 (mkF m 9 #[.val (.ref o0), .val o1, .val .null, .val .null, .val .null] [])
  refine Home.run X2 hx hby sg14_9_2 (pc' := 11) (L' := #[.val (.ref o0), .val o1, .val .null, .val .null, .val .null]) (S' := [.null, (.ref o0)]) rfl ?_
  have q3 := (E_o0.wr W2)
  have q4 := (F_value_o0.other W2 (Or.inr (slot_ne (Or.inr (own_w93 hw)) (Or.inr (own_w91 hw)) (by decide) (t := (.object "java/util/function/Function")) (t' := (.object "java/lang/String")) (by decide) (by decide))))
  refine Home.wr (putF X2 hx hZ hown (host := "") (Or.inl (own_w92 hw)) Via.refl e2 q4 q3 (Or.inr ⟨(own_w93 hw), rfl, hnm⟩) (own_w77 hw) (ty := (.object "java/util/function/Function")) (by decide) rfl rfl rfl rfl (hb hby d14_11)) fun T5 h5 X5 e5 W5 => ?_
  have Fw5 := q4.same W5
  have O5 := O2.wr W5 g_o0
  have K5 : Keep h0 h5 ([o0] : List Addr) := Keep.wr K2 W5 (Or.inl (List.mem_of_getElem? (i := 0) rfl))
  have N5 := Fr.snoc X5 N2 g_o0
  show Home T5 (mkF m 14 #[.val (.ref o0), .val o1, .val .null, .val .null, .val .null] [])
  refine Home.run X5 hx hby sg14_14_2 (pc' := 16) (L' := #[.val (.ref o0), .val o1, .val .null, .val .null, .val .null]) (S' := [.null, (.ref o0)]) rfl ?_
  have q6 := (q3.wr W5)
  have q7 := ((F_key_o0.other W2 (Or.inr (slot_ne (Or.inr (own_w95 hw)) (Or.inr (own_w91 hw)) (by decide) (t := (.object "java/util/function/Function")) (t' := (.object "java/lang/String")) (by decide) (by decide)))).other W5 (Or.inr (slot_ne (Or.inr (own_w95 hw)) (Or.inr (own_w93 hw)) (by decide) (t := (.object "java/util/function/Function")) (t' := (.object "java/util/function/Function")) (by decide) (by decide))))
  refine Home.wr (putF X5 hx hZ hown (host := "") (Or.inl (own_w94 hw)) Via.refl e5 q7 q6 (Or.inr ⟨(own_w95 hw), rfl, hnm⟩) (own_w77 hw) (ty := (.object "java/util/function/Function")) (by decide) rfl rfl rfl rfl (hb hby d14_16)) fun T8 h8 X8 e8 W8 => ?_
  have Fw8 := q7.same W8
  have O8 := O5.wr W8 g_o0
  have K8 : Keep h0 h8 ([o0] : List Addr) := Keep.wr K5 W8 (Or.inl (List.mem_of_getElem? (i := 0) rfl))
  have N8 := Fr.snoc X8 N5 g_o0
  show Home T8 (mkF m 19 #[.val (.ref o0), .val o1, .val .null, .val .null, .val .null] [])
  refine Home.run X8 hx hby sg14_19_2 (pc' := 22) (L' := #[.val (.ref o0), .val o1, .val .null, .val .null, .val .null]) (S' := [.null, (.ref o0)]) rfl ?_
  have q9 := (q6.wr W8)
  have q10 := (((F_text_o0.other W2 (Or.inr (slot_ne (Or.inr (own_w97 hw)) (Or.inr (own_w91 hw)) (by decide) (t := (.object "java/util/function/Function")) (t' := (.object "java/lang/String")) (by decide) (by decide)))).other W5 (Or.inr (slot_ne (Or.inr (own_w97 hw)) (Or.inr (own_w93 hw)) (by decide) (t := (.object "java/util/function/Function")) (t' := (.object "java/util/function/Function")) (by decide) (by decide)))).other W8 (Or.inr (slot_ne (Or.inr (own_w97 hw)) (Or.inr (own_w95 hw)) (by decide) (t := (.object "java/util/function/Function")) (t' := (.object "java/util/function/Function")) (by decide) (by decide))))
  refine Home.wr (putF X8 hx hZ hown (host := "") (Or.inl (own_w96 hw)) Via.refl e8 q10 q9 (Or.inr ⟨(own_w97 hw), rfl, hnm⟩) (own_w77 hw) (ty := (.object "java/util/function/Function")) (by decide) rfl rfl rfl rfl (hb hby d14_22)) fun T11 h11 X11 e11 W11 => ?_
  have Fw11 := q10.same W11
  have O11 := O8.wr W11 g_o0
  have K11 : Keep h0 h11 ([o0] : List Addr) := Keep.wr K8 W11 (Or.inl (List.mem_of_getElem? (i := 0) rfl))
  have N11 := Fr.snoc X11 N8 g_o0
  show Home T11 (mkF m 25 #[.val (.ref o0), .val o1, .val .null, .val .null, .val .null] [])
  have q12 := (q9.wr W11)
  have q13 := (((Fw2.other W5 (Or.inr (slot_ne (Or.inr (own_w91 hw)) (Or.inr (own_w93 hw)) (by decide) (t := (.object "java/lang/String")) (t' := (.object "java/util/function/Function")) (by decide) (by decide)))).other W8 (Or.inr (slot_ne (Or.inr (own_w91 hw)) (Or.inr (own_w95 hw)) (by decide) (t := (.object "java/lang/String")) (t' := (.object "java/util/function/Function")) (by decide) (by decide)))).other W11 (Or.inr (slot_ne (Or.inr (own_w91 hw)) (Or.inr (own_w97 hw)) (by decide) (t := (.object "java/lang/String")) (t' := (.object "java/util/function/Function")) (by decide) (by decide))))
  have q14 := ((Fw5.other W8 (Or.inr (slot_ne (Or.inr (own_w93 hw)) (Or.inr (own_w95 hw)) (by decide) (t := (.object "java/util/function/Function")) (t' := (.object "java/util/function/Function")) (by decide) (by decide)))).other W11 (Or.inr (slot_ne (Or.inr (own_w93 hw)) (Or.inr (own_w97 hw)) (by decide) (t := (.object "java/util/function/Function")) (t' := (.object "java/util/function/Function")) (by decide) (by decide))))
  have q15 := (Fw8.other W11 (Or.inr (slot_ne (Or.inr (own_w95 hw)) (Or.inr (own_w97 hw)) (by decide) (t := (.object "java/util/function/Function")) (t' := (.object "java/util/function/Function")) (by decide) (by decide))))
  exact Home.ret0 X11 hx hlk hret (hb hby d14_25) (by rw [show T11.heap = h11 from e11]; exact ⟨rfl, N11, K11, q12, q13, q14, q15, Fw11⟩) (by decide) (by decide)
set_option maxRecDepth 65536 in
set_option maxHeartbeats 40000000 in
theorem rm13_0 (l : Launch) (Z : State) (a0 : Array Value) (hw : ∀ d ∈ tables_1, d.before a0 Z = true) (ws : List Jvm.Cond) (o0 : Addr) (o1 : Value) (h0 : Heap) (n0 : Nat) (O0 : Old Z n0 h0) (isr_o1 : o1.isRef = true) (E_o0 : Exa Z h0 o0 "com/example/wary_meter/warymeter/Column") (F_name_o0 : Fld Z h0 o0 "com/example/wary_meter/warymeter/Column" "name" "Ljava/lang/String;" .null) (F_value_o0 : Fld Z h0 o0 "com/example/wary_meter/warymeter/Column" "value" "Ljava/util/function/Function;" .null) (F_key_o0 : Fld Z h0 o0 "com/example/wary_meter/warymeter/Column" "key" "Ljava/util/function/Function;" .null) (F_text_o0 : Fld Z h0 o0 "com/example/wary_meter/warymeter/Column" "text" "Ljava/util/function/Function;" .null) (g_o0 : n0 ≤ o0) :
    Con l Z (⟨"com/example/wary_meter/warymeter/Column", "<init>", "(Ljava/lang/String;Ljava/util/function/Function;)V"⟩ : MethodName) prog_3_method_1_code 3 none ws ({ frames := 3, cells := 0, slots := 0, locals := 40 } : Room) #[(.ref o0), o1, .null] h0 (fun v h L => v = none ∧ Fr n0 L ∧ Keep h0 h [o0] ∧ Exa Z h o0 "com/example/wary_meter/warymeter/Column" ∧ Fld Z h o0 "com/example/wary_meter/warymeter/Column" "name" "Ljava/lang/String;" o1 ∧ Fld Z h o0 "com/example/wary_meter/warymeter/Column" "value" "Ljava/util/function/Function;" .null ∧ Fld Z h o0 "com/example/wary_meter/warymeter/Column" "key" "Ljava/util/function/Function;" .null ∧ Fld Z h o0 "com/example/wary_meter/warymeter/Column" "text" "Ljava/util/function/Function;" .null) := by
  refine own_body (plainFor_of_name own_pn7) (fun m => ef_rm13_0 m o0 o1 (isr_o1)) ?_
  intro p e s m below meth c s₁ hx hby hlk hml hret hZ hown hnm X0 e0
  have N0 := Fr.nil n0
  refine Home.run X0 hx hby sg13_0_1 (pc' := 1) (L' := #[.val (.ref o0), .val o1, .val .null]) (S' := [(.ref o0)]) rfl ?_
  refine Home.go (fun _ => XS.aloadN X0.here hx rfl (hb hby d13_1) rfl (isr_o1)) ?_
  refine Home.run X0 hx hby sg13_2_3 (pc' := 5) (L' := #[.val (.ref o0), .val o1, .val .null]) (S' := [.null, .null, .null, o1, (.ref o0)]) rfl ?_
  refine Home.call (own_special X0 hx hZ hown rfl (own_w81 hw) (own_w82 hw) (own_w61 hw) (own_w83 hw) (by decide) (rm14_0 l Z a0 hw [] o0 o1 h0 n0 O0 isr_o1 E_o0 F_name_o0 g_o0 F_value_o0 F_key_o0 F_text_o0) e0 rfl (by rw [hml]; rfl) (a := o0) (argsL := [o1, .null, .null, .null]) (rest := []) (lenOf own_pd7 rfl) rfl rfl (W := 0) (by show 2 * 0 + _ ≤ _; exact Nat.le_of_eq rfl) (by decide) (by decide) (hb hby d13_5) (by decide) (by decide)) ?_
  rintro _ T1 L1 X1 ⟨rfl, N1q, K1q, P1_0, P1_1, P1_2, P1_3, P1_4⟩
  have O1 := Old.keep O0 K1q (allS g_o0 all0)
  have K1 : Keep h0 T1.heap ([o0] : List Addr) := Keep.trans (Keep.refl h0 ([o0] : List Addr)) K1q (allS (Or.inl (List.mem_of_getElem? (i := 0) rfl)) all0)
  have N1 := Fr.app N0 N1q
  show Home T1 (mkF m 8 #[.val (.ref o0), .val o1, .val .null] [])
  exact Home.ret0 X1 hx hlk hret (hb hby d13_8) ⟨rfl, N1, K1, P1_0, P1_1, P1_2, P1_3, P1_4⟩ (by decide) (by decide)
set_option maxRecDepth 65536 in
set_option maxHeartbeats 40000000 in
theorem rm20_0 (l : Launch) (Z : State) (a0 : Array Value) (hw : ∀ d ∈ tables_1, d.before a0 Z = true) (ws : List Jvm.Cond)  (h0 : Heap) (n0 : Nat) (O0 : Old Z n0 h0) :
    Con l Z (⟨"java/lang/Math", "max", "(II)I"⟩ : MethodName) jdk_29_method_65_code 2 (some .int) ws ({ frames := 0, cells := 0, slots := 0, locals := 0 } : Room) #[(.int (10 : Int32)), (.int (1 : Int32))] h0 (Pur (some (.int (10 : Int32))) h0) := by
  refine own_body (Jvm.Free.JP.mathPlain rfl (by decide +kernel)) (fun m => ef_rm20_0 m (10 : Int32) (1 : Int32)) ?_
  intro p e s m below meth c s₁ hx hby hlk hml hret hZ hown hnm X0 e0
  have N0 := Fr.nil n0
  refine Home.run X0 hx hby sg20_0_2 (pc' := 2) (L' := #[.val (.int (10 : Int32)), .val (.int (1 : Int32))]) (S' := [(.int (1 : Int32)), (.int (10 : Int32))]) rfl ?_
  refine Home.go (fun _ => XS.icmpNo X0.here hx rfl (hb hby d20_2) rfl (flt (by decide)).1) ?_
  refine Home.run X0 hx hby sg20_5_2 (pc' := 10) (L' := #[.val (.int (10 : Int32)), .val (.int (1 : Int32))]) (S' := [(.int (10 : Int32))]) rfl ?_
  exact Home.retI X0 hx hlk hret (hb hby d20_10) ⟨rfl, rfl, e0⟩ (by decide) (by decide)
set_option maxRecDepth 65536 in
set_option maxHeartbeats 40000000 in
theorem rm19_0 (l : Launch) (Z : State) (a0 : Array Value) (hw : ∀ d ∈ tables_1, d.before a0 Z = true) (ws : List Jvm.Cond) (o0 : Addr) (sv_DEFAULTCAPACITY_EMPTY_ELEMENTDATA : Addr) (kde : ClassId) (h0 : Heap) (n0 : Nat) (O0 : Old Z n0 h0) (F_elementData_o0 : Fld Z h0 o0 "java/util/ArrayList" "elementData" "[Ljava/lang/Object;" (.ref sv_DEFAULTCAPACITY_EMPTY_ELEMENTDATA)) (V_de : Arv Z Z.heap sv_DEFAULTCAPACITY_EMPTY_ELEMENTDATA kde (.object "java/lang/Object") (0 : Int32) [] .null) (S_DEFAULTCAPACITY_EMPTY_ELEMENTDATA : Sta Z Z.heap "java/util/ArrayList" "DEFAULTCAPACITY_EMPTY_ELEMENTDATA" "[Ljava/lang/Object;" (.ref sv_DEFAULTCAPACITY_EMPTY_ELEMENTDATA)) (E_o0 : Exa Z h0 o0 "java/util/ArrayList") (g_o0 : n0 ≤ o0) (F_size_o0 : Fld Z h0 o0 "java/util/ArrayList" "size" "I" (.int (0 : Int32))) (F_modCount_o0 : Fld Z h0 o0 "java/util/AbstractList" "modCount" "I" (.int (1 : Int32))) :
    Con l Z (⟨"java/util/ArrayList", "grow", "(I)[Ljava/lang/Object;"⟩ : MethodName) jdk_38_method_6_code 4 (some (.array (.object "java/lang/Object"))) ws ({ frames := 1, cells := 1, slots := 10, locals := 14 } : Room) #[(.ref o0), (.int (1 : Int32))] h0 (fun v h L => ∃ (b6 : Addr), ∃ (k6 : ClassId), v = some (.ref b6) ∧ Fr n0 L ∧ h0.size ≤ b6 ∧ Keep h0 h [o0] ∧ Fld Z h o0 "java/util/ArrayList" "elementData" "[Ljava/lang/Object;" (.ref b6) ∧ Exa Z h o0 "java/util/ArrayList" ∧ Fld Z h o0 "java/util/ArrayList" "size" "I" (.int (0 : Int32)) ∧ Fld Z h o0 "java/util/AbstractList" "modCount" "I" (.int (1 : Int32)) ∧ Arv Z h b6 k6 (.object "java/lang/Object") (10 : Int32) [.null, .null, .null, .null, .null, .null, .null, .null, .null, .null] .null ∧ Ovr Z k6 "java/lang/Object") := by
  refine own_body (plainFor_of_name own_pn5) (fun m => ef_rm19_0 m o0 (1 : Int32)) ?_
  intro p e s m below meth c s₁ hx hby hlk hml hret hZ hown hnm X0 e0
  have N0 := Fr.nil n0
  refine Home.run X0 hx hby sg19_0_1 (pc' := 1) (L' := #[.val (.ref o0), .val (.int (1 : Int32)), .unset, .unset]) (S' := [(.ref o0)]) rfl ?_
  refine Home.st (getF X0 hx hZ hown (host := "") (Or.inl (own_w57 hw)) Via.refl e0 F_elementData_o0 rfl rfl (hb hby d19_1)) fun T1 X1 e1 => ?_
  obtain ⟨cl2, Ar2, q2, S2, M2, H2, G2⟩ := id (V_de.ext O0.2)
  refine Home.go (own_alen X1 hx hZ e1 Ar2 S2 M2 rfl rfl (hb hby d19_4)) ?_
  refine Home.run X1 hx hby sg19_5_2 (pc' := 7) (L' := #[.val (.ref o0), .val (.int (1 : Int32)), .val (.int (0 : Int32)), .unset]) (S' := [(.int (0 : Int32))]) rfl ?_
  refine Home.go (fun _ => XS.ifNo X1.here hx rfl (hb hby d19_7) rfl ((if0 _ _).trans (flt (by decide)).2.2.1)) ?_
  refine Home.run X1 hx hby sg19_10_1 (pc' := 11) (L' := #[.val (.ref o0), .val (.int (1 : Int32)), .val (.int (0 : Int32)), .unset]) (S' := [(.ref o0)]) rfl ?_
  refine Home.st (getF X1 hx hZ hown (host := "") (Or.inl (own_w57 hw)) Via.refl e1 F_elementData_o0 rfl rfl (hb hby d19_11)) fun T3 X3 e3 => ?_
  show Home T3 (mkF m 14 #[.val (.ref o0), .val (.int (1 : Int32)), .val (.int (0 : Int32)), .unset] [(.ref sv_DEFAULTCAPACITY_EMPTY_ELEMENTDATA)])
  refine Home.st (getS2 X3 hx hZ hown (host := "") (Or.inl (own_w56 hw)) Via.refl e3 (S_DEFAULTCAPACITY_EMPTY_ELEMENTDATA.ext O0.2) rfl (hb hby d19_14)) fun T4 X4 e4 => ?_
  refine Home.go (fun _ => Jvm.RoadKit.acmp X4 hx rfl rfl rfl (pc0 := 17) (pc' := 45) (same := true) rfl (hb hby d19_17) rfl (decide_eq_true rfl) (by decide) (by decide)) ?_
  show Home T4 (mkF m 45 #[.val (.ref o0), .val (.int (1 : Int32)), .val (.int (0 : Int32)), .unset] [])
  refine Home.run X4 hx hby sg19_45_3 (pc' := 49) (L' := #[.val (.ref o0), .val (.int (1 : Int32)), .val (.int (0 : Int32)), .unset]) (S' := [(.int (1 : Int32)), (.int (10 : Int32)), (.ref o0)]) rfl ?_
  refine Home.st (own_pure (own_static X4 hx hZ hown (own_w123 hw) (own_w124 hw) (own_w125 hw) (own_w126 hw) (by decide) (rm20_0 l Z a0 hw []  h0 n0 O0) e4 rfl (by rw [hml]; rfl) (argsL := [(.int (10 : Int32)), (.int (1 : Int32))]) (rest := [(.ref o0)]) (lenOf own_pd9 rfl) rfl rfl (W := 1) (by show 2 * 0 + _ ≤ _; exact Nat.le_of_eq rfl) (by decide) (by decide) (hb hby d19_49) (by decide) (by decide))) fun T5 X5 e5 => ?_
  refine Home.nr (own_newR X5 hx hZ hown (own_w127 hw) (own_w128 hw) e5 (g := (mkF m 52 #[.val (.ref o0), .val (.int (1 : Int32)), .val (.int (0 : Int32)), .unset] [(.int (10 : Int32)), (.ref o0)])) rfl (hb hby d19_52) rfl (by decide) (cap := 10) (by decide) (by decide) (by decide) (by decide)) fun T6 h6 k6 b6 g6 X6 e6 E6 A6 Ov6 => ?_
  have g_b6 : n0 ≤ b6 := Nat.le_trans (Old.le O0) (Nat.le_of_eq g6.symm)
  have V6 : Arv Z h6 b6 k6 (.object "java/lang/Object") (10 : Int32) [.null, .null, .null, .null, .null, .null, .null, .null, .null, .null] .null := (Arv.new A6 (by decide)).pad (pad_rep [] .null 10)
  have O6 := O0.ext E6
  have K6 : Keep h0 h6 ([o0] : List Addr) := Keep.ext (Keep.refl h0 ([o0] : List Addr)) E6
  refine Home.run X6 hx hby sg19_55_1 (pc' := 56) (L' := #[.val (.ref o0), .val (.int (1 : Int32)), .val (.int (0 : Int32)), .unset]) (S' := [(.ref b6), (.ref o0), (.ref b6)]) rfl ?_
  have q7 := (E_o0.ext E6)
  have q8 := (F_elementData_o0.ext E6)
  refine Home.wr (putF X6 hx hZ hown (host := "") (Or.inl (own_w57 hw)) Via.refl e6 q8 q7 (Or.inl (own_w58 hw)) (own_w36 hw) (ty := (.array (.object "java/lang/Object"))) (by decide) rfl rfl rfl rfl (hb hby d19_56)) fun T9 h9 X9 e9 W9 => ?_
  have Fw9 := q8.same W9
  have O9 := O6.wr W9 g_o0
  have K9 : Keep h0 h9 ([o0] : List Addr) := Keep.wr K6 W9 (Or.inl (List.mem_of_getElem? (i := 0) rfl))
  have N9 := Fr.snoc X9 N0 g_o0
  show Home T9 (mkF m 59 #[.val (.ref o0), .val (.int (1 : Int32)), .val (.int (0 : Int32)), .unset] [(.ref b6)])
  have q10 := (q7.wr W9)
  have q11 := ((F_size_o0.ext E6).other W9 (Or.inr (slot_ne (Or.inl (own_w73 hw)) (Or.inl (own_w58 hw)) (by decide) (t := .int) (t' := (.array (.object "java/lang/Object"))) (by decide) (by decide))))
  have q12 := ((F_modCount_o0.ext E6).other W9 (Or.inr (slot_ne (Or.inl (own_w55 hw)) (Or.inl (own_w58 hw)) (by decide) (t := .int) (t' := (.array (.object "java/lang/Object"))) (by decide) (by decide))))
  have ne13 : b6 ≠ o0 := (Ne.symm (Nat.ne_of_lt (Nat.lt_of_lt_of_le F_elementData_o0.lt (Nat.le_trans (Nat.le_refl _) (Nat.le_of_eq g6.symm)))))
  have q14 := (V6.other W9 ne13)
  exact Home.retR X9 hx hlk hret rfl rfl (hb hby d19_59) (by rw [show T9.heap = h9 from e9]; exact ⟨b6, k6, rfl, N9, (Nat.le_trans (Nat.le_refl _) (Nat.le_of_eq g6.symm)), K9, Fw9, q10, q11, q12, q14, Ov6⟩) (by decide) (by decide)
set_option maxRecDepth 65536 in
set_option maxHeartbeats 40000000 in
theorem rm18_0 (l : Launch) (Z : State) (a0 : Array Value) (hw : ∀ d ∈ tables_1, d.before a0 Z = true) (ws : List Jvm.Cond) (o0 : Addr) (sv_DEFAULTCAPACITY_EMPTY_ELEMENTDATA : Addr) (kde : ClassId) (h0 : Heap) (n0 : Nat) (O0 : Old Z n0 h0) (F_size_o0 : Fld Z h0 o0 "java/util/ArrayList" "size" "I" (.int (0 : Int32))) (E_o0 : Exa Z h0 o0 "java/util/ArrayList") (F_elementData_o0 : Fld Z h0 o0 "java/util/ArrayList" "elementData" "[Ljava/lang/Object;" (.ref sv_DEFAULTCAPACITY_EMPTY_ELEMENTDATA)) (V_de : Arv Z Z.heap sv_DEFAULTCAPACITY_EMPTY_ELEMENTDATA kde (.object "java/lang/Object") (0 : Int32) [] .null) (S_DEFAULTCAPACITY_EMPTY_ELEMENTDATA : Sta Z Z.heap "java/util/ArrayList" "DEFAULTCAPACITY_EMPTY_ELEMENTDATA" "[Ljava/lang/Object;" (.ref sv_DEFAULTCAPACITY_EMPTY_ELEMENTDATA)) (F_modCount_o0 : Fld Z h0 o0 "java/util/AbstractList" "modCount" "I" (.int (1 : Int32))) (g_o0 : n0 ≤ o0) :
    Con l Z (⟨"java/util/ArrayList", "grow", "()[Ljava/lang/Object;"⟩ : MethodName) jdk_38_method_7_code 1 (some (.array (.object "java/lang/Object"))) ws ({ frames := 2, cells := 1, slots := 10, locals := 29 } : Room) #[(.ref o0)] h0 (fun v h L => ∃ (b6_2 : Addr), ∃ (k6_2 : ClassId), v = some (.ref b6_2) ∧ Fr n0 L ∧ h0.size ≤ b6_2 ∧ Keep h0 h [o0] ∧ Fld Z h o0 "java/util/ArrayList" "size" "I" (.int (0 : Int32)) ∧ Exa Z h o0 "java/util/ArrayList" ∧ Fld Z h o0 "java/util/ArrayList" "elementData" "[Ljava/lang/Object;" (.ref b6_2) ∧ Fld Z h o0 "java/util/AbstractList" "modCount" "I" (.int (1 : Int32)) ∧ Arv Z h b6_2 k6_2 (.object "java/lang/Object") (10 : Int32) [.null, .null, .null, .null, .null, .null, .null, .null, .null, .null] .null ∧ Ovr Z k6_2 "java/lang/Object") := by
  refine own_body (plainFor_of_name own_pn5) (fun m => ef_rm18_0 m o0) ?_
  intro p e s m below meth c s₁ hx hby hlk hml hret hZ hown hnm X0 e0
  have N0 := Fr.nil n0
  refine Home.run X0 hx hby sg18_0_2 (pc' := 2) (L' := #[.val (.ref o0)]) (S' := [(.ref o0), (.ref o0)]) rfl ?_
  refine Home.st (getF X0 hx hZ hown (host := "") (Or.inl (own_w72 hw)) Via.refl e0 F_size_o0 rfl rfl (hb hby d18_2)) fun T1 X1 e1 => ?_
  refine Home.run X1 hx hby sg18_5_2 (pc' := 7) (L' := #[.val (.ref o0)]) (S' := [(.int (1 : Int32)), (.ref o0)]) rfl ?_
  refine Home.call (own_private X1 hx hZ hown (own_w118 hw) (own_w119 hw) (own_w121 hw) (Cond.privateMethod_at (mvP hZ (own_w120 hw) (args := #[]))) (own_w37 hw) (own_w122 hw) (by decide) (rm19_0 l Z a0 hw [] o0 sv_DEFAULTCAPACITY_EMPTY_ELEMENTDATA kde h0 n0 O0 F_elementData_o0 V_de S_DEFAULTCAPACITY_EMPTY_ELEMENTDATA E_o0 g_o0 F_size_o0 F_modCount_o0) e1 E_o0 rfl (by rw [hml]; rfl) (argsL := [(.int (1 : Int32))]) (rest := []) (lenOf own_pd10 rfl) rfl rfl (W := 0) (by show 2 * 0 + _ ≤ _; exact Nat.le_of_eq rfl) (by decide) (by decide) (hb hby d18_7) (by decide) (by decide)) ?_
  rintro _ T2 L2 X2 ⟨b6_2, k6_2, rfl, N2q, sz_b6_2, K2q, P2_0, P2_1, P2_2, P2_3, P2_4, P2_5⟩
  have g_b6_2 : n0 ≤ b6_2 := Nat.le_trans (Old.le O0) sz_b6_2
  have O2 := Old.keep O0 K2q (allS g_o0 all0)
  have K2 : Keep h0 T2.heap ([o0] : List Addr) := Keep.trans (Keep.refl h0 ([o0] : List Addr)) K2q (allS (Or.inl (List.mem_of_getElem? (i := 0) rfl)) all0)
  have N2 := Fr.app N0 N2q
  show Home T2 (mkF m 10 #[.val (.ref o0)] [(.ref b6_2)])
  exact Home.retR X2 hx hlk hret rfl rfl (hb hby d18_10) ⟨b6_2, k6_2, rfl, N2, (Nat.le_trans (Nat.le_refl _) sz_b6_2), K2, P2_2, P2_1, P2_0, P2_3, P2_4, P2_5⟩ (by decide) (by decide)
set_option maxRecDepth 65536 in
set_option maxHeartbeats 40000000 in
theorem rm17_0 (l : Launch) (Z : State) (a0 : Array Value) (hw : ∀ d ∈ tables_1, d.before a0 Z = true) (ws : List Jvm.Cond) (o0 : Addr) (o1 : Addr) (sv_DEFAULTCAPACITY_EMPTY_ELEMENTDATA : Addr) (kde : ClassId) (h0 : Heap) (n0 : Nat) (O0 : Old Z n0 h0) (V_de : Arv Z Z.heap sv_DEFAULTCAPACITY_EMPTY_ELEMENTDATA kde (.object "java/lang/Object") (0 : Int32) [] .null) (E_o0 : Exa Z h0 o0 "java/util/ArrayList") (F_size_o0 : Fld Z h0 o0 "java/util/ArrayList" "size" "I" (.int (0 : Int32))) (F_elementData_o0 : Fld Z h0 o0 "java/util/ArrayList" "elementData" "[Ljava/lang/Object;" (.ref sv_DEFAULTCAPACITY_EMPTY_ELEMENTDATA)) (S_DEFAULTCAPACITY_EMPTY_ELEMENTDATA : Sta Z Z.heap "java/util/ArrayList" "DEFAULTCAPACITY_EMPTY_ELEMENTDATA" "[Ljava/lang/Object;" (.ref sv_DEFAULTCAPACITY_EMPTY_ELEMENTDATA)) (F_modCount_o0 : Fld Z h0 o0 "java/util/AbstractList" "modCount" "I" (.int (1 : Int32))) (g_o0 : n0 ≤ o0) (E_o1 : Exa Z h0 o1 "com/example/wary_meter/warymeter/Column") :
    Con l Z (⟨"java/util/ArrayList", "add", "(Ljava/lang/Object;[Ljava/lang/Object;I)V"⟩ : MethodName) jdk_38_method_24_code 4 none ws ({ frames := 3, cells := 1, slots := 10, locals := 41 } : Room) #[(.ref o0), (.ref o1), (.ref sv_DEFAULTCAPACITY_EMPTY_ELEMENTDATA), (.int (0 : Int32))] h0 (fun v h L => ∃ (b6_2_2 : Addr), ∃ (k6_2_2 : ClassId), v = none ∧ Fr n0 L ∧ h0.size ≤ b6_2_2 ∧ Keep h0 h [o0] ∧ Exa Z h o0 "java/util/ArrayList" ∧ Fld Z h o0 "java/util/ArrayList" "size" "I" (.int (1 : Int32)) ∧ Fld Z h o0 "java/util/ArrayList" "elementData" "[Ljava/lang/Object;" (.ref b6_2_2) ∧ Fld Z h o0 "java/util/AbstractList" "modCount" "I" (.int (1 : Int32)) ∧ Arv Z h b6_2_2 k6_2_2 (.object "java/lang/Object") (10 : Int32) [(.ref o1), .null, .null, .null, .null, .null, .null, .null, .null, .null] .null ∧ Ovr Z k6_2_2 "java/lang/Object") := by
  refine own_body (plainFor_of_name own_pn5) (fun m => ef_rm17_0 m o0 o1 sv_DEFAULTCAPACITY_EMPTY_ELEMENTDATA (0 : Int32)) ?_
  intro p e s m below meth c s₁ hx hby hlk hml hret hZ hown hnm X0 e0
  have N0 := Fr.nil n0
  refine Home.run X0 hx hby sg17_0_2 (pc' := 2) (L' := #[.val (.ref o0), .val (.ref o1), .val (.ref sv_DEFAULTCAPACITY_EMPTY_ELEMENTDATA), .val (.int (0 : Int32))]) (S' := [(.ref sv_DEFAULTCAPACITY_EMPTY_ELEMENTDATA), (.int (0 : Int32))]) rfl ?_
  obtain ⟨cl1, Ar1, q1, S1, M1, H1, G1⟩ := id (V_de.ext O0.2)
  refine Home.go (own_alen X0 hx hZ e0 Ar1 S1 M1 rfl rfl (hb hby d17_2)) ?_
  refine Home.go (fun _ => XS.icmpNo X0.here hx rfl (hb hby d17_3) rfl (teq (by decide)).2) ?_
  refine Home.run X0 hx hby sg17_6_1 (pc' := 7) (L' := #[.val (.ref o0), .val (.ref o1), .val (.ref sv_DEFAULTCAPACITY_EMPTY_ELEMENTDATA), .val (.int (0 : Int32))]) (S' := [(.ref o0)]) rfl ?_
  refine Home.call (own_private X0 hx hZ hown (own_w113 hw) (own_w114 hw) (own_w116 hw) (Cond.privateMethod_at (mvP hZ (own_w115 hw) (args := #[]))) (own_w37 hw) (own_w117 hw) (by decide) (rm18_0 l Z a0 hw [] o0 sv_DEFAULTCAPACITY_EMPTY_ELEMENTDATA kde h0 n0 O0 F_size_o0 E_o0 F_elementData_o0 V_de S_DEFAULTCAPACITY_EMPTY_ELEMENTDATA F_modCount_o0 g_o0) e0 E_o0 rfl (by rw [hml]; rfl) (argsL := []) (rest := []) (lenOf own_pd11 rfl) rfl rfl (W := 0) (by show 2 * 0 + _ ≤ _; exact Nat.le_of_eq rfl) (by decide) (by decide) (hb hby d17_7) (by decide) (by decide)) ?_
  rintro _ T2 L2 X2 ⟨b6_2_2, k6_2_2, rfl, N2q, sz_b6_2_2, K2q, P2_0, P2_1, P2_2, P2_3, P2_4, P2_5⟩
  have g_b6_2_2 : n0 ≤ b6_2_2 := Nat.le_trans (Old.le O0) sz_b6_2_2
  have O2 := Old.keep O0 K2q (allS g_o0 all0)
  have K2 : Keep h0 T2.heap ([o0] : List Addr) := Keep.trans (Keep.refl h0 ([o0] : List Addr)) K2q (allS (Or.inl (List.mem_of_getElem? (i := 0) rfl)) all0)
  have N2 := Fr.app N0 N2q
  show Home T2 (mkF m 10 #[.val (.ref o0), .val (.ref o1), .val (.ref sv_DEFAULTCAPACITY_EMPTY_ELEMENTDATA), .val (.int (0 : Int32))] [(.ref b6_2_2)])
  refine Home.run X2 hx hby sg17_10_4 (pc' := 14) (L' := #[.val (.ref o0), .val (.ref o1), .val (.ref b6_2_2), .val (.int (0 : Int32))]) (S' := [(.ref o1), (.int (0 : Int32)), (.ref b6_2_2)]) rfl ?_
  obtain ⟨cl3, Ar3, q3, S3, M3, H3, G3⟩ := id P2_4
  have q4 := (Ins.keep (Ins.of_exa E_o1 (own_w129 hw)) K2q)
  refine Home.wr (stR X2 hx hZ rfl Ar3 (j := (0 : Int32)) (inb_of S3 ⟨by decide, by decide⟩) rfl (Sto.ofV Ar3 q3 P2_5 q4) rfl rfl (hb hby d17_14)) fun T3 h3 X3 e3 W3 => ?_
  have V3 : Arv Z h3 b6_2_2 k6_2_2 (.object "java/lang/Object") (10 : Int32) [(.ref o1), .null, .null, .null, .null, .null, .null, .null, .null, .null] .null := Arv.set Ar3 q3 S3 M3 H3 G3 rfl W3 0 rfl (Nat.le_of_ble_eq_true rfl)
  have O3 := O2.wr W3 g_b6_2_2
  have K3 : Keep h0 h3 ([o0] : List Addr) := Keep.wr K2 W3 (Or.inr (Nat.le_trans (Nat.le_refl _) sz_b6_2_2))
  have N3 := Fr.snoc X3 N2 g_b6_2_2
  show Home T3 (mkF m 15 #[.val (.ref o0), .val (.ref o1), .val (.ref b6_2_2), .val (.int (0 : Int32))] [])
  refine Home.run X3 hx hby sg17_15_4 (pc' := 19) (L' := #[.val (.ref o0), .val (.ref o1), .val (.ref b6_2_2), .val (.int (0 : Int32))]) (S' := [(.int (1 : Int32)), (.ref o0)]) rfl ?_
  have q5 := (P2_1.wr W3)
  have ne6 : o0 ≠ b6_2_2 := (Nat.ne_of_lt (Nat.lt_of_lt_of_le E_o0.lt (Nat.le_trans (Nat.le_refl _) sz_b6_2_2)))
  have q7 := (P2_0.other W3 (Or.inl ne6))
  refine Home.wr (putF X3 hx hZ hown (host := "") (Or.inl (own_w72 hw)) Via.refl e3 q7 q5 (Or.inl (own_w73 hw)) (own_w36 hw) (ty := .int) (by decide) rfl rfl rfl rfl (hb hby d17_19)) fun T8 h8 X8 e8 W8 => ?_
  have Fw8 := q7.same W8
  have O8 := O3.wr W8 g_o0
  have K8 : Keep h0 h8 ([o0] : List Addr) := Keep.wr K3 W8 (Or.inl (List.mem_of_getElem? (i := 0) rfl))
  have N8 := Fr.snoc X8 N3 g_o0
  show Home T8 (mkF m 22 #[.val (.ref o0), .val (.ref o1), .val (.ref b6_2_2), .val (.int (0 : Int32))] [])
  have q9 := (q5.wr W8)
  have q10 := ((P2_2.other W3 (Or.inl ne6)).other W8 (Or.inr (slot_ne (Or.inl (own_w58 hw)) (Or.inl (own_w73 hw)) (by decide) (t := (.array (.object "java/lang/Object"))) (t' := .int) (by decide) (by decide))))
  have q11 := ((P2_3.other W3 (Or.inl ne6)).other W8 (Or.inr (slot_ne (Or.inl (own_w55 hw)) (Or.inl (own_w73 hw)) (by decide) (t := .int) (t' := .int) (by decide) (by decide))))
  have ne12 : b6_2_2 ≠ o0 := (Ne.symm ne6)
  have q13 := (V3.other W8 ne12)
  exact Home.ret0 X8 hx hlk hret (hb hby d17_22) (by rw [show T8.heap = h8 from e8]; exact ⟨b6_2_2, k6_2_2, rfl, N8, (Nat.le_trans (Nat.le_refl _) sz_b6_2_2), K8, q9, Fw8, q10, q11, q13, P2_5⟩) (by decide) (by decide)
set_option maxRecDepth 65536 in
set_option maxHeartbeats 40000000 in
theorem rm16_0 (l : Launch) (Z : State) (a0 : Array Value) (hw : ∀ d ∈ tables_1, d.before a0 Z = true) (ws : List Jvm.Cond) (o0 : Addr) (o1 : Addr) (sv_DEFAULTCAPACITY_EMPTY_ELEMENTDATA : Addr) (kde : ClassId) (h0 : Heap) (n0 : Nat) (O0 : Old Z n0 h0) (F_modCount_o0 : Fld Z h0 o0 "java/util/AbstractList" "modCount" "I" (.int (0 : Int32))) (E_o0 : Exa Z h0 o0 "java/util/ArrayList") (g_o0 : n0 ≤ o0) (F_elementData_o0 : Fld Z h0 o0 "java/util/ArrayList" "elementData" "[Ljava/lang/Object;" (.ref sv_DEFAULTCAPACITY_EMPTY_ELEMENTDATA)) (F_size_o0 : Fld Z h0 o0 "java/util/ArrayList" "size" "I" (.int (0 : Int32))) (V_de : Arv Z Z.heap sv_DEFAULTCAPACITY_EMPTY_ELEMENTDATA kde (.object "java/lang/Object") (0 : Int32) [] .null) (S_DEFAULTCAPACITY_EMPTY_ELEMENTDATA : Sta Z Z.heap "java/util/ArrayList" "DEFAULTCAPACITY_EMPTY_ELEMENTDATA" "[Ljava/lang/Object;" (.ref sv_DEFAULTCAPACITY_EMPTY_ELEMENTDATA)) (E_o1 : Exa Z h0 o1 "com/example/wary_meter/warymeter/Column") :
    Con l Z (⟨"java/util/ArrayList", "add", "(Ljava/lang/Object;)Z"⟩ : MethodName) jdk_38_method_25_code 2 (some .boolean) ws ({ frames := 4, cells := 1, slots := 10, locals := 56 } : Room) #[(.ref o0), (.ref o1)] h0 (fun v h L => ∃ (b6_2_2_9 : Addr), ∃ (k6_2_2_9 : ClassId), v = some (.int (1 : Int32)) ∧ Fr n0 L ∧ h0.size ≤ b6_2_2_9 ∧ Keep h0 h [o0] ∧ Fld Z h o0 "java/util/AbstractList" "modCount" "I" (.int (1 : Int32)) ∧ Exa Z h o0 "java/util/ArrayList" ∧ Fld Z h o0 "java/util/ArrayList" "elementData" "[Ljava/lang/Object;" (.ref b6_2_2_9) ∧ Fld Z h o0 "java/util/ArrayList" "size" "I" (.int (1 : Int32)) ∧ Arv Z h b6_2_2_9 k6_2_2_9 (.object "java/lang/Object") (10 : Int32) [(.ref o1), .null, .null, .null, .null, .null, .null, .null, .null, .null] .null ∧ Ovr Z k6_2_2_9 "java/lang/Object") := by
  refine own_body (plainFor_of_name own_pn5) (fun m => ef_rm16_0 m o0 o1) ?_
  intro p e s m below meth c s₁ hx hby hlk hml hret hZ hown hnm X0 e0
  have N0 := Fr.nil n0
  refine Home.run X0 hx hby sg16_0_2 (pc' := 2) (L' := #[.val (.ref o0), .val (.ref o1)]) (S' := [(.ref o0), (.ref o0)]) rfl ?_
  refine Home.st (getF X0 hx hZ hown (host := "") (Or.inl (own_w106 hw)) (Via.of (own_w107 hw)) e0 F_modCount_o0 rfl rfl (hb hby d16_2)) fun T1 X1 e1 => ?_
  refine Home.run X1 hx hby sg16_5_2 (pc' := 7) (L' := #[.val (.ref o0), .val (.ref o1)]) (S' := [(.int (1 : Int32)), (.ref o0)]) rfl ?_
  refine Home.wr (putF X1 hx hZ hown (host := "") (Or.inl (own_w106 hw)) (Via.of (own_w107 hw)) e1 F_modCount_o0 E_o0 (Or.inl (own_w55 hw)) (own_w36 hw) (ty := .int) (by decide) rfl rfl rfl rfl (hb hby d16_7)) fun T2 h2 X2 e2 W2 => ?_
  have Fw2 := F_modCount_o0.same W2
  have O2 := O0.wr W2 g_o0
  have K2 : Keep h0 h2 ([o0] : List Addr) := Keep.wr (Keep.refl h0 ([o0] : List Addr)) W2 (Or.inl (List.mem_of_getElem? (i := 0) rfl))
  have N2 := Fr.snoc X2 N0 g_o0
  show Home T2 (mkF m 10 #[.val (.ref o0), .val (.ref o1)] [])
  refine Home.run X2 hx hby sg16_10_3 (pc' := 13) (L' := #[.val (.ref o0), .val (.ref o1)]) (S' := [(.ref o0), (.ref o1), (.ref o0)]) rfl ?_
  have q3 := (F_elementData_o0.other W2 (Or.inr (slot_ne (Or.inl (own_w58 hw)) (Or.inl (own_w55 hw)) (by decide) (t := (.array (.object "java/lang/Object"))) (t' := .int) (by decide) (by decide))))
  refine Home.st (getF X2 hx hZ hown (host := "") (Or.inl (own_w57 hw)) Via.refl e2 q3 rfl rfl (hb hby d16_13)) fun T4 X4 e4 => ?_
  refine Home.run X4 hx hby sg16_16_1 (pc' := 17) (L' := #[.val (.ref o0), .val (.ref o1)]) (S' := [(.ref o0), (.ref sv_DEFAULTCAPACITY_EMPTY_ELEMENTDATA), (.ref o1), (.ref o0)]) rfl ?_
  have q5 := (F_size_o0.other W2 (Or.inr (slot_ne (Or.inl (own_w73 hw)) (Or.inl (own_w55 hw)) (by decide) (t := .int) (t' := .int) (by decide) (by decide))))
  refine Home.st (getF X4 hx hZ hown (host := "") (Or.inl (own_w72 hw)) Via.refl e4 q5 rfl rfl (hb hby d16_17)) fun T6 X6 e6 => ?_
  have q7 := (E_o0.wr W2)
  have q8 := (E_o1.wr W2)
  refine Home.call (own_private X6 hx hZ hown (own_w108 hw) (own_w109 hw) (own_w111 hw) (Cond.privateMethod_at (mvP hZ (own_w110 hw) (args := #[]))) (own_w37 hw) (own_w112 hw) (by decide) (rm17_0 l Z a0 hw [] o0 o1 sv_DEFAULTCAPACITY_EMPTY_ELEMENTDATA kde h2 n0 O2 V_de q7 q5 q3 S_DEFAULTCAPACITY_EMPTY_ELEMENTDATA Fw2 g_o0 q8) e6 q7 rfl (by rw [hml]; rfl) (argsL := [(.ref o1), (.ref sv_DEFAULTCAPACITY_EMPTY_ELEMENTDATA), (.int (0 : Int32))]) (rest := []) (lenOf own_pd12 rfl) rfl rfl (W := 0) (by show 2 * 0 + _ ≤ _; exact Nat.le_of_eq rfl) (by decide) (by decide) (hb hby d16_20) (by decide) (by decide)) ?_
  rintro _ T9 L9 X9 ⟨b6_2_2_9, k6_2_2_9, rfl, N9q, sz_b6_2_2_9, K9q, P9_0, P9_1, P9_2, P9_3, P9_4, P9_5⟩
  have g_b6_2_2_9 : n0 ≤ b6_2_2_9 := Nat.le_trans (Old.le O2) sz_b6_2_2_9
  have O9 := Old.keep O2 K9q (allS g_o0 all0)
  have K9 : Keep h0 T9.heap ([o0] : List Addr) := Keep.trans K2 K9q (allS (Or.inl (List.mem_of_getElem? (i := 0) rfl)) all0)
  have N9 := Fr.app N2 N9q
  show Home T9 (mkF m 23 #[.val (.ref o0), .val (.ref o1)] [])
  refine Home.run X9 hx hby sg16_23_1 (pc' := 24) (L' := #[.val (.ref o0), .val (.ref o1)]) (S' := [(.int (1 : Int32))]) rfl ?_
  exact Home.retN X9 hx hlk (t := .boolean) hret (by simp) (hb hby d16_24) ⟨b6_2_2_9, k6_2_2_9, rfl, N9, (Nat.le_trans (Nat.le_of_eq W2.size.symm) sz_b6_2_2_9), K9, P9_3, P9_0, P9_2, P9_1, P9_4, P9_5⟩ (by decide) (by decide)
set_option maxRecDepth 65536 in
set_option maxHeartbeats 40000000 in
theorem rm17_1 (l : Launch) (Z : State) (a0 : Array Value) (hw : ∀ d ∈ tables_1, d.before a0 Z = true) (ws : List Jvm.Cond) (o0 : Addr) (o1 : Addr) (o2 : Addr) (k_o2 : ClassId) (p4 : Addr) (h0 : Heap) (n0 : Nat) (O0 : Old Z n0 h0) (V_o2 : Arv Z h0 o2 k_o2 (.object "java/lang/Object") (10 : Int32) [(.ref p4), .null, .null, .null, .null, .null, .null, .null, .null, .null] .null) (O_o2 : Ovr Z k_o2 "java/lang/Object") (E_o1 : Exa Z h0 o1 "com/example/wary_meter/warymeter/Column") (g_o2 : n0 ≤ o2) (E_o0 : Exa Z h0 o0 "java/util/ArrayList") (F_size_o0 : Fld Z h0 o0 "java/util/ArrayList" "size" "I" (.int (1 : Int32))) (ne_o0_o2 : o0 ≠ o2) (g_o0 : n0 ≤ o0) (F_modCount_o0 : Fld Z h0 o0 "java/util/AbstractList" "modCount" "I" (.int (2 : Int32))) (F_elementData_o0 : Fld Z h0 o0 "java/util/ArrayList" "elementData" "[Ljava/lang/Object;" (.ref o2)) (ne_o2_o0 : o2 ≠ o0) :
    Con l Z (⟨"java/util/ArrayList", "add", "(Ljava/lang/Object;[Ljava/lang/Object;I)V"⟩ : MethodName) jdk_38_method_24_code 4 none ws ({ frames := 0, cells := 0, slots := 0, locals := 0 } : Room) #[(.ref o0), (.ref o1), (.ref o2), (.int (1 : Int32))] h0 (fun v h L => v = none ∧ Fr n0 L ∧ Keep h0 h [o2, o0] ∧ Arv Z h o2 k_o2 (.object "java/lang/Object") (10 : Int32) [(.ref p4), (.ref o1), .null, .null, .null, .null, .null, .null, .null, .null] .null ∧ Exa Z h o0 "java/util/ArrayList" ∧ Fld Z h o0 "java/util/ArrayList" "size" "I" (.int (2 : Int32)) ∧ Fld Z h o0 "java/util/AbstractList" "modCount" "I" (.int (2 : Int32)) ∧ Fld Z h o0 "java/util/ArrayList" "elementData" "[Ljava/lang/Object;" (.ref o2)) := by
  refine own_body (plainFor_of_name own_pn5) (fun m => ef_rm17_1 m o0 o1 o2 (1 : Int32)) ?_
  intro p e s m below meth c s₁ hx hby hlk hml hret hZ hown hnm X0 e0
  have N0 := Fr.nil n0
  refine Home.run X0 hx hby sg17_0_2 (pc' := 2) (L' := #[.val (.ref o0), .val (.ref o1), .val (.ref o2), .val (.int (1 : Int32))]) (S' := [(.ref o2), (.int (1 : Int32))]) rfl ?_
  obtain ⟨cl1, Ar1, q1, S1, M1, H1, G1⟩ := id V_o2
  refine Home.go (own_alen X0 hx hZ e0 Ar1 S1 M1 rfl rfl (hb hby d17_2)) ?_
  refine Home.go (fun _ => XS.icmpYes X0.here hx rfl (pc0 := 3) (pc' := 11) rfl (hb hby d17_3) rfl (feq (by decide)).2 (by decide) (by decide)) ?_
  refine Home.run X0 hx hby sg17_11_3 (pc' := 14) (L' := #[.val (.ref o0), .val (.ref o1), .val (.ref o2), .val (.int (1 : Int32))]) (S' := [(.ref o1), (.int (1 : Int32)), (.ref o2)]) rfl ?_
  obtain ⟨cl2, Ar2, q2, S2, M2, H2, G2⟩ := id V_o2
  refine Home.wr (stR X0 hx hZ e0 Ar2 (j := (1 : Int32)) (inb_of S2 ⟨by decide, by decide⟩) rfl (Sto.ofV Ar2 q2 O_o2 (Ins.of_exa E_o1 (own_w129 hw))) rfl rfl (hb hby d17_14)) fun T2 h2 X2 e2 W2 => ?_
  have V2 : Arv Z h2 o2 k_o2 (.object "java/lang/Object") (10 : Int32) [(.ref p4), (.ref o1), .null, .null, .null, .null, .null, .null, .null, .null] .null := Arv.set Ar2 q2 S2 M2 H2 G2 rfl W2 1 rfl (Nat.le_of_ble_eq_true rfl)
  have O2 := O0.wr W2 g_o2
  have K2 : Keep h0 h2 ([o2, o0] : List Addr) := Keep.wr (Keep.refl h0 ([o2, o0] : List Addr)) W2 (Or.inl (List.mem_of_getElem? (i := 0) rfl))
  have N2 := Fr.snoc X2 N0 g_o2
  show Home T2 (mkF m 15 #[.val (.ref o0), .val (.ref o1), .val (.ref o2), .val (.int (1 : Int32))] [])
  refine Home.run X2 hx hby sg17_15_4 (pc' := 19) (L' := #[.val (.ref o0), .val (.ref o1), .val (.ref o2), .val (.int (1 : Int32))]) (S' := [(.int (2 : Int32)), (.ref o0)]) rfl ?_
  have q3 := (E_o0.wr W2)
  have q4 := (F_size_o0.other W2 (Or.inl ne_o0_o2))
  refine Home.wr (putF X2 hx hZ hown (host := "") (Or.inl (own_w72 hw)) Via.refl e2 q4 q3 (Or.inl (own_w73 hw)) (own_w36 hw) (ty := .int) (by decide) rfl rfl rfl rfl (hb hby d17_19)) fun T5 h5 X5 e5 W5 => ?_
  have Fw5 := q4.same W5
  have O5 := O2.wr W5 g_o0
  have K5 : Keep h0 h5 ([o2, o0] : List Addr) := Keep.wr K2 W5 (Or.inl (List.mem_of_getElem? (i := 1) rfl))
  have N5 := Fr.snoc X5 N2 g_o0
  show Home T5 (mkF m 22 #[.val (.ref o0), .val (.ref o1), .val (.ref o2), .val (.int (1 : Int32))] [])
  have q6 := (V2.other W5 ne_o2_o0)
  have q7 := (q3.wr W5)
  have q8 := ((F_modCount_o0.other W2 (Or.inl ne_o0_o2)).other W5 (Or.inr (slot_ne (Or.inl (own_w55 hw)) (Or.inl (own_w73 hw)) (by decide) (t := .int) (t' := .int) (by decide) (by decide))))
  have q9 := ((F_elementData_o0.other W2 (Or.inl ne_o0_o2)).other W5 (Or.inr (slot_ne (Or.inl (own_w58 hw)) (Or.inl (own_w73 hw)) (by decide) (t := (.array (.object "java/lang/Object"))) (t' := .int) (by decide) (by decide))))
  exact Home.ret0 X5 hx hlk hret (hb hby d17_22) (by rw [show T5.heap = h5 from e5]; exact ⟨rfl, N5, K5, q6, q7, Fw5, q8, q9⟩) (by decide) (by decide)
set_option maxRecDepth 65536 in
set_option maxHeartbeats 40000000 in
theorem rm16_1 (l : Launch) (Z : State) (a0 : Array Value) (hw : ∀ d ∈ tables_1, d.before a0 Z = true) (ws : List Jvm.Cond) (o0 : Addr) (o1 : Addr) (p3 : Addr) (k_p3 : ClassId) (p4 : Addr) (h0 : Heap) (n0 : Nat) (O0 : Old Z n0 h0) (F_modCount_o0 : Fld Z h0 o0 "java/util/AbstractList" "modCount" "I" (.int (1 : Int32))) (E_o0 : Exa Z h0 o0 "java/util/ArrayList") (g_o0 : n0 ≤ o0) (F_elementData_o0 : Fld Z h0 o0 "java/util/ArrayList" "elementData" "[Ljava/lang/Object;" (.ref p3)) (F_size_o0 : Fld Z h0 o0 "java/util/ArrayList" "size" "I" (.int (1 : Int32))) (ne_o0_p3 : o0 ≠ p3) (ne_p3_o0 : p3 ≠ o0) (V_p3 : Arv Z h0 p3 k_p3 (.object "java/lang/Object") (10 : Int32) [(.ref p4), .null, .null, .null, .null, .null, .null, .null, .null, .null] .null) (O_p3 : Ovr Z k_p3 "java/lang/Object") (E_o1 : Exa Z h0 o1 "com/example/wary_meter/warymeter/Column") (g_p3 : n0 ≤ p3) :
    Con l Z (⟨"java/util/ArrayList", "add", "(Ljava/lang/Object;)Z"⟩ : MethodName) jdk_38_method_25_code 2 (some .boolean) ws ({ frames := 1, cells := 0, slots := 0, locals := 15 } : Room) #[(.ref o0), (.ref o1)] h0 (fun v h L => v = some (.int (1 : Int32)) ∧ Fr n0 L ∧ Keep h0 h [o0, p3] ∧ Fld Z h o0 "java/util/AbstractList" "modCount" "I" (.int (2 : Int32)) ∧ Exa Z h o0 "java/util/ArrayList" ∧ Fld Z h o0 "java/util/ArrayList" "elementData" "[Ljava/lang/Object;" (.ref p3) ∧ Fld Z h o0 "java/util/ArrayList" "size" "I" (.int (2 : Int32)) ∧ Arv Z h p3 k_p3 (.object "java/lang/Object") (10 : Int32) [(.ref p4), (.ref o1), .null, .null, .null, .null, .null, .null, .null, .null] .null) := by
  refine own_body (plainFor_of_name own_pn5) (fun m => ef_rm16_1 m o0 o1) ?_
  intro p e s m below meth c s₁ hx hby hlk hml hret hZ hown hnm X0 e0
  have N0 := Fr.nil n0
  refine Home.run X0 hx hby sg16_0_2 (pc' := 2) (L' := #[.val (.ref o0), .val (.ref o1)]) (S' := [(.ref o0), (.ref o0)]) rfl ?_
  refine Home.st (getF X0 hx hZ hown (host := "") (Or.inl (own_w106 hw)) (Via.of (own_w107 hw)) e0 F_modCount_o0 rfl rfl (hb hby d16_2)) fun T1 X1 e1 => ?_
  refine Home.run X1 hx hby sg16_5_2 (pc' := 7) (L' := #[.val (.ref o0), .val (.ref o1)]) (S' := [(.int (2 : Int32)), (.ref o0)]) rfl ?_
  refine Home.wr (putF X1 hx hZ hown (host := "") (Or.inl (own_w106 hw)) (Via.of (own_w107 hw)) e1 F_modCount_o0 E_o0 (Or.inl (own_w55 hw)) (own_w36 hw) (ty := .int) (by decide) rfl rfl rfl rfl (hb hby d16_7)) fun T2 h2 X2 e2 W2 => ?_
  have Fw2 := F_modCount_o0.same W2
  have O2 := O0.wr W2 g_o0
  have K2 : Keep h0 h2 ([o0, p3] : List Addr) := Keep.wr (Keep.refl h0 ([o0, p3] : List Addr)) W2 (Or.inl (List.mem_of_getElem? (i := 0) rfl))
  have N2 := Fr.snoc X2 N0 g_o0
  show Home T2 (mkF m 10 #[.val (.ref o0), .val (.ref o1)] [])
  refine Home.run X2 hx hby sg16_10_3 (pc' := 13) (L' := #[.val (.ref o0), .val (.ref o1)]) (S' := [(.ref o0), (.ref o1), (.ref o0)]) rfl ?_
  have q3 := (F_elementData_o0.other W2 (Or.inr (slot_ne (Or.inl (own_w58 hw)) (Or.inl (own_w55 hw)) (by decide) (t := (.array (.object "java/lang/Object"))) (t' := .int) (by decide) (by decide))))
  refine Home.st (getF X2 hx hZ hown (host := "") (Or.inl (own_w57 hw)) Via.refl e2 q3 rfl rfl (hb hby d16_13)) fun T4 X4 e4 => ?_
  refine Home.run X4 hx hby sg16_16_1 (pc' := 17) (L' := #[.val (.ref o0), .val (.ref o1)]) (S' := [(.ref o0), (.ref p3), (.ref o1), (.ref o0)]) rfl ?_
  have q5 := (F_size_o0.other W2 (Or.inr (slot_ne (Or.inl (own_w73 hw)) (Or.inl (own_w55 hw)) (by decide) (t := .int) (t' := .int) (by decide) (by decide))))
  refine Home.st (getF X4 hx hZ hown (host := "") (Or.inl (own_w72 hw)) Via.refl e4 q5 rfl rfl (hb hby d16_17)) fun T6 X6 e6 => ?_
  have q7 := (E_o0.wr W2)
  have q8 := (V_p3.other W2 ne_p3_o0)
  have q9 := (E_o1.wr W2)
  refine Home.call (own_private X6 hx hZ hown (own_w108 hw) (own_w109 hw) (own_w111 hw) (Cond.privateMethod_at (mvP hZ (own_w110 hw) (args := #[]))) (own_w37 hw) (own_w112 hw) (by decide) (rm17_1 l Z a0 hw [] o0 o1 p3 k_p3 p4 h2 n0 O2 q8 O_p3 q9 g_p3 q7 q5 ne_o0_p3 g_o0 Fw2 q3 ne_p3_o0) e6 q7 rfl (by rw [hml]; rfl) (argsL := [(.ref o1), (.ref p3), (.int (1 : Int32))]) (rest := []) (lenOf own_pd12 rfl) rfl rfl (W := 0) (by show 2 * 0 + _ ≤ _; exact Nat.le_of_eq rfl) (by decide) (by decide) (hb hby d16_20) (by decide) (by decide)) ?_
  rintro _ T10 L10 X10 ⟨rfl, N10q, K10q, P10_0, P10_1, P10_2, P10_3, P10_4⟩
  have O10 := Old.keep O2 K10q (allS g_p3 (allS g_o0 all0))
  have K10 : Keep h0 T10.heap ([o0, p3] : List Addr) := Keep.trans K2 K10q (allS (Or.inl (List.mem_of_getElem? (i := 1) rfl)) (allS (Or.inl (List.mem_of_getElem? (i := 0) rfl)) all0))
  have N10 := Fr.app N2 N10q
  show Home T10 (mkF m 23 #[.val (.ref o0), .val (.ref o1)] [])
  refine Home.run X10 hx hby sg16_23_1 (pc' := 24) (L' := #[.val (.ref o0), .val (.ref o1)]) (S' := [(.int (1 : Int32))]) rfl ?_
  exact Home.retN X10 hx hlk (t := .boolean) hret (by simp) (hb hby d16_24) ⟨rfl, N10, K10, P10_3, P10_1, P10_4, P10_2, P10_0⟩ (by decide) (by decide)
set_option maxRecDepth 65536 in
set_option maxHeartbeats 40000000 in
theorem rm17_2 (l : Launch) (Z : State) (a0 : Array Value) (hw : ∀ d ∈ tables_1, d.before a0 Z = true) (ws : List Jvm.Cond) (o0 : Addr) (o1 : Addr) (o2 : Addr) (k_o2 : ClassId) (p4 : Addr) (p5 : Addr) (h0 : Heap) (n0 : Nat) (O0 : Old Z n0 h0) (V_o2 : Arv Z h0 o2 k_o2 (.object "java/lang/Object") (10 : Int32) [(.ref p4), (.ref p5), .null, .null, .null, .null, .null, .null, .null, .null] .null) (O_o2 : Ovr Z k_o2 "java/lang/Object") (E_o1 : Exa Z h0 o1 "com/example/wary_meter/warymeter/Column") (g_o2 : n0 ≤ o2) (E_o0 : Exa Z h0 o0 "java/util/ArrayList") (F_size_o0 : Fld Z h0 o0 "java/util/ArrayList" "size" "I" (.int (2 : Int32))) (ne_o0_o2 : o0 ≠ o2) (g_o0 : n0 ≤ o0) (F_modCount_o0 : Fld Z h0 o0 "java/util/AbstractList" "modCount" "I" (.int (3 : Int32))) (F_elementData_o0 : Fld Z h0 o0 "java/util/ArrayList" "elementData" "[Ljava/lang/Object;" (.ref o2)) (ne_o2_o0 : o2 ≠ o0) :
    Con l Z (⟨"java/util/ArrayList", "add", "(Ljava/lang/Object;[Ljava/lang/Object;I)V"⟩ : MethodName) jdk_38_method_24_code 4 none ws ({ frames := 0, cells := 0, slots := 0, locals := 0 } : Room) #[(.ref o0), (.ref o1), (.ref o2), (.int (2 : Int32))] h0 (fun v h L => v = none ∧ Fr n0 L ∧ Keep h0 h [o2, o0] ∧ Arv Z h o2 k_o2 (.object "java/lang/Object") (10 : Int32) [(.ref p4), (.ref p5), (.ref o1), .null, .null, .null, .null, .null, .null, .null] .null ∧ Exa Z h o0 "java/util/ArrayList" ∧ Fld Z h o0 "java/util/ArrayList" "size" "I" (.int (3 : Int32)) ∧ Fld Z h o0 "java/util/AbstractList" "modCount" "I" (.int (3 : Int32)) ∧ Fld Z h o0 "java/util/ArrayList" "elementData" "[Ljava/lang/Object;" (.ref o2)) := by
  refine own_body (plainFor_of_name own_pn5) (fun m => ef_rm17_2 m o0 o1 o2 (2 : Int32)) ?_
  intro p e s m below meth c s₁ hx hby hlk hml hret hZ hown hnm X0 e0
  have N0 := Fr.nil n0
  refine Home.run X0 hx hby sg17_0_2 (pc' := 2) (L' := #[.val (.ref o0), .val (.ref o1), .val (.ref o2), .val (.int (2 : Int32))]) (S' := [(.ref o2), (.int (2 : Int32))]) rfl ?_
  obtain ⟨cl1, Ar1, q1, S1, M1, H1, G1⟩ := id V_o2
  refine Home.go (own_alen X0 hx hZ e0 Ar1 S1 M1 rfl rfl (hb hby d17_2)) ?_
  refine Home.go (fun _ => XS.icmpYes X0.here hx rfl (pc0 := 3) (pc' := 11) rfl (hb hby d17_3) rfl (feq (by decide)).2 (by decide) (by decide)) ?_
  refine Home.run X0 hx hby sg17_11_3 (pc' := 14) (L' := #[.val (.ref o0), .val (.ref o1), .val (.ref o2), .val (.int (2 : Int32))]) (S' := [(.ref o1), (.int (2 : Int32)), (.ref o2)]) rfl ?_
  obtain ⟨cl2, Ar2, q2, S2, M2, H2, G2⟩ := id V_o2
  refine Home.wr (stR X0 hx hZ e0 Ar2 (j := (2 : Int32)) (inb_of S2 ⟨by decide, by decide⟩) rfl (Sto.ofV Ar2 q2 O_o2 (Ins.of_exa E_o1 (own_w129 hw))) rfl rfl (hb hby d17_14)) fun T2 h2 X2 e2 W2 => ?_
  have V2 : Arv Z h2 o2 k_o2 (.object "java/lang/Object") (10 : Int32) [(.ref p4), (.ref p5), (.ref o1), .null, .null, .null, .null, .null, .null, .null] .null := Arv.set Ar2 q2 S2 M2 H2 G2 rfl W2 2 rfl (Nat.le_of_ble_eq_true rfl)
  have O2 := O0.wr W2 g_o2
  have K2 : Keep h0 h2 ([o2, o0] : List Addr) := Keep.wr (Keep.refl h0 ([o2, o0] : List Addr)) W2 (Or.inl (List.mem_of_getElem? (i := 0) rfl))
  have N2 := Fr.snoc X2 N0 g_o2
  show Home T2 (mkF m 15 #[.val (.ref o0), .val (.ref o1), .val (.ref o2), .val (.int (2 : Int32))] [])
  refine Home.run X2 hx hby sg17_15_4 (pc' := 19) (L' := #[.val (.ref o0), .val (.ref o1), .val (.ref o2), .val (.int (2 : Int32))]) (S' := [(.int (3 : Int32)), (.ref o0)]) rfl ?_
  have q3 := (E_o0.wr W2)
  have q4 := (F_size_o0.other W2 (Or.inl ne_o0_o2))
  refine Home.wr (putF X2 hx hZ hown (host := "") (Or.inl (own_w72 hw)) Via.refl e2 q4 q3 (Or.inl (own_w73 hw)) (own_w36 hw) (ty := .int) (by decide) rfl rfl rfl rfl (hb hby d17_19)) fun T5 h5 X5 e5 W5 => ?_
  have Fw5 := q4.same W5
  have O5 := O2.wr W5 g_o0
  have K5 : Keep h0 h5 ([o2, o0] : List Addr) := Keep.wr K2 W5 (Or.inl (List.mem_of_getElem? (i := 1) rfl))
  have N5 := Fr.snoc X5 N2 g_o0
  show Home T5 (mkF m 22 #[.val (.ref o0), .val (.ref o1), .val (.ref o2), .val (.int (2 : Int32))] [])
  have q6 := (V2.other W5 ne_o2_o0)
  have q7 := (q3.wr W5)
  have q8 := ((F_modCount_o0.other W2 (Or.inl ne_o0_o2)).other W5 (Or.inr (slot_ne (Or.inl (own_w55 hw)) (Or.inl (own_w73 hw)) (by decide) (t := .int) (t' := .int) (by decide) (by decide))))
  have q9 := ((F_elementData_o0.other W2 (Or.inl ne_o0_o2)).other W5 (Or.inr (slot_ne (Or.inl (own_w58 hw)) (Or.inl (own_w73 hw)) (by decide) (t := (.array (.object "java/lang/Object"))) (t' := .int) (by decide) (by decide))))
  exact Home.ret0 X5 hx hlk hret (hb hby d17_22) (by rw [show T5.heap = h5 from e5]; exact ⟨rfl, N5, K5, q6, q7, Fw5, q8, q9⟩) (by decide) (by decide)
set_option maxRecDepth 65536 in
set_option maxHeartbeats 40000000 in
theorem rm16_2 (l : Launch) (Z : State) (a0 : Array Value) (hw : ∀ d ∈ tables_1, d.before a0 Z = true) (ws : List Jvm.Cond) (o0 : Addr) (o1 : Addr) (p3 : Addr) (k_p3 : ClassId) (p4 : Addr) (p5 : Addr) (h0 : Heap) (n0 : Nat) (O0 : Old Z n0 h0) (F_modCount_o0 : Fld Z h0 o0 "java/util/AbstractList" "modCount" "I" (.int (2 : Int32))) (E_o0 : Exa Z h0 o0 "java/util/ArrayList") (g_o0 : n0 ≤ o0) (F_elementData_o0 : Fld Z h0 o0 "java/util/ArrayList" "elementData" "[Ljava/lang/Object;" (.ref p3)) (F_size_o0 : Fld Z h0 o0 "java/util/ArrayList" "size" "I" (.int (2 : Int32))) (ne_o0_p3 : o0 ≠ p3) (ne_p3_o0 : p3 ≠ o0) (V_p3 : Arv Z h0 p3 k_p3 (.object "java/lang/Object") (10 : Int32) [(.ref p4), (.ref p5), .null, .null, .null, .null, .null, .null, .null, .null] .null) (O_p3 : Ovr Z k_p3 "java/lang/Object") (E_o1 : Exa Z h0 o1 "com/example/wary_meter/warymeter/Column") (g_p3 : n0 ≤ p3) :
    Con l Z (⟨"java/util/ArrayList", "add", "(Ljava/lang/Object;)Z"⟩ : MethodName) jdk_38_method_25_code 2 (some .boolean) ws ({ frames := 1, cells := 0, slots := 0, locals := 15 } : Room) #[(.ref o0), (.ref o1)] h0 (fun v h L => v = some (.int (1 : Int32)) ∧ Fr n0 L ∧ Keep h0 h [o0, p3] ∧ Fld Z h o0 "java/util/AbstractList" "modCount" "I" (.int (3 : Int32)) ∧ Exa Z h o0 "java/util/ArrayList" ∧ Fld Z h o0 "java/util/ArrayList" "elementData" "[Ljava/lang/Object;" (.ref p3) ∧ Fld Z h o0 "java/util/ArrayList" "size" "I" (.int (3 : Int32)) ∧ Arv Z h p3 k_p3 (.object "java/lang/Object") (10 : Int32) [(.ref p4), (.ref p5), (.ref o1), .null, .null, .null, .null, .null, .null, .null] .null) := by
  refine own_body (plainFor_of_name own_pn5) (fun m => ef_rm16_2 m o0 o1) ?_
  intro p e s m below meth c s₁ hx hby hlk hml hret hZ hown hnm X0 e0
  have N0 := Fr.nil n0
  refine Home.run X0 hx hby sg16_0_2 (pc' := 2) (L' := #[.val (.ref o0), .val (.ref o1)]) (S' := [(.ref o0), (.ref o0)]) rfl ?_
  refine Home.st (getF X0 hx hZ hown (host := "") (Or.inl (own_w106 hw)) (Via.of (own_w107 hw)) e0 F_modCount_o0 rfl rfl (hb hby d16_2)) fun T1 X1 e1 => ?_
  refine Home.run X1 hx hby sg16_5_2 (pc' := 7) (L' := #[.val (.ref o0), .val (.ref o1)]) (S' := [(.int (3 : Int32)), (.ref o0)]) rfl ?_
  refine Home.wr (putF X1 hx hZ hown (host := "") (Or.inl (own_w106 hw)) (Via.of (own_w107 hw)) e1 F_modCount_o0 E_o0 (Or.inl (own_w55 hw)) (own_w36 hw) (ty := .int) (by decide) rfl rfl rfl rfl (hb hby d16_7)) fun T2 h2 X2 e2 W2 => ?_
  have Fw2 := F_modCount_o0.same W2
  have O2 := O0.wr W2 g_o0
  have K2 : Keep h0 h2 ([o0, p3] : List Addr) := Keep.wr (Keep.refl h0 ([o0, p3] : List Addr)) W2 (Or.inl (List.mem_of_getElem? (i := 0) rfl))
  have N2 := Fr.snoc X2 N0 g_o0
  show Home T2 (mkF m 10 #[.val (.ref o0), .val (.ref o1)] [])
  refine Home.run X2 hx hby sg16_10_3 (pc' := 13) (L' := #[.val (.ref o0), .val (.ref o1)]) (S' := [(.ref o0), (.ref o1), (.ref o0)]) rfl ?_
  have q3 := (F_elementData_o0.other W2 (Or.inr (slot_ne (Or.inl (own_w58 hw)) (Or.inl (own_w55 hw)) (by decide) (t := (.array (.object "java/lang/Object"))) (t' := .int) (by decide) (by decide))))
  refine Home.st (getF X2 hx hZ hown (host := "") (Or.inl (own_w57 hw)) Via.refl e2 q3 rfl rfl (hb hby d16_13)) fun T4 X4 e4 => ?_
  refine Home.run X4 hx hby sg16_16_1 (pc' := 17) (L' := #[.val (.ref o0), .val (.ref o1)]) (S' := [(.ref o0), (.ref p3), (.ref o1), (.ref o0)]) rfl ?_
  have q5 := (F_size_o0.other W2 (Or.inr (slot_ne (Or.inl (own_w73 hw)) (Or.inl (own_w55 hw)) (by decide) (t := .int) (t' := .int) (by decide) (by decide))))
  refine Home.st (getF X4 hx hZ hown (host := "") (Or.inl (own_w72 hw)) Via.refl e4 q5 rfl rfl (hb hby d16_17)) fun T6 X6 e6 => ?_
  have q7 := (E_o0.wr W2)
  have q8 := (V_p3.other W2 ne_p3_o0)
  have q9 := (E_o1.wr W2)
  refine Home.call (own_private X6 hx hZ hown (own_w108 hw) (own_w109 hw) (own_w111 hw) (Cond.privateMethod_at (mvP hZ (own_w110 hw) (args := #[]))) (own_w37 hw) (own_w112 hw) (by decide) (rm17_2 l Z a0 hw [] o0 o1 p3 k_p3 p4 p5 h2 n0 O2 q8 O_p3 q9 g_p3 q7 q5 ne_o0_p3 g_o0 Fw2 q3 ne_p3_o0) e6 q7 rfl (by rw [hml]; rfl) (argsL := [(.ref o1), (.ref p3), (.int (2 : Int32))]) (rest := []) (lenOf own_pd12 rfl) rfl rfl (W := 0) (by show 2 * 0 + _ ≤ _; exact Nat.le_of_eq rfl) (by decide) (by decide) (hb hby d16_20) (by decide) (by decide)) ?_
  rintro _ T10 L10 X10 ⟨rfl, N10q, K10q, P10_0, P10_1, P10_2, P10_3, P10_4⟩
  have O10 := Old.keep O2 K10q (allS g_p3 (allS g_o0 all0))
  have K10 : Keep h0 T10.heap ([o0, p3] : List Addr) := Keep.trans K2 K10q (allS (Or.inl (List.mem_of_getElem? (i := 1) rfl)) (allS (Or.inl (List.mem_of_getElem? (i := 0) rfl)) all0))
  have N10 := Fr.app N2 N10q
  show Home T10 (mkF m 23 #[.val (.ref o0), .val (.ref o1)] [])
  refine Home.run X10 hx hby sg16_23_1 (pc' := 24) (L' := #[.val (.ref o0), .val (.ref o1)]) (S' := [(.int (1 : Int32))]) rfl ?_
  exact Home.retN X10 hx hlk (t := .boolean) hret (by simp) (hb hby d16_24) ⟨rfl, N10, K10, P10_3, P10_1, P10_4, P10_2, P10_0⟩ (by decide) (by decide)
set_option maxRecDepth 65536 in
set_option maxHeartbeats 40000000 in
theorem rm12_0 (l : Launch) (Z : State) (a0 : Array Value) (hw : ∀ d ∈ tables_1, d.before a0 Z = true) (ws : List Jvm.Cond) (o0 : Addr) (h0 : Heap) (n0 : Nat) (O0 : Old Z n0 h0) (F_size_o0 : Fld Z h0 o0 "java/util/ArrayList" "size" "I" (.int (3 : Int32))) :
    Con l Z (⟨"java/util/ArrayList", "size", "()I"⟩ : MethodName) jdk_38_method_8_code 1 (some .int) ws ({ frames := 0, cells := 0, slots := 0, locals := 0 } : Room) #[(.ref o0)] h0 (Pur (some (.int (3 : Int32))) h0) := by
  refine own_body (plainFor_of_name own_pn5) (fun m => ef_rm12_0 m o0) ?_
  intro p e s m below meth c s₁ hx hby hlk hml hret hZ hown hnm X0 e0
  have N0 := Fr.nil n0
  refine Home.run X0 hx hby sg12_0_1 (pc' := 1) (L' := #[.val (.ref o0)]) (S' := [(.ref o0)]) rfl ?_
  refine Home.st (getF X0 hx hZ hown (host := "") (Or.inl (own_w72 hw)) Via.refl e0 F_size_o0 rfl rfl (hb hby d12_1)) fun T1 X1 e1 => ?_
  exact Home.retI X1 hx hlk hret (hb hby d12_4) ⟨rfl, rfl, e1⟩ (by decide) (by decide)
set_option maxRecDepth 65536 in
set_option maxHeartbeats 40000000 in
theorem rm23_0 (l : Launch) (Z : State) (a0 : Array Value) (hw : ∀ d ∈ tables_1, d.before a0 Z = true) (ws : List Jvm.Cond)  (h0 : Heap) (n0 : Nat) (O0 : Old Z n0 h0) :
    Con l Z (⟨"jdk/internal/util/Preconditions", "checkIndex", "(IILjava/util/function/BiFunction;)I"⟩ : MethodName) jdk_41_method_11_code 3 (some .int) ws ({ frames := 0, cells := 0, slots := 0, locals := 0 } : Room) #[(.int (0 : Int32)), (.int (3 : Int32)), .null] h0 (Pur (some (.int (0 : Int32))) h0) := by
  refine own_body (plainFor_of_name own_pn8) (fun m => ef_rm23_0 m (0 : Int32) (3 : Int32)) ?_
  intro p e s m below meth c s₁ hx hby hlk hml hret hZ hown hnm X0 e0
  have N0 := Fr.nil n0
  refine Home.run X0 hx hby sg23_0_1 (pc' := 1) (L' := #[.val (.int (0 : Int32)), .val (.int (3 : Int32)), .val .null]) (S' := [(.int (0 : Int32))]) rfl ?_
  refine Home.go (fun _ => XS.ifNo X0.here hx rfl (hb hby d23_1) rfl ((if0 _ _).trans (flt (by decide)).1)) ?_
  refine Home.run X0 hx hby sg23_4_2 (pc' := 6) (L' := #[.val (.int (0 : Int32)), .val (.int (3 : Int32)), .val .null]) (S' := [(.int (3 : Int32)), (.int (0 : Int32))]) rfl ?_
  refine Home.go (fun _ => XS.icmpYes X0.here hx rfl (pc0 := 6) (pc' := 16) rfl (hb hby d23_6) rfl (tlt (by decide)).1 (by decide) (by decide)) ?_
  refine Home.run X0 hx hby sg23_16_1 (pc' := 17) (L' := #[.val (.int (0 : Int32)), .val (.int (3 : Int32)), .val .null]) (S' := [(.int (0 : Int32))]) rfl ?_
  exact Home.retI X0 hx hlk hret (hb hby d23_17) ⟨rfl, rfl, e0⟩ (by decide) (by decide)
set_option maxRecDepth 65536 in
set_option maxHeartbeats 40000000 in
theorem rm22_0 (l : Launch) (Z : State) (a0 : Array Value) (hw : ∀ d ∈ tables_1, d.before a0 Z = true) (ws : List Jvm.Cond)  (h0 : Heap) (n0 : Nat) (O0 : Old Z n0 h0) :
    Con l Z (⟨"java/util/Objects", "checkIndex", "(II)I"⟩ : MethodName) jdk_31_method_17_code 2 (some .int) ws ({ frames := 1, cells := 0, slots := 0, locals := 14 } : Room) #[(.int (0 : Int32)), (.int (3 : Int32))] h0 (Pur (some (.int (0 : Int32))) h0) := by
  refine own_body (plainFor_of_name own_pn9) (fun m => ef_rm22_0 m (0 : Int32) (3 : Int32)) ?_
  intro p e s m below meth c s₁ hx hby hlk hml hret hZ hown hnm X0 e0
  have N0 := Fr.nil n0
  refine Home.run X0 hx hby sg22_0_3 (pc' := 3) (L' := #[.val (.int (0 : Int32)), .val (.int (3 : Int32))]) (S' := [.null, (.int (3 : Int32)), (.int (0 : Int32))]) rfl ?_
  refine Home.st (own_pure (own_static X0 hx hZ hown (own_w142 hw) (own_w143 hw) (own_w144 hw) (own_w145 hw) (by decide) (rm23_0 l Z a0 hw []  h0 n0 O0) e0 rfl (by rw [hml]; rfl) (argsL := [(.int (0 : Int32)), (.int (3 : Int32)), .null]) (rest := []) (lenOf own_pd15 rfl) rfl rfl (W := 0) (by show 2 * 0 + _ ≤ _; exact Nat.le_of_eq rfl) (by decide) (by decide) (hb hby d22_3) (by decide) (by decide))) fun T1 X1 e1 => ?_
  exact Home.retI X1 hx hlk hret (hb hby d22_6) ⟨rfl, rfl, e1⟩ (by decide) (by decide)
set_option maxRecDepth 65536 in
set_option maxHeartbeats 40000000 in
theorem rm24_0 (l : Launch) (Z : State) (a0 : Array Value) (hw : ∀ d ∈ tables_1, d.before a0 Z = true) (ws : List Jvm.Cond) (o0 : Addr) (p2 : Addr) (k_p2 : ClassId) (p3 : Addr) (p4 : Addr) (p5 : Addr) (h0 : Heap) (n0 : Nat) (O0 : Old Z n0 h0) (F_elementData_o0 : Fld Z h0 o0 "java/util/ArrayList" "elementData" "[Ljava/lang/Object;" (.ref p2)) (V_p2 : Arv Z h0 p2 k_p2 (.object "java/lang/Object") (10 : Int32) [(.ref p3), (.ref p4), (.ref p5), .null, .null, .null, .null, .null, .null, .null] .null) :
    Con l Z (⟨"java/util/ArrayList", "elementData", "(I)Ljava/lang/Object;"⟩ : MethodName) jdk_38_method_18_code 2 (some (.object "java/lang/Object")) ws ({ frames := 0, cells := 0, slots := 0, locals := 0 } : Room) #[(.ref o0), (.int (0 : Int32))] h0 (Pur (some (.ref p3)) h0) := by
  refine own_body (plainFor_of_name own_pn5) (fun m => ef_rm24_0 m o0 (0 : Int32)) ?_
  intro p e s m below meth c s₁ hx hby hlk hml hret hZ hown hnm X0 e0
  have N0 := Fr.nil n0
  refine Home.run X0 hx hby sg24_0_1 (pc' := 1) (L' := #[.val (.ref o0), .val (.int (0 : Int32))]) (S' := [(.ref o0)]) rfl ?_
  refine Home.st (getF X0 hx hZ hown (host := "") (Or.inl (own_w57 hw)) Via.refl e0 F_elementData_o0 rfl rfl (hb hby d24_1)) fun T1 X1 e1 => ?_
  refine Home.run X1 hx hby sg24_4_1 (pc' := 5) (L' := #[.val (.ref o0), .val (.int (0 : Int32))]) (S' := [(.int (0 : Int32)), (.ref p2)]) rfl ?_
  obtain ⟨cl2, Ar2, q2, S2, M2, H2, G2⟩ := id V_p2
  have i2 : ¬ ((0 : Int32) < 0 ∨ cl2.slots.size ≤ ((0 : Int32)).toNatClampNeg) := inb_of S2 ⟨by decide, by decide⟩
  refine Home.go (X1.aaload hx (j := (0 : Int32)) (v := (.ref p3)) (by rw [e1]; exact Ar2.1) (State.isArrayOf_alike hZ.alike Ar2.2.1) rfl Ar2.2.2 i2 (Has.at H2 i2 rfl) rfl rfl (hb hby d24_5)) ?_
  exact Home.retR X1 hx hlk hret rfl rfl (hb hby d24_6) ⟨rfl, rfl, e1⟩ (by decide) (by decide)
set_option maxRecDepth 65536 in
set_option maxHeartbeats 40000000 in
theorem rm21_0 (l : Launch) (Z : State) (a0 : Array Value) (hw : ∀ d ∈ tables_1, d.before a0 Z = true) (ws : List Jvm.Cond) (o0 : Addr) (p2 : Addr) (k_p2 : ClassId) (p3 : Addr) (p4 : Addr) (p5 : Addr) (h0 : Heap) (n0 : Nat) (O0 : Old Z n0 h0) (F_size_o0 : Fld Z h0 o0 "java/util/ArrayList" "size" "I" (.int (3 : Int32))) (E_o0 : Exa Z h0 o0 "java/util/ArrayList") (F_elementData_o0 : Fld Z h0 o0 "java/util/ArrayList" "elementData" "[Ljava/lang/Object;" (.ref p2)) (V_p2 : Arv Z h0 p2 k_p2 (.object "java/lang/Object") (10 : Int32) [(.ref p3), (.ref p4), (.ref p5), .null, .null, .null, .null, .null, .null, .null] .null) :
    Con l Z (⟨"java/util/ArrayList", "get", "(I)Ljava/lang/Object;"⟩ : MethodName) jdk_38_method_20_code 2 (some (.object "java/lang/Object")) ws ({ frames := 2, cells := 0, slots := 0, locals := 27 } : Room) #[(.ref o0), (.int (0 : Int32))] h0 (Pur (some (.ref p3)) h0) := by
  refine own_body (plainFor_of_name own_pn5) (fun m => ef_rm21_0 m o0 (0 : Int32)) ?_
  intro p e s m below meth c s₁ hx hby hlk hml hret hZ hown hnm X0 e0
  have N0 := Fr.nil n0
  refine Home.run X0 hx hby sg21_0_2 (pc' := 2) (L' := #[.val (.ref o0), .val (.int (0 : Int32))]) (S' := [(.ref o0), (.int (0 : Int32))]) rfl ?_
  refine Home.st (getF X0 hx hZ hown (host := "") (Or.inl (own_w72 hw)) Via.refl e0 F_size_o0 rfl rfl (hb hby d21_2)) fun T1 X1 e1 => ?_
  refine Home.st (own_pure (own_static X1 hx hZ hown (own_w138 hw) (own_w139 hw) (own_w140 hw) (own_w141 hw) (by decide) (rm22_0 l Z a0 hw []  h0 n0 O0) e1 rfl (by rw [hml]; rfl) (argsL := [(.int (0 : Int32)), (.int (3 : Int32))]) (rest := []) (lenOf own_pd9 rfl) rfl rfl (W := 0) (by show 2 * 0 + _ ≤ _; exact Nat.le_of_eq rfl) (by decide) (by decide) (hb hby d21_5) (by decide) (by decide))) fun T2 X2 e2 => ?_
  refine Home.run X2 hx hby sg21_8_3 (pc' := 11) (L' := #[.val (.ref o0), .val (.int (0 : Int32))]) (S' := [(.int (0 : Int32)), (.ref o0)]) rfl ?_
  refine Home.st (own_pure (own_virtual X2 hx hZ hown (own_w146 hw) (own_w147 hw) (notFace_of_selects (args := #[]) (mvT hZ (own_w149 hw))) (own_w149 hw) (own_w148 hw) (own_w37 hw) (own_w150 hw) (by decide) (rm24_0 l Z a0 hw [] o0 p2 k_p2 p3 p4 p5 h0 n0 O0 F_elementData_o0 V_p2) e2 E_o0 rfl (by rw [hml]; rfl) (argsL := [(.int (0 : Int32))]) (rest := []) (lenOf own_pd16 rfl) rfl rfl (W := 0) (by show 2 * 0 + _ ≤ _; exact Nat.le_of_eq rfl) (by decide) (by decide) (hb hby d21_11) (by decide) (by decide))) fun T3 X3 e3 => ?_
  exact Home.retR X3 hx hlk hret rfl rfl (hb hby d21_14) ⟨rfl, rfl, e3⟩ (by decide) (by decide)
set_option maxRecDepth 65536 in
set_option maxHeartbeats 40000000 in
theorem rm25_0 (l : Launch) (Z : State) (a0 : Array Value) (hw : ∀ d ∈ tables_1, d.before a0 Z = true) (ws : List Jvm.Cond) (o0 : Addr) (y1 : Value) (h0 : Heap) (n0 : Nat) (O0 : Old Z n0 h0) (F_name_o0 : Fld Z h0 o0 "com/example/wary_meter/warymeter/Column" "name" "Ljava/lang/String;" y1) (isr_y1 : y1.isRef = true) :
    Con l Z (⟨"com/example/wary_meter/warymeter/Column", "name", "()Ljava/lang/String;"⟩ : MethodName) prog_3_method_10_code 1 (some (.object "java/lang/String")) ws ({ frames := 0, cells := 0, slots := 0, locals := 0 } : Room) #[(.ref o0)] h0 (Pur (some y1) h0) := by
  refine own_body (plainFor_of_name own_pn7) (fun m => ef_rm25_0 m o0) ?_
  intro p e s m below meth c s₁ hx hby hlk hml hret hZ hown hnm X0 e0
  have N0 := Fr.nil n0
  refine Home.run X0 hx hby sg25_0_1 (pc' := 1) (L' := #[.val (.ref o0)]) (S' := [(.ref o0)]) rfl ?_
  refine Home.st (getF X0 hx hZ hown (host := "") (Or.inl (own_w90 hw)) Via.refl e0 F_name_o0 rfl rfl (hb hby d25_1)) fun T1 X1 e1 => ?_
  exact Home.retR X1 hx hlk hret rfl (isr_y1) (hb hby d25_4) ⟨rfl, rfl, e1⟩ (by decide) (by decide)
set_option maxRecDepth 65536 in
set_option maxHeartbeats 40000000 in
theorem rm23_1 (l : Launch) (Z : State) (a0 : Array Value) (hw : ∀ d ∈ tables_1, d.before a0 Z = true) (ws : List Jvm.Cond)  (h0 : Heap) (n0 : Nat) (O0 : Old Z n0 h0) :
    Con l Z (⟨"jdk/internal/util/Preconditions", "checkIndex", "(IILjava/util/function/BiFunction;)I"⟩ : MethodName) jdk_41_method_11_code 3 (some .int) ws ({ frames := 0, cells := 0, slots := 0, locals := 0 } : Room) #[(.int (1 : Int32)), (.int (3 : Int32)), .null] h0 (Pur (some (.int (1 : Int32))) h0) := by
  refine own_body (plainFor_of_name own_pn8) (fun m => ef_rm23_1 m (1 : Int32) (3 : Int32)) ?_
  intro p e s m below meth c s₁ hx hby hlk hml hret hZ hown hnm X0 e0
  have N0 := Fr.nil n0
  refine Home.run X0 hx hby sg23_0_1 (pc' := 1) (L' := #[.val (.int (1 : Int32)), .val (.int (3 : Int32)), .val .null]) (S' := [(.int (1 : Int32))]) rfl ?_
  refine Home.go (fun _ => XS.ifNo X0.here hx rfl (hb hby d23_1) rfl ((if0 _ _).trans (flt (by decide)).1)) ?_
  refine Home.run X0 hx hby sg23_4_2 (pc' := 6) (L' := #[.val (.int (1 : Int32)), .val (.int (3 : Int32)), .val .null]) (S' := [(.int (3 : Int32)), (.int (1 : Int32))]) rfl ?_
  refine Home.go (fun _ => XS.icmpYes X0.here hx rfl (pc0 := 6) (pc' := 16) rfl (hb hby d23_6) rfl (tlt (by decide)).1 (by decide) (by decide)) ?_
  refine Home.run X0 hx hby sg23_16_1 (pc' := 17) (L' := #[.val (.int (1 : Int32)), .val (.int (3 : Int32)), .val .null]) (S' := [(.int (1 : Int32))]) rfl ?_
  exact Home.retI X0 hx hlk hret (hb hby d23_17) ⟨rfl, rfl, e0⟩ (by decide) (by decide)
set_option maxRecDepth 65536 in
set_option maxHeartbeats 40000000 in
theorem rm22_1 (l : Launch) (Z : State) (a0 : Array Value) (hw : ∀ d ∈ tables_1, d.before a0 Z = true) (ws : List Jvm.Cond)  (h0 : Heap) (n0 : Nat) (O0 : Old Z n0 h0) :
    Con l Z (⟨"java/util/Objects", "checkIndex", "(II)I"⟩ : MethodName) jdk_31_method_17_code 2 (some .int) ws ({ frames := 1, cells := 0, slots := 0, locals := 14 } : Room) #[(.int (1 : Int32)), (.int (3 : Int32))] h0 (Pur (some (.int (1 : Int32))) h0) := by
  refine own_body (plainFor_of_name own_pn9) (fun m => ef_rm22_1 m (1 : Int32) (3 : Int32)) ?_
  intro p e s m below meth c s₁ hx hby hlk hml hret hZ hown hnm X0 e0
  have N0 := Fr.nil n0
  refine Home.run X0 hx hby sg22_0_3 (pc' := 3) (L' := #[.val (.int (1 : Int32)), .val (.int (3 : Int32))]) (S' := [.null, (.int (3 : Int32)), (.int (1 : Int32))]) rfl ?_
  refine Home.st (own_pure (own_static X0 hx hZ hown (own_w142 hw) (own_w143 hw) (own_w144 hw) (own_w145 hw) (by decide) (rm23_1 l Z a0 hw []  h0 n0 O0) e0 rfl (by rw [hml]; rfl) (argsL := [(.int (1 : Int32)), (.int (3 : Int32)), .null]) (rest := []) (lenOf own_pd15 rfl) rfl rfl (W := 0) (by show 2 * 0 + _ ≤ _; exact Nat.le_of_eq rfl) (by decide) (by decide) (hb hby d22_3) (by decide) (by decide))) fun T1 X1 e1 => ?_
  exact Home.retI X1 hx hlk hret (hb hby d22_6) ⟨rfl, rfl, e1⟩ (by decide) (by decide)
set_option maxRecDepth 65536 in
set_option maxHeartbeats 40000000 in
theorem rm24_1 (l : Launch) (Z : State) (a0 : Array Value) (hw : ∀ d ∈ tables_1, d.before a0 Z = true) (ws : List Jvm.Cond) (o0 : Addr) (p2 : Addr) (k_p2 : ClassId) (p3 : Addr) (p4 : Addr) (p5 : Addr) (h0 : Heap) (n0 : Nat) (O0 : Old Z n0 h0) (F_elementData_o0 : Fld Z h0 o0 "java/util/ArrayList" "elementData" "[Ljava/lang/Object;" (.ref p2)) (V_p2 : Arv Z h0 p2 k_p2 (.object "java/lang/Object") (10 : Int32) [(.ref p3), (.ref p4), (.ref p5), .null, .null, .null, .null, .null, .null, .null] .null) :
    Con l Z (⟨"java/util/ArrayList", "elementData", "(I)Ljava/lang/Object;"⟩ : MethodName) jdk_38_method_18_code 2 (some (.object "java/lang/Object")) ws ({ frames := 0, cells := 0, slots := 0, locals := 0 } : Room) #[(.ref o0), (.int (1 : Int32))] h0 (Pur (some (.ref p4)) h0) := by
  refine own_body (plainFor_of_name own_pn5) (fun m => ef_rm24_1 m o0 (1 : Int32)) ?_
  intro p e s m below meth c s₁ hx hby hlk hml hret hZ hown hnm X0 e0
  have N0 := Fr.nil n0
  refine Home.run X0 hx hby sg24_0_1 (pc' := 1) (L' := #[.val (.ref o0), .val (.int (1 : Int32))]) (S' := [(.ref o0)]) rfl ?_
  refine Home.st (getF X0 hx hZ hown (host := "") (Or.inl (own_w57 hw)) Via.refl e0 F_elementData_o0 rfl rfl (hb hby d24_1)) fun T1 X1 e1 => ?_
  refine Home.run X1 hx hby sg24_4_1 (pc' := 5) (L' := #[.val (.ref o0), .val (.int (1 : Int32))]) (S' := [(.int (1 : Int32)), (.ref p2)]) rfl ?_
  obtain ⟨cl2, Ar2, q2, S2, M2, H2, G2⟩ := id V_p2
  have i2 : ¬ ((1 : Int32) < 0 ∨ cl2.slots.size ≤ ((1 : Int32)).toNatClampNeg) := inb_of S2 ⟨by decide, by decide⟩
  refine Home.go (X1.aaload hx (j := (1 : Int32)) (v := (.ref p4)) (by rw [e1]; exact Ar2.1) (State.isArrayOf_alike hZ.alike Ar2.2.1) rfl Ar2.2.2 i2 (Has.at H2 i2 rfl) rfl rfl (hb hby d24_5)) ?_
  exact Home.retR X1 hx hlk hret rfl rfl (hb hby d24_6) ⟨rfl, rfl, e1⟩ (by decide) (by decide)
set_option maxRecDepth 65536 in
set_option maxHeartbeats 40000000 in
theorem rm21_1 (l : Launch) (Z : State) (a0 : Array Value) (hw : ∀ d ∈ tables_1, d.before a0 Z = true) (ws : List Jvm.Cond) (o0 : Addr) (p2 : Addr) (k_p2 : ClassId) (p3 : Addr) (p4 : Addr) (p5 : Addr) (h0 : Heap) (n0 : Nat) (O0 : Old Z n0 h0) (F_size_o0 : Fld Z h0 o0 "java/util/ArrayList" "size" "I" (.int (3 : Int32))) (E_o0 : Exa Z h0 o0 "java/util/ArrayList") (F_elementData_o0 : Fld Z h0 o0 "java/util/ArrayList" "elementData" "[Ljava/lang/Object;" (.ref p2)) (V_p2 : Arv Z h0 p2 k_p2 (.object "java/lang/Object") (10 : Int32) [(.ref p3), (.ref p4), (.ref p5), .null, .null, .null, .null, .null, .null, .null] .null) :
    Con l Z (⟨"java/util/ArrayList", "get", "(I)Ljava/lang/Object;"⟩ : MethodName) jdk_38_method_20_code 2 (some (.object "java/lang/Object")) ws ({ frames := 2, cells := 0, slots := 0, locals := 27 } : Room) #[(.ref o0), (.int (1 : Int32))] h0 (Pur (some (.ref p4)) h0) := by
  refine own_body (plainFor_of_name own_pn5) (fun m => ef_rm21_1 m o0 (1 : Int32)) ?_
  intro p e s m below meth c s₁ hx hby hlk hml hret hZ hown hnm X0 e0
  have N0 := Fr.nil n0
  refine Home.run X0 hx hby sg21_0_2 (pc' := 2) (L' := #[.val (.ref o0), .val (.int (1 : Int32))]) (S' := [(.ref o0), (.int (1 : Int32))]) rfl ?_
  refine Home.st (getF X0 hx hZ hown (host := "") (Or.inl (own_w72 hw)) Via.refl e0 F_size_o0 rfl rfl (hb hby d21_2)) fun T1 X1 e1 => ?_
  refine Home.st (own_pure (own_static X1 hx hZ hown (own_w138 hw) (own_w139 hw) (own_w140 hw) (own_w141 hw) (by decide) (rm22_1 l Z a0 hw []  h0 n0 O0) e1 rfl (by rw [hml]; rfl) (argsL := [(.int (1 : Int32)), (.int (3 : Int32))]) (rest := []) (lenOf own_pd9 rfl) rfl rfl (W := 0) (by show 2 * 0 + _ ≤ _; exact Nat.le_of_eq rfl) (by decide) (by decide) (hb hby d21_5) (by decide) (by decide))) fun T2 X2 e2 => ?_
  refine Home.run X2 hx hby sg21_8_3 (pc' := 11) (L' := #[.val (.ref o0), .val (.int (1 : Int32))]) (S' := [(.int (1 : Int32)), (.ref o0)]) rfl ?_
  refine Home.st (own_pure (own_virtual X2 hx hZ hown (own_w146 hw) (own_w147 hw) (notFace_of_selects (args := #[]) (mvT hZ (own_w149 hw))) (own_w149 hw) (own_w148 hw) (own_w37 hw) (own_w150 hw) (by decide) (rm24_1 l Z a0 hw [] o0 p2 k_p2 p3 p4 p5 h0 n0 O0 F_elementData_o0 V_p2) e2 E_o0 rfl (by rw [hml]; rfl) (argsL := [(.int (1 : Int32))]) (rest := []) (lenOf own_pd16 rfl) rfl rfl (W := 0) (by show 2 * 0 + _ ≤ _; exact Nat.le_of_eq rfl) (by decide) (by decide) (hb hby d21_11) (by decide) (by decide))) fun T3 X3 e3 => ?_
  exact Home.retR X3 hx hlk hret rfl rfl (hb hby d21_14) ⟨rfl, rfl, e3⟩ (by decide) (by decide)
set_option maxRecDepth 65536 in
set_option maxHeartbeats 40000000 in
theorem rm23_2 (l : Launch) (Z : State) (a0 : Array Value) (hw : ∀ d ∈ tables_1, d.before a0 Z = true) (ws : List Jvm.Cond)  (h0 : Heap) (n0 : Nat) (O0 : Old Z n0 h0) :
    Con l Z (⟨"jdk/internal/util/Preconditions", "checkIndex", "(IILjava/util/function/BiFunction;)I"⟩ : MethodName) jdk_41_method_11_code 3 (some .int) ws ({ frames := 0, cells := 0, slots := 0, locals := 0 } : Room) #[(.int (2 : Int32)), (.int (3 : Int32)), .null] h0 (Pur (some (.int (2 : Int32))) h0) := by
  refine own_body (plainFor_of_name own_pn8) (fun m => ef_rm23_2 m (2 : Int32) (3 : Int32)) ?_
  intro p e s m below meth c s₁ hx hby hlk hml hret hZ hown hnm X0 e0
  have N0 := Fr.nil n0
  refine Home.run X0 hx hby sg23_0_1 (pc' := 1) (L' := #[.val (.int (2 : Int32)), .val (.int (3 : Int32)), .val .null]) (S' := [(.int (2 : Int32))]) rfl ?_
  refine Home.go (fun _ => XS.ifNo X0.here hx rfl (hb hby d23_1) rfl ((if0 _ _).trans (flt (by decide)).1)) ?_
  refine Home.run X0 hx hby sg23_4_2 (pc' := 6) (L' := #[.val (.int (2 : Int32)), .val (.int (3 : Int32)), .val .null]) (S' := [(.int (3 : Int32)), (.int (2 : Int32))]) rfl ?_
  refine Home.go (fun _ => XS.icmpYes X0.here hx rfl (pc0 := 6) (pc' := 16) rfl (hb hby d23_6) rfl (tlt (by decide)).1 (by decide) (by decide)) ?_
  refine Home.run X0 hx hby sg23_16_1 (pc' := 17) (L' := #[.val (.int (2 : Int32)), .val (.int (3 : Int32)), .val .null]) (S' := [(.int (2 : Int32))]) rfl ?_
  exact Home.retI X0 hx hlk hret (hb hby d23_17) ⟨rfl, rfl, e0⟩ (by decide) (by decide)
set_option maxRecDepth 65536 in
set_option maxHeartbeats 40000000 in
theorem rm22_2 (l : Launch) (Z : State) (a0 : Array Value) (hw : ∀ d ∈ tables_1, d.before a0 Z = true) (ws : List Jvm.Cond)  (h0 : Heap) (n0 : Nat) (O0 : Old Z n0 h0) :
    Con l Z (⟨"java/util/Objects", "checkIndex", "(II)I"⟩ : MethodName) jdk_31_method_17_code 2 (some .int) ws ({ frames := 1, cells := 0, slots := 0, locals := 14 } : Room) #[(.int (2 : Int32)), (.int (3 : Int32))] h0 (Pur (some (.int (2 : Int32))) h0) := by
  refine own_body (plainFor_of_name own_pn9) (fun m => ef_rm22_2 m (2 : Int32) (3 : Int32)) ?_
  intro p e s m below meth c s₁ hx hby hlk hml hret hZ hown hnm X0 e0
  have N0 := Fr.nil n0
  refine Home.run X0 hx hby sg22_0_3 (pc' := 3) (L' := #[.val (.int (2 : Int32)), .val (.int (3 : Int32))]) (S' := [.null, (.int (3 : Int32)), (.int (2 : Int32))]) rfl ?_
  refine Home.st (own_pure (own_static X0 hx hZ hown (own_w142 hw) (own_w143 hw) (own_w144 hw) (own_w145 hw) (by decide) (rm23_2 l Z a0 hw []  h0 n0 O0) e0 rfl (by rw [hml]; rfl) (argsL := [(.int (2 : Int32)), (.int (3 : Int32)), .null]) (rest := []) (lenOf own_pd15 rfl) rfl rfl (W := 0) (by show 2 * 0 + _ ≤ _; exact Nat.le_of_eq rfl) (by decide) (by decide) (hb hby d22_3) (by decide) (by decide))) fun T1 X1 e1 => ?_
  exact Home.retI X1 hx hlk hret (hb hby d22_6) ⟨rfl, rfl, e1⟩ (by decide) (by decide)
set_option maxRecDepth 65536 in
set_option maxHeartbeats 40000000 in
theorem rm24_2 (l : Launch) (Z : State) (a0 : Array Value) (hw : ∀ d ∈ tables_1, d.before a0 Z = true) (ws : List Jvm.Cond) (o0 : Addr) (p2 : Addr) (k_p2 : ClassId) (p3 : Addr) (p4 : Addr) (p5 : Addr) (h0 : Heap) (n0 : Nat) (O0 : Old Z n0 h0) (F_elementData_o0 : Fld Z h0 o0 "java/util/ArrayList" "elementData" "[Ljava/lang/Object;" (.ref p2)) (V_p2 : Arv Z h0 p2 k_p2 (.object "java/lang/Object") (10 : Int32) [(.ref p3), (.ref p4), (.ref p5), .null, .null, .null, .null, .null, .null, .null] .null) :
    Con l Z (⟨"java/util/ArrayList", "elementData", "(I)Ljava/lang/Object;"⟩ : MethodName) jdk_38_method_18_code 2 (some (.object "java/lang/Object")) ws ({ frames := 0, cells := 0, slots := 0, locals := 0 } : Room) #[(.ref o0), (.int (2 : Int32))] h0 (Pur (some (.ref p5)) h0) := by
  refine own_body (plainFor_of_name own_pn5) (fun m => ef_rm24_2 m o0 (2 : Int32)) ?_
  intro p e s m below meth c s₁ hx hby hlk hml hret hZ hown hnm X0 e0
  have N0 := Fr.nil n0
  refine Home.run X0 hx hby sg24_0_1 (pc' := 1) (L' := #[.val (.ref o0), .val (.int (2 : Int32))]) (S' := [(.ref o0)]) rfl ?_
  refine Home.st (getF X0 hx hZ hown (host := "") (Or.inl (own_w57 hw)) Via.refl e0 F_elementData_o0 rfl rfl (hb hby d24_1)) fun T1 X1 e1 => ?_
  refine Home.run X1 hx hby sg24_4_1 (pc' := 5) (L' := #[.val (.ref o0), .val (.int (2 : Int32))]) (S' := [(.int (2 : Int32)), (.ref p2)]) rfl ?_
  obtain ⟨cl2, Ar2, q2, S2, M2, H2, G2⟩ := id V_p2
  have i2 : ¬ ((2 : Int32) < 0 ∨ cl2.slots.size ≤ ((2 : Int32)).toNatClampNeg) := inb_of S2 ⟨by decide, by decide⟩
  refine Home.go (X1.aaload hx (j := (2 : Int32)) (v := (.ref p5)) (by rw [e1]; exact Ar2.1) (State.isArrayOf_alike hZ.alike Ar2.2.1) rfl Ar2.2.2 i2 (Has.at H2 i2 rfl) rfl rfl (hb hby d24_5)) ?_
  exact Home.retR X1 hx hlk hret rfl rfl (hb hby d24_6) ⟨rfl, rfl, e1⟩ (by decide) (by decide)
set_option maxRecDepth 65536 in
set_option maxHeartbeats 40000000 in
theorem rm21_2 (l : Launch) (Z : State) (a0 : Array Value) (hw : ∀ d ∈ tables_1, d.before a0 Z = true) (ws : List Jvm.Cond) (o0 : Addr) (p2 : Addr) (k_p2 : ClassId) (p3 : Addr) (p4 : Addr) (p5 : Addr) (h0 : Heap) (n0 : Nat) (O0 : Old Z n0 h0) (F_size_o0 : Fld Z h0 o0 "java/util/ArrayList" "size" "I" (.int (3 : Int32))) (E_o0 : Exa Z h0 o0 "java/util/ArrayList") (F_elementData_o0 : Fld Z h0 o0 "java/util/ArrayList" "elementData" "[Ljava/lang/Object;" (.ref p2)) (V_p2 : Arv Z h0 p2 k_p2 (.object "java/lang/Object") (10 : Int32) [(.ref p3), (.ref p4), (.ref p5), .null, .null, .null, .null, .null, .null, .null] .null) :
    Con l Z (⟨"java/util/ArrayList", "get", "(I)Ljava/lang/Object;"⟩ : MethodName) jdk_38_method_20_code 2 (some (.object "java/lang/Object")) ws ({ frames := 2, cells := 0, slots := 0, locals := 27 } : Room) #[(.ref o0), (.int (2 : Int32))] h0 (Pur (some (.ref p5)) h0) := by
  refine own_body (plainFor_of_name own_pn5) (fun m => ef_rm21_2 m o0 (2 : Int32)) ?_
  intro p e s m below meth c s₁ hx hby hlk hml hret hZ hown hnm X0 e0
  have N0 := Fr.nil n0
  refine Home.run X0 hx hby sg21_0_2 (pc' := 2) (L' := #[.val (.ref o0), .val (.int (2 : Int32))]) (S' := [(.ref o0), (.int (2 : Int32))]) rfl ?_
  refine Home.st (getF X0 hx hZ hown (host := "") (Or.inl (own_w72 hw)) Via.refl e0 F_size_o0 rfl rfl (hb hby d21_2)) fun T1 X1 e1 => ?_
  refine Home.st (own_pure (own_static X1 hx hZ hown (own_w138 hw) (own_w139 hw) (own_w140 hw) (own_w141 hw) (by decide) (rm22_2 l Z a0 hw []  h0 n0 O0) e1 rfl (by rw [hml]; rfl) (argsL := [(.int (2 : Int32)), (.int (3 : Int32))]) (rest := []) (lenOf own_pd9 rfl) rfl rfl (W := 0) (by show 2 * 0 + _ ≤ _; exact Nat.le_of_eq rfl) (by decide) (by decide) (hb hby d21_5) (by decide) (by decide))) fun T2 X2 e2 => ?_
  refine Home.run X2 hx hby sg21_8_3 (pc' := 11) (L' := #[.val (.ref o0), .val (.int (2 : Int32))]) (S' := [(.int (2 : Int32)), (.ref o0)]) rfl ?_
  refine Home.st (own_pure (own_virtual X2 hx hZ hown (own_w146 hw) (own_w147 hw) (notFace_of_selects (args := #[]) (mvT hZ (own_w149 hw))) (own_w149 hw) (own_w148 hw) (own_w37 hw) (own_w150 hw) (by decide) (rm24_2 l Z a0 hw [] o0 p2 k_p2 p3 p4 p5 h0 n0 O0 F_elementData_o0 V_p2) e2 E_o0 rfl (by rw [hml]; rfl) (argsL := [(.int (2 : Int32))]) (rest := []) (lenOf own_pd16 rfl) rfl rfl (W := 0) (by show 2 * 0 + _ ≤ _; exact Nat.le_of_eq rfl) (by decide) (by decide) (hb hby d21_11) (by decide) (by decide))) fun T3 X3 e3 => ?_
  exact Home.retR X3 hx hlk hret rfl rfl (hb hby d21_14) ⟨rfl, rfl, e3⟩ (by decide) (by decide)
set_option maxRecDepth 65536 in
set_option maxHeartbeats 40000000 in
theorem rm11_0 (l : Launch) (Z : State) (a0 : Array Value) (hw : ∀ d ∈ tables_1, d.before a0 Z = true) (ws : List Jvm.Cond) (o0 : Addr) (p2 : Addr) (k_p2 : ClassId) (p3 : Addr) (p4 : Addr) (p5 : Addr) (y1 : Value) (y2 : Value) (y3 : Value) (h0 : Heap) (n0 : Nat) (O0 : Old Z n0 h0) (E_o0 : Exa Z h0 o0 "java/util/ArrayList") (F_size_o0 : Fld Z h0 o0 "java/util/ArrayList" "size" "I" (.int (3 : Int32))) (F_elementData_o0 : Fld Z h0 o0 "java/util/ArrayList" "elementData" "[Ljava/lang/Object;" (.ref p2)) (V_p2 : Arv Z h0 p2 k_p2 (.object "java/lang/Object") (10 : Int32) [(.ref p3), (.ref p4), (.ref p5), .null, .null, .null, .null, .null, .null, .null] .null) (E_p3 : Exa Z h0 p3 "com/example/wary_meter/warymeter/Column") (F_name_p3 : Fld Z h0 p3 "com/example/wary_meter/warymeter/Column" "name" "Ljava/lang/String;" y1) (isr_y1 : y1.isRef = true) (N_y1 : Nul Z h0 y1 "java/lang/String") (E_p4 : Exa Z h0 p4 "com/example/wary_meter/warymeter/Column") (F_name_p4 : Fld Z h0 p4 "com/example/wary_meter/warymeter/Column" "name" "Ljava/lang/String;" y2) (isr_y2 : y2.isRef = true) (N_y2 : Nul Z h0 y2 "java/lang/String") (E_p5 : Exa Z h0 p5 "com/example/wary_meter/warymeter/Column") (F_name_p5 : Fld Z h0 p5 "com/example/wary_meter/warymeter/Column" "name" "Ljava/lang/String;" y3) (isr_y3 : y3.isRef = true) (N_y3 : Nul Z h0 y3 "java/lang/String") :
    Con l Z (⟨"com/example/wary_meter/warymeter/Column", "names", "(Ljava/util/List;)[Ljava/lang/String;"⟩ : MethodName) prog_3_method_4_code 3 (some (.array (.object "java/lang/String"))) ws ({ frames := 3, cells := 1, slots := 3, locals := 42 } : Room) #[(.ref o0)] h0 (fun v h L => ∃ (b2 : Addr), ∃ (k2 : ClassId), v = some (.ref b2) ∧ Fr n0 L ∧ h0.size ≤ b2 ∧ Keep h0 h [] ∧ Arv Z h b2 k2 (.object "java/lang/String") (3 : Int32) [y1, y2, y3] .null ∧ Ovr Z k2 "java/lang/String") := by
  refine own_body (plainFor_of_name own_pn7) (fun m => ef_rm11_0 m o0) ?_
  intro p e s m below meth c s₁ hx hby hlk hml hret hZ hown hnm X0 e0
  have N0 := Fr.nil n0
  refine Home.run X0 hx hby sg11_0_1 (pc' := 1) (L' := #[.val (.ref o0), .unset, .unset]) (S' := [(.ref o0)]) rfl ?_
  refine Home.st (own_pure (own_face X0 hx hZ hown (own_w63 hw) (own_w64 hw) (mvT hZ (own_w65 hw)) (own_w66 hw) (own_w67 hw) (own_w68 hw) (own_w69 hw) (own_w70 hw) (own_w37 hw) (own_w71 hw) (by decide) (rm12_0 l Z a0 hw [] o0 h0 n0 O0 F_size_o0) e0 E_o0 rfl (by rw [hml]; rfl) (argsL := []) (rest := []) (lenOf own_pd14 rfl) rfl rfl (W := 0) (by show 2 * 0 + _ ≤ _; exact Nat.le_of_eq rfl) (by decide) (by decide) (hb hby d11_1) (by decide) (by decide))) fun T1 X1 e1 => ?_
  refine Home.nr (own_newR X1 hx hZ hown (own_w74 hw) (own_w75 hw) e1 (g := (mkF m 6 #[.val (.ref o0), .unset, .unset] [(.int (3 : Int32))])) rfl (hb hby d11_6) rfl (by decide) (cap := 3) (by decide) (by decide) (by decide) (by decide)) fun T2 h2 k2 b2 g2 X2 e2 E2 A2 Ov2 => ?_
  have g_b2 : n0 ≤ b2 := Nat.le_trans (Old.le O0) (Nat.le_of_eq g2.symm)
  have V2 : Arv Z h2 b2 k2 (.object "java/lang/String") (3 : Int32) [.null, .null, .null] .null := (Arv.new A2 (by decide)).pad (pad_rep [] .null 3)
  have O2 := O0.ext E2
  have K2 : Keep h0 h2 ([] : List Addr) := Keep.ext (Keep.refl h0 ([] : List Addr)) E2
  refine Home.run X2 hx hby sg11_9_5 (pc' := 14) (L' := #[.val (.ref o0), .val (.ref b2), .val (.int (0 : Int32))]) (S' := [(.ref b2), (.int (0 : Int32))]) rfl ?_
  obtain ⟨cl3, Ar3, q3, S3, M3, H3, G3⟩ := id V2
  refine Home.go (own_alen X2 hx hZ e2 Ar3 S3 M3 rfl rfl (hb hby d11_14)) ?_
  show Home T2 (mkF m 15 #[.val (.ref o0), .val (.ref b2), .val (.int (0 : Int32))] [(.int (3 : Int32)), (.int (0 : Int32))])
  refine Home.go (fun _ => XS.icmpNo X2.here hx rfl (hb hby d11_15) rfl (tlt (by decide)).2.1) ?_
  refine Home.run X2 hx hby sg11_18_4 (pc' := 22) (L' := #[.val (.ref o0), .val (.ref b2), .val (.int (0 : Int32))]) (S' := [(.int (0 : Int32)), (.ref o0), (.int (0 : Int32)), (.ref b2)]) rfl ?_
  have q4 := (E_o0.ext E2)
  have q5 := (F_size_o0.ext E2)
  have q6 := (F_elementData_o0.ext E2)
  have q7 := (V_p2.ext E2)
  refine Home.st (own_pure (own_face X2 hx hZ hown (own_w130 hw) (own_w131 hw) (mvT hZ (own_w132 hw)) (own_w133 hw) (own_w134 hw) (own_w135 hw) (own_w136 hw) (own_w70 hw) (own_w37 hw) (own_w137 hw) (by decide) (rm21_0 l Z a0 hw [] o0 p2 k_p2 p3 p4 p5 h2 n0 O2 q5 q4 q6 q7) e2 q4 rfl (by rw [hml]; rfl) (argsL := [(.int (0 : Int32))]) (rest := [(.int (0 : Int32)), (.ref b2)]) (lenOf own_pd16 rfl) rfl rfl (W := 2) (by show 2 * 0 + _ ≤ _; exact Nat.le_of_eq rfl) (by decide) (by decide) (hb hby d11_22) (by decide) (by decide))) fun T8 X8 e8 => ?_
  have q9 := (E_p3.ext E2)
  refine Home.st (castY X8 hx hZ hown (own_w151 hw) e8 (Ins.self q9) rfl rfl (hb hby d11_27)) fun T10 X10 e10 => ?_
  show Home T10 (mkF m 30 #[.val (.ref o0), .val (.ref b2), .val (.int (0 : Int32))] [(.ref p3), (.int (0 : Int32)), (.ref b2)])
  have q11 := (F_name_p3.ext E2)
  refine Home.st (own_pure (own_virtual X10 hx hZ hown (own_w153 hw) (own_w154 hw) (notFace_of_selects (args := #[]) (mvT hZ (own_w156 hw))) (own_w156 hw) (own_w155 hw) (own_w61 hw) (own_w157 hw) (by decide) (rm25_0 l Z a0 hw [] p3 y1 h2 n0 O2 q11 isr_y1) e10 q9 rfl (by rw [hml]; rfl) (argsL := []) (rest := [(.int (0 : Int32)), (.ref b2)]) (lenOf own_pd17 rfl) rfl rfl (W := 2) (by show 2 * 0 + _ ≤ _; exact Nat.le_of_eq rfl) (by decide) (by decide) (hb hby d11_30) (by decide) (by decide))) fun T12 X12 e12 => ?_
  obtain ⟨cl13, Ar13, q13, S13, M13, H13, G13⟩ := id V2
  have q14 := (Nul.ext N_y1 E2)
  refine Home.wr (stR X12 hx hZ e12 Ar13 (j := (0 : Int32)) (inb_of S13 ⟨by decide, by decide⟩) rfl (Sto.ofN Ar13 q13 Ov2 q14 (fun E => Ins.self E)) rfl rfl (hb hby d11_33)) fun T13 h13 X13 e13 W13 => ?_
  have V13 : Arv Z h13 b2 k2 (.object "java/lang/String") (3 : Int32) [y1, .null, .null] .null := Arv.set Ar13 q13 S13 M13 H13 G13 (fits_refv (isr_y1) rfl) W13 0 rfl (Nat.le_of_ble_eq_true rfl)
  have O13 := O2.wr W13 g_b2
  have K13 : Keep h0 h13 ([] : List Addr) := Keep.wr K2 W13 (Or.inr (Nat.le_trans (Nat.le_refl _) (Nat.le_of_eq g2.symm)))
  have N13 := Fr.snoc X13 N0 g_b2
  show Home T13 (mkF m 34 #[.val (.ref o0), .val (.ref b2), .val (.int (0 : Int32))] [])
  refine Home.run X13 hx hby sg11_34_4 (pc' := 14) (L' := #[.val (.ref o0), .val (.ref b2), .val (.int (1 : Int32))]) (S' := [(.ref b2), (.int (1 : Int32))]) rfl ?_
  obtain ⟨cl15, Ar15, q15, S15, M15, H15, G15⟩ := id V13
  refine Home.go (own_alen X13 hx hZ e13 Ar15 S15 M15 rfl rfl (hb hby d11_14)) ?_
  refine Home.go (fun _ => XS.icmpNo X13.here hx rfl (hb hby d11_15) rfl (tlt (by decide)).2.1) ?_
  refine Home.run X13 hx hby sg11_18_4 (pc' := 22) (L' := #[.val (.ref o0), .val (.ref b2), .val (.int (1 : Int32))]) (S' := [(.int (1 : Int32)), (.ref o0), (.int (1 : Int32)), (.ref b2)]) rfl ?_
  have q16 := (q4.wr W13)
  have ne17 : o0 ≠ b2 := (Nat.ne_of_lt (Nat.lt_of_lt_of_le E_o0.lt (Nat.le_trans (Nat.le_refl _) (Nat.le_of_eq g2.symm))))
  have q18 := (q5.other W13 (Or.inl ne17))
  have q19 := (q6.other W13 (Or.inl ne17))
  have ne20 : p2 ≠ b2 := (Nat.ne_of_lt (Nat.lt_of_lt_of_le V_p2.lt (Nat.le_trans (Nat.le_refl _) (Nat.le_of_eq g2.symm))))
  have q21 := (q7.other W13 ne20)
  refine Home.st (own_pure (own_face X13 hx hZ hown (own_w130 hw) (own_w131 hw) (mvT hZ (own_w132 hw)) (own_w133 hw) (own_w134 hw) (own_w135 hw) (own_w136 hw) (own_w70 hw) (own_w37 hw) (own_w137 hw) (by decide) (rm21_1 l Z a0 hw [] o0 p2 k_p2 p3 p4 p5 h13 n0 O13 q18 q16 q19 q21) e13 q16 rfl (by rw [hml]; rfl) (argsL := [(.int (1 : Int32))]) (rest := [(.int (1 : Int32)), (.ref b2)]) (lenOf own_pd16 rfl) rfl rfl (W := 2) (by show 2 * 0 + _ ≤ _; exact Nat.le_of_eq rfl) (by decide) (by decide) (hb hby d11_22) (by decide) (by decide))) fun T22 X22 e22 => ?_
  show Home T22 (mkF m 27 #[.val (.ref o0), .val (.ref b2), .val (.int (1 : Int32))] [(.ref p4), (.int (1 : Int32)), (.ref b2)])
  have q23 := (E_p4.keep K13)
  refine Home.st (castY X22 hx hZ hown (own_w151 hw) e22 (Ins.self q23) rfl rfl (hb hby d11_27)) fun T24 X24 e24 => ?_
  have q25 := (F_name_p4.keep K13 nin0)
  refine Home.st (own_pure (own_virtual X24 hx hZ hown (own_w153 hw) (own_w154 hw) (notFace_of_selects (args := #[]) (mvT hZ (own_w156 hw))) (own_w156 hw) (own_w155 hw) (own_w61 hw) (own_w157 hw) (by decide) (rm25_0 l Z a0 hw [] p4 y2 h13 n0 O13 q25 isr_y2) e24 q23 rfl (by rw [hml]; rfl) (argsL := []) (rest := [(.int (1 : Int32)), (.ref b2)]) (lenOf own_pd17 rfl) rfl rfl (W := 2) (by show 2 * 0 + _ ≤ _; exact Nat.le_of_eq rfl) (by decide) (by decide) (hb hby d11_30) (by decide) (by decide))) fun T26 X26 e26 => ?_
  obtain ⟨cl27, Ar27, q27, S27, M27, H27, G27⟩ := id V13
  have q28 := (Nul.wr (Nul.ext N_y2 E2) W13)
  refine Home.wr (stR X26 hx hZ e26 Ar27 (j := (1 : Int32)) (inb_of S27 ⟨by decide, by decide⟩) rfl (Sto.ofN Ar27 q27 Ov2 q28 (fun E => Ins.self E)) rfl rfl (hb hby d11_33)) fun T27 h27 X27 e27 W27 => ?_
  have V27 : Arv Z h27 b2 k2 (.object "java/lang/String") (3 : Int32) [y1, y2, .null] .null := Arv.set Ar27 q27 S27 M27 H27 G27 (fits_refv (isr_y2) rfl) W27 1 rfl (Nat.le_of_ble_eq_true rfl)
  have O27 := O13.wr W27 g_b2
  have K27 : Keep h0 h27 ([] : List Addr) := Keep.wr K13 W27 (Or.inr (Nat.le_trans (Nat.le_refl _) (Nat.le_of_eq g2.symm)))
  have N27 := Fr.snoc X27 N13 g_b2
  show Home T27 (mkF m 34 #[.val (.ref o0), .val (.ref b2), .val (.int (1 : Int32))] [])
  refine Home.run X27 hx hby sg11_34_4 (pc' := 14) (L' := #[.val (.ref o0), .val (.ref b2), .val (.int (2 : Int32))]) (S' := [(.ref b2), (.int (2 : Int32))]) rfl ?_
  obtain ⟨cl29, Ar29, q29, S29, M29, H29, G29⟩ := id V27
  refine Home.go (own_alen X27 hx hZ e27 Ar29 S29 M29 rfl rfl (hb hby d11_14)) ?_
  refine Home.go (fun _ => XS.icmpNo X27.here hx rfl (hb hby d11_15) rfl (tlt (by decide)).2.1) ?_
  refine Home.run X27 hx hby sg11_18_4 (pc' := 22) (L' := #[.val (.ref o0), .val (.ref b2), .val (.int (2 : Int32))]) (S' := [(.int (2 : Int32)), (.ref o0), (.int (2 : Int32)), (.ref b2)]) rfl ?_
  have q30 := (q16.wr W27)
  have q31 := (q18.other W27 (Or.inl ne17))
  have q32 := (q19.other W27 (Or.inl ne17))
  have q33 := (q21.other W27 ne20)
  refine Home.st (own_pure (own_face X27 hx hZ hown (own_w130 hw) (own_w131 hw) (mvT hZ (own_w132 hw)) (own_w133 hw) (own_w134 hw) (own_w135 hw) (own_w136 hw) (own_w70 hw) (own_w37 hw) (own_w137 hw) (by decide) (rm21_2 l Z a0 hw [] o0 p2 k_p2 p3 p4 p5 h27 n0 O27 q31 q30 q32 q33) e27 q30 rfl (by rw [hml]; rfl) (argsL := [(.int (2 : Int32))]) (rest := [(.int (2 : Int32)), (.ref b2)]) (lenOf own_pd16 rfl) rfl rfl (W := 2) (by show 2 * 0 + _ ≤ _; exact Nat.le_of_eq rfl) (by decide) (by decide) (hb hby d11_22) (by decide) (by decide))) fun T34 X34 e34 => ?_
  show Home T34 (mkF m 27 #[.val (.ref o0), .val (.ref b2), .val (.int (2 : Int32))] [(.ref p5), (.int (2 : Int32)), (.ref b2)])
  have q35 := (E_p5.keep K27)
  refine Home.st (castY X34 hx hZ hown (own_w151 hw) e34 (Ins.self q35) rfl rfl (hb hby d11_27)) fun T36 X36 e36 => ?_
  have q37 := (F_name_p5.keep K27 nin0)
  refine Home.st (own_pure (own_virtual X36 hx hZ hown (own_w153 hw) (own_w154 hw) (notFace_of_selects (args := #[]) (mvT hZ (own_w156 hw))) (own_w156 hw) (own_w155 hw) (own_w61 hw) (own_w157 hw) (by decide) (rm25_0 l Z a0 hw [] p5 y3 h27 n0 O27 q37 isr_y3) e36 q35 rfl (by rw [hml]; rfl) (argsL := []) (rest := [(.int (2 : Int32)), (.ref b2)]) (lenOf own_pd17 rfl) rfl rfl (W := 2) (by show 2 * 0 + _ ≤ _; exact Nat.le_of_eq rfl) (by decide) (by decide) (hb hby d11_30) (by decide) (by decide))) fun T38 X38 e38 => ?_
  obtain ⟨cl39, Ar39, q39, S39, M39, H39, G39⟩ := id V27
  have q40 := (Nul.wr (Nul.wr (Nul.ext N_y3 E2) W13) W27)
  refine Home.wr (stR X38 hx hZ e38 Ar39 (j := (2 : Int32)) (inb_of S39 ⟨by decide, by decide⟩) rfl (Sto.ofN Ar39 q39 Ov2 q40 (fun E => Ins.self E)) rfl rfl (hb hby d11_33)) fun T39 h39 X39 e39 W39 => ?_
  have V39 : Arv Z h39 b2 k2 (.object "java/lang/String") (3 : Int32) [y1, y2, y3] .null := Arv.set Ar39 q39 S39 M39 H39 G39 (fits_refv (isr_y3) rfl) W39 2 rfl (Nat.le_of_ble_eq_true rfl)
  have O39 := O27.wr W39 g_b2
  have K39 : Keep h0 h39 ([] : List Addr) := Keep.wr K27 W39 (Or.inr (Nat.le_trans (Nat.le_refl _) (Nat.le_of_eq g2.symm)))
  have N39 := Fr.snoc X39 N27 g_b2
  show Home T39 (mkF m 34 #[.val (.ref o0), .val (.ref b2), .val (.int (2 : Int32))] [])
  refine Home.run X39 hx hby sg11_34_4 (pc' := 14) (L' := #[.val (.ref o0), .val (.ref b2), .val (.int (3 : Int32))]) (S' := [(.ref b2), (.int (3 : Int32))]) rfl ?_
  obtain ⟨cl41, Ar41, q41, S41, M41, H41, G41⟩ := id V39
  refine Home.go (own_alen X39 hx hZ e39 Ar41 S41 M41 rfl rfl (hb hby d11_14)) ?_
  refine Home.go (fun _ => XS.icmpYes X39.here hx rfl (pc0 := 15) (pc' := 40) rfl (hb hby d11_15) rfl (flt (by decide)).2.1 (by decide) (by decide)) ?_
  refine Home.run X39 hx hby sg11_40_1 (pc' := 41) (L' := #[.val (.ref o0), .val (.ref b2), .val (.int (3 : Int32))]) (S' := [(.ref b2)]) rfl ?_
  exact Home.retR X39 hx hlk hret rfl rfl (hb hby d11_41) (by rw [show T39.heap = h39 from e39]; exact ⟨b2, k2, rfl, N39, (Nat.le_trans (Nat.le_refl _) (Nat.le_of_eq g2.symm)), K39, V39, Ov2⟩) (by decide) (by decide)
set_option maxRecDepth 65536 in
set_option maxHeartbeats 40000000 in
theorem rm27_0 (l : Launch) (Z : State) (a0 : Array Value) (hw : ∀ d ∈ tables_1, d.before a0 Z = true) (ws : List Jvm.Cond) (o0 : Addr) (h0 : Heap) (n0 : Nat) (O0 : Old Z n0 h0) :
    Con l Z (⟨"java/lang/String", "equals", "(Ljava/lang/Object;)Z"⟩ : MethodName) jdk_42_method_66_code 3 (some .boolean) ws ({ frames := 0, cells := 0, slots := 0, locals := 0 } : Room) #[(.ref o0), (.ref o0)] h0 (Pur (some (.int (1 : Int32))) h0) := by
  refine own_body (plainFor_of_name own_pn1) (fun m => ef_rm27_0 m o0) ?_
  intro p e s m below meth c s₁ hx hby hlk hml hret hZ hown hnm X0 e0
  have N0 := Fr.nil n0
  refine Home.run X0 hx hby sg27_0_2 (pc' := 2) (L' := #[.val (.ref o0), .val (.ref o0), .unset]) (S' := [(.ref o0), (.ref o0)]) rfl ?_
  refine Home.go (fun _ => Jvm.RoadKit.acmp X0 hx rfl rfl rfl (pc0 := 2) (pc' := 5) (same := true) rfl (hb hby d27_2) rfl (decide_eq_true rfl) (by decide) (by decide)) ?_
  show Home s₁ (mkF m 5 #[.val (.ref o0), .val (.ref o0), .unset] [])
  refine Home.run X0 hx hby sg27_5_1 (pc' := 6) (L' := #[.val (.ref o0), .val (.ref o0), .unset]) (S' := [(.int (1 : Int32))]) rfl ?_
  exact Home.retN X0 hx hlk (t := .boolean) hret (by simp) (hb hby d27_6) ⟨congrArg some (congrArg Value.int (by first | rfl | exact nar_i2c _ | exact nar_i2b _)), rfl, e0⟩ (by decide) (by decide)
set_option maxRecDepth 65536 in
set_option maxHeartbeats 40000000 in
theorem rm26_0 (l : Launch) (Z : State) (a0 : Array Value) (hw : ∀ d ∈ tables_1, d.before a0 Z = true) (ws : List Jvm.Cond) (o0 : Value) (h0 : Heap) (n0 : Nat) (O0 : Old Z n0 h0) (isr_o0 : o0.isRef = true) (N_o0 : Nul Z h0 o0 "java/lang/String") :
    Con l Z (⟨"com/example/wary_meter/warymeter/ColumnNamesPinLaw", "same", "(Ljava/lang/String;Ljava/lang/String;)Z"⟩ : MethodName) method_4_code 2 (some .boolean) ws ({ frames := 1, cells := 0, slots := 0, locals := 14 } : Room) #[o0, o0] h0 (Pur (some (.int (1 : Int32))) h0) := by
  refine own_body (plainFor_of_name own_pn2) (fun m => ef_rm26_0 m o0 (isr_o0)) ?_
  intro p e s m below meth c s₁ hx hby hlk hml hret hZ hown hnm X0 e0
  have N0 := Fr.nil n0
  refine Home.go (fun _ => XS.aloadN X0.here hx rfl (hb hby d26_0) rfl (isr_o0)) ?_
  obtain h1 | ⟨a1, h1, Ea1⟩ := N_o0
  · subst h1
    show Home s₁ (mkF m 1 #[.val .null, .val .null] [.null])
    refine Home.go (fun _ => XS.ifnonnullNo X0.here hx rfl (hb hby d26_1) rfl) ?_
    show Home s₁ (mkF m 4 #[.val .null, .val .null] [])
    refine Home.run X0 hx hby sg26_4_1 (pc' := 5) (L' := #[.val .null, .val .null]) (S' := [.null]) rfl ?_
    refine Home.go (fun _ => XS.ifnonnullNo X0.here hx rfl (hb hby d26_5) rfl) ?_
    show Home s₁ (mkF m 8 #[.val .null, .val .null] [])
    refine Home.run X0 hx hby sg26_8_2 (pc' := 13) (L' := #[.val .null, .val .null]) (S' := [(.int (1 : Int32))]) rfl ?_
    exact Home.retN X0 hx hlk (t := .boolean) hret (by simp) (hb hby d26_13) ⟨congrArg some (congrArg Value.int (by first | rfl | exact nar_i2c _ | exact nar_i2b _)), rfl, e0⟩ (by decide) (by decide)
  · subst h1
    show Home s₁ (mkF m 1 #[.val (.ref a1), .val (.ref a1)] [(.ref a1)])
    refine Home.go (fun _ => XS.ifnonnullYes X0.here hx rfl (pc0 := 1) (pc' := 14) rfl (hb hby d26_1) rfl (by decide) (by decide)) ?_
    show Home s₁ (mkF m 14 #[.val (.ref a1), .val (.ref a1)] [])
    refine Home.run X0 hx hby sg26_14_2 (pc' := 16) (L' := #[.val (.ref a1), .val (.ref a1)]) (S' := [(.ref a1), (.ref a1)]) rfl ?_
    refine Home.st (own_pure (own_virtual X0 hx hZ hown (own_w161 hw) (own_w162 hw) (notFace_of_selects (args := #[]) (mvT hZ (own_w164 hw))) (own_w164 hw) (own_w163 hw) (own_w8 hw) (own_w165 hw) (by decide) (rm27_0 l Z a0 hw [] a1 h0 n0 O0) e0 Ea1 rfl (by rw [hml]; rfl) (argsL := [(.ref a1)]) (rest := []) (lenOf own_pd13 rfl) rfl rfl (W := 0) (by show 2 * 0 + _ ≤ _; exact Nat.le_of_eq rfl) (by decide) (by decide) (hb hby d26_16) (by decide) (by decide))) fun T2 X2 e2 => ?_
    exact Home.retN X2 hx hlk (t := .boolean) hret (by simp) (hb hby d26_19) ⟨congrArg some (congrArg Value.int (by first | rfl | exact nar_i2c _ | exact nar_i2b _)), rfl, e2⟩ (by decide) (by decide)
set_option maxRecDepth 65536 in
set_option maxHeartbeats 40000000 in
theorem rm12_1 (l : Launch) (Z : State) (a0 : Array Value) (hw : ∀ d ∈ tables_1, d.before a0 Z = true) (ws : List Jvm.Cond) (o0 : Addr) (h0 : Heap) (n0 : Nat) (O0 : Old Z n0 h0) (F_size_o0 : Fld Z h0 o0 "java/util/ArrayList" "size" "I" (.int (2 : Int32))) :
    Con l Z (⟨"java/util/ArrayList", "size", "()I"⟩ : MethodName) jdk_38_method_8_code 1 (some .int) ws ({ frames := 0, cells := 0, slots := 0, locals := 0 } : Room) #[(.ref o0)] h0 (Pur (some (.int (2 : Int32))) h0) := by
  refine own_body (plainFor_of_name own_pn5) (fun m => ef_rm12_1 m o0) ?_
  intro p e s m below meth c s₁ hx hby hlk hml hret hZ hown hnm X0 e0
  have N0 := Fr.nil n0
  refine Home.run X0 hx hby sg12_0_1 (pc' := 1) (L' := #[.val (.ref o0)]) (S' := [(.ref o0)]) rfl ?_
  refine Home.st (getF X0 hx hZ hown (host := "") (Or.inl (own_w72 hw)) Via.refl e0 F_size_o0 rfl rfl (hb hby d12_1)) fun T1 X1 e1 => ?_
  exact Home.retI X1 hx hlk hret (hb hby d12_4) ⟨rfl, rfl, e1⟩ (by decide) (by decide)
set_option maxRecDepth 65536 in
set_option maxHeartbeats 40000000 in
theorem rm23_3 (l : Launch) (Z : State) (a0 : Array Value) (hw : ∀ d ∈ tables_1, d.before a0 Z = true) (ws : List Jvm.Cond)  (h0 : Heap) (n0 : Nat) (O0 : Old Z n0 h0) :
    Con l Z (⟨"jdk/internal/util/Preconditions", "checkIndex", "(IILjava/util/function/BiFunction;)I"⟩ : MethodName) jdk_41_method_11_code 3 (some .int) ws ({ frames := 0, cells := 0, slots := 0, locals := 0 } : Room) #[(.int (0 : Int32)), (.int (2 : Int32)), .null] h0 (Pur (some (.int (0 : Int32))) h0) := by
  refine own_body (plainFor_of_name own_pn8) (fun m => ef_rm23_3 m (0 : Int32) (2 : Int32)) ?_
  intro p e s m below meth c s₁ hx hby hlk hml hret hZ hown hnm X0 e0
  have N0 := Fr.nil n0
  refine Home.run X0 hx hby sg23_0_1 (pc' := 1) (L' := #[.val (.int (0 : Int32)), .val (.int (2 : Int32)), .val .null]) (S' := [(.int (0 : Int32))]) rfl ?_
  refine Home.go (fun _ => XS.ifNo X0.here hx rfl (hb hby d23_1) rfl ((if0 _ _).trans (flt (by decide)).1)) ?_
  refine Home.run X0 hx hby sg23_4_2 (pc' := 6) (L' := #[.val (.int (0 : Int32)), .val (.int (2 : Int32)), .val .null]) (S' := [(.int (2 : Int32)), (.int (0 : Int32))]) rfl ?_
  refine Home.go (fun _ => XS.icmpYes X0.here hx rfl (pc0 := 6) (pc' := 16) rfl (hb hby d23_6) rfl (tlt (by decide)).1 (by decide) (by decide)) ?_
  refine Home.run X0 hx hby sg23_16_1 (pc' := 17) (L' := #[.val (.int (0 : Int32)), .val (.int (2 : Int32)), .val .null]) (S' := [(.int (0 : Int32))]) rfl ?_
  exact Home.retI X0 hx hlk hret (hb hby d23_17) ⟨rfl, rfl, e0⟩ (by decide) (by decide)
set_option maxRecDepth 65536 in
set_option maxHeartbeats 40000000 in
theorem rm22_3 (l : Launch) (Z : State) (a0 : Array Value) (hw : ∀ d ∈ tables_1, d.before a0 Z = true) (ws : List Jvm.Cond)  (h0 : Heap) (n0 : Nat) (O0 : Old Z n0 h0) :
    Con l Z (⟨"java/util/Objects", "checkIndex", "(II)I"⟩ : MethodName) jdk_31_method_17_code 2 (some .int) ws ({ frames := 1, cells := 0, slots := 0, locals := 14 } : Room) #[(.int (0 : Int32)), (.int (2 : Int32))] h0 (Pur (some (.int (0 : Int32))) h0) := by
  refine own_body (plainFor_of_name own_pn9) (fun m => ef_rm22_3 m (0 : Int32) (2 : Int32)) ?_
  intro p e s m below meth c s₁ hx hby hlk hml hret hZ hown hnm X0 e0
  have N0 := Fr.nil n0
  refine Home.run X0 hx hby sg22_0_3 (pc' := 3) (L' := #[.val (.int (0 : Int32)), .val (.int (2 : Int32))]) (S' := [.null, (.int (2 : Int32)), (.int (0 : Int32))]) rfl ?_
  refine Home.st (own_pure (own_static X0 hx hZ hown (own_w142 hw) (own_w143 hw) (own_w144 hw) (own_w145 hw) (by decide) (rm23_3 l Z a0 hw []  h0 n0 O0) e0 rfl (by rw [hml]; rfl) (argsL := [(.int (0 : Int32)), (.int (2 : Int32)), .null]) (rest := []) (lenOf own_pd15 rfl) rfl rfl (W := 0) (by show 2 * 0 + _ ≤ _; exact Nat.le_of_eq rfl) (by decide) (by decide) (hb hby d22_3) (by decide) (by decide))) fun T1 X1 e1 => ?_
  exact Home.retI X1 hx hlk hret (hb hby d22_6) ⟨rfl, rfl, e1⟩ (by decide) (by decide)
set_option maxRecDepth 65536 in
set_option maxHeartbeats 40000000 in
theorem rm24_3 (l : Launch) (Z : State) (a0 : Array Value) (hw : ∀ d ∈ tables_1, d.before a0 Z = true) (ws : List Jvm.Cond) (o0 : Addr) (p2 : Addr) (k_p2 : ClassId) (p3 : Addr) (p4 : Addr) (h0 : Heap) (n0 : Nat) (O0 : Old Z n0 h0) (F_elementData_o0 : Fld Z h0 o0 "java/util/ArrayList" "elementData" "[Ljava/lang/Object;" (.ref p2)) (V_p2 : Arv Z h0 p2 k_p2 (.object "java/lang/Object") (10 : Int32) [(.ref p3), (.ref p4), .null, .null, .null, .null, .null, .null, .null, .null] .null) :
    Con l Z (⟨"java/util/ArrayList", "elementData", "(I)Ljava/lang/Object;"⟩ : MethodName) jdk_38_method_18_code 2 (some (.object "java/lang/Object")) ws ({ frames := 0, cells := 0, slots := 0, locals := 0 } : Room) #[(.ref o0), (.int (0 : Int32))] h0 (Pur (some (.ref p3)) h0) := by
  refine own_body (plainFor_of_name own_pn5) (fun m => ef_rm24_3 m o0 (0 : Int32)) ?_
  intro p e s m below meth c s₁ hx hby hlk hml hret hZ hown hnm X0 e0
  have N0 := Fr.nil n0
  refine Home.run X0 hx hby sg24_0_1 (pc' := 1) (L' := #[.val (.ref o0), .val (.int (0 : Int32))]) (S' := [(.ref o0)]) rfl ?_
  refine Home.st (getF X0 hx hZ hown (host := "") (Or.inl (own_w57 hw)) Via.refl e0 F_elementData_o0 rfl rfl (hb hby d24_1)) fun T1 X1 e1 => ?_
  refine Home.run X1 hx hby sg24_4_1 (pc' := 5) (L' := #[.val (.ref o0), .val (.int (0 : Int32))]) (S' := [(.int (0 : Int32)), (.ref p2)]) rfl ?_
  obtain ⟨cl2, Ar2, q2, S2, M2, H2, G2⟩ := id V_p2
  have i2 : ¬ ((0 : Int32) < 0 ∨ cl2.slots.size ≤ ((0 : Int32)).toNatClampNeg) := inb_of S2 ⟨by decide, by decide⟩
  refine Home.go (X1.aaload hx (j := (0 : Int32)) (v := (.ref p3)) (by rw [e1]; exact Ar2.1) (State.isArrayOf_alike hZ.alike Ar2.2.1) rfl Ar2.2.2 i2 (Has.at H2 i2 rfl) rfl rfl (hb hby d24_5)) ?_
  exact Home.retR X1 hx hlk hret rfl rfl (hb hby d24_6) ⟨rfl, rfl, e1⟩ (by decide) (by decide)
set_option maxRecDepth 65536 in
set_option maxHeartbeats 40000000 in
theorem rm21_3 (l : Launch) (Z : State) (a0 : Array Value) (hw : ∀ d ∈ tables_1, d.before a0 Z = true) (ws : List Jvm.Cond) (o0 : Addr) (p2 : Addr) (k_p2 : ClassId) (p3 : Addr) (p4 : Addr) (h0 : Heap) (n0 : Nat) (O0 : Old Z n0 h0) (F_size_o0 : Fld Z h0 o0 "java/util/ArrayList" "size" "I" (.int (2 : Int32))) (E_o0 : Exa Z h0 o0 "java/util/ArrayList") (F_elementData_o0 : Fld Z h0 o0 "java/util/ArrayList" "elementData" "[Ljava/lang/Object;" (.ref p2)) (V_p2 : Arv Z h0 p2 k_p2 (.object "java/lang/Object") (10 : Int32) [(.ref p3), (.ref p4), .null, .null, .null, .null, .null, .null, .null, .null] .null) :
    Con l Z (⟨"java/util/ArrayList", "get", "(I)Ljava/lang/Object;"⟩ : MethodName) jdk_38_method_20_code 2 (some (.object "java/lang/Object")) ws ({ frames := 2, cells := 0, slots := 0, locals := 27 } : Room) #[(.ref o0), (.int (0 : Int32))] h0 (Pur (some (.ref p3)) h0) := by
  refine own_body (plainFor_of_name own_pn5) (fun m => ef_rm21_3 m o0 (0 : Int32)) ?_
  intro p e s m below meth c s₁ hx hby hlk hml hret hZ hown hnm X0 e0
  have N0 := Fr.nil n0
  refine Home.run X0 hx hby sg21_0_2 (pc' := 2) (L' := #[.val (.ref o0), .val (.int (0 : Int32))]) (S' := [(.ref o0), (.int (0 : Int32))]) rfl ?_
  refine Home.st (getF X0 hx hZ hown (host := "") (Or.inl (own_w72 hw)) Via.refl e0 F_size_o0 rfl rfl (hb hby d21_2)) fun T1 X1 e1 => ?_
  refine Home.st (own_pure (own_static X1 hx hZ hown (own_w138 hw) (own_w139 hw) (own_w140 hw) (own_w141 hw) (by decide) (rm22_3 l Z a0 hw []  h0 n0 O0) e1 rfl (by rw [hml]; rfl) (argsL := [(.int (0 : Int32)), (.int (2 : Int32))]) (rest := []) (lenOf own_pd9 rfl) rfl rfl (W := 0) (by show 2 * 0 + _ ≤ _; exact Nat.le_of_eq rfl) (by decide) (by decide) (hb hby d21_5) (by decide) (by decide))) fun T2 X2 e2 => ?_
  refine Home.run X2 hx hby sg21_8_3 (pc' := 11) (L' := #[.val (.ref o0), .val (.int (0 : Int32))]) (S' := [(.int (0 : Int32)), (.ref o0)]) rfl ?_
  refine Home.st (own_pure (own_virtual X2 hx hZ hown (own_w146 hw) (own_w147 hw) (notFace_of_selects (args := #[]) (mvT hZ (own_w149 hw))) (own_w149 hw) (own_w148 hw) (own_w37 hw) (own_w150 hw) (by decide) (rm24_3 l Z a0 hw [] o0 p2 k_p2 p3 p4 h0 n0 O0 F_elementData_o0 V_p2) e2 E_o0 rfl (by rw [hml]; rfl) (argsL := [(.int (0 : Int32))]) (rest := []) (lenOf own_pd16 rfl) rfl rfl (W := 0) (by show 2 * 0 + _ ≤ _; exact Nat.le_of_eq rfl) (by decide) (by decide) (hb hby d21_11) (by decide) (by decide))) fun T3 X3 e3 => ?_
  exact Home.retR X3 hx hlk hret rfl rfl (hb hby d21_14) ⟨rfl, rfl, e3⟩ (by decide) (by decide)
set_option maxRecDepth 65536 in
set_option maxHeartbeats 40000000 in
theorem rm23_4 (l : Launch) (Z : State) (a0 : Array Value) (hw : ∀ d ∈ tables_1, d.before a0 Z = true) (ws : List Jvm.Cond)  (h0 : Heap) (n0 : Nat) (O0 : Old Z n0 h0) :
    Con l Z (⟨"jdk/internal/util/Preconditions", "checkIndex", "(IILjava/util/function/BiFunction;)I"⟩ : MethodName) jdk_41_method_11_code 3 (some .int) ws ({ frames := 0, cells := 0, slots := 0, locals := 0 } : Room) #[(.int (1 : Int32)), (.int (2 : Int32)), .null] h0 (Pur (some (.int (1 : Int32))) h0) := by
  refine own_body (plainFor_of_name own_pn8) (fun m => ef_rm23_4 m (1 : Int32) (2 : Int32)) ?_
  intro p e s m below meth c s₁ hx hby hlk hml hret hZ hown hnm X0 e0
  have N0 := Fr.nil n0
  refine Home.run X0 hx hby sg23_0_1 (pc' := 1) (L' := #[.val (.int (1 : Int32)), .val (.int (2 : Int32)), .val .null]) (S' := [(.int (1 : Int32))]) rfl ?_
  refine Home.go (fun _ => XS.ifNo X0.here hx rfl (hb hby d23_1) rfl ((if0 _ _).trans (flt (by decide)).1)) ?_
  refine Home.run X0 hx hby sg23_4_2 (pc' := 6) (L' := #[.val (.int (1 : Int32)), .val (.int (2 : Int32)), .val .null]) (S' := [(.int (2 : Int32)), (.int (1 : Int32))]) rfl ?_
  refine Home.go (fun _ => XS.icmpYes X0.here hx rfl (pc0 := 6) (pc' := 16) rfl (hb hby d23_6) rfl (tlt (by decide)).1 (by decide) (by decide)) ?_
  refine Home.run X0 hx hby sg23_16_1 (pc' := 17) (L' := #[.val (.int (1 : Int32)), .val (.int (2 : Int32)), .val .null]) (S' := [(.int (1 : Int32))]) rfl ?_
  exact Home.retI X0 hx hlk hret (hb hby d23_17) ⟨rfl, rfl, e0⟩ (by decide) (by decide)
set_option maxRecDepth 65536 in
set_option maxHeartbeats 40000000 in
theorem rm22_4 (l : Launch) (Z : State) (a0 : Array Value) (hw : ∀ d ∈ tables_1, d.before a0 Z = true) (ws : List Jvm.Cond)  (h0 : Heap) (n0 : Nat) (O0 : Old Z n0 h0) :
    Con l Z (⟨"java/util/Objects", "checkIndex", "(II)I"⟩ : MethodName) jdk_31_method_17_code 2 (some .int) ws ({ frames := 1, cells := 0, slots := 0, locals := 14 } : Room) #[(.int (1 : Int32)), (.int (2 : Int32))] h0 (Pur (some (.int (1 : Int32))) h0) := by
  refine own_body (plainFor_of_name own_pn9) (fun m => ef_rm22_4 m (1 : Int32) (2 : Int32)) ?_
  intro p e s m below meth c s₁ hx hby hlk hml hret hZ hown hnm X0 e0
  have N0 := Fr.nil n0
  refine Home.run X0 hx hby sg22_0_3 (pc' := 3) (L' := #[.val (.int (1 : Int32)), .val (.int (2 : Int32))]) (S' := [.null, (.int (2 : Int32)), (.int (1 : Int32))]) rfl ?_
  refine Home.st (own_pure (own_static X0 hx hZ hown (own_w142 hw) (own_w143 hw) (own_w144 hw) (own_w145 hw) (by decide) (rm23_4 l Z a0 hw []  h0 n0 O0) e0 rfl (by rw [hml]; rfl) (argsL := [(.int (1 : Int32)), (.int (2 : Int32)), .null]) (rest := []) (lenOf own_pd15 rfl) rfl rfl (W := 0) (by show 2 * 0 + _ ≤ _; exact Nat.le_of_eq rfl) (by decide) (by decide) (hb hby d22_3) (by decide) (by decide))) fun T1 X1 e1 => ?_
  exact Home.retI X1 hx hlk hret (hb hby d22_6) ⟨rfl, rfl, e1⟩ (by decide) (by decide)
set_option maxRecDepth 65536 in
set_option maxHeartbeats 40000000 in
theorem rm24_4 (l : Launch) (Z : State) (a0 : Array Value) (hw : ∀ d ∈ tables_1, d.before a0 Z = true) (ws : List Jvm.Cond) (o0 : Addr) (p2 : Addr) (k_p2 : ClassId) (p3 : Addr) (p4 : Addr) (h0 : Heap) (n0 : Nat) (O0 : Old Z n0 h0) (F_elementData_o0 : Fld Z h0 o0 "java/util/ArrayList" "elementData" "[Ljava/lang/Object;" (.ref p2)) (V_p2 : Arv Z h0 p2 k_p2 (.object "java/lang/Object") (10 : Int32) [(.ref p3), (.ref p4), .null, .null, .null, .null, .null, .null, .null, .null] .null) :
    Con l Z (⟨"java/util/ArrayList", "elementData", "(I)Ljava/lang/Object;"⟩ : MethodName) jdk_38_method_18_code 2 (some (.object "java/lang/Object")) ws ({ frames := 0, cells := 0, slots := 0, locals := 0 } : Room) #[(.ref o0), (.int (1 : Int32))] h0 (Pur (some (.ref p4)) h0) := by
  refine own_body (plainFor_of_name own_pn5) (fun m => ef_rm24_4 m o0 (1 : Int32)) ?_
  intro p e s m below meth c s₁ hx hby hlk hml hret hZ hown hnm X0 e0
  have N0 := Fr.nil n0
  refine Home.run X0 hx hby sg24_0_1 (pc' := 1) (L' := #[.val (.ref o0), .val (.int (1 : Int32))]) (S' := [(.ref o0)]) rfl ?_
  refine Home.st (getF X0 hx hZ hown (host := "") (Or.inl (own_w57 hw)) Via.refl e0 F_elementData_o0 rfl rfl (hb hby d24_1)) fun T1 X1 e1 => ?_
  refine Home.run X1 hx hby sg24_4_1 (pc' := 5) (L' := #[.val (.ref o0), .val (.int (1 : Int32))]) (S' := [(.int (1 : Int32)), (.ref p2)]) rfl ?_
  obtain ⟨cl2, Ar2, q2, S2, M2, H2, G2⟩ := id V_p2
  have i2 : ¬ ((1 : Int32) < 0 ∨ cl2.slots.size ≤ ((1 : Int32)).toNatClampNeg) := inb_of S2 ⟨by decide, by decide⟩
  refine Home.go (X1.aaload hx (j := (1 : Int32)) (v := (.ref p4)) (by rw [e1]; exact Ar2.1) (State.isArrayOf_alike hZ.alike Ar2.2.1) rfl Ar2.2.2 i2 (Has.at H2 i2 rfl) rfl rfl (hb hby d24_5)) ?_
  exact Home.retR X1 hx hlk hret rfl rfl (hb hby d24_6) ⟨rfl, rfl, e1⟩ (by decide) (by decide)
set_option maxRecDepth 65536 in
set_option maxHeartbeats 40000000 in
theorem rm21_4 (l : Launch) (Z : State) (a0 : Array Value) (hw : ∀ d ∈ tables_1, d.before a0 Z = true) (ws : List Jvm.Cond) (o0 : Addr) (p2 : Addr) (k_p2 : ClassId) (p3 : Addr) (p4 : Addr) (h0 : Heap) (n0 : Nat) (O0 : Old Z n0 h0) (F_size_o0 : Fld Z h0 o0 "java/util/ArrayList" "size" "I" (.int (2 : Int32))) (E_o0 : Exa Z h0 o0 "java/util/ArrayList") (F_elementData_o0 : Fld Z h0 o0 "java/util/ArrayList" "elementData" "[Ljava/lang/Object;" (.ref p2)) (V_p2 : Arv Z h0 p2 k_p2 (.object "java/lang/Object") (10 : Int32) [(.ref p3), (.ref p4), .null, .null, .null, .null, .null, .null, .null, .null] .null) :
    Con l Z (⟨"java/util/ArrayList", "get", "(I)Ljava/lang/Object;"⟩ : MethodName) jdk_38_method_20_code 2 (some (.object "java/lang/Object")) ws ({ frames := 2, cells := 0, slots := 0, locals := 27 } : Room) #[(.ref o0), (.int (1 : Int32))] h0 (Pur (some (.ref p4)) h0) := by
  refine own_body (plainFor_of_name own_pn5) (fun m => ef_rm21_4 m o0 (1 : Int32)) ?_
  intro p e s m below meth c s₁ hx hby hlk hml hret hZ hown hnm X0 e0
  have N0 := Fr.nil n0
  refine Home.run X0 hx hby sg21_0_2 (pc' := 2) (L' := #[.val (.ref o0), .val (.int (1 : Int32))]) (S' := [(.ref o0), (.int (1 : Int32))]) rfl ?_
  refine Home.st (getF X0 hx hZ hown (host := "") (Or.inl (own_w72 hw)) Via.refl e0 F_size_o0 rfl rfl (hb hby d21_2)) fun T1 X1 e1 => ?_
  refine Home.st (own_pure (own_static X1 hx hZ hown (own_w138 hw) (own_w139 hw) (own_w140 hw) (own_w141 hw) (by decide) (rm22_4 l Z a0 hw []  h0 n0 O0) e1 rfl (by rw [hml]; rfl) (argsL := [(.int (1 : Int32)), (.int (2 : Int32))]) (rest := []) (lenOf own_pd9 rfl) rfl rfl (W := 0) (by show 2 * 0 + _ ≤ _; exact Nat.le_of_eq rfl) (by decide) (by decide) (hb hby d21_5) (by decide) (by decide))) fun T2 X2 e2 => ?_
  refine Home.run X2 hx hby sg21_8_3 (pc' := 11) (L' := #[.val (.ref o0), .val (.int (1 : Int32))]) (S' := [(.int (1 : Int32)), (.ref o0)]) rfl ?_
  refine Home.st (own_pure (own_virtual X2 hx hZ hown (own_w146 hw) (own_w147 hw) (notFace_of_selects (args := #[]) (mvT hZ (own_w149 hw))) (own_w149 hw) (own_w148 hw) (own_w37 hw) (own_w150 hw) (by decide) (rm24_4 l Z a0 hw [] o0 p2 k_p2 p3 p4 h0 n0 O0 F_elementData_o0 V_p2) e2 E_o0 rfl (by rw [hml]; rfl) (argsL := [(.int (1 : Int32))]) (rest := []) (lenOf own_pd16 rfl) rfl rfl (W := 0) (by show 2 * 0 + _ ≤ _; exact Nat.le_of_eq rfl) (by decide) (by decide) (hb hby d21_11) (by decide) (by decide))) fun T3 X3 e3 => ?_
  exact Home.retR X3 hx hlk hret rfl rfl (hb hby d21_14) ⟨rfl, rfl, e3⟩ (by decide) (by decide)
set_option maxRecDepth 65536 in
set_option maxHeartbeats 40000000 in
theorem rm11_1 (l : Launch) (Z : State) (a0 : Array Value) (hw : ∀ d ∈ tables_1, d.before a0 Z = true) (ws : List Jvm.Cond) (o0 : Addr) (p2 : Addr) (k_p2 : ClassId) (p3 : Addr) (p4 : Addr) (y1 : Value) (y2 : Value) (h0 : Heap) (n0 : Nat) (O0 : Old Z n0 h0) (E_o0 : Exa Z h0 o0 "java/util/ArrayList") (F_size_o0 : Fld Z h0 o0 "java/util/ArrayList" "size" "I" (.int (2 : Int32))) (F_elementData_o0 : Fld Z h0 o0 "java/util/ArrayList" "elementData" "[Ljava/lang/Object;" (.ref p2)) (V_p2 : Arv Z h0 p2 k_p2 (.object "java/lang/Object") (10 : Int32) [(.ref p3), (.ref p4), .null, .null, .null, .null, .null, .null, .null, .null] .null) (E_p3 : Exa Z h0 p3 "com/example/wary_meter/warymeter/Column") (F_name_p3 : Fld Z h0 p3 "com/example/wary_meter/warymeter/Column" "name" "Ljava/lang/String;" y1) (isr_y1 : y1.isRef = true) (N_y1 : Nul Z h0 y1 "java/lang/String") (E_p4 : Exa Z h0 p4 "com/example/wary_meter/warymeter/Column") (F_name_p4 : Fld Z h0 p4 "com/example/wary_meter/warymeter/Column" "name" "Ljava/lang/String;" y2) (isr_y2 : y2.isRef = true) (N_y2 : Nul Z h0 y2 "java/lang/String") :
    Con l Z (⟨"com/example/wary_meter/warymeter/Column", "names", "(Ljava/util/List;)[Ljava/lang/String;"⟩ : MethodName) prog_3_method_4_code 3 (some (.array (.object "java/lang/String"))) ws ({ frames := 3, cells := 1, slots := 2, locals := 42 } : Room) #[(.ref o0)] h0 (fun v h L => ∃ (b2 : Addr), ∃ (k2 : ClassId), v = some (.ref b2) ∧ Fr n0 L ∧ h0.size ≤ b2 ∧ Keep h0 h [] ∧ Arv Z h b2 k2 (.object "java/lang/String") (2 : Int32) [y1, y2] .null ∧ Ovr Z k2 "java/lang/String") := by
  refine own_body (plainFor_of_name own_pn7) (fun m => ef_rm11_1 m o0) ?_
  intro p e s m below meth c s₁ hx hby hlk hml hret hZ hown hnm X0 e0
  have N0 := Fr.nil n0
  refine Home.run X0 hx hby sg11_0_1 (pc' := 1) (L' := #[.val (.ref o0), .unset, .unset]) (S' := [(.ref o0)]) rfl ?_
  refine Home.st (own_pure (own_face X0 hx hZ hown (own_w63 hw) (own_w64 hw) (mvT hZ (own_w65 hw)) (own_w66 hw) (own_w67 hw) (own_w68 hw) (own_w69 hw) (own_w70 hw) (own_w37 hw) (own_w71 hw) (by decide) (rm12_1 l Z a0 hw [] o0 h0 n0 O0 F_size_o0) e0 E_o0 rfl (by rw [hml]; rfl) (argsL := []) (rest := []) (lenOf own_pd14 rfl) rfl rfl (W := 0) (by show 2 * 0 + _ ≤ _; exact Nat.le_of_eq rfl) (by decide) (by decide) (hb hby d11_1) (by decide) (by decide))) fun T1 X1 e1 => ?_
  refine Home.nr (own_newR X1 hx hZ hown (own_w74 hw) (own_w75 hw) e1 (g := (mkF m 6 #[.val (.ref o0), .unset, .unset] [(.int (2 : Int32))])) rfl (hb hby d11_6) rfl (by decide) (cap := 2) (by decide) (by decide) (by decide) (by decide)) fun T2 h2 k2 b2 g2 X2 e2 E2 A2 Ov2 => ?_
  have g_b2 : n0 ≤ b2 := Nat.le_trans (Old.le O0) (Nat.le_of_eq g2.symm)
  have V2 : Arv Z h2 b2 k2 (.object "java/lang/String") (2 : Int32) [.null, .null] .null := (Arv.new A2 (by decide)).pad (pad_rep [] .null 2)
  have O2 := O0.ext E2
  have K2 : Keep h0 h2 ([] : List Addr) := Keep.ext (Keep.refl h0 ([] : List Addr)) E2
  refine Home.run X2 hx hby sg11_9_5 (pc' := 14) (L' := #[.val (.ref o0), .val (.ref b2), .val (.int (0 : Int32))]) (S' := [(.ref b2), (.int (0 : Int32))]) rfl ?_
  obtain ⟨cl3, Ar3, q3, S3, M3, H3, G3⟩ := id V2
  refine Home.go (own_alen X2 hx hZ e2 Ar3 S3 M3 rfl rfl (hb hby d11_14)) ?_
  show Home T2 (mkF m 15 #[.val (.ref o0), .val (.ref b2), .val (.int (0 : Int32))] [(.int (2 : Int32)), (.int (0 : Int32))])
  refine Home.go (fun _ => XS.icmpNo X2.here hx rfl (hb hby d11_15) rfl (tlt (by decide)).2.1) ?_
  refine Home.run X2 hx hby sg11_18_4 (pc' := 22) (L' := #[.val (.ref o0), .val (.ref b2), .val (.int (0 : Int32))]) (S' := [(.int (0 : Int32)), (.ref o0), (.int (0 : Int32)), (.ref b2)]) rfl ?_
  have q4 := (E_o0.ext E2)
  have q5 := (F_size_o0.ext E2)
  have q6 := (F_elementData_o0.ext E2)
  have q7 := (V_p2.ext E2)
  refine Home.st (own_pure (own_face X2 hx hZ hown (own_w130 hw) (own_w131 hw) (mvT hZ (own_w132 hw)) (own_w133 hw) (own_w134 hw) (own_w135 hw) (own_w136 hw) (own_w70 hw) (own_w37 hw) (own_w137 hw) (by decide) (rm21_3 l Z a0 hw [] o0 p2 k_p2 p3 p4 h2 n0 O2 q5 q4 q6 q7) e2 q4 rfl (by rw [hml]; rfl) (argsL := [(.int (0 : Int32))]) (rest := [(.int (0 : Int32)), (.ref b2)]) (lenOf own_pd16 rfl) rfl rfl (W := 2) (by show 2 * 0 + _ ≤ _; exact Nat.le_of_eq rfl) (by decide) (by decide) (hb hby d11_22) (by decide) (by decide))) fun T8 X8 e8 => ?_
  have q9 := (E_p3.ext E2)
  refine Home.st (castY X8 hx hZ hown (own_w151 hw) e8 (Ins.self q9) rfl rfl (hb hby d11_27)) fun T10 X10 e10 => ?_
  show Home T10 (mkF m 30 #[.val (.ref o0), .val (.ref b2), .val (.int (0 : Int32))] [(.ref p3), (.int (0 : Int32)), (.ref b2)])
  have q11 := (F_name_p3.ext E2)
  refine Home.st (own_pure (own_virtual X10 hx hZ hown (own_w153 hw) (own_w154 hw) (notFace_of_selects (args := #[]) (mvT hZ (own_w156 hw))) (own_w156 hw) (own_w155 hw) (own_w61 hw) (own_w157 hw) (by decide) (rm25_0 l Z a0 hw [] p3 y1 h2 n0 O2 q11 isr_y1) e10 q9 rfl (by rw [hml]; rfl) (argsL := []) (rest := [(.int (0 : Int32)), (.ref b2)]) (lenOf own_pd17 rfl) rfl rfl (W := 2) (by show 2 * 0 + _ ≤ _; exact Nat.le_of_eq rfl) (by decide) (by decide) (hb hby d11_30) (by decide) (by decide))) fun T12 X12 e12 => ?_
  obtain ⟨cl13, Ar13, q13, S13, M13, H13, G13⟩ := id V2
  have q14 := (Nul.ext N_y1 E2)
  refine Home.wr (stR X12 hx hZ e12 Ar13 (j := (0 : Int32)) (inb_of S13 ⟨by decide, by decide⟩) rfl (Sto.ofN Ar13 q13 Ov2 q14 (fun E => Ins.self E)) rfl rfl (hb hby d11_33)) fun T13 h13 X13 e13 W13 => ?_
  have V13 : Arv Z h13 b2 k2 (.object "java/lang/String") (2 : Int32) [y1, .null] .null := Arv.set Ar13 q13 S13 M13 H13 G13 (fits_refv (isr_y1) rfl) W13 0 rfl (Nat.le_of_ble_eq_true rfl)
  have O13 := O2.wr W13 g_b2
  have K13 : Keep h0 h13 ([] : List Addr) := Keep.wr K2 W13 (Or.inr (Nat.le_trans (Nat.le_refl _) (Nat.le_of_eq g2.symm)))
  have N13 := Fr.snoc X13 N0 g_b2
  show Home T13 (mkF m 34 #[.val (.ref o0), .val (.ref b2), .val (.int (0 : Int32))] [])
  refine Home.run X13 hx hby sg11_34_4 (pc' := 14) (L' := #[.val (.ref o0), .val (.ref b2), .val (.int (1 : Int32))]) (S' := [(.ref b2), (.int (1 : Int32))]) rfl ?_
  obtain ⟨cl15, Ar15, q15, S15, M15, H15, G15⟩ := id V13
  refine Home.go (own_alen X13 hx hZ e13 Ar15 S15 M15 rfl rfl (hb hby d11_14)) ?_
  refine Home.go (fun _ => XS.icmpNo X13.here hx rfl (hb hby d11_15) rfl (tlt (by decide)).2.1) ?_
  refine Home.run X13 hx hby sg11_18_4 (pc' := 22) (L' := #[.val (.ref o0), .val (.ref b2), .val (.int (1 : Int32))]) (S' := [(.int (1 : Int32)), (.ref o0), (.int (1 : Int32)), (.ref b2)]) rfl ?_
  have q16 := (q4.wr W13)
  have ne17 : o0 ≠ b2 := (Nat.ne_of_lt (Nat.lt_of_lt_of_le E_o0.lt (Nat.le_trans (Nat.le_refl _) (Nat.le_of_eq g2.symm))))
  have q18 := (q5.other W13 (Or.inl ne17))
  have q19 := (q6.other W13 (Or.inl ne17))
  have ne20 : p2 ≠ b2 := (Nat.ne_of_lt (Nat.lt_of_lt_of_le V_p2.lt (Nat.le_trans (Nat.le_refl _) (Nat.le_of_eq g2.symm))))
  have q21 := (q7.other W13 ne20)
  refine Home.st (own_pure (own_face X13 hx hZ hown (own_w130 hw) (own_w131 hw) (mvT hZ (own_w132 hw)) (own_w133 hw) (own_w134 hw) (own_w135 hw) (own_w136 hw) (own_w70 hw) (own_w37 hw) (own_w137 hw) (by decide) (rm21_4 l Z a0 hw [] o0 p2 k_p2 p3 p4 h13 n0 O13 q18 q16 q19 q21) e13 q16 rfl (by rw [hml]; rfl) (argsL := [(.int (1 : Int32))]) (rest := [(.int (1 : Int32)), (.ref b2)]) (lenOf own_pd16 rfl) rfl rfl (W := 2) (by show 2 * 0 + _ ≤ _; exact Nat.le_of_eq rfl) (by decide) (by decide) (hb hby d11_22) (by decide) (by decide))) fun T22 X22 e22 => ?_
  show Home T22 (mkF m 27 #[.val (.ref o0), .val (.ref b2), .val (.int (1 : Int32))] [(.ref p4), (.int (1 : Int32)), (.ref b2)])
  have q23 := (E_p4.keep K13)
  refine Home.st (castY X22 hx hZ hown (own_w151 hw) e22 (Ins.self q23) rfl rfl (hb hby d11_27)) fun T24 X24 e24 => ?_
  have q25 := (F_name_p4.keep K13 nin0)
  refine Home.st (own_pure (own_virtual X24 hx hZ hown (own_w153 hw) (own_w154 hw) (notFace_of_selects (args := #[]) (mvT hZ (own_w156 hw))) (own_w156 hw) (own_w155 hw) (own_w61 hw) (own_w157 hw) (by decide) (rm25_0 l Z a0 hw [] p4 y2 h13 n0 O13 q25 isr_y2) e24 q23 rfl (by rw [hml]; rfl) (argsL := []) (rest := [(.int (1 : Int32)), (.ref b2)]) (lenOf own_pd17 rfl) rfl rfl (W := 2) (by show 2 * 0 + _ ≤ _; exact Nat.le_of_eq rfl) (by decide) (by decide) (hb hby d11_30) (by decide) (by decide))) fun T26 X26 e26 => ?_
  obtain ⟨cl27, Ar27, q27, S27, M27, H27, G27⟩ := id V13
  have q28 := (Nul.wr (Nul.ext N_y2 E2) W13)
  refine Home.wr (stR X26 hx hZ e26 Ar27 (j := (1 : Int32)) (inb_of S27 ⟨by decide, by decide⟩) rfl (Sto.ofN Ar27 q27 Ov2 q28 (fun E => Ins.self E)) rfl rfl (hb hby d11_33)) fun T27 h27 X27 e27 W27 => ?_
  have V27 : Arv Z h27 b2 k2 (.object "java/lang/String") (2 : Int32) [y1, y2] .null := Arv.set Ar27 q27 S27 M27 H27 G27 (fits_refv (isr_y2) rfl) W27 1 rfl (Nat.le_of_ble_eq_true rfl)
  have O27 := O13.wr W27 g_b2
  have K27 : Keep h0 h27 ([] : List Addr) := Keep.wr K13 W27 (Or.inr (Nat.le_trans (Nat.le_refl _) (Nat.le_of_eq g2.symm)))
  have N27 := Fr.snoc X27 N13 g_b2
  show Home T27 (mkF m 34 #[.val (.ref o0), .val (.ref b2), .val (.int (1 : Int32))] [])
  refine Home.run X27 hx hby sg11_34_4 (pc' := 14) (L' := #[.val (.ref o0), .val (.ref b2), .val (.int (2 : Int32))]) (S' := [(.ref b2), (.int (2 : Int32))]) rfl ?_
  obtain ⟨cl29, Ar29, q29, S29, M29, H29, G29⟩ := id V27
  refine Home.go (own_alen X27 hx hZ e27 Ar29 S29 M29 rfl rfl (hb hby d11_14)) ?_
  refine Home.go (fun _ => XS.icmpYes X27.here hx rfl (pc0 := 15) (pc' := 40) rfl (hb hby d11_15) rfl (flt (by decide)).2.1 (by decide) (by decide)) ?_
  refine Home.run X27 hx hby sg11_40_1 (pc' := 41) (L' := #[.val (.ref o0), .val (.ref b2), .val (.int (2 : Int32))]) (S' := [(.ref b2)]) rfl ?_
  exact Home.retR X27 hx hlk hret rfl rfl (hb hby d11_41) (by rw [show T27.heap = h27 from e27]; exact ⟨b2, k2, rfl, N27, (Nat.le_trans (Nat.le_refl _) (Nat.le_of_eq g2.symm)), K27, V27, Ov2⟩) (by decide) (by decide)
set_option maxRecDepth 65536 in
set_option maxHeartbeats 40000000 in
theorem rm12_2 (l : Launch) (Z : State) (a0 : Array Value) (hw : ∀ d ∈ tables_1, d.before a0 Z = true) (ws : List Jvm.Cond) (o0 : Addr) (h0 : Heap) (n0 : Nat) (O0 : Old Z n0 h0) (F_size_o0 : Fld Z h0 o0 "java/util/ArrayList" "size" "I" (.int (1 : Int32))) :
    Con l Z (⟨"java/util/ArrayList", "size", "()I"⟩ : MethodName) jdk_38_method_8_code 1 (some .int) ws ({ frames := 0, cells := 0, slots := 0, locals := 0 } : Room) #[(.ref o0)] h0 (Pur (some (.int (1 : Int32))) h0) := by
  refine own_body (plainFor_of_name own_pn5) (fun m => ef_rm12_2 m o0) ?_
  intro p e s m below meth c s₁ hx hby hlk hml hret hZ hown hnm X0 e0
  have N0 := Fr.nil n0
  refine Home.run X0 hx hby sg12_0_1 (pc' := 1) (L' := #[.val (.ref o0)]) (S' := [(.ref o0)]) rfl ?_
  refine Home.st (getF X0 hx hZ hown (host := "") (Or.inl (own_w72 hw)) Via.refl e0 F_size_o0 rfl rfl (hb hby d12_1)) fun T1 X1 e1 => ?_
  exact Home.retI X1 hx hlk hret (hb hby d12_4) ⟨rfl, rfl, e1⟩ (by decide) (by decide)
set_option maxRecDepth 65536 in
set_option maxHeartbeats 40000000 in
theorem rm23_5 (l : Launch) (Z : State) (a0 : Array Value) (hw : ∀ d ∈ tables_1, d.before a0 Z = true) (ws : List Jvm.Cond)  (h0 : Heap) (n0 : Nat) (O0 : Old Z n0 h0) :
    Con l Z (⟨"jdk/internal/util/Preconditions", "checkIndex", "(IILjava/util/function/BiFunction;)I"⟩ : MethodName) jdk_41_method_11_code 3 (some .int) ws ({ frames := 0, cells := 0, slots := 0, locals := 0 } : Room) #[(.int (0 : Int32)), (.int (1 : Int32)), .null] h0 (Pur (some (.int (0 : Int32))) h0) := by
  refine own_body (plainFor_of_name own_pn8) (fun m => ef_rm23_5 m (0 : Int32) (1 : Int32)) ?_
  intro p e s m below meth c s₁ hx hby hlk hml hret hZ hown hnm X0 e0
  have N0 := Fr.nil n0
  refine Home.run X0 hx hby sg23_0_1 (pc' := 1) (L' := #[.val (.int (0 : Int32)), .val (.int (1 : Int32)), .val .null]) (S' := [(.int (0 : Int32))]) rfl ?_
  refine Home.go (fun _ => XS.ifNo X0.here hx rfl (hb hby d23_1) rfl ((if0 _ _).trans (flt (by decide)).1)) ?_
  refine Home.run X0 hx hby sg23_4_2 (pc' := 6) (L' := #[.val (.int (0 : Int32)), .val (.int (1 : Int32)), .val .null]) (S' := [(.int (1 : Int32)), (.int (0 : Int32))]) rfl ?_
  refine Home.go (fun _ => XS.icmpYes X0.here hx rfl (pc0 := 6) (pc' := 16) rfl (hb hby d23_6) rfl (tlt (by decide)).1 (by decide) (by decide)) ?_
  refine Home.run X0 hx hby sg23_16_1 (pc' := 17) (L' := #[.val (.int (0 : Int32)), .val (.int (1 : Int32)), .val .null]) (S' := [(.int (0 : Int32))]) rfl ?_
  exact Home.retI X0 hx hlk hret (hb hby d23_17) ⟨rfl, rfl, e0⟩ (by decide) (by decide)
set_option maxRecDepth 65536 in
set_option maxHeartbeats 40000000 in
theorem rm22_5 (l : Launch) (Z : State) (a0 : Array Value) (hw : ∀ d ∈ tables_1, d.before a0 Z = true) (ws : List Jvm.Cond)  (h0 : Heap) (n0 : Nat) (O0 : Old Z n0 h0) :
    Con l Z (⟨"java/util/Objects", "checkIndex", "(II)I"⟩ : MethodName) jdk_31_method_17_code 2 (some .int) ws ({ frames := 1, cells := 0, slots := 0, locals := 14 } : Room) #[(.int (0 : Int32)), (.int (1 : Int32))] h0 (Pur (some (.int (0 : Int32))) h0) := by
  refine own_body (plainFor_of_name own_pn9) (fun m => ef_rm22_5 m (0 : Int32) (1 : Int32)) ?_
  intro p e s m below meth c s₁ hx hby hlk hml hret hZ hown hnm X0 e0
  have N0 := Fr.nil n0
  refine Home.run X0 hx hby sg22_0_3 (pc' := 3) (L' := #[.val (.int (0 : Int32)), .val (.int (1 : Int32))]) (S' := [.null, (.int (1 : Int32)), (.int (0 : Int32))]) rfl ?_
  refine Home.st (own_pure (own_static X0 hx hZ hown (own_w142 hw) (own_w143 hw) (own_w144 hw) (own_w145 hw) (by decide) (rm23_5 l Z a0 hw []  h0 n0 O0) e0 rfl (by rw [hml]; rfl) (argsL := [(.int (0 : Int32)), (.int (1 : Int32)), .null]) (rest := []) (lenOf own_pd15 rfl) rfl rfl (W := 0) (by show 2 * 0 + _ ≤ _; exact Nat.le_of_eq rfl) (by decide) (by decide) (hb hby d22_3) (by decide) (by decide))) fun T1 X1 e1 => ?_
  exact Home.retI X1 hx hlk hret (hb hby d22_6) ⟨rfl, rfl, e1⟩ (by decide) (by decide)
set_option maxRecDepth 65536 in
set_option maxHeartbeats 40000000 in
theorem rm24_5 (l : Launch) (Z : State) (a0 : Array Value) (hw : ∀ d ∈ tables_1, d.before a0 Z = true) (ws : List Jvm.Cond) (o0 : Addr) (p2 : Addr) (k_p2 : ClassId) (p3 : Addr) (h0 : Heap) (n0 : Nat) (O0 : Old Z n0 h0) (F_elementData_o0 : Fld Z h0 o0 "java/util/ArrayList" "elementData" "[Ljava/lang/Object;" (.ref p2)) (V_p2 : Arv Z h0 p2 k_p2 (.object "java/lang/Object") (10 : Int32) [(.ref p3), .null, .null, .null, .null, .null, .null, .null, .null, .null] .null) :
    Con l Z (⟨"java/util/ArrayList", "elementData", "(I)Ljava/lang/Object;"⟩ : MethodName) jdk_38_method_18_code 2 (some (.object "java/lang/Object")) ws ({ frames := 0, cells := 0, slots := 0, locals := 0 } : Room) #[(.ref o0), (.int (0 : Int32))] h0 (Pur (some (.ref p3)) h0) := by
  refine own_body (plainFor_of_name own_pn5) (fun m => ef_rm24_5 m o0 (0 : Int32)) ?_
  intro p e s m below meth c s₁ hx hby hlk hml hret hZ hown hnm X0 e0
  have N0 := Fr.nil n0
  refine Home.run X0 hx hby sg24_0_1 (pc' := 1) (L' := #[.val (.ref o0), .val (.int (0 : Int32))]) (S' := [(.ref o0)]) rfl ?_
  refine Home.st (getF X0 hx hZ hown (host := "") (Or.inl (own_w57 hw)) Via.refl e0 F_elementData_o0 rfl rfl (hb hby d24_1)) fun T1 X1 e1 => ?_
  refine Home.run X1 hx hby sg24_4_1 (pc' := 5) (L' := #[.val (.ref o0), .val (.int (0 : Int32))]) (S' := [(.int (0 : Int32)), (.ref p2)]) rfl ?_
  obtain ⟨cl2, Ar2, q2, S2, M2, H2, G2⟩ := id V_p2
  have i2 : ¬ ((0 : Int32) < 0 ∨ cl2.slots.size ≤ ((0 : Int32)).toNatClampNeg) := inb_of S2 ⟨by decide, by decide⟩
  refine Home.go (X1.aaload hx (j := (0 : Int32)) (v := (.ref p3)) (by rw [e1]; exact Ar2.1) (State.isArrayOf_alike hZ.alike Ar2.2.1) rfl Ar2.2.2 i2 (Has.at H2 i2 rfl) rfl rfl (hb hby d24_5)) ?_
  exact Home.retR X1 hx hlk hret rfl rfl (hb hby d24_6) ⟨rfl, rfl, e1⟩ (by decide) (by decide)
set_option maxRecDepth 65536 in
set_option maxHeartbeats 40000000 in
theorem rm21_5 (l : Launch) (Z : State) (a0 : Array Value) (hw : ∀ d ∈ tables_1, d.before a0 Z = true) (ws : List Jvm.Cond) (o0 : Addr) (p2 : Addr) (k_p2 : ClassId) (p3 : Addr) (h0 : Heap) (n0 : Nat) (O0 : Old Z n0 h0) (F_size_o0 : Fld Z h0 o0 "java/util/ArrayList" "size" "I" (.int (1 : Int32))) (E_o0 : Exa Z h0 o0 "java/util/ArrayList") (F_elementData_o0 : Fld Z h0 o0 "java/util/ArrayList" "elementData" "[Ljava/lang/Object;" (.ref p2)) (V_p2 : Arv Z h0 p2 k_p2 (.object "java/lang/Object") (10 : Int32) [(.ref p3), .null, .null, .null, .null, .null, .null, .null, .null, .null] .null) :
    Con l Z (⟨"java/util/ArrayList", "get", "(I)Ljava/lang/Object;"⟩ : MethodName) jdk_38_method_20_code 2 (some (.object "java/lang/Object")) ws ({ frames := 2, cells := 0, slots := 0, locals := 27 } : Room) #[(.ref o0), (.int (0 : Int32))] h0 (Pur (some (.ref p3)) h0) := by
  refine own_body (plainFor_of_name own_pn5) (fun m => ef_rm21_5 m o0 (0 : Int32)) ?_
  intro p e s m below meth c s₁ hx hby hlk hml hret hZ hown hnm X0 e0
  have N0 := Fr.nil n0
  refine Home.run X0 hx hby sg21_0_2 (pc' := 2) (L' := #[.val (.ref o0), .val (.int (0 : Int32))]) (S' := [(.ref o0), (.int (0 : Int32))]) rfl ?_
  refine Home.st (getF X0 hx hZ hown (host := "") (Or.inl (own_w72 hw)) Via.refl e0 F_size_o0 rfl rfl (hb hby d21_2)) fun T1 X1 e1 => ?_
  refine Home.st (own_pure (own_static X1 hx hZ hown (own_w138 hw) (own_w139 hw) (own_w140 hw) (own_w141 hw) (by decide) (rm22_5 l Z a0 hw []  h0 n0 O0) e1 rfl (by rw [hml]; rfl) (argsL := [(.int (0 : Int32)), (.int (1 : Int32))]) (rest := []) (lenOf own_pd9 rfl) rfl rfl (W := 0) (by show 2 * 0 + _ ≤ _; exact Nat.le_of_eq rfl) (by decide) (by decide) (hb hby d21_5) (by decide) (by decide))) fun T2 X2 e2 => ?_
  refine Home.run X2 hx hby sg21_8_3 (pc' := 11) (L' := #[.val (.ref o0), .val (.int (0 : Int32))]) (S' := [(.int (0 : Int32)), (.ref o0)]) rfl ?_
  refine Home.st (own_pure (own_virtual X2 hx hZ hown (own_w146 hw) (own_w147 hw) (notFace_of_selects (args := #[]) (mvT hZ (own_w149 hw))) (own_w149 hw) (own_w148 hw) (own_w37 hw) (own_w150 hw) (by decide) (rm24_5 l Z a0 hw [] o0 p2 k_p2 p3 h0 n0 O0 F_elementData_o0 V_p2) e2 E_o0 rfl (by rw [hml]; rfl) (argsL := [(.int (0 : Int32))]) (rest := []) (lenOf own_pd16 rfl) rfl rfl (W := 0) (by show 2 * 0 + _ ≤ _; exact Nat.le_of_eq rfl) (by decide) (by decide) (hb hby d21_11) (by decide) (by decide))) fun T3 X3 e3 => ?_
  exact Home.retR X3 hx hlk hret rfl rfl (hb hby d21_14) ⟨rfl, rfl, e3⟩ (by decide) (by decide)
set_option maxRecDepth 65536 in
set_option maxHeartbeats 40000000 in
theorem rm11_2 (l : Launch) (Z : State) (a0 : Array Value) (hw : ∀ d ∈ tables_1, d.before a0 Z = true) (ws : List Jvm.Cond) (o0 : Addr) (p2 : Addr) (k_p2 : ClassId) (p3 : Addr) (y1 : Value) (h0 : Heap) (n0 : Nat) (O0 : Old Z n0 h0) (E_o0 : Exa Z h0 o0 "java/util/ArrayList") (F_size_o0 : Fld Z h0 o0 "java/util/ArrayList" "size" "I" (.int (1 : Int32))) (F_elementData_o0 : Fld Z h0 o0 "java/util/ArrayList" "elementData" "[Ljava/lang/Object;" (.ref p2)) (V_p2 : Arv Z h0 p2 k_p2 (.object "java/lang/Object") (10 : Int32) [(.ref p3), .null, .null, .null, .null, .null, .null, .null, .null, .null] .null) (E_p3 : Exa Z h0 p3 "com/example/wary_meter/warymeter/Column") (F_name_p3 : Fld Z h0 p3 "com/example/wary_meter/warymeter/Column" "name" "Ljava/lang/String;" y1) (isr_y1 : y1.isRef = true) (N_y1 : Nul Z h0 y1 "java/lang/String") :
    Con l Z (⟨"com/example/wary_meter/warymeter/Column", "names", "(Ljava/util/List;)[Ljava/lang/String;"⟩ : MethodName) prog_3_method_4_code 3 (some (.array (.object "java/lang/String"))) ws ({ frames := 3, cells := 1, slots := 1, locals := 42 } : Room) #[(.ref o0)] h0 (fun v h L => ∃ (b2 : Addr), ∃ (k2 : ClassId), v = some (.ref b2) ∧ Fr n0 L ∧ h0.size ≤ b2 ∧ Keep h0 h [] ∧ Arv Z h b2 k2 (.object "java/lang/String") (1 : Int32) [y1] .null ∧ Ovr Z k2 "java/lang/String") := by
  refine own_body (plainFor_of_name own_pn7) (fun m => ef_rm11_2 m o0) ?_
  intro p e s m below meth c s₁ hx hby hlk hml hret hZ hown hnm X0 e0
  have N0 := Fr.nil n0
  refine Home.run X0 hx hby sg11_0_1 (pc' := 1) (L' := #[.val (.ref o0), .unset, .unset]) (S' := [(.ref o0)]) rfl ?_
  refine Home.st (own_pure (own_face X0 hx hZ hown (own_w63 hw) (own_w64 hw) (mvT hZ (own_w65 hw)) (own_w66 hw) (own_w67 hw) (own_w68 hw) (own_w69 hw) (own_w70 hw) (own_w37 hw) (own_w71 hw) (by decide) (rm12_2 l Z a0 hw [] o0 h0 n0 O0 F_size_o0) e0 E_o0 rfl (by rw [hml]; rfl) (argsL := []) (rest := []) (lenOf own_pd14 rfl) rfl rfl (W := 0) (by show 2 * 0 + _ ≤ _; exact Nat.le_of_eq rfl) (by decide) (by decide) (hb hby d11_1) (by decide) (by decide))) fun T1 X1 e1 => ?_
  refine Home.nr (own_newR X1 hx hZ hown (own_w74 hw) (own_w75 hw) e1 (g := (mkF m 6 #[.val (.ref o0), .unset, .unset] [(.int (1 : Int32))])) rfl (hb hby d11_6) rfl (by decide) (cap := 1) (by decide) (by decide) (by decide) (by decide)) fun T2 h2 k2 b2 g2 X2 e2 E2 A2 Ov2 => ?_
  have g_b2 : n0 ≤ b2 := Nat.le_trans (Old.le O0) (Nat.le_of_eq g2.symm)
  have V2 : Arv Z h2 b2 k2 (.object "java/lang/String") (1 : Int32) [.null] .null := (Arv.new A2 (by decide)).pad (pad_rep [] .null 1)
  have O2 := O0.ext E2
  have K2 : Keep h0 h2 ([] : List Addr) := Keep.ext (Keep.refl h0 ([] : List Addr)) E2
  refine Home.run X2 hx hby sg11_9_5 (pc' := 14) (L' := #[.val (.ref o0), .val (.ref b2), .val (.int (0 : Int32))]) (S' := [(.ref b2), (.int (0 : Int32))]) rfl ?_
  obtain ⟨cl3, Ar3, q3, S3, M3, H3, G3⟩ := id V2
  refine Home.go (own_alen X2 hx hZ e2 Ar3 S3 M3 rfl rfl (hb hby d11_14)) ?_
  show Home T2 (mkF m 15 #[.val (.ref o0), .val (.ref b2), .val (.int (0 : Int32))] [(.int (1 : Int32)), (.int (0 : Int32))])
  refine Home.go (fun _ => XS.icmpNo X2.here hx rfl (hb hby d11_15) rfl (tlt (by decide)).2.1) ?_
  refine Home.run X2 hx hby sg11_18_4 (pc' := 22) (L' := #[.val (.ref o0), .val (.ref b2), .val (.int (0 : Int32))]) (S' := [(.int (0 : Int32)), (.ref o0), (.int (0 : Int32)), (.ref b2)]) rfl ?_
  have q4 := (E_o0.ext E2)
  have q5 := (F_size_o0.ext E2)
  have q6 := (F_elementData_o0.ext E2)
  have q7 := (V_p2.ext E2)
  refine Home.st (own_pure (own_face X2 hx hZ hown (own_w130 hw) (own_w131 hw) (mvT hZ (own_w132 hw)) (own_w133 hw) (own_w134 hw) (own_w135 hw) (own_w136 hw) (own_w70 hw) (own_w37 hw) (own_w137 hw) (by decide) (rm21_5 l Z a0 hw [] o0 p2 k_p2 p3 h2 n0 O2 q5 q4 q6 q7) e2 q4 rfl (by rw [hml]; rfl) (argsL := [(.int (0 : Int32))]) (rest := [(.int (0 : Int32)), (.ref b2)]) (lenOf own_pd16 rfl) rfl rfl (W := 2) (by show 2 * 0 + _ ≤ _; exact Nat.le_of_eq rfl) (by decide) (by decide) (hb hby d11_22) (by decide) (by decide))) fun T8 X8 e8 => ?_
  have q9 := (E_p3.ext E2)
  refine Home.st (castY X8 hx hZ hown (own_w151 hw) e8 (Ins.self q9) rfl rfl (hb hby d11_27)) fun T10 X10 e10 => ?_
  show Home T10 (mkF m 30 #[.val (.ref o0), .val (.ref b2), .val (.int (0 : Int32))] [(.ref p3), (.int (0 : Int32)), (.ref b2)])
  have q11 := (F_name_p3.ext E2)
  refine Home.st (own_pure (own_virtual X10 hx hZ hown (own_w153 hw) (own_w154 hw) (notFace_of_selects (args := #[]) (mvT hZ (own_w156 hw))) (own_w156 hw) (own_w155 hw) (own_w61 hw) (own_w157 hw) (by decide) (rm25_0 l Z a0 hw [] p3 y1 h2 n0 O2 q11 isr_y1) e10 q9 rfl (by rw [hml]; rfl) (argsL := []) (rest := [(.int (0 : Int32)), (.ref b2)]) (lenOf own_pd17 rfl) rfl rfl (W := 2) (by show 2 * 0 + _ ≤ _; exact Nat.le_of_eq rfl) (by decide) (by decide) (hb hby d11_30) (by decide) (by decide))) fun T12 X12 e12 => ?_
  obtain ⟨cl13, Ar13, q13, S13, M13, H13, G13⟩ := id V2
  have q14 := (Nul.ext N_y1 E2)
  refine Home.wr (stR X12 hx hZ e12 Ar13 (j := (0 : Int32)) (inb_of S13 ⟨by decide, by decide⟩) rfl (Sto.ofN Ar13 q13 Ov2 q14 (fun E => Ins.self E)) rfl rfl (hb hby d11_33)) fun T13 h13 X13 e13 W13 => ?_
  have V13 : Arv Z h13 b2 k2 (.object "java/lang/String") (1 : Int32) [y1] .null := Arv.set Ar13 q13 S13 M13 H13 G13 (fits_refv (isr_y1) rfl) W13 0 rfl (Nat.le_of_ble_eq_true rfl)
  have O13 := O2.wr W13 g_b2
  have K13 : Keep h0 h13 ([] : List Addr) := Keep.wr K2 W13 (Or.inr (Nat.le_trans (Nat.le_refl _) (Nat.le_of_eq g2.symm)))
  have N13 := Fr.snoc X13 N0 g_b2
  show Home T13 (mkF m 34 #[.val (.ref o0), .val (.ref b2), .val (.int (0 : Int32))] [])
  refine Home.run X13 hx hby sg11_34_4 (pc' := 14) (L' := #[.val (.ref o0), .val (.ref b2), .val (.int (1 : Int32))]) (S' := [(.ref b2), (.int (1 : Int32))]) rfl ?_
  obtain ⟨cl15, Ar15, q15, S15, M15, H15, G15⟩ := id V13
  refine Home.go (own_alen X13 hx hZ e13 Ar15 S15 M15 rfl rfl (hb hby d11_14)) ?_
  refine Home.go (fun _ => XS.icmpYes X13.here hx rfl (pc0 := 15) (pc' := 40) rfl (hb hby d11_15) rfl (flt (by decide)).2.1 (by decide) (by decide)) ?_
  refine Home.run X13 hx hby sg11_40_1 (pc' := 41) (L' := #[.val (.ref o0), .val (.ref b2), .val (.int (1 : Int32))]) (S' := [(.ref b2)]) rfl ?_
  exact Home.retR X13 hx hlk hret rfl rfl (hb hby d11_41) (by rw [show T13.heap = h13 from e13]; exact ⟨b2, k2, rfl, N13, (Nat.le_trans (Nat.le_refl _) (Nat.le_of_eq g2.symm)), K13, V13, Ov2⟩) (by decide) (by decide)
set_option maxRecDepth 65536 in
set_option maxHeartbeats 40000000 in
theorem rm12_3 (l : Launch) (Z : State) (a0 : Array Value) (hw : ∀ d ∈ tables_1, d.before a0 Z = true) (ws : List Jvm.Cond) (o0 : Addr) (h0 : Heap) (n0 : Nat) (O0 : Old Z n0 h0) (F_size_o0 : Fld Z h0 o0 "java/util/ArrayList" "size" "I" (.int (0 : Int32))) :
    Con l Z (⟨"java/util/ArrayList", "size", "()I"⟩ : MethodName) jdk_38_method_8_code 1 (some .int) ws ({ frames := 0, cells := 0, slots := 0, locals := 0 } : Room) #[(.ref o0)] h0 (Pur (some (.int (0 : Int32))) h0) := by
  refine own_body (plainFor_of_name own_pn5) (fun m => ef_rm12_3 m o0) ?_
  intro p e s m below meth c s₁ hx hby hlk hml hret hZ hown hnm X0 e0
  have N0 := Fr.nil n0
  refine Home.run X0 hx hby sg12_0_1 (pc' := 1) (L' := #[.val (.ref o0)]) (S' := [(.ref o0)]) rfl ?_
  refine Home.st (getF X0 hx hZ hown (host := "") (Or.inl (own_w72 hw)) Via.refl e0 F_size_o0 rfl rfl (hb hby d12_1)) fun T1 X1 e1 => ?_
  exact Home.retI X1 hx hlk hret (hb hby d12_4) ⟨rfl, rfl, e1⟩ (by decide) (by decide)
set_option maxRecDepth 65536 in
set_option maxHeartbeats 40000000 in
theorem rm11_3 (l : Launch) (Z : State) (a0 : Array Value) (hw : ∀ d ∈ tables_1, d.before a0 Z = true) (ws : List Jvm.Cond) (o0 : Addr) (h0 : Heap) (n0 : Nat) (O0 : Old Z n0 h0) (E_o0 : Exa Z h0 o0 "java/util/ArrayList") (F_size_o0 : Fld Z h0 o0 "java/util/ArrayList" "size" "I" (.int (0 : Int32))) :
    Con l Z (⟨"com/example/wary_meter/warymeter/Column", "names", "(Ljava/util/List;)[Ljava/lang/String;"⟩ : MethodName) prog_3_method_4_code 3 (some (.array (.object "java/lang/String"))) ws ({ frames := 1, cells := 1, slots := 0, locals := 12 } : Room) #[(.ref o0)] h0 (fun v h L => ∃ (b2 : Addr), ∃ (k2 : ClassId), v = some (.ref b2) ∧ Fr n0 L ∧ h0.size ≤ b2 ∧ Keep h0 h [] ∧ Arv Z h b2 k2 (.object "java/lang/String") (0 : Int32) [] .null ∧ Ovr Z k2 "java/lang/String") := by
  refine own_body (plainFor_of_name own_pn7) (fun m => ef_rm11_3 m o0) ?_
  intro p e s m below meth c s₁ hx hby hlk hml hret hZ hown hnm X0 e0
  have N0 := Fr.nil n0
  refine Home.run X0 hx hby sg11_0_1 (pc' := 1) (L' := #[.val (.ref o0), .unset, .unset]) (S' := [(.ref o0)]) rfl ?_
  refine Home.st (own_pure (own_face X0 hx hZ hown (own_w63 hw) (own_w64 hw) (mvT hZ (own_w65 hw)) (own_w66 hw) (own_w67 hw) (own_w68 hw) (own_w69 hw) (own_w70 hw) (own_w37 hw) (own_w71 hw) (by decide) (rm12_3 l Z a0 hw [] o0 h0 n0 O0 F_size_o0) e0 E_o0 rfl (by rw [hml]; rfl) (argsL := []) (rest := []) (lenOf own_pd14 rfl) rfl rfl (W := 0) (by show 2 * 0 + _ ≤ _; exact Nat.le_of_eq rfl) (by decide) (by decide) (hb hby d11_1) (by decide) (by decide))) fun T1 X1 e1 => ?_
  refine Home.nr (own_newR X1 hx hZ hown (own_w74 hw) (own_w75 hw) e1 (g := (mkF m 6 #[.val (.ref o0), .unset, .unset] [(.int (0 : Int32))])) rfl (hb hby d11_6) rfl (by decide) (cap := 0) (by decide) (by decide) (by decide) (by decide)) fun T2 h2 k2 b2 g2 X2 e2 E2 A2 Ov2 => ?_
  have g_b2 : n0 ≤ b2 := Nat.le_trans (Old.le O0) (Nat.le_of_eq g2.symm)
  have V2 : Arv Z h2 b2 k2 (.object "java/lang/String") (0 : Int32) [] .null := (Arv.new A2 (by decide)).pad (pad_rep [] .null 0)
  have O2 := O0.ext E2
  have K2 : Keep h0 h2 ([] : List Addr) := Keep.ext (Keep.refl h0 ([] : List Addr)) E2
  refine Home.run X2 hx hby sg11_9_5 (pc' := 14) (L' := #[.val (.ref o0), .val (.ref b2), .val (.int (0 : Int32))]) (S' := [(.ref b2), (.int (0 : Int32))]) rfl ?_
  obtain ⟨cl3, Ar3, q3, S3, M3, H3, G3⟩ := id V2
  refine Home.go (own_alen X2 hx hZ e2 Ar3 S3 M3 rfl rfl (hb hby d11_14)) ?_
  show Home T2 (mkF m 15 #[.val (.ref o0), .val (.ref b2), .val (.int (0 : Int32))] [(.int (0 : Int32)), (.int (0 : Int32))])
  refine Home.go (fun _ => XS.icmpYes X2.here hx rfl (pc0 := 15) (pc' := 40) rfl (hb hby d11_15) rfl (flt (by decide)).2.1 (by decide) (by decide)) ?_
  refine Home.run X2 hx hby sg11_40_1 (pc' := 41) (L' := #[.val (.ref o0), .val (.ref b2), .val (.int (0 : Int32))]) (S' := [(.ref b2)]) rfl ?_
  exact Home.retR X2 hx hlk hret rfl rfl (hb hby d11_41) (by rw [show T2.heap = h2 from e2]; exact ⟨b2, k2, rfl, N0, (Nat.le_trans (Nat.le_refl _) (Nat.le_of_eq g2.symm)), K2, V2, Ov2⟩) (by decide) (by decide)

set_option maxRecDepth 65536 in
set_option maxHeartbeats 40000000 in
theorem rm0 (l : Launch) (Z : State) (a0 : Array Value) (hw : ∀ d ∈ tables_1, d.before a0 Z = true) (ws : List Jvm.Cond) (i0 : Int32) (i1 : Int32) (i2 : Int32) (i3 : Int32) (sv_COMPACT_STRINGS : Int32) (sv_DEFAULTCAPACITY_EMPTY_ELEMENTDATA : Addr) (kde : ClassId) (h0 : Heap) (n0 : Nat) (O0 : Old Z n0 h0) (S_COMPACT_STRINGS : Sta Z Z.heap "java/lang/String" "COMPACT_STRINGS" "Z" (.int sv_COMPACT_STRINGS)) (hCS : ¬ (sv_COMPACT_STRINGS = (0 : Int32))) (S_DEFAULTCAPACITY_EMPTY_ELEMENTDATA : Sta Z Z.heap "java/util/ArrayList" "DEFAULTCAPACITY_EMPTY_ELEMENTDATA" "[Ljava/lang/Object;" (.ref sv_DEFAULTCAPACITY_EMPTY_ELEMENTDATA)) (V_de : Arv Z Z.heap sv_DEFAULTCAPACITY_EMPTY_ELEMENTDATA kde (.object "java/lang/Object") (0 : Int32) [] .null) :
    Con l Z x code maxLocals ret ws room_1 #[(.int i0), (.int i1), (.int i2), (.int i3)] h0 (fun v h L => v = some (.int (1 : Int32)) ∧ Fr n0 L) := by
  refine own_body (plainFor_of_name own_pn2) (fun m => ef_rm0 m i0 i1 i2 i3) ?_
  intro p e s m below meth c s₁ hx hby hlk hml hret hZ hown hnm X0 e0
  have N0 := Fr.nil n0
  refine Home.run X0 hx hby sg0_0_1 (pc' := 1) (L' := #[.val (.int i0), .val (.int i1), .val (.int i2), .val (.int i3), .unset, .unset, .unset, .unset, .unset, .unset]) (S' := [(.int i0)]) rfl ?_
  refine Home.go (X0.ldcInt hx hown (mvT hZ (own_w0 hw)) rfl (hb hby at_1)) ?_
  refine Home.run X0 hx hby sg0_3_2 (pc' := 5) (L' := #[.val (.int i0), .val (.int i1), .val (.int i2), .val (.int i3), .unset, .unset, .unset, .unset, .unset, .unset]) (S' := [(.int (4 : Int32)), (.int (i0 &&& (2147483647 : Int32)))]) rfl ?_
  refine Home.go (fun _ => iremM X0 hx rfl (hb hby at_5) rfl (by decide)) ?_
  refine Home.run X0 hx hby sg0_6_1 (pc' := 8) (L' := #[.val (.int i0), .val (.int i1), .val (.int i2), .val (.int i3), .val (.int ((i0 &&& (2147483647 : Int32)) % (4 : Int32))), .unset, .unset, .unset, .unset, .unset]) (S' := []) rfl ?_
  obtain ⟨v1, hv1⟩ : ∃ z, z = ((i0 &&& (2147483647 : Int32)) % (4 : Int32)) := ⟨_, rfl⟩
  rw [← hv1]
  have bv1 : ¬ v1 < (0 : Int32) ∧ ¬ (3 : Int32) < v1 := by rw [hv1]; exact (bnd_rem (bnd_and i0 (2147483647 : Int32) (by decide)) (by decide +kernel) (by decide +kernel))
  refine Home.run X0 hx hby sg0_8_1 (pc' := 9) (L' := #[.val (.int i0), .val (.int i1), .val (.int i2), .val (.int i3), .val (.int v1), .unset, .unset, .unset, .unset, .unset]) (S' := [(.int i1)]) rfl ?_
  refine Home.call (own_static X0 hx hZ hown (own_w1 hw) (own_w2 hw) (own_w3 hw) (own_w4 hw) (by decide) (rm1_0 l Z a0 hw [] i1 sv_COMPACT_STRINGS h0 n0 O0 S_COMPACT_STRINGS hCS) e0 rfl (by rw [hml]; rfl) (argsL := [(.int i1)]) (rest := []) (lenOf own_pd5 rfl) rfl rfl (W := 0) (by show 2 * 0 + _ ≤ _; exact Nat.le_of_eq rfl) (by decide) (by decide) (hb hby at_9) (by decide) (by decide)) ?_
  rintro _ T2 L2 X2 ⟨rv_2, rfl, N2q, K2q, P2_0⟩
  have O2 := Old.keep O0 K2q all0
  have K2 : Keep h0 T2.heap ([] : List Addr) := Keep.trans (Keep.refl h0 ([] : List Addr)) K2q all0
  have N2 := Fr.app N0 N2q
  have isr_rv_2 := Nul.isRef P2_0
  show Home T2 (mkF m 12 #[.val (.int i0), .val (.int i1), .val (.int i2), .val (.int i3), .val (.int v1), .unset, .unset, .unset, .unset, .unset] [rv_2])
  refine Home.go (fun _ => XS.astore X2.here hx rfl (hb hby at_12) rfl (isr_rv_2) (l' := #[.val (.int i0), .val (.int i1), .val (.int i2), .val (.int i3), .val (.int v1), .val rv_2, .unset, .unset, .unset, .unset]) (XS.store1 rfl (Or.inl rfl) (cat1_of isr_rv_2))) ?_
  refine Home.run X2 hx hby sg0_14_1 (pc' := 15) (L' := #[.val (.int i0), .val (.int i1), .val (.int i2), .val (.int i3), .val (.int v1), .val rv_2, .unset, .unset, .unset, .unset]) (S' := [(.int i2)]) rfl ?_
  refine Home.call (own_static X2 hx hZ hown (own_w1 hw) (own_w2 hw) (own_w3 hw) (own_w4 hw) (by decide) (rm1_0 l Z a0 hw [] i2 sv_COMPACT_STRINGS T2.heap n0 O2 S_COMPACT_STRINGS hCS) rfl rfl (by rw [hml]; rfl) (argsL := [(.int i2)]) (rest := []) (lenOf own_pd5 rfl) rfl rfl (W := 0) (by show 2 * 0 + _ ≤ _; exact Nat.le_of_eq rfl) (by decide) (by decide) (hb hby at_15) (by decide) (by decide)) ?_
  rintro _ T3 L3 X3 ⟨rv_3, rfl, N3q, K3q, P3_0⟩
  have O3 := Old.keep O2 K3q all0
  have K3 : Keep h0 T3.heap ([] : List Addr) := Keep.trans K2 K3q all0
  have N3 := Fr.app N2 N3q
  have isr_rv_3 := Nul.isRef P3_0
  show Home T3 (mkF m 18 #[.val (.int i0), .val (.int i1), .val (.int i2), .val (.int i3), .val (.int v1), .val rv_2, .unset, .unset, .unset, .unset] [rv_3])
  refine Home.go (fun _ => XS.astore X3.here hx rfl (hb hby at_18) rfl (isr_rv_3) (l' := #[.val (.int i0), .val (.int i1), .val (.int i2), .val (.int i3), .val (.int v1), .val rv_2, .val rv_3, .unset, .unset, .unset]) (XS.store1 rfl (Or.inl rfl) (cat1_of isr_rv_3))) ?_
  refine Home.run X3 hx hby sg0_20_1 (pc' := 21) (L' := #[.val (.int i0), .val (.int i1), .val (.int i2), .val (.int i3), .val (.int v1), .val rv_2, .val rv_3, .unset, .unset, .unset]) (S' := [(.int i3)]) rfl ?_
  refine Home.call (own_static X3 hx hZ hown (own_w1 hw) (own_w2 hw) (own_w3 hw) (own_w4 hw) (by decide) (rm1_0 l Z a0 hw [] i3 sv_COMPACT_STRINGS T3.heap n0 O3 S_COMPACT_STRINGS hCS) rfl rfl (by rw [hml]; rfl) (argsL := [(.int i3)]) (rest := []) (lenOf own_pd5 rfl) rfl rfl (W := 0) (by show 2 * 0 + _ ≤ _; exact Nat.le_of_eq rfl) (by decide) (by decide) (hb hby at_21) (by decide) (by decide)) ?_
  rintro _ T4 L4 X4 ⟨rv_4, rfl, N4q, K4q, P4_0⟩
  have O4 := Old.keep O3 K4q all0
  have K4 : Keep h0 T4.heap ([] : List Addr) := Keep.trans K3 K4q all0
  have N4 := Fr.app N3 N4q
  have isr_rv_4 := Nul.isRef P4_0
  show Home T4 (mkF m 24 #[.val (.int i0), .val (.int i1), .val (.int i2), .val (.int i3), .val (.int v1), .val rv_2, .val rv_3, .unset, .unset, .unset] [rv_4])
  refine Home.go (fun _ => XS.astore X4.here hx rfl (hb hby at_24) rfl (isr_rv_4) (l' := #[.val (.int i0), .val (.int i1), .val (.int i2), .val (.int i3), .val (.int v1), .val rv_2, .val rv_3, .val rv_4, .unset, .unset]) (XS.store1 rfl (Or.inl rfl) (cat1_of isr_rv_4))) ?_
  refine Home.nw (own_newO X4 hx hZ hown (own_w35 hw) (own_w36 hw) (own_w37 hw) rfl rfl (hb hby at_26) (by decide) (by decide)) fun T5 h5 b5 g5 X5 e5 E5 A5 D5 => ?_
  have g_b5 : n0 ≤ b5 := Nat.le_trans (Old.le O4) (Nat.le_of_eq g5.symm)
  have F_modCount_b5 : Fld Z h5 b5 "java/util/AbstractList" "modCount" "I" (.int (0 : Int32)) := D5 (Or.inl (own_w55 hw)) (ty := .int) (by decide)
  have F_elementData_b5 : Fld Z h5 b5 "java/util/ArrayList" "elementData" "[Ljava/lang/Object;" .null := D5 (Or.inl (own_w58 hw)) (ty := (.array (.object "java/lang/Object"))) (by decide)
  have F_size_b5 : Fld Z h5 b5 "java/util/ArrayList" "size" "I" (.int (0 : Int32)) := D5 (Or.inl (own_w73 hw)) (ty := .int) (by decide)
  have O5 := O4.ext E5
  have K5 : Keep h0 h5 ([] : List Addr) := Keep.ext K4 E5
  show Home T5 (mkF m 29 #[.val (.int i0), .val (.int i1), .val (.int i2), .val (.int i3), .val (.int v1), .val rv_2, .val rv_3, .val rv_4, .unset, .unset] [(.ref b5)])
  refine Home.run X5 hx hby sg0_29_1 (pc' := 30) (L' := #[.val (.int i0), .val (.int i1), .val (.int i2), .val (.int i3), .val (.int v1), .val rv_2, .val rv_3, .val rv_4, .unset, .unset]) (S' := [(.ref b5), (.ref b5)]) rfl ?_
  refine Home.call (own_special X5 hx hZ hown rfl (own_w38 hw) (own_w39 hw) (own_w37 hw) (own_w40 hw) (by decide) (rm8_0 l Z a0 hw [] b5 sv_DEFAULTCAPACITY_EMPTY_ELEMENTDATA h5 n0 O5 A5 F_modCount_b5 F_elementData_b5 F_size_b5 g_b5 S_DEFAULTCAPACITY_EMPTY_ELEMENTDATA) e5 rfl (by rw [hml]; rfl) (a := b5) (argsL := []) (rest := [(.ref b5)]) (lenOf own_pd6 rfl) rfl rfl (W := 1) (by show 2 * 0 + _ ≤ _; exact Nat.le_of_eq rfl) (by decide) (by decide) (hb hby at_30) (by decide) (by decide)) ?_
  rintro _ T6 L6 X6 ⟨rfl, N6q, K6q, P6_0, P6_1, P6_2, P6_3⟩
  have le7 : h0.size ≤ T3.heap.size := Nat.le_trans K2q.1 K3q.1
  have le8 : h0.size ≤ T4.heap.size := Nat.le_trans le7 K4q.1
  have O6 := Old.keep O5 K6q (allS g_b5 all0)
  have K6 : Keep h0 T6.heap ([] : List Addr) := Keep.trans K5 K6q (allS (Or.inr (Nat.le_trans le8 (Nat.le_of_eq g5.symm))) all0)
  have N6 := Fr.app N4 N6q
  show Home T6 (mkF m 33 #[.val (.int i0), .val (.int i1), .val (.int i2), .val (.int i3), .val (.int v1), .val rv_2, .val rv_3, .val rv_4, .unset, .unset] [(.ref b5)])
  refine Home.run X6 hx hby sg0_33_2 (pc' := 37) (L' := #[.val (.int i0), .val (.int i1), .val (.int i2), .val (.int i3), .val (.int v1), .val rv_2, .val rv_3, .val rv_4, .val (.ref b5), .unset]) (S' := [(.int v1)]) rfl ?_
  by_cases c9 : (0 : Int32) < v1
  · skip
    refine Home.go (fun _ => XS.ifNo X6.here hx rfl (hb hby at_37) rfl ((if0 _ _).trans (tlt c9).2.2.2)) ?_
    have bd10 : ¬ v1 < (1 : Int32) ∧ ¬ (3 : Int32) < v1 := ⟨(bnd_up c9 (by decide +kernel)), bv1.2⟩
    refine Home.run X6 hx hby sg0_40_1 (pc' := 42) (L' := #[.val (.int i0), .val (.int i1), .val (.int i2), .val (.int i3), .val (.int v1), .val rv_2, .val rv_3, .val rv_4, .val (.ref b5), .unset]) (S' := [(.ref b5)]) rfl ?_
    refine Home.nw (own_newO X6 hx hZ hown (own_w76 hw) (own_w77 hw) (own_w61 hw) rfl rfl (hb hby at_42) (by decide) (by decide)) fun T13 h13 b13 g13 X13 e13 E13 A13 D13 => ?_
    have g_b13 : n0 ≤ b13 := Nat.le_trans (Old.le O6) (Nat.le_of_eq g13.symm)
    have F_name_b13 : Fld Z h13 b13 "com/example/wary_meter/warymeter/Column" "name" "Ljava/lang/String;" .null := D13 (Or.inr (own_w91 hw)) (ty := (.object "java/lang/String")) (by decide)
    have F_value_b13 : Fld Z h13 b13 "com/example/wary_meter/warymeter/Column" "value" "Ljava/util/function/Function;" .null := D13 (Or.inr (own_w93 hw)) (ty := (.object "java/util/function/Function")) (by decide)
    have F_key_b13 : Fld Z h13 b13 "com/example/wary_meter/warymeter/Column" "key" "Ljava/util/function/Function;" .null := D13 (Or.inr (own_w95 hw)) (ty := (.object "java/util/function/Function")) (by decide)
    have F_text_b13 : Fld Z h13 b13 "com/example/wary_meter/warymeter/Column" "text" "Ljava/util/function/Function;" .null := D13 (Or.inr (own_w97 hw)) (ty := (.object "java/util/function/Function")) (by decide)
    have O13 := O6.ext E13
    have K13 : Keep h0 h13 ([] : List Addr) := Keep.ext K6 E13
    show Home T13 (mkF m 45 #[.val (.int i0), .val (.int i1), .val (.int i2), .val (.int i3), .val (.int v1), .val rv_2, .val rv_3, .val rv_4, .val (.ref b5), .unset] [(.ref b13), (.ref b5)])
    refine Home.run X13 hx hby sg0_45_1 (pc' := 46) (L' := #[.val (.int i0), .val (.int i1), .val (.int i2), .val (.int i3), .val (.int v1), .val rv_2, .val rv_3, .val rv_4, .val (.ref b5), .unset]) (S' := [(.ref b13), (.ref b13), (.ref b5)]) rfl ?_
    refine Home.go (fun _ => XS.aload X13.here hx rfl (hb hby at_46) rfl (isr_rv_2)) ?_
    refine Home.run X13 hx hby sg0_48_1 (pc' := 49) (L' := #[.val (.int i0), .val (.int i1), .val (.int i2), .val (.int i3), .val (.int v1), .val rv_2, .val rv_3, .val rv_4, .val (.ref b5), .unset]) (S' := [.null, rv_2, (.ref b13), (.ref b13), (.ref b5)]) rfl ?_
    refine Home.call (own_special X13 hx hZ hown rfl (own_w78 hw) (own_w79 hw) (own_w61 hw) (own_w80 hw) (by decide) (rm13_0 l Z a0 hw [] b13 rv_2 h13 n0 O13 isr_rv_2 A13 F_name_b13 F_value_b13 F_key_b13 F_text_b13 g_b13) e13 rfl (by rw [hml]; rfl) (a := b13) (argsL := [rv_2, .null]) (rest := [(.ref b13), (.ref b5)]) (lenOf own_pd8 rfl) rfl rfl (W := 2) (by show 2 * 0 + _ ≤ _; exact Nat.le_of_eq rfl) (by decide) (by decide) (hb hby at_49) (by decide) (by decide)) ?_
    rintro _ T14 L14 X14 ⟨rfl, N14q, K14q, P14_0, P14_1, P14_2, P14_3, P14_4⟩
    have le15 : h0.size ≤ h5.size := Nat.le_trans le8 E5.1
    have le16 : h0.size ≤ T6.heap.size := Nat.le_trans le15 K6q.1
    have O14 := Old.keep O13 K14q (allS g_b13 all0)
    have K14 : Keep h0 T14.heap ([] : List Addr) := Keep.trans K13 K14q (allS (Or.inr (Nat.le_trans le16 (Nat.le_of_eq g13.symm))) all0)
    have N14 := Fr.app N6 N14q
    show Home T14 (mkF m 52 #[.val (.int i0), .val (.int i1), .val (.int i2), .val (.int i3), .val (.int v1), .val rv_2, .val rv_3, .val rv_4, .val (.ref b5), .unset] [(.ref b13), (.ref b5)])
    have q17 := ((P6_0.ext E13).keep K14q)
    have ne18 : b5 ≠ b13 := (Nat.ne_of_lt (Nat.lt_of_lt_of_le A5.lt (Nat.le_trans K6q.1 (Nat.le_of_eq g13.symm))))
    have q19 := ((P6_1.ext E13).keep K14q (ninS ne18 nin0))
    have q20 := ((P6_2.ext E13).keep K14q (ninS ne18 nin0))
    have q21 := ((P6_3.ext E13).keep K14q (ninS ne18 nin0))
    refine Home.call (own_face X14 hx hZ hown (own_w98 hw) (own_w99 hw) (mvT hZ (own_w100 hw)) (own_w101 hw) (own_w102 hw) (own_w103 hw) (own_w104 hw) (own_w70 hw) (own_w37 hw) (own_w105 hw) (by decide) (rm16_0 l Z a0 hw [] b5 b13 sv_DEFAULTCAPACITY_EMPTY_ELEMENTDATA kde T14.heap n0 O14 q19 q17 g_b5 q20 q21 V_de S_DEFAULTCAPACITY_EMPTY_ELEMENTDATA P14_0) rfl q17 rfl (by rw [hml]; rfl) (argsL := [(.ref b13)]) (rest := []) (lenOf own_pd13 rfl) rfl rfl (W := 0) (by show 2 * 0 + _ ≤ _; exact Nat.le_of_eq rfl) (by decide) (by decide) (hb hby at_52) (by decide) (by decide)) ?_
    rintro _ T22 L22 X22 ⟨b6_2_2_9_22, k6_2_2_9_22, rfl, N22q, sz_b6_2_2_9_22, K22q, P22_0, P22_1, P22_2, P22_3, P22_4, P22_5⟩
    have g_b6_2_2_9_22 : n0 ≤ b6_2_2_9_22 := Nat.le_trans (Old.le O14) sz_b6_2_2_9_22
    have O22 := Old.keep O14 K22q (allS g_b5 all0)
    have K22 : Keep h0 T22.heap ([] : List Addr) := Keep.trans K14 K22q (allS (Or.inr (Nat.le_trans le8 (Nat.le_of_eq g5.symm))) all0)
    have N22 := Fr.app N14 N22q
    show Home T22 (mkF m 57 #[.val (.int i0), .val (.int i1), .val (.int i2), .val (.int i3), .val (.int v1), .val rv_2, .val rv_3, .val rv_4, .val (.ref b5), .unset] [(.int (1 : Int32))])
    refine Home.run X22 hx hby sg0_57_3 (pc' := 61) (L' := #[.val (.int i0), .val (.int i1), .val (.int i2), .val (.int i3), .val (.int v1), .val rv_2, .val rv_3, .val rv_4, .val (.ref b5), .unset]) (S' := [(.int (1 : Int32)), (.int v1)]) rfl ?_
    by_cases c23 : (1 : Int32) < v1
    · skip
      refine Home.go (fun _ => XS.icmpNo X22.here hx rfl (hb hby at_61) rfl (tlt c23).2.2.2) ?_
      have bd24 : ¬ v1 < (2 : Int32) ∧ ¬ (3 : Int32) < v1 := ⟨(bnd_up c23 (by decide +kernel)), bd10.2⟩
      refine Home.run X22 hx hby sg0_64_1 (pc' := 66) (L' := #[.val (.int i0), .val (.int i1), .val (.int i2), .val (.int i3), .val (.int v1), .val rv_2, .val rv_3, .val rv_4, .val (.ref b5), .unset]) (S' := [(.ref b5)]) rfl ?_
      refine Home.nw (own_newO X22 hx hZ hown (own_w76 hw) (own_w77 hw) (own_w61 hw) rfl rfl (hb hby at_66) (by decide) (by decide)) fun T27 h27 b27 g27 X27 e27 E27 A27 D27 => ?_
      have g_b27 : n0 ≤ b27 := Nat.le_trans (Old.le O22) (Nat.le_of_eq g27.symm)
      have F_name_b27 : Fld Z h27 b27 "com/example/wary_meter/warymeter/Column" "name" "Ljava/lang/String;" .null := D27 (Or.inr (own_w91 hw)) (ty := (.object "java/lang/String")) (by decide)
      have F_value_b27 : Fld Z h27 b27 "com/example/wary_meter/warymeter/Column" "value" "Ljava/util/function/Function;" .null := D27 (Or.inr (own_w93 hw)) (ty := (.object "java/util/function/Function")) (by decide)
      have F_key_b27 : Fld Z h27 b27 "com/example/wary_meter/warymeter/Column" "key" "Ljava/util/function/Function;" .null := D27 (Or.inr (own_w95 hw)) (ty := (.object "java/util/function/Function")) (by decide)
      have F_text_b27 : Fld Z h27 b27 "com/example/wary_meter/warymeter/Column" "text" "Ljava/util/function/Function;" .null := D27 (Or.inr (own_w97 hw)) (ty := (.object "java/util/function/Function")) (by decide)
      have O27 := O22.ext E27
      have K27 : Keep h0 h27 ([] : List Addr) := Keep.ext K22 E27
      show Home T27 (mkF m 69 #[.val (.int i0), .val (.int i1), .val (.int i2), .val (.int i3), .val (.int v1), .val rv_2, .val rv_3, .val rv_4, .val (.ref b5), .unset] [(.ref b27), (.ref b5)])
      refine Home.run X27 hx hby sg0_69_1 (pc' := 70) (L' := #[.val (.int i0), .val (.int i1), .val (.int i2), .val (.int i3), .val (.int v1), .val rv_2, .val rv_3, .val rv_4, .val (.ref b5), .unset]) (S' := [(.ref b27), (.ref b27), (.ref b5)]) rfl ?_
      refine Home.go (fun _ => XS.aload X27.here hx rfl (hb hby at_70) rfl (isr_rv_3)) ?_
      refine Home.run X27 hx hby sg0_72_1 (pc' := 73) (L' := #[.val (.int i0), .val (.int i1), .val (.int i2), .val (.int i3), .val (.int v1), .val rv_2, .val rv_3, .val rv_4, .val (.ref b5), .unset]) (S' := [.null, rv_3, (.ref b27), (.ref b27), (.ref b5)]) rfl ?_
      refine Home.call (own_special X27 hx hZ hown rfl (own_w78 hw) (own_w79 hw) (own_w61 hw) (own_w80 hw) (by decide) (rm13_0 l Z a0 hw [] b27 rv_3 h27 n0 O27 isr_rv_3 A27 F_name_b27 F_value_b27 F_key_b27 F_text_b27 g_b27) e27 rfl (by rw [hml]; rfl) (a := b27) (argsL := [rv_3, .null]) (rest := [(.ref b27), (.ref b5)]) (lenOf own_pd8 rfl) rfl rfl (W := 2) (by show 2 * 0 + _ ≤ _; exact Nat.le_of_eq rfl) (by decide) (by decide) (hb hby at_73) (by decide) (by decide)) ?_
      rintro _ T28 L28 X28 ⟨rfl, N28q, K28q, P28_0, P28_1, P28_2, P28_3, P28_4⟩
      have le29 : h0.size ≤ h13.size := Nat.le_trans le16 E13.1
      have le30 : h0.size ≤ T14.heap.size := Nat.le_trans le29 K14q.1
      have le31 : h0.size ≤ T22.heap.size := Nat.le_trans le30 K22q.1
      have O28 := Old.keep O27 K28q (allS g_b27 all0)
      have K28 : Keep h0 T28.heap ([] : List Addr) := Keep.trans K27 K28q (allS (Or.inr (Nat.le_trans le31 (Nat.le_of_eq g27.symm))) all0)
      have N28 := Fr.app N22 N28q
      show Home T28 (mkF m 76 #[.val (.int i0), .val (.int i1), .val (.int i2), .val (.int i3), .val (.int v1), .val rv_2, .val rv_3, .val rv_4, .val (.ref b5), .unset] [(.ref b27), (.ref b5)])
      have q32 := ((P22_1.ext E27).keep K28q)
      have le33 : h5.size ≤ h13.size := Nat.le_trans K6q.1 E13.1
      have le34 : h5.size ≤ T14.heap.size := Nat.le_trans le33 K14q.1
      have ne35 : b5 ≠ b6_2_2_9_22 := (Nat.ne_of_lt (Nat.lt_of_lt_of_le A5.lt (Nat.le_trans le34 sz_b6_2_2_9_22)))
      have ne36 : b6_2_2_9_22 ≠ b5 := (Ne.symm ne35)
      have le37 : h5.size ≤ T22.heap.size := Nat.le_trans le34 K22q.1
      have ne38 : b5 ≠ b27 := (Nat.ne_of_lt (Nat.lt_of_lt_of_le A5.lt (Nat.le_trans le37 (Nat.le_of_eq g27.symm))))
      have q39 := ((P22_0.ext E27).keep K28q (ninS ne38 nin0))
      have q40 := ((P22_2.ext E27).keep K28q (ninS ne38 nin0))
      have q41 := ((P22_3.ext E27).keep K28q (ninS ne38 nin0))
      have ne42 : b6_2_2_9_22 ≠ b27 := (Nat.ne_of_lt (Nat.lt_of_lt_of_le P22_4.lt (Nat.le_trans (Nat.le_refl _) (Nat.le_of_eq g27.symm))))
      have q43 := ((P22_4.ext E27).keep K28q (ninS ne42 nin0))
      refine Home.call (own_face X28 hx hZ hown (own_w98 hw) (own_w99 hw) (mvT hZ (own_w100 hw)) (own_w101 hw) (own_w102 hw) (own_w103 hw) (own_w104 hw) (own_w70 hw) (own_w37 hw) (own_w105 hw) (by decide) (rm16_1 l Z a0 hw [] b5 b27 b6_2_2_9_22 k6_2_2_9_22 b13 T28.heap n0 O28 q39 q32 g_b5 q40 q41 ne35 ne36 q43 P22_5 P28_0 g_b6_2_2_9_22) rfl q32 rfl (by rw [hml]; rfl) (argsL := [(.ref b27)]) (rest := []) (lenOf own_pd13 rfl) rfl rfl (W := 0) (by show 2 * 0 + _ ≤ _; exact Nat.le_of_eq rfl) (by decide) (by decide) (hb hby at_76) (by decide) (by decide)) ?_
      rintro _ T44 L44 X44 ⟨rfl, N44q, K44q, P44_0, P44_1, P44_2, P44_3, P44_4⟩
      have O44 := Old.keep O28 K44q (allS g_b5 (allS g_b6_2_2_9_22 all0))
      have K44 : Keep h0 T44.heap ([] : List Addr) := Keep.trans K28 K44q (allS (Or.inr (Nat.le_trans le8 (Nat.le_of_eq g5.symm))) (allS (Or.inr (Nat.le_trans le30 sz_b6_2_2_9_22)) all0))
      have N44 := Fr.app N28 N44q
      show Home T44 (mkF m 81 #[.val (.int i0), .val (.int i1), .val (.int i2), .val (.int i3), .val (.int v1), .val rv_2, .val rv_3, .val rv_4, .val (.ref b5), .unset] [(.int (1 : Int32))])
      refine Home.run X44 hx hby sg0_81_3 (pc' := 85) (L' := #[.val (.int i0), .val (.int i1), .val (.int i2), .val (.int i3), .val (.int v1), .val rv_2, .val rv_3, .val rv_4, .val (.ref b5), .unset]) (S' := [(.int (2 : Int32)), (.int v1)]) rfl ?_
      by_cases c45 : (2 : Int32) < v1
      · skip
        refine Home.go (fun _ => XS.icmpNo X44.here hx rfl (hb hby at_85) rfl (tlt c45).2.2.2) ?_
        have bd46 : ¬ v1 < (3 : Int32) ∧ ¬ (3 : Int32) < v1 := ⟨(bnd_up c45 (by decide +kernel)), bd24.2⟩
        have fx47 : v1 = (3 : Int32) := bnd_fix bd46
        try rw [fx47]
        show Home T44 (mkF m 88 #[.val (.int i0), .val (.int i1), .val (.int i2), .val (.int i3), .val (.int (3 : Int32)), .val rv_2, .val rv_3, .val rv_4, .val (.ref b5), .unset] [])
        refine Home.run X44 hx hby sg0_88_1 (pc' := 90) (L' := #[.val (.int i0), .val (.int i1), .val (.int i2), .val (.int i3), .val (.int (3 : Int32)), .val rv_2, .val rv_3, .val rv_4, .val (.ref b5), .unset]) (S' := [(.ref b5)]) rfl ?_
        refine Home.nw (own_newO X44 hx hZ hown (own_w76 hw) (own_w77 hw) (own_w61 hw) rfl rfl (hb hby at_90) (by decide) (by decide)) fun T50 h50 b50 g50 X50 e50 E50 A50 D50 => ?_
        have g_b50 : n0 ≤ b50 := Nat.le_trans (Old.le O44) (Nat.le_of_eq g50.symm)
        have F_name_b50 : Fld Z h50 b50 "com/example/wary_meter/warymeter/Column" "name" "Ljava/lang/String;" .null := D50 (Or.inr (own_w91 hw)) (ty := (.object "java/lang/String")) (by decide)
        have F_value_b50 : Fld Z h50 b50 "com/example/wary_meter/warymeter/Column" "value" "Ljava/util/function/Function;" .null := D50 (Or.inr (own_w93 hw)) (ty := (.object "java/util/function/Function")) (by decide)
        have F_key_b50 : Fld Z h50 b50 "com/example/wary_meter/warymeter/Column" "key" "Ljava/util/function/Function;" .null := D50 (Or.inr (own_w95 hw)) (ty := (.object "java/util/function/Function")) (by decide)
        have F_text_b50 : Fld Z h50 b50 "com/example/wary_meter/warymeter/Column" "text" "Ljava/util/function/Function;" .null := D50 (Or.inr (own_w97 hw)) (ty := (.object "java/util/function/Function")) (by decide)
        have O50 := O44.ext E50
        have K50 : Keep h0 h50 ([] : List Addr) := Keep.ext K44 E50
        show Home T50 (mkF m 93 #[.val (.int i0), .val (.int i1), .val (.int i2), .val (.int i3), .val (.int (3 : Int32)), .val rv_2, .val rv_3, .val rv_4, .val (.ref b5), .unset] [(.ref b50), (.ref b5)])
        refine Home.run X50 hx hby sg0_93_1 (pc' := 94) (L' := #[.val (.int i0), .val (.int i1), .val (.int i2), .val (.int i3), .val (.int (3 : Int32)), .val rv_2, .val rv_3, .val rv_4, .val (.ref b5), .unset]) (S' := [(.ref b50), (.ref b50), (.ref b5)]) rfl ?_
        refine Home.go (fun _ => XS.aload X50.here hx rfl (hb hby at_94) rfl (isr_rv_4)) ?_
        refine Home.run X50 hx hby sg0_96_1 (pc' := 97) (L' := #[.val (.int i0), .val (.int i1), .val (.int i2), .val (.int i3), .val (.int (3 : Int32)), .val rv_2, .val rv_3, .val rv_4, .val (.ref b5), .unset]) (S' := [.null, rv_4, (.ref b50), (.ref b50), (.ref b5)]) rfl ?_
        refine Home.call (own_special X50 hx hZ hown rfl (own_w78 hw) (own_w79 hw) (own_w61 hw) (own_w80 hw) (by decide) (rm13_0 l Z a0 hw [] b50 rv_4 h50 n0 O50 isr_rv_4 A50 F_name_b50 F_value_b50 F_key_b50 F_text_b50 g_b50) e50 rfl (by rw [hml]; rfl) (a := b50) (argsL := [rv_4, .null]) (rest := [(.ref b50), (.ref b5)]) (lenOf own_pd8 rfl) rfl rfl (W := 2) (by show 2 * 0 + _ ≤ _; exact Nat.le_of_eq rfl) (by decide) (by decide) (hb hby at_97) (by decide) (by decide)) ?_
        rintro _ T51 L51 X51 ⟨rfl, N51q, K51q, P51_0, P51_1, P51_2, P51_3, P51_4⟩
        have le52 : h0.size ≤ h27.size := Nat.le_trans le31 E27.1
        have le53 : h0.size ≤ T28.heap.size := Nat.le_trans le52 K28q.1
        have le54 : h0.size ≤ T44.heap.size := Nat.le_trans le53 K44q.1
        have O51 := Old.keep O50 K51q (allS g_b50 all0)
        have K51 : Keep h0 T51.heap ([] : List Addr) := Keep.trans K50 K51q (allS (Or.inr (Nat.le_trans le54 (Nat.le_of_eq g50.symm))) all0)
        have N51 := Fr.app N44 N51q
        show Home T51 (mkF m 100 #[.val (.int i0), .val (.int i1), .val (.int i2), .val (.int i3), .val (.int (3 : Int32)), .val rv_2, .val rv_3, .val rv_4, .val (.ref b5), .unset] [(.ref b50), (.ref b5)])
        have q55 := ((P44_1.ext E50).keep K51q)
        have le56 : h5.size ≤ h27.size := Nat.le_trans le37 E27.1
        have le57 : h5.size ≤ T28.heap.size := Nat.le_trans le56 K28q.1
        have le58 : h5.size ≤ T44.heap.size := Nat.le_trans le57 K44q.1
        have ne59 : b5 ≠ b50 := (Nat.ne_of_lt (Nat.lt_of_lt_of_le A5.lt (Nat.le_trans le58 (Nat.le_of_eq g50.symm))))
        have q60 := ((P44_0.ext E50).keep K51q (ninS ne59 nin0))
        have q61 := ((P44_2.ext E50).keep K51q (ninS ne59 nin0))
        have q62 := ((P44_3.ext E50).keep K51q (ninS ne59 nin0))
        have le63 : T22.heap.size ≤ T28.heap.size := Nat.le_trans E27.1 K28q.1
        have le64 : T22.heap.size ≤ T44.heap.size := Nat.le_trans le63 K44q.1
        have ne65 : b6_2_2_9_22 ≠ b50 := (Nat.ne_of_lt (Nat.lt_of_lt_of_le P22_4.lt (Nat.le_trans le64 (Nat.le_of_eq g50.symm))))
        have q66 := ((P44_4.ext E50).keep K51q (ninS ne65 nin0))
        refine Home.call (own_face X51 hx hZ hown (own_w98 hw) (own_w99 hw) (mvT hZ (own_w100 hw)) (own_w101 hw) (own_w102 hw) (own_w103 hw) (own_w104 hw) (own_w70 hw) (own_w37 hw) (own_w105 hw) (by decide) (rm16_2 l Z a0 hw [] b5 b50 b6_2_2_9_22 k6_2_2_9_22 b13 b27 T51.heap n0 O51 q60 q55 g_b5 q61 q62 ne35 ne36 q66 P22_5 P51_0 g_b6_2_2_9_22) rfl q55 rfl (by rw [hml]; rfl) (argsL := [(.ref b50)]) (rest := []) (lenOf own_pd13 rfl) rfl rfl (W := 0) (by show 2 * 0 + _ ≤ _; exact Nat.le_of_eq rfl) (by decide) (by decide) (hb hby at_100) (by decide) (by decide)) ?_
        rintro _ T67 L67 X67 ⟨rfl, N67q, K67q, P67_0, P67_1, P67_2, P67_3, P67_4⟩
        have O67 := Old.keep O51 K67q (allS g_b5 (allS g_b6_2_2_9_22 all0))
        have K67 : Keep h0 T67.heap ([] : List Addr) := Keep.trans K51 K67q (allS (Or.inr (Nat.le_trans le8 (Nat.le_of_eq g5.symm))) (allS (Or.inr (Nat.le_trans le30 sz_b6_2_2_9_22)) all0))
        have N67 := Fr.app N51 N67q
        show Home T67 (mkF m 105 #[.val (.int i0), .val (.int i1), .val (.int i2), .val (.int i3), .val (.int (3 : Int32)), .val rv_2, .val rv_3, .val rv_4, .val (.ref b5), .unset] [(.int (1 : Int32))])
        refine Home.run X67 hx hby sg0_105_2 (pc' := 108) (L' := #[.val (.int i0), .val (.int i1), .val (.int i2), .val (.int i3), .val (.int (3 : Int32)), .val rv_2, .val rv_3, .val rv_4, .val (.ref b5), .unset]) (S' := [(.ref b5)]) rfl ?_
        have q68 := (((((((P14_0.keep K22q).ext E27).keep K28q).keep K44q).ext E50).keep K51q).keep K67q)
        have ne69 : b13 ≠ b5 := (Ne.symm ne18)
        have le70 : h13.size ≤ T22.heap.size := Nat.le_trans K14q.1 K22q.1
        have ne71 : b13 ≠ b27 := (Nat.ne_of_lt (Nat.lt_of_lt_of_le A13.lt (Nat.le_trans le70 (Nat.le_of_eq g27.symm))))
        have ne72 : b13 ≠ b6_2_2_9_22 := (Nat.ne_of_lt (Nat.lt_of_lt_of_le A13.lt (Nat.le_trans K14q.1 sz_b6_2_2_9_22)))
        have le73 : h13.size ≤ h27.size := Nat.le_trans le70 E27.1
        have le74 : h13.size ≤ T28.heap.size := Nat.le_trans le73 K28q.1
        have le75 : h13.size ≤ T44.heap.size := Nat.le_trans le74 K44q.1
        have ne76 : b13 ≠ b50 := (Nat.ne_of_lt (Nat.lt_of_lt_of_le A13.lt (Nat.le_trans le75 (Nat.le_of_eq g50.symm))))
        have q77 := (((((((P14_1.keep K22q (ninS ne69 nin0)).ext E27).keep K28q (ninS ne71 nin0)).keep K44q (ninS ne69 (ninS ne72 nin0))).ext E50).keep K51q (ninS ne76 nin0)).keep K67q (ninS ne69 (ninS ne72 nin0)))
        have q78 := (Nul.keep (Nul.keep (Nul.ext (Nul.keep (Nul.keep (Nul.ext (Nul.keep (Nul.keep (Nul.ext (Nul.keep (Nul.ext (Nul.keep (Nul.keep P2_0 K3q) K4q) E5) K6q) E13) K14q) K22q) E27) K28q) K44q) E50) K51q) K67q)
        have q79 := ((((P28_0.keep K44q).ext E50).keep K51q).keep K67q)
        have ne80 : b27 ≠ b6_2_2_9_22 := (Ne.symm ne42)
        have ne81 : b27 ≠ b5 := (Ne.symm ne38)
        have le82 : h27.size ≤ T44.heap.size := Nat.le_trans K28q.1 K44q.1
        have ne83 : b27 ≠ b50 := (Nat.ne_of_lt (Nat.lt_of_lt_of_le A27.lt (Nat.le_trans le82 (Nat.le_of_eq g50.symm))))
        have q84 := ((((P28_1.keep K44q (ninS ne81 (ninS ne80 nin0))).ext E50).keep K51q (ninS ne83 nin0)).keep K67q (ninS ne81 (ninS ne80 nin0)))
        have q85 := (Nul.keep (Nul.keep (Nul.ext (Nul.keep (Nul.keep (Nul.ext (Nul.keep (Nul.keep (Nul.ext (Nul.keep (Nul.ext (Nul.keep P3_0 K4q) E5) K6q) E13) K14q) K22q) E27) K28q) K44q) E50) K51q) K67q)
        have q86 := (P51_0.keep K67q)
        have ne87 : b50 ≠ b6_2_2_9_22 := (Ne.symm ne65)
        have ne88 : b50 ≠ b5 := (Ne.symm ne59)
        have q89 := (P51_1.keep K67q (ninS ne88 (ninS ne87 nin0)))
        have q90 := (Nul.keep (Nul.keep (Nul.ext (Nul.keep (Nul.keep (Nul.ext (Nul.keep (Nul.keep (Nul.ext (Nul.keep (Nul.ext P4_0 E5) K6q) E13) K14q) K22q) E27) K28q) K44q) E50) K51q) K67q)
        refine Home.call (own_static X67 hx hZ hown (own_w59 hw) (own_w60 hw) (own_w61 hw) (own_w62 hw) (by decide) (rm11_0 l Z a0 hw [] b5 b6_2_2_9_22 k6_2_2_9_22 b13 b27 b50 rv_2 rv_3 rv_4 T67.heap n0 O67 P67_1 P67_3 P67_2 P67_4 q68 q77 isr_rv_2 q78 q79 q84 isr_rv_3 q85 q86 q89 isr_rv_4 q90) rfl rfl (by rw [hml]; rfl) (argsL := [(.ref b5)]) (rest := []) (lenOf own_pd18 rfl) rfl rfl (W := 0) (by show 2 * 0 + _ ≤ _; exact Nat.le_of_eq rfl) (by decide) (by decide) (hb hby at_108) (by decide) (by decide)) ?_
        rintro _ T91 L91 X91 ⟨b2_91, k2_91, rfl, N91q, sz_b2_91, K91q, P91_0, P91_1⟩
        have g_b2_91 : n0 ≤ b2_91 := Nat.le_trans (Old.le O67) sz_b2_91
        have O91 := Old.keep O67 K91q all0
        have K91 : Keep h0 T91.heap ([] : List Addr) := Keep.trans K67 K91q all0
        have N91 := Fr.app N67 N91q
        show Home T91 (mkF m 111 #[.val (.int i0), .val (.int i1), .val (.int i2), .val (.int i3), .val (.int (3 : Int32)), .val rv_2, .val rv_3, .val rv_4, .val (.ref b5), .unset] [(.ref b2_91)])
        refine Home.run X91 hx hby sg0_111_2 (pc' := 115) (L' := #[.val (.int i0), .val (.int i1), .val (.int i2), .val (.int i3), .val (.int (3 : Int32)), .val rv_2, .val rv_3, .val rv_4, .val (.ref b5), .val (.ref b2_91)]) (S' := [(.ref b2_91)]) rfl ?_
        refine Home.go (fun _ => XS.ifnullNo X91.here hx rfl (hb hby at_115) rfl) ?_
        show Home T91 (mkF m 118 #[.val (.int i0), .val (.int i1), .val (.int i2), .val (.int i3), .val (.int (3 : Int32)), .val rv_2, .val rv_3, .val rv_4, .val (.ref b5), .val (.ref b2_91)] [])
        refine Home.run X91 hx hby sg0_118_1 (pc' := 120) (L' := #[.val (.int i0), .val (.int i1), .val (.int i2), .val (.int i3), .val (.int (3 : Int32)), .val rv_2, .val rv_3, .val rv_4, .val (.ref b5), .val (.ref b2_91)]) (S' := [(.ref b2_91)]) rfl ?_
        obtain ⟨cl92, Ar92, q92, S92, M92, H92, G92⟩ := id P91_0
        refine Home.go (own_alen X91 hx hZ rfl Ar92 S92 M92 rfl rfl (hb hby at_120)) ?_
        refine Home.run X91 hx hby sg0_121_1 (pc' := 123) (L' := #[.val (.int i0), .val (.int i1), .val (.int i2), .val (.int i3), .val (.int (3 : Int32)), .val rv_2, .val rv_3, .val rv_4, .val (.ref b5), .val (.ref b2_91)]) (S' := [(.int (3 : Int32)), (.int (3 : Int32))]) rfl ?_
        refine Home.go (fun _ => XS.icmpYes X91.here hx rfl (pc0 := 123) (pc' := 128) rfl (hb hby at_123) rfl (teq (by decide)).1 (by decide) (by decide)) ?_
        refine Home.run X91 hx hby sg0_128_1 (pc' := 130) (L' := #[.val (.int i0), .val (.int i1), .val (.int i2), .val (.int i3), .val (.int (3 : Int32)), .val rv_2, .val rv_3, .val rv_4, .val (.ref b5), .val (.ref b2_91)]) (S' := [(.int (3 : Int32))]) rfl ?_
        refine Home.go (fun _ => XS.ifNo X91.here hx rfl (hb hby at_130) rfl ((if0 _ _).trans (tlt (by decide)).2.2.2)) ?_
        refine Home.run X91 hx hby sg0_133_2 (pc' := 136) (L' := #[.val (.int i0), .val (.int i1), .val (.int i2), .val (.int i3), .val (.int (3 : Int32)), .val rv_2, .val rv_3, .val rv_4, .val (.ref b5), .val (.ref b2_91)]) (S' := [(.int (0 : Int32)), (.ref b2_91)]) rfl ?_
        obtain ⟨cl93, Ar93, q93, S93, M93, H93, G93⟩ := id P91_0
        have i93 : ¬ ((0 : Int32) < 0 ∨ cl93.slots.size ≤ ((0 : Int32)).toNatClampNeg) := inb_of S93 ⟨by decide, by decide⟩
        refine Home.go (X91.aaload hx (j := (0 : Int32)) (v := rv_2) Ar93.1 (State.isArrayOf_alike hZ.alike Ar93.2.1) rfl Ar93.2.2 i93 (Has.at H93 i93 rfl) rfl rfl (hb hby at_136)) ?_
        show Home T91 (mkF m 137 #[.val (.int i0), .val (.int i1), .val (.int i2), .val (.int i3), .val (.int (3 : Int32)), .val rv_2, .val rv_3, .val rv_4, .val (.ref b5), .val (.ref b2_91)] [rv_2])
        refine Home.go (fun _ => XS.aload X91.here hx rfl (hb hby at_137) rfl (isr_rv_2)) ?_
        have q94 := (Nul.keep q78 K91q)
        refine Home.st (own_pure (own_static X91 hx hZ hown (own_w158 hw) (own_w159 hw) (own_w3 hw) (own_w160 hw) (by decide) (rm26_0 l Z a0 hw [] rv_2 T91.heap n0 O91 isr_rv_2 q94) rfl rfl (by rw [hml]; rfl) (argsL := [rv_2, rv_2]) (rest := []) (lenOf own_pd19 rfl) rfl rfl (W := 0) (by show 2 * 0 + _ ≤ _; exact Nat.le_of_eq rfl) (by decide) (by decide) (hb hby at_139) (by decide) (by decide))) fun T95 X95 e95 => ?_
        refine Home.go (fun _ => XS.ifYes X95.here hx rfl (pc0 := 142) (pc' := 147) rfl (hb hby at_142) rfl ((if0 _ _).trans (feq (by decide)).2) (by decide) (by decide)) ?_
        refine Home.run X95 hx hby sg0_147_2 (pc' := 150) (L' := #[.val (.int i0), .val (.int i1), .val (.int i2), .val (.int i3), .val (.int (3 : Int32)), .val rv_2, .val rv_3, .val rv_4, .val (.ref b5), .val (.ref b2_91)]) (S' := [(.int (1 : Int32)), (.int (3 : Int32))]) rfl ?_
        refine Home.go (fun _ => XS.icmpNo X95.here hx rfl (hb hby at_150) rfl (tlt (by decide)).2.2.2) ?_
        refine Home.run X95 hx hby sg0_153_2 (pc' := 156) (L' := #[.val (.int i0), .val (.int i1), .val (.int i2), .val (.int i3), .val (.int (3 : Int32)), .val rv_2, .val rv_3, .val rv_4, .val (.ref b5), .val (.ref b2_91)]) (S' := [(.int (1 : Int32)), (.ref b2_91)]) rfl ?_
        obtain ⟨cl96, Ar96, q96, S96, M96, H96, G96⟩ := id P91_0
        have i96 : ¬ ((1 : Int32) < 0 ∨ cl96.slots.size ≤ ((1 : Int32)).toNatClampNeg) := inb_of S96 ⟨by decide, by decide⟩
        refine Home.go (X95.aaload hx (j := (1 : Int32)) (v := rv_3) (by rw [e95]; exact Ar96.1) (State.isArrayOf_alike hZ.alike Ar96.2.1) rfl Ar96.2.2 i96 (Has.at H96 i96 rfl) rfl rfl (hb hby at_156)) ?_
        show Home T95 (mkF m 157 #[.val (.int i0), .val (.int i1), .val (.int i2), .val (.int i3), .val (.int (3 : Int32)), .val rv_2, .val rv_3, .val rv_4, .val (.ref b5), .val (.ref b2_91)] [rv_3])
        refine Home.go (fun _ => XS.aload X95.here hx rfl (hb hby at_157) rfl (isr_rv_3)) ?_
        have q97 := (Nul.keep q85 K91q)
        refine Home.st (own_pure (own_static X95 hx hZ hown (own_w158 hw) (own_w159 hw) (own_w3 hw) (own_w160 hw) (by decide) (rm26_0 l Z a0 hw [] rv_3 T91.heap n0 O91 isr_rv_3 q97) e95 rfl (by rw [hml]; rfl) (argsL := [rv_3, rv_3]) (rest := []) (lenOf own_pd19 rfl) rfl rfl (W := 0) (by show 2 * 0 + _ ≤ _; exact Nat.le_of_eq rfl) (by decide) (by decide) (hb hby at_159) (by decide) (by decide))) fun T98 X98 e98 => ?_
        refine Home.go (fun _ => XS.ifYes X98.here hx rfl (pc0 := 162) (pc' := 167) rfl (hb hby at_162) rfl ((if0 _ _).trans (feq (by decide)).2) (by decide) (by decide)) ?_
        refine Home.run X98 hx hby sg0_167_2 (pc' := 170) (L' := #[.val (.int i0), .val (.int i1), .val (.int i2), .val (.int i3), .val (.int (3 : Int32)), .val rv_2, .val rv_3, .val rv_4, .val (.ref b5), .val (.ref b2_91)]) (S' := [(.int (2 : Int32)), (.int (3 : Int32))]) rfl ?_
        refine Home.go (fun _ => XS.icmpNo X98.here hx rfl (hb hby at_170) rfl (tlt (by decide)).2.2.2) ?_
        refine Home.run X98 hx hby sg0_173_2 (pc' := 176) (L' := #[.val (.int i0), .val (.int i1), .val (.int i2), .val (.int i3), .val (.int (3 : Int32)), .val rv_2, .val rv_3, .val rv_4, .val (.ref b5), .val (.ref b2_91)]) (S' := [(.int (2 : Int32)), (.ref b2_91)]) rfl ?_
        obtain ⟨cl99, Ar99, q99, S99, M99, H99, G99⟩ := id P91_0
        have i99 : ¬ ((2 : Int32) < 0 ∨ cl99.slots.size ≤ ((2 : Int32)).toNatClampNeg) := inb_of S99 ⟨by decide, by decide⟩
        refine Home.go (X98.aaload hx (j := (2 : Int32)) (v := rv_4) (by rw [e98]; exact Ar99.1) (State.isArrayOf_alike hZ.alike Ar99.2.1) rfl Ar99.2.2 i99 (Has.at H99 i99 rfl) rfl rfl (hb hby at_176)) ?_
        show Home T98 (mkF m 177 #[.val (.int i0), .val (.int i1), .val (.int i2), .val (.int i3), .val (.int (3 : Int32)), .val rv_2, .val rv_3, .val rv_4, .val (.ref b5), .val (.ref b2_91)] [rv_4])
        refine Home.go (fun _ => XS.aload X98.here hx rfl (hb hby at_177) rfl (isr_rv_4)) ?_
        have q100 := (Nul.keep q90 K91q)
        refine Home.st (own_pure (own_static X98 hx hZ hown (own_w158 hw) (own_w159 hw) (own_w3 hw) (own_w160 hw) (by decide) (rm26_0 l Z a0 hw [] rv_4 T91.heap n0 O91 isr_rv_4 q100) e98 rfl (by rw [hml]; rfl) (argsL := [rv_4, rv_4]) (rest := []) (lenOf own_pd19 rfl) rfl rfl (W := 0) (by show 2 * 0 + _ ≤ _; exact Nat.le_of_eq rfl) (by decide) (by decide) (hb hby at_179) (by decide) (by decide))) fun T101 X101 e101 => ?_
        refine Home.go (fun _ => XS.ifYes X101.here hx rfl (pc0 := 182) (pc' := 187) rfl (hb hby at_182) rfl ((if0 _ _).trans (feq (by decide)).2) (by decide) (by decide)) ?_
        refine Home.run X101 hx hby sg0_187_1 (pc' := 188) (L' := #[.val (.int i0), .val (.int i1), .val (.int i2), .val (.int i3), .val (.int (3 : Int32)), .val rv_2, .val rv_3, .val rv_4, .val (.ref b5), .val (.ref b2_91)]) (S' := [(.int (1 : Int32))]) rfl ?_
        exact Home.retN X101 hx hlk (t := .boolean) hret (by simp) (hb hby at_188) ⟨rfl, N91⟩ (by decide) (by decide)
      · skip
        refine Home.go (fun _ => XS.icmpYes X44.here hx rfl (pc0 := 85) (pc' := 106) rfl (hb hby at_85) rfl (flt c45).2.2.2 (by decide) (by decide)) ?_
        have bd48 : ¬ v1 < (2 : Int32) ∧ ¬ (2 : Int32) < v1 := ⟨bd24.1, c45⟩
        have fx49 : v1 = (2 : Int32) := bnd_fix bd48
        try rw [fx49]
        show Home T44 (mkF m 106 #[.val (.int i0), .val (.int i1), .val (.int i2), .val (.int i3), .val (.int (2 : Int32)), .val rv_2, .val rv_3, .val rv_4, .val (.ref b5), .unset] [])
        refine Home.run X44 hx hby sg0_106_1 (pc' := 108) (L' := #[.val (.int i0), .val (.int i1), .val (.int i2), .val (.int i3), .val (.int (2 : Int32)), .val rv_2, .val rv_3, .val rv_4, .val (.ref b5), .unset]) (S' := [(.ref b5)]) rfl ?_
        have q102 := ((((P14_0.keep K22q).ext E27).keep K28q).keep K44q)
        have ne103 : b13 ≠ b5 := (Ne.symm ne18)
        have le104 : h13.size ≤ T22.heap.size := Nat.le_trans K14q.1 K22q.1
        have ne105 : b13 ≠ b27 := (Nat.ne_of_lt (Nat.lt_of_lt_of_le A13.lt (Nat.le_trans le104 (Nat.le_of_eq g27.symm))))
        have ne106 : b13 ≠ b6_2_2_9_22 := (Nat.ne_of_lt (Nat.lt_of_lt_of_le A13.lt (Nat.le_trans K14q.1 sz_b6_2_2_9_22)))
        have q107 := ((((P14_1.keep K22q (ninS ne103 nin0)).ext E27).keep K28q (ninS ne105 nin0)).keep K44q (ninS ne103 (ninS ne106 nin0)))
        have q108 := (Nul.keep (Nul.keep (Nul.ext (Nul.keep (Nul.keep (Nul.ext (Nul.keep (Nul.ext (Nul.keep (Nul.keep P2_0 K3q) K4q) E5) K6q) E13) K14q) K22q) E27) K28q) K44q)
        have q109 := (P28_0.keep K44q)
        have ne110 : b27 ≠ b6_2_2_9_22 := (Ne.symm ne42)
        have ne111 : b27 ≠ b5 := (Ne.symm ne38)
        have q112 := (P28_1.keep K44q (ninS ne111 (ninS ne110 nin0)))
        have q113 := (Nul.keep (Nul.keep (Nul.ext (Nul.keep (Nul.keep (Nul.ext (Nul.keep (Nul.ext (Nul.keep P3_0 K4q) E5) K6q) E13) K14q) K22q) E27) K28q) K44q)
        refine Home.call (own_static X44 hx hZ hown (own_w59 hw) (own_w60 hw) (own_w61 hw) (own_w62 hw) (by decide) (rm11_1 l Z a0 hw [] b5 b6_2_2_9_22 k6_2_2_9_22 b13 b27 rv_2 rv_3 T44.heap n0 O44 P44_1 P44_3 P44_2 P44_4 q102 q107 isr_rv_2 q108 q109 q112 isr_rv_3 q113) rfl rfl (by rw [hml]; rfl) (argsL := [(.ref b5)]) (rest := []) (lenOf own_pd18 rfl) rfl rfl (W := 0) (by show 2 * 0 + _ ≤ _; exact Nat.le_of_eq rfl) (by decide) (by decide) (hb hby at_108) (by decide) (by decide)) ?_
        rintro _ T114 L114 X114 ⟨b2_114, k2_114, rfl, N114q, sz_b2_114, K114q, P114_0, P114_1⟩
        have g_b2_114 : n0 ≤ b2_114 := Nat.le_trans (Old.le O44) sz_b2_114
        have O114 := Old.keep O44 K114q all0
        have K114 : Keep h0 T114.heap ([] : List Addr) := Keep.trans K44 K114q all0
        have N114 := Fr.app N44 N114q
        show Home T114 (mkF m 111 #[.val (.int i0), .val (.int i1), .val (.int i2), .val (.int i3), .val (.int (2 : Int32)), .val rv_2, .val rv_3, .val rv_4, .val (.ref b5), .unset] [(.ref b2_114)])
        refine Home.run X114 hx hby sg0_111_2 (pc' := 115) (L' := #[.val (.int i0), .val (.int i1), .val (.int i2), .val (.int i3), .val (.int (2 : Int32)), .val rv_2, .val rv_3, .val rv_4, .val (.ref b5), .val (.ref b2_114)]) (S' := [(.ref b2_114)]) rfl ?_
        refine Home.go (fun _ => XS.ifnullNo X114.here hx rfl (hb hby at_115) rfl) ?_
        show Home T114 (mkF m 118 #[.val (.int i0), .val (.int i1), .val (.int i2), .val (.int i3), .val (.int (2 : Int32)), .val rv_2, .val rv_3, .val rv_4, .val (.ref b5), .val (.ref b2_114)] [])
        refine Home.run X114 hx hby sg0_118_1 (pc' := 120) (L' := #[.val (.int i0), .val (.int i1), .val (.int i2), .val (.int i3), .val (.int (2 : Int32)), .val rv_2, .val rv_3, .val rv_4, .val (.ref b5), .val (.ref b2_114)]) (S' := [(.ref b2_114)]) rfl ?_
        obtain ⟨cl115, Ar115, q115, S115, M115, H115, G115⟩ := id P114_0
        refine Home.go (own_alen X114 hx hZ rfl Ar115 S115 M115 rfl rfl (hb hby at_120)) ?_
        refine Home.run X114 hx hby sg0_121_1 (pc' := 123) (L' := #[.val (.int i0), .val (.int i1), .val (.int i2), .val (.int i3), .val (.int (2 : Int32)), .val rv_2, .val rv_3, .val rv_4, .val (.ref b5), .val (.ref b2_114)]) (S' := [(.int (2 : Int32)), (.int (2 : Int32))]) rfl ?_
        refine Home.go (fun _ => XS.icmpYes X114.here hx rfl (pc0 := 123) (pc' := 128) rfl (hb hby at_123) rfl (teq (by decide)).1 (by decide) (by decide)) ?_
        refine Home.run X114 hx hby sg0_128_1 (pc' := 130) (L' := #[.val (.int i0), .val (.int i1), .val (.int i2), .val (.int i3), .val (.int (2 : Int32)), .val rv_2, .val rv_3, .val rv_4, .val (.ref b5), .val (.ref b2_114)]) (S' := [(.int (2 : Int32))]) rfl ?_
        refine Home.go (fun _ => XS.ifNo X114.here hx rfl (hb hby at_130) rfl ((if0 _ _).trans (tlt (by decide)).2.2.2)) ?_
        refine Home.run X114 hx hby sg0_133_2 (pc' := 136) (L' := #[.val (.int i0), .val (.int i1), .val (.int i2), .val (.int i3), .val (.int (2 : Int32)), .val rv_2, .val rv_3, .val rv_4, .val (.ref b5), .val (.ref b2_114)]) (S' := [(.int (0 : Int32)), (.ref b2_114)]) rfl ?_
        obtain ⟨cl116, Ar116, q116, S116, M116, H116, G116⟩ := id P114_0
        have i116 : ¬ ((0 : Int32) < 0 ∨ cl116.slots.size ≤ ((0 : Int32)).toNatClampNeg) := inb_of S116 ⟨by decide, by decide⟩
        refine Home.go (X114.aaload hx (j := (0 : Int32)) (v := rv_2) Ar116.1 (State.isArrayOf_alike hZ.alike Ar116.2.1) rfl Ar116.2.2 i116 (Has.at H116 i116 rfl) rfl rfl (hb hby at_136)) ?_
        show Home T114 (mkF m 137 #[.val (.int i0), .val (.int i1), .val (.int i2), .val (.int i3), .val (.int (2 : Int32)), .val rv_2, .val rv_3, .val rv_4, .val (.ref b5), .val (.ref b2_114)] [rv_2])
        refine Home.go (fun _ => XS.aload X114.here hx rfl (hb hby at_137) rfl (isr_rv_2)) ?_
        have q117 := (Nul.keep q108 K114q)
        refine Home.st (own_pure (own_static X114 hx hZ hown (own_w158 hw) (own_w159 hw) (own_w3 hw) (own_w160 hw) (by decide) (rm26_0 l Z a0 hw [] rv_2 T114.heap n0 O114 isr_rv_2 q117) rfl rfl (by rw [hml]; rfl) (argsL := [rv_2, rv_2]) (rest := []) (lenOf own_pd19 rfl) rfl rfl (W := 0) (by show 2 * 0 + _ ≤ _; exact Nat.le_of_eq rfl) (by decide) (by decide) (hb hby at_139) (by decide) (by decide))) fun T118 X118 e118 => ?_
        refine Home.go (fun _ => XS.ifYes X118.here hx rfl (pc0 := 142) (pc' := 147) rfl (hb hby at_142) rfl ((if0 _ _).trans (feq (by decide)).2) (by decide) (by decide)) ?_
        refine Home.run X118 hx hby sg0_147_2 (pc' := 150) (L' := #[.val (.int i0), .val (.int i1), .val (.int i2), .val (.int i3), .val (.int (2 : Int32)), .val rv_2, .val rv_3, .val rv_4, .val (.ref b5), .val (.ref b2_114)]) (S' := [(.int (1 : Int32)), (.int (2 : Int32))]) rfl ?_
        refine Home.go (fun _ => XS.icmpNo X118.here hx rfl (hb hby at_150) rfl (tlt (by decide)).2.2.2) ?_
        refine Home.run X118 hx hby sg0_153_2 (pc' := 156) (L' := #[.val (.int i0), .val (.int i1), .val (.int i2), .val (.int i3), .val (.int (2 : Int32)), .val rv_2, .val rv_3, .val rv_4, .val (.ref b5), .val (.ref b2_114)]) (S' := [(.int (1 : Int32)), (.ref b2_114)]) rfl ?_
        obtain ⟨cl119, Ar119, q119, S119, M119, H119, G119⟩ := id P114_0
        have i119 : ¬ ((1 : Int32) < 0 ∨ cl119.slots.size ≤ ((1 : Int32)).toNatClampNeg) := inb_of S119 ⟨by decide, by decide⟩
        refine Home.go (X118.aaload hx (j := (1 : Int32)) (v := rv_3) (by rw [e118]; exact Ar119.1) (State.isArrayOf_alike hZ.alike Ar119.2.1) rfl Ar119.2.2 i119 (Has.at H119 i119 rfl) rfl rfl (hb hby at_156)) ?_
        show Home T118 (mkF m 157 #[.val (.int i0), .val (.int i1), .val (.int i2), .val (.int i3), .val (.int (2 : Int32)), .val rv_2, .val rv_3, .val rv_4, .val (.ref b5), .val (.ref b2_114)] [rv_3])
        refine Home.go (fun _ => XS.aload X118.here hx rfl (hb hby at_157) rfl (isr_rv_3)) ?_
        have q120 := (Nul.keep q113 K114q)
        refine Home.st (own_pure (own_static X118 hx hZ hown (own_w158 hw) (own_w159 hw) (own_w3 hw) (own_w160 hw) (by decide) (rm26_0 l Z a0 hw [] rv_3 T114.heap n0 O114 isr_rv_3 q120) e118 rfl (by rw [hml]; rfl) (argsL := [rv_3, rv_3]) (rest := []) (lenOf own_pd19 rfl) rfl rfl (W := 0) (by show 2 * 0 + _ ≤ _; exact Nat.le_of_eq rfl) (by decide) (by decide) (hb hby at_159) (by decide) (by decide))) fun T121 X121 e121 => ?_
        refine Home.go (fun _ => XS.ifYes X121.here hx rfl (pc0 := 162) (pc' := 167) rfl (hb hby at_162) rfl ((if0 _ _).trans (feq (by decide)).2) (by decide) (by decide)) ?_
        refine Home.run X121 hx hby sg0_167_2 (pc' := 170) (L' := #[.val (.int i0), .val (.int i1), .val (.int i2), .val (.int i3), .val (.int (2 : Int32)), .val rv_2, .val rv_3, .val rv_4, .val (.ref b5), .val (.ref b2_114)]) (S' := [(.int (2 : Int32)), (.int (2 : Int32))]) rfl ?_
        refine Home.go (fun _ => XS.icmpYes X121.here hx rfl (pc0 := 170) (pc' := 187) rfl (hb hby at_170) rfl (flt (by decide)).2.2.2 (by decide) (by decide)) ?_
        refine Home.run X121 hx hby sg0_187_1 (pc' := 188) (L' := #[.val (.int i0), .val (.int i1), .val (.int i2), .val (.int i3), .val (.int (2 : Int32)), .val rv_2, .val rv_3, .val rv_4, .val (.ref b5), .val (.ref b2_114)]) (S' := [(.int (1 : Int32))]) rfl ?_
        exact Home.retN X121 hx hlk (t := .boolean) hret (by simp) (hb hby at_188) ⟨rfl, N114⟩ (by decide) (by decide)
    · skip
      refine Home.go (fun _ => XS.icmpYes X22.here hx rfl (pc0 := 61) (pc' := 82) rfl (hb hby at_61) rfl (flt c23).2.2.2 (by decide) (by decide)) ?_
      have bd25 : ¬ v1 < (1 : Int32) ∧ ¬ (1 : Int32) < v1 := ⟨bd10.1, c23⟩
      have fx26 : v1 = (1 : Int32) := bnd_fix bd25
      try rw [fx26]
      show Home T22 (mkF m 82 #[.val (.int i0), .val (.int i1), .val (.int i2), .val (.int i3), .val (.int (1 : Int32)), .val rv_2, .val rv_3, .val rv_4, .val (.ref b5), .unset] [])
      refine Home.run X22 hx hby sg0_82_2 (pc' := 85) (L' := #[.val (.int i0), .val (.int i1), .val (.int i2), .val (.int i3), .val (.int (1 : Int32)), .val rv_2, .val rv_3, .val rv_4, .val (.ref b5), .unset]) (S' := [(.int (2 : Int32)), (.int (1 : Int32))]) rfl ?_
      refine Home.go (fun _ => XS.icmpYes X22.here hx rfl (pc0 := 85) (pc' := 106) rfl (hb hby at_85) rfl (flt (by decide)).2.2.2 (by decide) (by decide)) ?_
      refine Home.run X22 hx hby sg0_106_1 (pc' := 108) (L' := #[.val (.int i0), .val (.int i1), .val (.int i2), .val (.int i3), .val (.int (1 : Int32)), .val rv_2, .val rv_3, .val rv_4, .val (.ref b5), .unset]) (S' := [(.ref b5)]) rfl ?_
      have q122 := (P14_0.keep K22q)
      have ne123 : b13 ≠ b5 := (Ne.symm ne18)
      have q124 := (P14_1.keep K22q (ninS ne123 nin0))
      have q125 := (Nul.keep (Nul.keep (Nul.ext (Nul.keep (Nul.ext (Nul.keep (Nul.keep P2_0 K3q) K4q) E5) K6q) E13) K14q) K22q)
      refine Home.call (own_static X22 hx hZ hown (own_w59 hw) (own_w60 hw) (own_w61 hw) (own_w62 hw) (by decide) (rm11_2 l Z a0 hw [] b5 b6_2_2_9_22 k6_2_2_9_22 b13 rv_2 T22.heap n0 O22 P22_1 P22_3 P22_2 P22_4 q122 q124 isr_rv_2 q125) rfl rfl (by rw [hml]; rfl) (argsL := [(.ref b5)]) (rest := []) (lenOf own_pd18 rfl) rfl rfl (W := 0) (by show 2 * 0 + _ ≤ _; exact Nat.le_of_eq rfl) (by decide) (by decide) (hb hby at_108) (by decide) (by decide)) ?_
      rintro _ T126 L126 X126 ⟨b2_126, k2_126, rfl, N126q, sz_b2_126, K126q, P126_0, P126_1⟩
      have g_b2_126 : n0 ≤ b2_126 := Nat.le_trans (Old.le O22) sz_b2_126
      have O126 := Old.keep O22 K126q all0
      have K126 : Keep h0 T126.heap ([] : List Addr) := Keep.trans K22 K126q all0
      have N126 := Fr.app N22 N126q
      show Home T126 (mkF m 111 #[.val (.int i0), .val (.int i1), .val (.int i2), .val (.int i3), .val (.int (1 : Int32)), .val rv_2, .val rv_3, .val rv_4, .val (.ref b5), .unset] [(.ref b2_126)])
      refine Home.run X126 hx hby sg0_111_2 (pc' := 115) (L' := #[.val (.int i0), .val (.int i1), .val (.int i2), .val (.int i3), .val (.int (1 : Int32)), .val rv_2, .val rv_3, .val rv_4, .val (.ref b5), .val (.ref b2_126)]) (S' := [(.ref b2_126)]) rfl ?_
      refine Home.go (fun _ => XS.ifnullNo X126.here hx rfl (hb hby at_115) rfl) ?_
      show Home T126 (mkF m 118 #[.val (.int i0), .val (.int i1), .val (.int i2), .val (.int i3), .val (.int (1 : Int32)), .val rv_2, .val rv_3, .val rv_4, .val (.ref b5), .val (.ref b2_126)] [])
      refine Home.run X126 hx hby sg0_118_1 (pc' := 120) (L' := #[.val (.int i0), .val (.int i1), .val (.int i2), .val (.int i3), .val (.int (1 : Int32)), .val rv_2, .val rv_3, .val rv_4, .val (.ref b5), .val (.ref b2_126)]) (S' := [(.ref b2_126)]) rfl ?_
      obtain ⟨cl127, Ar127, q127, S127, M127, H127, G127⟩ := id P126_0
      refine Home.go (own_alen X126 hx hZ rfl Ar127 S127 M127 rfl rfl (hb hby at_120)) ?_
      refine Home.run X126 hx hby sg0_121_1 (pc' := 123) (L' := #[.val (.int i0), .val (.int i1), .val (.int i2), .val (.int i3), .val (.int (1 : Int32)), .val rv_2, .val rv_3, .val rv_4, .val (.ref b5), .val (.ref b2_126)]) (S' := [(.int (1 : Int32)), (.int (1 : Int32))]) rfl ?_
      refine Home.go (fun _ => XS.icmpYes X126.here hx rfl (pc0 := 123) (pc' := 128) rfl (hb hby at_123) rfl (teq (by decide)).1 (by decide) (by decide)) ?_
      refine Home.run X126 hx hby sg0_128_1 (pc' := 130) (L' := #[.val (.int i0), .val (.int i1), .val (.int i2), .val (.int i3), .val (.int (1 : Int32)), .val rv_2, .val rv_3, .val rv_4, .val (.ref b5), .val (.ref b2_126)]) (S' := [(.int (1 : Int32))]) rfl ?_
      refine Home.go (fun _ => XS.ifNo X126.here hx rfl (hb hby at_130) rfl ((if0 _ _).trans (tlt (by decide)).2.2.2)) ?_
      refine Home.run X126 hx hby sg0_133_2 (pc' := 136) (L' := #[.val (.int i0), .val (.int i1), .val (.int i2), .val (.int i3), .val (.int (1 : Int32)), .val rv_2, .val rv_3, .val rv_4, .val (.ref b5), .val (.ref b2_126)]) (S' := [(.int (0 : Int32)), (.ref b2_126)]) rfl ?_
      obtain ⟨cl128, Ar128, q128, S128, M128, H128, G128⟩ := id P126_0
      have i128 : ¬ ((0 : Int32) < 0 ∨ cl128.slots.size ≤ ((0 : Int32)).toNatClampNeg) := inb_of S128 ⟨by decide, by decide⟩
      refine Home.go (X126.aaload hx (j := (0 : Int32)) (v := rv_2) Ar128.1 (State.isArrayOf_alike hZ.alike Ar128.2.1) rfl Ar128.2.2 i128 (Has.at H128 i128 rfl) rfl rfl (hb hby at_136)) ?_
      show Home T126 (mkF m 137 #[.val (.int i0), .val (.int i1), .val (.int i2), .val (.int i3), .val (.int (1 : Int32)), .val rv_2, .val rv_3, .val rv_4, .val (.ref b5), .val (.ref b2_126)] [rv_2])
      refine Home.go (fun _ => XS.aload X126.here hx rfl (hb hby at_137) rfl (isr_rv_2)) ?_
      have q129 := (Nul.keep q125 K126q)
      refine Home.st (own_pure (own_static X126 hx hZ hown (own_w158 hw) (own_w159 hw) (own_w3 hw) (own_w160 hw) (by decide) (rm26_0 l Z a0 hw [] rv_2 T126.heap n0 O126 isr_rv_2 q129) rfl rfl (by rw [hml]; rfl) (argsL := [rv_2, rv_2]) (rest := []) (lenOf own_pd19 rfl) rfl rfl (W := 0) (by show 2 * 0 + _ ≤ _; exact Nat.le_of_eq rfl) (by decide) (by decide) (hb hby at_139) (by decide) (by decide))) fun T130 X130 e130 => ?_
      refine Home.go (fun _ => XS.ifYes X130.here hx rfl (pc0 := 142) (pc' := 147) rfl (hb hby at_142) rfl ((if0 _ _).trans (feq (by decide)).2) (by decide) (by decide)) ?_
      refine Home.run X130 hx hby sg0_147_2 (pc' := 150) (L' := #[.val (.int i0), .val (.int i1), .val (.int i2), .val (.int i3), .val (.int (1 : Int32)), .val rv_2, .val rv_3, .val rv_4, .val (.ref b5), .val (.ref b2_126)]) (S' := [(.int (1 : Int32)), (.int (1 : Int32))]) rfl ?_
      refine Home.go (fun _ => XS.icmpYes X130.here hx rfl (pc0 := 150) (pc' := 167) rfl (hb hby at_150) rfl (flt (by decide)).2.2.2 (by decide) (by decide)) ?_
      refine Home.run X130 hx hby sg0_167_2 (pc' := 170) (L' := #[.val (.int i0), .val (.int i1), .val (.int i2), .val (.int i3), .val (.int (1 : Int32)), .val rv_2, .val rv_3, .val rv_4, .val (.ref b5), .val (.ref b2_126)]) (S' := [(.int (2 : Int32)), (.int (1 : Int32))]) rfl ?_
      refine Home.go (fun _ => XS.icmpYes X130.here hx rfl (pc0 := 170) (pc' := 187) rfl (hb hby at_170) rfl (flt (by decide)).2.2.2 (by decide) (by decide)) ?_
      refine Home.run X130 hx hby sg0_187_1 (pc' := 188) (L' := #[.val (.int i0), .val (.int i1), .val (.int i2), .val (.int i3), .val (.int (1 : Int32)), .val rv_2, .val rv_3, .val rv_4, .val (.ref b5), .val (.ref b2_126)]) (S' := [(.int (1 : Int32))]) rfl ?_
      exact Home.retN X130 hx hlk (t := .boolean) hret (by simp) (hb hby at_188) ⟨rfl, N126⟩ (by decide) (by decide)
  · skip
    refine Home.go (fun _ => XS.ifYes X6.here hx rfl (pc0 := 37) (pc' := 58) rfl (hb hby at_37) rfl ((if0 _ _).trans (flt c9).2.2.2) (by decide) (by decide)) ?_
    have bd11 : ¬ v1 < (0 : Int32) ∧ ¬ (0 : Int32) < v1 := ⟨bv1.1, c9⟩
    have fx12 : v1 = (0 : Int32) := bnd_fix bd11
    try rw [fx12]
    show Home T6 (mkF m 58 #[.val (.int i0), .val (.int i1), .val (.int i2), .val (.int i3), .val (.int (0 : Int32)), .val rv_2, .val rv_3, .val rv_4, .val (.ref b5), .unset] [])
    refine Home.run X6 hx hby sg0_58_2 (pc' := 61) (L' := #[.val (.int i0), .val (.int i1), .val (.int i2), .val (.int i3), .val (.int (0 : Int32)), .val rv_2, .val rv_3, .val rv_4, .val (.ref b5), .unset]) (S' := [(.int (1 : Int32)), (.int (0 : Int32))]) rfl ?_
    refine Home.go (fun _ => XS.icmpYes X6.here hx rfl (pc0 := 61) (pc' := 82) rfl (hb hby at_61) rfl (flt (by decide)).2.2.2 (by decide) (by decide)) ?_
    refine Home.run X6 hx hby sg0_82_2 (pc' := 85) (L' := #[.val (.int i0), .val (.int i1), .val (.int i2), .val (.int i3), .val (.int (0 : Int32)), .val rv_2, .val rv_3, .val rv_4, .val (.ref b5), .unset]) (S' := [(.int (2 : Int32)), (.int (0 : Int32))]) rfl ?_
    refine Home.go (fun _ => XS.icmpYes X6.here hx rfl (pc0 := 85) (pc' := 106) rfl (hb hby at_85) rfl (flt (by decide)).2.2.2 (by decide) (by decide)) ?_
    refine Home.run X6 hx hby sg0_106_1 (pc' := 108) (L' := #[.val (.int i0), .val (.int i1), .val (.int i2), .val (.int i3), .val (.int (0 : Int32)), .val rv_2, .val rv_3, .val rv_4, .val (.ref b5), .unset]) (S' := [(.ref b5)]) rfl ?_
    refine Home.call (own_static X6 hx hZ hown (own_w59 hw) (own_w60 hw) (own_w61 hw) (own_w62 hw) (by decide) (rm11_3 l Z a0 hw [] b5 T6.heap n0 O6 P6_0 P6_3) rfl rfl (by rw [hml]; rfl) (argsL := [(.ref b5)]) (rest := []) (lenOf own_pd18 rfl) rfl rfl (W := 0) (by show 2 * 0 + _ ≤ _; exact Nat.le_of_eq rfl) (by decide) (by decide) (hb hby at_108) (by decide) (by decide)) ?_
    rintro _ T131 L131 X131 ⟨b2_131, k2_131, rfl, N131q, sz_b2_131, K131q, P131_0, P131_1⟩
    have g_b2_131 : n0 ≤ b2_131 := Nat.le_trans (Old.le O6) sz_b2_131
    have O131 := Old.keep O6 K131q all0
    have K131 : Keep h0 T131.heap ([] : List Addr) := Keep.trans K6 K131q all0
    have N131 := Fr.app N6 N131q
    show Home T131 (mkF m 111 #[.val (.int i0), .val (.int i1), .val (.int i2), .val (.int i3), .val (.int (0 : Int32)), .val rv_2, .val rv_3, .val rv_4, .val (.ref b5), .unset] [(.ref b2_131)])
    refine Home.run X131 hx hby sg0_111_2 (pc' := 115) (L' := #[.val (.int i0), .val (.int i1), .val (.int i2), .val (.int i3), .val (.int (0 : Int32)), .val rv_2, .val rv_3, .val rv_4, .val (.ref b5), .val (.ref b2_131)]) (S' := [(.ref b2_131)]) rfl ?_
    refine Home.go (fun _ => XS.ifnullNo X131.here hx rfl (hb hby at_115) rfl) ?_
    show Home T131 (mkF m 118 #[.val (.int i0), .val (.int i1), .val (.int i2), .val (.int i3), .val (.int (0 : Int32)), .val rv_2, .val rv_3, .val rv_4, .val (.ref b5), .val (.ref b2_131)] [])
    refine Home.run X131 hx hby sg0_118_1 (pc' := 120) (L' := #[.val (.int i0), .val (.int i1), .val (.int i2), .val (.int i3), .val (.int (0 : Int32)), .val rv_2, .val rv_3, .val rv_4, .val (.ref b5), .val (.ref b2_131)]) (S' := [(.ref b2_131)]) rfl ?_
    obtain ⟨cl132, Ar132, q132, S132, M132, H132, G132⟩ := id P131_0
    refine Home.go (own_alen X131 hx hZ rfl Ar132 S132 M132 rfl rfl (hb hby at_120)) ?_
    refine Home.run X131 hx hby sg0_121_1 (pc' := 123) (L' := #[.val (.int i0), .val (.int i1), .val (.int i2), .val (.int i3), .val (.int (0 : Int32)), .val rv_2, .val rv_3, .val rv_4, .val (.ref b5), .val (.ref b2_131)]) (S' := [(.int (0 : Int32)), (.int (0 : Int32))]) rfl ?_
    refine Home.go (fun _ => XS.icmpYes X131.here hx rfl (pc0 := 123) (pc' := 128) rfl (hb hby at_123) rfl (teq (by decide)).1 (by decide) (by decide)) ?_
    refine Home.run X131 hx hby sg0_128_1 (pc' := 130) (L' := #[.val (.int i0), .val (.int i1), .val (.int i2), .val (.int i3), .val (.int (0 : Int32)), .val rv_2, .val rv_3, .val rv_4, .val (.ref b5), .val (.ref b2_131)]) (S' := [(.int (0 : Int32))]) rfl ?_
    refine Home.go (fun _ => XS.ifYes X131.here hx rfl (pc0 := 130) (pc' := 147) rfl (hb hby at_130) rfl ((if0 _ _).trans (flt (by decide)).2.2.2) (by decide) (by decide)) ?_
    refine Home.run X131 hx hby sg0_147_2 (pc' := 150) (L' := #[.val (.int i0), .val (.int i1), .val (.int i2), .val (.int i3), .val (.int (0 : Int32)), .val rv_2, .val rv_3, .val rv_4, .val (.ref b5), .val (.ref b2_131)]) (S' := [(.int (1 : Int32)), (.int (0 : Int32))]) rfl ?_
    refine Home.go (fun _ => XS.icmpYes X131.here hx rfl (pc0 := 150) (pc' := 167) rfl (hb hby at_150) rfl (flt (by decide)).2.2.2 (by decide) (by decide)) ?_
    refine Home.run X131 hx hby sg0_167_2 (pc' := 170) (L' := #[.val (.int i0), .val (.int i1), .val (.int i2), .val (.int i3), .val (.int (0 : Int32)), .val rv_2, .val rv_3, .val rv_4, .val (.ref b5), .val (.ref b2_131)]) (S' := [(.int (2 : Int32)), (.int (0 : Int32))]) rfl ?_
    refine Home.go (fun _ => XS.icmpYes X131.here hx rfl (pc0 := 170) (pc' := 187) rfl (hb hby at_170) rfl (flt (by decide)).2.2.2 (by decide) (by decide)) ?_
    refine Home.run X131 hx hby sg0_187_1 (pc' := 188) (L' := #[.val (.int i0), .val (.int i1), .val (.int i2), .val (.int i3), .val (.int (0 : Int32)), .val rv_2, .val rv_3, .val rv_4, .val (.ref b5), .val (.ref b2_131)]) (S' := [(.int (1 : Int32))]) rfl ?_
    exact Home.retN X131 hx hlk (t := .boolean) hret (by simp) (hb hby at_188) ⟨rfl, N131⟩ (by decide) (by decide)
set_option maxRecDepth 65536 in
set_option maxHeartbeats 40000000 in
theorem comes_1 {Post : Tables → Env → Array Value → State → Outcome → State → Prop} (hpost : ∀ tb e args s v u, (limb_1_1.after args s (.returned v) u = true ∧ limb_1_2.after args s (.returned v) u = true ∧ True) → FrameEnd s (.returned v) u (Jvm.fieldLocs frame_1_writes args s ++ Jvm.arrayLocs frame_1_arrays args s ++ Jvm.staticLocs frame_1_statics s) 40 192 → Post tb e args s (.returned v) u) :
    ArmFor flags0 classFile x code maxLocals ret World_1 tables_1 room_1 Calls_1 rest_1 Pre_1 Post := by
  intro l hfl _ _ p e ha hc hk s m args below hf hA hF happ hP
  obtain ⟨hcalls, hrest, hpre⟩ := hP
  obtain ⟨-, -, -, hnamed, -, -, -, hat⟩ := (Spec.applies_iff hf).mp happ
  obtain ⟨hg, hn⟩ := and_e (Cond.before_iff.mp (show (Jvm.Cond.and given_1 narrow_1).before args s = true from hpre))
  obtain ⟨gg1, gg2⟩ := and_e hg
  obtain ⟨gg3, gg4⟩ := and_e gg2
  obtain ⟨gg5, gg6⟩ := and_e gg4
  obtain ⟨gg7, gg8⟩ := and_e gg6
  obtain ⟨w0, w1, w2, w3, rfl⟩ : ∃ w0 w1 w2 w3 : Value, args = #[w0, w1, w2, w3] := by
    have hs : args.size = 4 := by simpa [Cond.value, given_1] using gg1
    obtain ⟨L⟩ := args
    match L, hs with
    | [w0, w1, w2, w3], _ => exact ⟨w0, w1, w2, w3, rfl⟩
  have hw := fun d (hd : d ∈ tables_1) => atoms_spec (ws := Jvm.Cond.code x code maxLocals ret :: tables_1) hat d (List.mem_cons_of_mem _ hd)
  have hfit : Fit s := fun {y c} hc i hi => by
    obtain ⟨ha, rfl⟩ := Array.getElem?_eq_some_iff.mp hc
    have q := List.all_eq_true.mp ((Array.all_eq_true_iff_forall_mem.mp hF) _ (Array.getElem_mem ha)) i (List.mem_range.mpr hi)
    simpa [Array.getElem?_eq_getElem hi] using q
  obtain ⟨hsets, hown0⟩ := atoms_of _ (rest_1_c_eq ▸ (show rest_1_c.before _ s = true from hrest))
  have hr0 := Cond.before_iff.mp hown0
  obtain ⟨i0, ei0⟩ := is_v gg3
  obtain rfl : w0 = (.int i0) := Option.some.inj ei0
  obtain ⟨i1, ei1⟩ := is_v gg5
  obtain rfl : w1 = (.int i1) := Option.some.inj ei1
  obtain ⟨i2, ei2⟩ := is_v gg7
  obtain rfl : w2 = (.int i2) := Option.some.inj ei2
  obtain ⟨i3, ei3⟩ := is_v gg8
  obtain rfl : w3 = (.int i3) := Option.some.inj ei3
  obtain ⟨sv_COMPACT_STRINGS, v_cs⟩ := is_v (Cond.before_iff.mp (hsets _ (List.mem_of_getElem? (i := 1) rfl)))
  have S_COMPACT_STRINGS := Sta.start v_cs (Or.inl (hsets _ (List.mem_of_getElem? (i := 0) rfl)))
  have hCS : ¬ (sv_COMPACT_STRINGS = (0 : Int32)) := gotF (Cond.eq_ints v_cs (Term.int_eval 0)) (not_v (Cond.before_iff.mp (hsets _ (List.mem_of_getElem? (i := 2) rfl))))
  obtain ⟨sv_DEFAULTCAPACITY_EMPTY_ELEMENTDATA, v_de⟩ := arr_v (Cond.before_iff.mp (hsets _ (List.mem_of_getElem? (i := 15) rfl)))
  have S_DEFAULTCAPACITY_EMPTY_ELEMENTDATA := Sta.start v_de (Or.inr ⟨(own_w37 hw), (hsets _ (List.mem_of_getElem? (i := 11) rfl))⟩)
  obtain ⟨cde, A_de⟩ := Arr.start v_de (Cond.before_iff.mp (hsets _ (List.mem_of_getElem? (i := 15) rfl)))
  obtain ⟨de1, de2⟩ := own_lenk v_de A_de (Cond.before_iff.mp (hsets _ (List.mem_of_getElem? (i := 17) rfl)))
  have V_de := Arv.start (vs := []) (dv := .null) hfit A_de de1 de2 (by decide) rfl trivial
  obtain ⟨n, o, h1, h2, h3, _, L, rfl, ⟨rfl, N⟩, hq⟩ := rm0 l s _ hw tables_1 i0 i1 i2 i3 sv_COMPACT_STRINGS sv_DEFAULTCAPACITY_EMPTY_ELEMENTDATA cde.cls s.heap s.heap.size (Old.start s) S_COMPACT_STRINGS hCS S_DEFAULTCAPACITY_EMPTY_ELEMENTDATA V_de p e ha hc hk s m _ below hf ((Spec.applies_iff_loose hf).mp happ).1 ⟨rfl, State.Warmed39.refl s, rfl⟩ trivial
  refine ⟨n, _, h1, h2, h3, hpost _ _ _ _ _ _ ⟨Cond.after_iff.mpr rfl, Cond.after_iff.mpr (eq_i res_at (Term.int_eval (1)) rfl), trivial⟩ ⟨hq.1, hq.2.1, (hq.2.2.sift fun y hy => Or.inr (N y hy)).mono (by decide) (by decide)⟩⟩
theorem main_1_1 : Claimed_1_1 := comes_1 fun _ _ _ _ _ _ h hF => ⟨h.1, hF⟩
theorem main_1_2 : Claimed_1_2 := comes_1 fun _ _ _ _ _ _ h hF => ⟨h.2.1, hF⟩
end Jvm.Pilot.@@N@@
namespace Jvm.Pilot.@@N@@
open Jvm Jvm.ClassFile Sem Op Lib Jvm.Free Jvm.Stand Jvm.Pilot.@@N@@.Jvm.D
/-! MADE BY PROGRAM (witnessworld.py) out of the Statement's table words and the real class files: 33 classes; the members and pool entries that the words name. The judged class is class 1, her method 1. -/
namespace start1
open Jvm.ClassFile
def u (s : String) : CpInfo := .utf8 (stringToUtf16 s)
/-- a pool by its gaps: so many unusable entries, then the entry; so many at the end -/
def gap : Nat → List CpInfo → List CpInfo
  | 0, r => r
  | n + 1, r => .unusable :: gap n r
def poolList (es : List (Nat × CpInfo)) (last : Nat) : List CpInfo := es.foldr (fun e r => gap e.1 (e.2 :: r)) (gap last [])
def pool (es : List (Nat × CpInfo)) (last : Nat) : Array CpInfo := ⟨poolList es last⟩
def fileOf (pool : Array CpInfo) (this : Nat) (attrs : Array Attribute := #[]) (ms : Array MethodInfo := #[]) (fl : Nat := 33) (sup : Nat := 0) (ifs : Array Nat := #[]) (fds : Array FieldInfo := #[]) : ClassFile where
  minorVersion := 0
  majorVersion := 65
  constantPool := pool
  accessFlags := fl
  thisClass := this
  superClass := sup
  interfaces := ifs
  fields := fds
  methods := ms
  attributes := attrs
def plain (name : String) (sup : Option ClassId) : Class where
  name := name
  kind := .ordinary
  loader := none
  accessFlags := 33
  super := sup
  interfaces := #[]
  cf := none
  fields := #[]
  methods := #[]
  instanceTypes := #[]
  staticTypes := #[]
  resolved := #[]
  callSites := []
  init := .initialized
  statics := none
  mirror := none

def pool0 : Array CpInfo := pool [(5, u "<init>"), (0, u "()V"), (1, .class_ 10), (1, u "java/lang/Object")] 113

def k0c0 : Code := { maxStack := 0, maxLocals := 1, code := object_method_1_code, exceptionTable := #[], attributes := #[] }
def k0m0 : Method := { name := "<init>", desc := "()V", sig := { parameters := [], returnType := none }, accessFlags := 1, code := some k0c0 }
/-- java/lang/Object -/
def k0 : Class := { plain "java/lang/Object" none with
  accessFlags := 33
  interfaces := #[]
  cf := some (fileOf pool0 8 #[] #[{ accessFlags := 1, nameIndex := 5, descriptorIndex := 6, attributes := #[] }] 33 0 #[] #[])
  fields := #[]
  methods := #[k0m0]
  instanceTypes := #[]
  staticTypes := #[]
  resolved := Array.replicate 124 none
  statics := none }

def pool1 : Array CpInfo := pool [(2, .class_ 4), (0, .nameAndType 5 6), (0, u "java/lang/Object"), (0, u "<init>"), (0, u "()V"), (0, .integer 2147483647), (0, .methodref 9 10), (0, .class_ 11), (0, .nameAndType 12 13), (0, u "com/example/wary_meter/warymeter/ColumnNamesPinLaw"), (0, u "draw"), (0, u "(I)Ljava/lang/String;"), (0, .class_ 15), (0, u "java/util/ArrayList"), (0, .methodref 14 3), (0, .class_ 18), (0, u "com/example/wary_meter/warymeter/Column"), (0, .methodref 17 20), (0, .nameAndType 5 21), (0, u "(Ljava/lang/String;Ljava/util/function/Function;)V"), (0, .interfaceMethodref 23 24), (0, .class_ 25), (0, .nameAndType 26 27), (0, u "java/util/List"), (0, u "add"), (0, u "(Ljava/lang/Object;)Z"), (0, .methodref 17 29), (0, .nameAndType 30 31), (0, u "names"), (0, u "(Ljava/util/List;)[Ljava/lang/String;"), (0, .methodref 9 33), (0, .nameAndType 34 35), (0, u "same"), (0, u "(Ljava/lang/String;Ljava/lang/String;)Z"), (0, .class_ 37), (0, u "java/lang/String"), (0, .methodref 36 39), (0, .nameAndType 5 40), (0, u "([C)V"), (0, .methodref 36 42), (0, .nameAndType 43 27), (0, u "equals"), (2, u "law"), (0, u "(IIII)Z")] 5

def k1m0 : Method := { name := "<init>", desc := "()V", sig := { parameters := [], returnType := none }, accessFlags := 1, code := none }
def k1c1 : Code := { maxStack := 5, maxLocals := 10, code := code, exceptionTable := #[], attributes := #[] }
def k1m1 : Method := { name := "law", desc := "(IIII)Z", sig := { parameters := [.int, .int, .int, .int], returnType := some .boolean }, accessFlags := 9, code := some k1c1 }
def k1c2 : Code := { maxStack := 4, maxLocals := 2, code := method_3_code, exceptionTable := #[], attributes := #[] }
def k1m2 : Method := { name := "draw", desc := "(I)Ljava/lang/String;", sig := { parameters := [.int], returnType := some (.object "java/lang/String") }, accessFlags := 10, code := some k1c2 }
def k1c3 : Code := { maxStack := 2, maxLocals := 2, code := method_4_code, exceptionTable := #[], attributes := #[] }
def k1m3 : Method := { name := "same", desc := "(Ljava/lang/String;Ljava/lang/String;)Z", sig := { parameters := [(.object "java/lang/String"), (.object "java/lang/String")], returnType := some .boolean }, accessFlags := 10, code := some k1c3 }
/-- com/example/wary_meter/warymeter/ColumnNamesPinLaw -/
def k1 : Class := { plain "com/example/wary_meter/warymeter/ColumnNamesPinLaw" (some 0) with
  accessFlags := 49
  interfaces := #[]
  cf := some (fileOf pool1 9 #[] #[{ accessFlags := 1, nameIndex := 5, descriptorIndex := 6, attributes := #[] }, { accessFlags := 9, nameIndex := 46, descriptorIndex := 47, attributes := #[] }, { accessFlags := 10, nameIndex := 12, descriptorIndex := 13, attributes := #[] }, { accessFlags := 10, nameIndex := 34, descriptorIndex := 35, attributes := #[] }] 49 2 #[] #[])
  fields := #[]
  methods := #[k1m0, k1m1, k1m2, k1m3]
  instanceTypes := #[]
  staticTypes := #[]
  resolved := Array.replicate 53 none
  statics := none }

def pool2 : Array CpInfo := pool [(1, .class_ 2), (0, u "java/io/Serializable"), (0, .class_ 4), (0, u "java/lang/Object")] 2

/-- java/io/Serializable -/
def k2 : Class := { plain "java/io/Serializable" (some 0) with
  accessFlags := 1537
  interfaces := #[]
  cf := some (fileOf pool2 1 #[] #[] 1537 3 #[] #[])
  fields := #[]
  methods := #[]
  instanceTypes := #[]
  staticTypes := #[]
  resolved := Array.replicate 7 none
  statics := none }

def pool3 : Array CpInfo := pool [(1, .class_ 2), (0, u "java/lang/Comparable"), (0, .class_ 4), (0, u "java/lang/Object")] 7

/-- java/lang/Comparable -/
def k3 : Class := { plain "java/lang/Comparable" (some 0) with
  accessFlags := 1537
  interfaces := #[]
  cf := some (fileOf pool3 1 #[] #[] 1537 3 #[] #[])
  fields := #[]
  methods := #[]
  instanceTypes := #[]
  staticTypes := #[]
  resolved := Array.replicate 12 none
  statics := none }

def pool4 : Array CpInfo := pool [(2, .class_ 4), (1, u "java/lang/CharSequence"), (42, .class_ 48), (0, u "java/lang/CharSequence$1CodePointIterator"), (10, .class_ 60), (0, u "java/lang/CharSequence$1CharIterator"), (5, .class_ 67), (0, u "java/lang/Object")] 63

/-- java/lang/CharSequence -/
def k4 : Class := { plain "java/lang/CharSequence" (some 0) with
  accessFlags := 1537
  interfaces := #[]
  cf := some (fileOf pool4 2 #[.nestMembers #[47, 59]] #[] 1537 66 #[] #[])
  fields := #[]
  methods := #[]
  instanceTypes := #[]
  staticTypes := #[]
  resolved := Array.replicate 131 none
  statics := none }

def pool5 : Array CpInfo := pool [(1, .class_ 2), (0, u "java/lang/constant/Constable"), (0, .class_ 4), (0, u "java/lang/Object")] 6

/-- java/lang/constant/Constable -/
def k5 : Class := { plain "java/lang/constant/Constable" (some 0) with
  accessFlags := 1537
  interfaces := #[]
  cf := some (fileOf pool5 1 #[] #[] 1537 3 #[] #[])
  fields := #[]
  methods := #[]
  instanceTypes := #[]
  staticTypes := #[]
  resolved := Array.replicate 11 none
  statics := none }

def pool6 : Array CpInfo := pool [(1, .class_ 2), (0, u "java/lang/constant/ConstantDesc"), (0, .class_ 4), (0, u "java/lang/Object")] 32

/-- java/lang/constant/ConstantDesc -/
def k6 : Class := { plain "java/lang/constant/ConstantDesc" (some 0) with
  accessFlags := 1537
  interfaces := #[]
  cf := some (fileOf pool6 1 #[] #[] 1537 3 #[] #[])
  fields := #[]
  methods := #[]
  instanceTypes := #[]
  staticTypes := #[]
  resolved := Array.replicate 37 none
  statics := none }

def pool7 : Array CpInfo := pool [(1, .methodref 2 3), (0, .class_ 4), (0, .nameAndType 5 6), (0, u "java/lang/Object"), (0, u "<init>"), (0, u "()V"), (2, .fieldref 10 11), (0, .class_ 12), (0, .nameAndType 13 14), (0, u "java/lang/String"), (0, u "value"), (0, u "[B"), (0, .fieldref 10 16), (0, .nameAndType 17 18), (0, u "coder"), (0, u "B"), (2, u "hash"), (0, u "I"), (2, u "hashIsZero"), (0, u "Z"), (0, .methodref 10 28), (0, .nameAndType 5 29), (0, u "([CIILjava/lang/Void;)V"), (8, .fieldref 10 39), (0, .nameAndType 40 26), (0, u "COMPACT_STRINGS"), (1, .class_ 44), (1, u "java/lang/StringUTF16"), (0, u "compress"), (1, .methodref 42 48), (0, .nameAndType 49 50), (0, u "coderFromArrayLen"), (0, u "([BI)B"), (126, .methodref 42 178), (0, .nameAndType 45 179), (0, u "([CII)[B"), (363, u "equals"), (29, u "(Ljava/lang/Object;)Z"), (1, .class_ 576), (0, u "java/lang/CharSequence"), (22, u "CASE_INSENSITIVE_ORDER"), (0, u "Ljava/util/Comparator;"), (409, u "([C)V"), (90, u "serialPersistentFields"), (0, u "[Ljava/io/ObjectStreamField;"), (0, .class_ 1104), (0, u "java/lang/String$CaseInsensitiveComparator"), (1, .class_ 1107), (0, u "java/io/Serializable"), (0, .class_ 1109), (0, u "java/lang/Comparable"), (0, .class_ 1111), (0, u "java/lang/constant/Constable"), (0, .class_ 1113), (0, u "java/lang/constant/ConstantDesc"), (2, u "serialVersionUID"), (0, u "J"), (3, u "REPL"), (0, u "C"), (2, u "LATIN1"), (1, u "UTF16")] 323

def k7m0 : Method := { name := "<init>", desc := "()V", sig := { parameters := [], returnType := none }, accessFlags := 1, code := none }
def k7c1 : Code := { maxStack := 5, maxLocals := 2, code := jdk_42_method_3_code, exceptionTable := #[], attributes := #[] }
def k7m1 : Method := { name := "<init>", desc := "([C)V", sig := { parameters := [(.array .char)], returnType := none }, accessFlags := 1, code := some k7c1 }
def k7c2 : Code := { maxStack := 2, maxLocals := 3, code := jdk_42_method_66_code, exceptionTable := #[], attributes := #[] }
def k7m2 : Method := { name := "equals", desc := "(Ljava/lang/Object;)Z", sig := { parameters := [(.object "java/lang/Object")], returnType := some .boolean }, accessFlags := 1, code := some k7c2 }
def k7c3 : Code := { maxStack := 4, maxLocals := 6, code := jdk_42_method_149_code, exceptionTable := #[], attributes := #[] }
def k7m3 : Method := { name := "<init>", desc := "([CIILjava/lang/Void;)V", sig := { parameters := [(.array .char), .int, .int, (.object "java/lang/Void")], returnType := none }, accessFlags := 2, code := some k7c3 }
/-- java/lang/String -/
def k7 : Class := { plain "java/lang/String" (some 0) with
  accessFlags := 49
  interfaces := #[2, 3, 4, 5, 6]
  cf := some (fileOf pool7 10 #[.nestMembers #[1103]] #[{ accessFlags := 1, nameIndex := 5, descriptorIndex := 6, attributes := #[] }, { accessFlags := 1, nameIndex := 5, descriptorIndex := 1010, attributes := #[] }, { accessFlags := 1, nameIndex := 543, descriptorIndex := 573, attributes := #[] }, { accessFlags := 2, nameIndex := 5, descriptorIndex := 29, attributes := #[] }] 49 2 #[1106, 1108, 575, 1110, 1112] #[{ accessFlags := 18, nameIndex := 13, descriptorIndex := 14, attributes := #[] }, { accessFlags := 18, nameIndex := 17, descriptorIndex := 18, attributes := #[] }, { accessFlags := 2, nameIndex := 21, descriptorIndex := 22, attributes := #[] }, { accessFlags := 2, nameIndex := 25, descriptorIndex := 26, attributes := #[] }, { accessFlags := 26, nameIndex := 1116, descriptorIndex := 1117, attributes := #[] }, { accessFlags := 24, nameIndex := 40, descriptorIndex := 26, attributes := #[] }, { accessFlags := 26, nameIndex := 1101, descriptorIndex := 1102, attributes := #[] }, { accessFlags := 26, nameIndex := 1121, descriptorIndex := 1122, attributes := #[] }, { accessFlags := 25, nameIndex := 599, descriptorIndex := 600, attributes := #[] }, { accessFlags := 24, nameIndex := 1125, descriptorIndex := 18, attributes := #[] }, { accessFlags := 24, nameIndex := 1127, descriptorIndex := 18, attributes := #[] }])
  fields := #[{ name := "value", type := (.array .byte), accessFlags := 18, slot := 0, constantValue := 0 }, { name := "coder", type := .byte, accessFlags := 18, slot := 1, constantValue := 0 }, { name := "hash", type := .int, accessFlags := 2, slot := 2, constantValue := 0 }, { name := "hashIsZero", type := .boolean, accessFlags := 2, slot := 3, constantValue := 0 }, { name := "serialVersionUID", type := .long, accessFlags := 26, slot := 0, constantValue := 0 }, { name := "COMPACT_STRINGS", type := .boolean, accessFlags := 24, slot := 1, constantValue := 0 }, { name := "serialPersistentFields", type := (.array (.object "java/io/ObjectStreamField")), accessFlags := 26, slot := 2, constantValue := 0 }, { name := "REPL", type := .char, accessFlags := 26, slot := 3, constantValue := 0 }, { name := "CASE_INSENSITIVE_ORDER", type := (.object "java/util/Comparator"), accessFlags := 25, slot := 4, constantValue := 0 }, { name := "LATIN1", type := .byte, accessFlags := 24, slot := 5, constantValue := 0 }, { name := "UTF16", type := .byte, accessFlags := 24, slot := 6, constantValue := 0 }]
  methods := #[k7m0, k7m1, k7m2, k7m3]
  instanceTypes := #[(.array .byte), .byte, .int, .boolean]
  staticTypes := #[.long, .boolean, (.array (.object "java/io/ObjectStreamField")), .char, (.object "java/util/Comparator"), .byte, .byte]
  resolved := Array.replicate 1451 none
  statics := some 0 }

def pool8 : Array CpInfo := pool [(6, .class_ 8), (1, u "java/lang/Object"), (0, u "<init>"), (0, u "()V"), (1, .class_ 14), (1, u "java/lang/StringUTF16"), (31, u "$assertionsDisabled"), (0, u "Z"), (13, u "HI_BYTE_SHIFT"), (0, u "I"), (2, u "LO_BYTE_SHIFT"), (49, .methodref 12 116), (0, .nameAndType 117 118), (0, u "compress"), (0, u "([CI[BII)I"), (3, u "([CII)[B"), (138, u "coderFromArrayLen"), (0, u "([BI)B"), (106, .class_ 371), (1, u "java/lang/StringUTF16$LinesSpliterator"), (58, u "MAX_LENGTH"), (196, .class_ 628), (0, u "java/lang/StringUTF16$CodePointsSpliterator"), (0, .class_ 630), (0, u "java/lang/StringUTF16$CharsSpliterator")] 4

def k8m0 : Method := { name := "<init>", desc := "()V", sig := { parameters := [], returnType := none }, accessFlags := 0, code := none }
def k8c1 : Code := { maxStack := 2, maxLocals := 2, code := jdk_52_method_15_code, exceptionTable := #[], attributes := #[] }
def k8m1 : Method := { name := "coderFromArrayLen", desc := "([BI)B", sig := { parameters := [(.array .byte), .int], returnType := some .byte }, accessFlags := 8, code := some k8c1 }
def k8c2 : Code := { maxStack := 5, maxLocals := 6, code := jdk_52_method_16_code, exceptionTable := #[], attributes := #[] }
def k8m2 : Method := { name := "compress", desc := "([CII)[B", sig := { parameters := [(.array .char), .int, .int], returnType := some (.array .byte) }, accessFlags := 9, code := some k8c2 }
def k8c3 : Code := { maxStack := 3, maxLocals := 7, code := jdk_52_method_21_code, exceptionTable := #[], attributes := #[] }
def k8m3 : Method := { name := "compress", desc := "([CI[BII)I", sig := { parameters := [(.array .char), .int, (.array .byte), .int, .int], returnType := some .int }, accessFlags := 9, code := some k8c3 }
/-- java/lang/StringUTF16 -/
def k8 : Class := { plain "java/lang/StringUTF16" (some 0) with
  accessFlags := 48
  interfaces := #[]
  cf := some (fileOf pool8 12 #[.nestMembers #[627, 629, 369]] #[{ accessFlags := 0, nameIndex := 9, descriptorIndex := 10, attributes := #[] }, { accessFlags := 8, nameIndex := 261, descriptorIndex := 262, attributes := #[] }, { accessFlags := 9, nameIndex := 117, descriptorIndex := 122, attributes := #[] }, { accessFlags := 9, nameIndex := 117, descriptorIndex := 118, attributes := #[] }] 48 6 #[] #[{ accessFlags := 26, nameIndex := 61, descriptorIndex := 62, attributes := #[] }, { accessFlags := 26, nameIndex := 65, descriptorIndex := 62, attributes := #[] }, { accessFlags := 24, nameIndex := 430, descriptorIndex := 62, attributes := #[] }, { accessFlags := 4120, nameIndex := 46, descriptorIndex := 47, attributes := #[] }])
  fields := #[{ name := "HI_BYTE_SHIFT", type := .int, accessFlags := 26, slot := 0, constantValue := 0 }, { name := "LO_BYTE_SHIFT", type := .int, accessFlags := 26, slot := 1, constantValue := 0 }, { name := "MAX_LENGTH", type := .int, accessFlags := 24, slot := 2, constantValue := 0 }, { name := "$assertionsDisabled", type := .boolean, accessFlags := 4120, slot := 3, constantValue := 0 }]
  methods := #[k8m0, k8m1, k8m2, k8m3]
  instanceTypes := #[]
  staticTypes := #[.int, .int, .int, .boolean]
  resolved := Array.replicate 635 none
  statics := none }

def pool9 : Array CpInfo := pool [(8, .class_ 10), (1, u "java/lang/Iterable"), (24, .class_ 36), (0, u "java/lang/Object")] 25

/-- java/lang/Iterable -/
def k9 : Class := { plain "java/lang/Iterable" (some 0) with
  accessFlags := 1537
  interfaces := #[]
  cf := some (fileOf pool9 8 #[] #[] 1537 35 #[] #[])
  fields := #[]
  methods := #[]
  instanceTypes := #[]
  staticTypes := #[]
  resolved := Array.replicate 62 none
  statics := none }

def pool10 : Array CpInfo := pool [(10, .class_ 12), (1, u "java/util/Collection"), (47, .class_ 61), (0, u "java/lang/Object"), (0, .class_ 63), (0, u "java/lang/Iterable")] 51

/-- java/util/Collection -/
def k10 : Class := { plain "java/util/Collection" (some 0) with
  accessFlags := 1537
  interfaces := #[9]
  cf := some (fileOf pool10 10 #[] #[] 1537 60 #[62] #[])
  fields := #[]
  methods := #[]
  instanceTypes := #[]
  staticTypes := #[]
  resolved := Array.replicate 115 none
  statics := none }

def pool11 : Array CpInfo := pool [(1, .methodref 2 3), (0, .class_ 4), (0, .nameAndType 5 6), (0, u "java/lang/Object"), (0, u "<init>"), (0, u "()V"), (1, .class_ 10), (1, u "java/util/AbstractCollection"), (66, .class_ 78), (0, u "java/util/Collection")] 81

def k11c0 : Code := { maxStack := 1, maxLocals := 1, code := jdk_22_method_1_code, exceptionTable := #[], attributes := #[] }
def k11m0 : Method := { name := "<init>", desc := "()V", sig := { parameters := [], returnType := none }, accessFlags := 4, code := some k11c0 }
/-- java/util/AbstractCollection -/
def k11 : Class := { plain "java/util/AbstractCollection" (some 0) with
  accessFlags := 1057
  interfaces := #[10]
  cf := some (fileOf pool11 8 #[] #[{ accessFlags := 4, nameIndex := 5, descriptorIndex := 6, attributes := #[] }] 1057 2 #[77] #[])
  fields := #[]
  methods := #[k11m0]
  instanceTypes := #[]
  staticTypes := #[]
  resolved := Array.replicate 160 none
  statics := none }

def pool12 : Array CpInfo := pool [(8, .class_ 10), (1, u "java/util/SequencedCollection"), (15, .class_ 27), (0, u "java/lang/Object"), (0, .class_ 29), (0, u "java/util/Collection")] 27

/-- java/util/SequencedCollection -/
def k12 : Class := { plain "java/util/SequencedCollection" (some 0) with
  accessFlags := 1537
  interfaces := #[10]
  cf := some (fileOf pool12 8 #[] #[] 1537 26 #[28] #[])
  fields := #[]
  methods := #[]
  instanceTypes := #[]
  staticTypes := #[]
  resolved := Array.replicate 57 none
  statics := none }

def pool13 : Array CpInfo := pool [(8, .class_ 10), (1, u "java/util/List"), (49, u "add"), (3, u "(Ljava/lang/Object;)Z"), (10, u "get"), (0, u "(I)Ljava/lang/Object;"), (2, u "size"), (0, u "()I"), (22, .class_ 104), (0, u "java/lang/Object"), (15, .class_ 121), (0, u "java/util/SequencedCollection")] 129

def k13m0 : Method := { name := "size", desc := "()I", sig := { parameters := [], returnType := some .int }, accessFlags := 1025, code := none }
def k13m1 : Method := { name := "add", desc := "(Ljava/lang/Object;)Z", sig := { parameters := [(.object "java/lang/Object")], returnType := some .boolean }, accessFlags := 1025, code := none }
def k13m2 : Method := { name := "get", desc := "(I)Ljava/lang/Object;", sig := { parameters := [.int], returnType := some (.object "java/lang/Object") }, accessFlags := 1025, code := none }
/-- java/util/List -/
def k13 : Class := { plain "java/util/List" (some 0) with
  accessFlags := 1537
  interfaces := #[12]
  cf := some (fileOf pool13 8 #[] #[{ accessFlags := 1025, nameIndex := 79, descriptorIndex := 80, attributes := #[] }, { accessFlags := 1025, nameIndex := 60, descriptorIndex := 64, attributes := #[] }, { accessFlags := 1025, nameIndex := 75, descriptorIndex := 76, attributes := #[] }] 1537 103 #[120] #[])
  fields := #[]
  methods := #[k13m0, k13m1, k13m2]
  instanceTypes := #[]
  staticTypes := #[]
  resolved := Array.replicate 251 none
  statics := none }

def pool14 : Array CpInfo := pool [(1, .methodref 2 3), (0, .class_ 4), (0, .nameAndType 5 6), (0, u "java/util/AbstractCollection"), (0, u "<init>"), (0, u "()V"), (0, .fieldref 8 9), (0, .class_ 10), (0, .nameAndType 11 12), (0, u "java/util/AbstractList"), (0, u "modCount"), (0, u "I"), (64, .class_ 78), (0, u "java/util/AbstractList$Itr"), (3, .class_ 83), (0, u "java/util/AbstractList$ListItr"), (9, .class_ 94), (0, u "java/util/AbstractList$RandomAccessSubList"), (3, .class_ 99), (0, u "java/util/AbstractList$SubList"), (33, .class_ 134), (0, u "java/util/List"), (73, .class_ 209), (0, u "java/util/AbstractList$SubList$1"), (0, .class_ 211), (0, u "java/util/AbstractList$RandomAccessSpliterator")] 6

def k14c0 : Code := { maxStack := 2, maxLocals := 1, code := jdk_39_method_1_code, exceptionTable := #[], attributes := #[] }
def k14m0 : Method := { name := "<init>", desc := "()V", sig := { parameters := [], returnType := none }, accessFlags := 4, code := some k14c0 }
/-- java/util/AbstractList -/
def k14 : Class := { plain "java/util/AbstractList" (some 11) with
  accessFlags := 1057
  interfaces := #[13]
  cf := some (fileOf pool14 8 #[.nestMembers #[93, 98, 208, 210, 82, 77]] #[{ accessFlags := 4, nameIndex := 5, descriptorIndex := 6, attributes := #[] }] 1057 2 #[133] #[{ accessFlags := 132, nameIndex := 11, descriptorIndex := 12, attributes := #[] }])
  fields := #[{ name := "modCount", type := .int, accessFlags := 132, slot := 0, constantValue := 0 }]
  methods := #[k14m0]
  instanceTypes := #[.int]
  staticTypes := #[]
  resolved := Array.replicate 218 none
  statics := none }

def pool15 : Array CpInfo := pool [(1, .class_ 2), (0, u "java/util/RandomAccess"), (0, .class_ 4), (0, u "java/lang/Object")] 2

/-- java/util/RandomAccess -/
def k15 : Class := { plain "java/util/RandomAccess" (some 0) with
  accessFlags := 1537
  interfaces := #[]
  cf := some (fileOf pool15 1 #[] #[] 1537 3 #[] #[])
  fields := #[]
  methods := #[]
  instanceTypes := #[]
  staticTypes := #[]
  resolved := Array.replicate 7 none
  statics := none }

def pool16 : Array CpInfo := pool [(1, .class_ 2), (0, u "java/lang/Cloneable"), (0, .class_ 4), (0, u "java/lang/Object")] 2

/-- java/lang/Cloneable -/
def k16 : Class := { plain "java/lang/Cloneable" (some 0) with
  accessFlags := 1537
  interfaces := #[]
  cf := some (fileOf pool16 1 #[] #[] 1537 3 #[] #[])
  fields := #[]
  methods := #[]
  instanceTypes := #[]
  staticTypes := #[]
  resolved := Array.replicate 7 none
  statics := none }

def pool17 : Array CpInfo := pool [(1, .methodref 2 3), (0, .class_ 4), (0, .nameAndType 5 6), (0, u "java/util/AbstractList"), (0, u "<init>"), (0, u "()V"), (0, .class_ 8), (0, u "java/lang/Object"), (0, .fieldref 10 11), (0, .class_ 12), (0, .nameAndType 13 14), (0, u "java/util/ArrayList"), (0, u "elementData"), (0, u "[Ljava/lang/Object;"), (2, u "EMPTY_ELEMENTDATA"), (21, .fieldref 10 40), (0, .nameAndType 41 14), (0, u "DEFAULTCAPACITY_EMPTY_ELEMENTDATA"), (5, u "()[Ljava/lang/Object;"), (0, .fieldref 10 49), (0, .nameAndType 50 51), (0, u "size"), (0, u "I"), (11, .fieldref 10 64), (0, .nameAndType 65 51), (0, u "modCount"), (3, .methodref 10 70), (0, .nameAndType 71 72), (0, u "grow"), (0, u "(I)[Ljava/lang/Object;"), (6, .methodref 80 81), (0, .class_ 82), (0, .nameAndType 83 84), (0, u "java/lang/Math"), (0, u "max"), (0, u "(II)I"), (11, u "(Ljava/lang/Object;)Z"), (21, .methodref 119 120), (0, .class_ 121), (0, .nameAndType 122 84), (0, u "java/util/Objects"), (0, u "checkIndex"), (0, .methodref 10 124), (0, .nameAndType 13 125), (0, u "(I)Ljava/lang/Object;"), (3, .methodref 10 130), (0, .nameAndType 71 47), (0, .methodref 10 132), (0, .nameAndType 133 134), (0, u "add"), (0, u "(Ljava/lang/Object;[Ljava/lang/Object;I)V"), (13, .class_ 149), (0, u "java/util/List"), (36, u "()I"), (75, .class_ 263), (0, u "java/util/ArrayList$ListItr"), (3, .class_ 268), (0, u "java/util/ArrayList$Itr"), (7, .class_ 277), (0, u "java/util/ArrayList$SubList"), (12, .class_ 291), (0, u "java/util/ArrayList$ArrayListSpliterator"), (37, .class_ 330), (0, u "java/util/RandomAccess"), (0, .class_ 332), (0, u "java/lang/Cloneable"), (0, .class_ 334), (0, u "java/io/Serializable"), (0, u "serialVersionUID"), (0, u "J"), (3, u "DEFAULT_CAPACITY"), (40, u "get"), (118, .class_ 501), (0, u "java/util/ArrayList$SubList$2"), (0, .class_ 503), (0, u "java/util/ArrayList$SubList$1")] 5

def k17c0 : Code := { maxStack := 2, maxLocals := 1, code := jdk_38_method_2_code, exceptionTable := #[], attributes := #[] }
def k17m0 : Method := { name := "<init>", desc := "()V", sig := { parameters := [], returnType := none }, accessFlags := 1, code := some k17c0 }
def k17c1 : Code := { maxStack := 4, maxLocals := 4, code := jdk_38_method_6_code, exceptionTable := #[], attributes := #[] }
def k17m1 : Method := { name := "grow", desc := "(I)[Ljava/lang/Object;", sig := { parameters := [.int], returnType := some (.array (.object "java/lang/Object")) }, accessFlags := 2, code := some k17c1 }
def k17c2 : Code := { maxStack := 3, maxLocals := 1, code := jdk_38_method_7_code, exceptionTable := #[], attributes := #[] }
def k17m2 : Method := { name := "grow", desc := "()[Ljava/lang/Object;", sig := { parameters := [], returnType := some (.array (.object "java/lang/Object")) }, accessFlags := 2, code := some k17c2 }
def k17c3 : Code := { maxStack := 1, maxLocals := 1, code := jdk_38_method_8_code, exceptionTable := #[], attributes := #[] }
def k17m3 : Method := { name := "size", desc := "()I", sig := { parameters := [], returnType := some .int }, accessFlags := 1, code := some k17c3 }
def k17c4 : Code := { maxStack := 2, maxLocals := 2, code := jdk_38_method_18_code, exceptionTable := #[], attributes := #[] }
def k17m4 : Method := { name := "elementData", desc := "(I)Ljava/lang/Object;", sig := { parameters := [.int], returnType := some (.object "java/lang/Object") }, accessFlags := 0, code := some k17c4 }
def k17c5 : Code := { maxStack := 2, maxLocals := 2, code := jdk_38_method_20_code, exceptionTable := #[], attributes := #[] }
def k17m5 : Method := { name := "get", desc := "(I)Ljava/lang/Object;", sig := { parameters := [.int], returnType := some (.object "java/lang/Object") }, accessFlags := 1, code := some k17c5 }
def k17c6 : Code := { maxStack := 3, maxLocals := 4, code := jdk_38_method_24_code, exceptionTable := #[], attributes := #[] }
def k17m6 : Method := { name := "add", desc := "(Ljava/lang/Object;[Ljava/lang/Object;I)V", sig := { parameters := [(.object "java/lang/Object"), (.array (.object "java/lang/Object")), .int], returnType := none }, accessFlags := 2, code := some k17c6 }
def k17c7 : Code := { maxStack := 4, maxLocals := 2, code := jdk_38_method_25_code, exceptionTable := #[], attributes := #[] }
def k17m7 : Method := { name := "add", desc := "(Ljava/lang/Object;)Z", sig := { parameters := [(.object "java/lang/Object")], returnType := some .boolean }, accessFlags := 1, code := some k17c7 }
/-- java/util/ArrayList -/
def k17 : Class := { plain "java/util/ArrayList" (some 14) with
  accessFlags := 33
  interfaces := #[13, 15, 16, 2]
  cf := some (fileOf pool17 10 #[.nestMembers #[290, 276, 500, 502, 262, 267]] #[{ accessFlags := 1, nameIndex := 5, descriptorIndex := 6, attributes := #[] }, { accessFlags := 2, nameIndex := 71, descriptorIndex := 72, attributes := #[] }, { accessFlags := 2, nameIndex := 71, descriptorIndex := 47, attributes := #[] }, { accessFlags := 1, nameIndex := 50, descriptorIndex := 186, attributes := #[] }, { accessFlags := 0, nameIndex := 13, descriptorIndex := 125, attributes := #[] }, { accessFlags := 1, nameIndex := 381, descriptorIndex := 125, attributes := #[] }, { accessFlags := 2, nameIndex := 133, descriptorIndex := 134, attributes := #[] }, { accessFlags := 1, nameIndex := 133, descriptorIndex := 96, attributes := #[] }] 33 2 #[148, 329, 331, 333] #[{ accessFlags := 26, nameIndex := 335, descriptorIndex := 336, attributes := #[] }, { accessFlags := 26, nameIndex := 340, descriptorIndex := 51, attributes := #[] }, { accessFlags := 26, nameIndex := 17, descriptorIndex := 14, attributes := #[] }, { accessFlags := 26, nameIndex := 41, descriptorIndex := 14, attributes := #[] }, { accessFlags := 128, nameIndex := 13, descriptorIndex := 14, attributes := #[] }, { accessFlags := 2, nameIndex := 50, descriptorIndex := 51, attributes := #[] }])
  fields := #[{ name := "serialVersionUID", type := .long, accessFlags := 26, slot := 0, constantValue := 0 }, { name := "DEFAULT_CAPACITY", type := .int, accessFlags := 26, slot := 1, constantValue := 0 }, { name := "EMPTY_ELEMENTDATA", type := (.array (.object "java/lang/Object")), accessFlags := 26, slot := 2, constantValue := 0 }, { name := "DEFAULTCAPACITY_EMPTY_ELEMENTDATA", type := (.array (.object "java/lang/Object")), accessFlags := 26, slot := 3, constantValue := 0 }, { name := "elementData", type := (.array (.object "java/lang/Object")), accessFlags := 128, slot := 1, constantValue := 0 }, { name := "size", type := .int, accessFlags := 2, slot := 2, constantValue := 0 }]
  methods := #[k17m0, k17m1, k17m2, k17m3, k17m4, k17m5, k17m6, k17m7]
  instanceTypes := #[.int, (.array (.object "java/lang/Object")), .int]
  staticTypes := #[.long, .int, (.array (.object "java/lang/Object")), (.array (.object "java/lang/Object"))]
  resolved := Array.replicate 509 none
  statics := some 1 }

def pool18 : Array CpInfo := pool [(1, .methodref 2 3), (0, .class_ 4), (0, .nameAndType 5 6), (0, u "java/lang/Object"), (0, u "<init>"), (0, u "()V"), (0, .class_ 8), (0, u "java/lang/Record")] 13

def k18c0 : Code := { maxStack := 1, maxLocals := 1, code := jdk_30_method_1_code, exceptionTable := #[], attributes := #[] }
def k18m0 : Method := { name := "<init>", desc := "()V", sig := { parameters := [], returnType := none }, accessFlags := 4, code := some k18c0 }
/-- java/lang/Record -/
def k18 : Class := { plain "java/lang/Record" (some 0) with
  accessFlags := 1057
  interfaces := #[]
  cf := some (fileOf pool18 7 #[] #[{ accessFlags := 4, nameIndex := 5, descriptorIndex := 6, attributes := #[] }] 1057 2 #[] #[])
  fields := #[]
  methods := #[k18m0]
  instanceTypes := #[]
  staticTypes := #[]
  resolved := Array.replicate 22 none
  statics := none }

def pool19 : Array CpInfo := pool [(1, .methodref 2 3), (0, .class_ 4), (0, .nameAndType 5 6), (0, u "java/lang/Record"), (0, u "<init>"), (0, u "()V"), (0, .fieldref 8 9), (0, .class_ 10), (0, .nameAndType 11 12), (0, u "com/example/wary_meter/warymeter/Column"), (0, u "name"), (0, u "Ljava/lang/String;"), (0, .fieldref 8 14), (0, .nameAndType 15 16), (0, u "value"), (0, u "Ljava/util/function/Function;"), (0, .fieldref 8 18), (0, .nameAndType 19 16), (0, u "key"), (0, .fieldref 8 21), (0, .nameAndType 22 16), (0, u "text"), (0, .methodref 8 24), (0, .nameAndType 5 25), (0, u "(Ljava/lang/String;Ljava/util/function/Function;Ljava/util/function/Function;Ljava/util/function/Function;)V"), (4, .interfaceMethodref 31 32), (0, .class_ 33), (0, .nameAndType 34 35), (0, u "java/util/List"), (0, u "size"), (0, u "()I"), (0, .class_ 37), (0, u "java/lang/String"), (0, .interfaceMethodref 31 39), (0, .nameAndType 40 41), (0, u "get"), (0, u "(I)Ljava/lang/Object;"), (0, .methodref 8 43), (0, .nameAndType 11 44), (0, u "()Ljava/lang/String;"), (59, u "(Ljava/lang/String;Ljava/util/function/Function;)V"), (8, u "names"), (0, u "(Ljava/util/List;)[Ljava/lang/String;")] 60

def k19c0 : Code := { maxStack := 5, maxLocals := 3, code := prog_3_method_1_code, exceptionTable := #[], attributes := #[] }
def k19m0 : Method := { name := "<init>", desc := "(Ljava/lang/String;Ljava/util/function/Function;)V", sig := { parameters := [(.object "java/lang/String"), (.object "java/util/function/Function")], returnType := none }, accessFlags := 0, code := some k19c0 }
def k19c1 : Code := { maxStack := 2, maxLocals := 5, code := prog_3_method_2_code, exceptionTable := #[], attributes := #[] }
def k19m1 : Method := { name := "<init>", desc := "(Ljava/lang/String;Ljava/util/function/Function;Ljava/util/function/Function;Ljava/util/function/Function;)V", sig := { parameters := [(.object "java/lang/String"), (.object "java/util/function/Function"), (.object "java/util/function/Function"), (.object "java/util/function/Function")], returnType := none }, accessFlags := 0, code := some k19c1 }
def k19c2 : Code := { maxStack := 4, maxLocals := 3, code := prog_3_method_4_code, exceptionTable := #[], attributes := #[] }
def k19m2 : Method := { name := "names", desc := "(Ljava/util/List;)[Ljava/lang/String;", sig := { parameters := [(.object "java/util/List")], returnType := some (.array (.object "java/lang/String")) }, accessFlags := 8, code := some k19c2 }
def k19c3 : Code := { maxStack := 1, maxLocals := 1, code := prog_3_method_10_code, exceptionTable := #[], attributes := #[] }
def k19m3 : Method := { name := "name", desc := "()Ljava/lang/String;", sig := { parameters := [], returnType := some (.object "java/lang/String") }, accessFlags := 1, code := some k19c3 }
/-- com/example/wary_meter/warymeter/Column -/
def k19 : Class := { plain "com/example/wary_meter/warymeter/Column" (some 18) with
  accessFlags := 48
  interfaces := #[]
  cf := some (fileOf pool19 8 #[] #[{ accessFlags := 0, nameIndex := 5, descriptorIndex := 104, attributes := #[] }, { accessFlags := 0, nameIndex := 5, descriptorIndex := 25, attributes := #[] }, { accessFlags := 8, nameIndex := 113, descriptorIndex := 114, attributes := #[] }, { accessFlags := 1, nameIndex := 11, descriptorIndex := 44, attributes := #[] }] 48 2 #[] #[{ accessFlags := 18, nameIndex := 11, descriptorIndex := 12, attributes := #[] }, { accessFlags := 18, nameIndex := 15, descriptorIndex := 16, attributes := #[] }, { accessFlags := 18, nameIndex := 19, descriptorIndex := 16, attributes := #[] }, { accessFlags := 18, nameIndex := 22, descriptorIndex := 16, attributes := #[] }])
  fields := #[{ name := "name", type := (.object "java/lang/String"), accessFlags := 18, slot := 0, constantValue := 0 }, { name := "value", type := (.object "java/util/function/Function"), accessFlags := 18, slot := 1, constantValue := 0 }, { name := "key", type := (.object "java/util/function/Function"), accessFlags := 18, slot := 2, constantValue := 0 }, { name := "text", type := (.object "java/util/function/Function"), accessFlags := 18, slot := 3, constantValue := 0 }]
  methods := #[k19m0, k19m1, k19m2, k19m3]
  instanceTypes := #[(.object "java/lang/String"), (.object "java/util/function/Function"), (.object "java/util/function/Function"), (.object "java/util/function/Function")]
  staticTypes := #[]
  resolved := Array.replicate 175 none
  statics := none }

def pool20 : Array CpInfo := pool [(1, .class_ 2), (0, u "java/lang/Math"), (1, .class_ 6), (1, u "java/lang/Object"), (0, u "<init>"), (0, u "()V"), (89, .class_ 100), (1, u "java/lang/Math$RandomNumberGeneratorHolder"), (71, u "negativeZeroFloatBits"), (0, u "J"), (2, u "negativeZeroDoubleBits"), (21, u "max"), (46, u "$assertionsDisabled"), (0, u "Z"), (88, u "(II)I"), (2, u "twoToTheDoubleScaleDown"), (0, u "D"), (4, u "twoToTheDoubleScaleUp"), (9, u "E"), (3, u "PI"), (2, u "TAU"), (2, u "DEGREES_TO_RADIANS"), (0, u "RADIANS_TO_DEGREES")] 94

def k20m0 : Method := { name := "<init>", desc := "()V", sig := { parameters := [], returnType := none }, accessFlags := 2, code := none }
def k20c1 : Code := { maxStack := 2, maxLocals := 2, code := jdk_29_method_65_code, exceptionTable := #[], attributes := #[] }
def k20m1 : Method := { name := "max", desc := "(II)I", sig := { parameters := [.int, .int], returnType := some .int }, accessFlags := 9, code := some k20c1 }
/-- java/lang/Math -/
def k20 : Class := { plain "java/lang/Math" (some 0) with
  accessFlags := 49
  interfaces := #[]
  cf := some (fileOf pool20 1 #[.nestMembers #[98]] #[{ accessFlags := 2, nameIndex := 7, descriptorIndex := 8, attributes := #[] }, { accessFlags := 9, nameIndex := 198, descriptorIndex := 335, attributes := #[] }] 49 4 #[] #[{ accessFlags := 25, nameIndex := 354, descriptorIndex := 339, attributes := #[] }, { accessFlags := 25, nameIndex := 358, descriptorIndex := 339, attributes := #[] }, { accessFlags := 25, nameIndex := 361, descriptorIndex := 339, attributes := #[] }, { accessFlags := 26, nameIndex := 364, descriptorIndex := 339, attributes := #[] }, { accessFlags := 26, nameIndex := 365, descriptorIndex := 339, attributes := #[] }, { accessFlags := 26, nameIndex := 172, descriptorIndex := 173, attributes := #[] }, { accessFlags := 26, nameIndex := 176, descriptorIndex := 173, attributes := #[] }, { accessFlags := 8, nameIndex := 344, descriptorIndex := 339, attributes := #[] }, { accessFlags := 8, nameIndex := 338, descriptorIndex := 339, attributes := #[] }, { accessFlags := 4120, nameIndex := 245, descriptorIndex := 246, attributes := #[] }])
  fields := #[{ name := "E", type := .double, accessFlags := 25, slot := 0, constantValue := 0 }, { name := "PI", type := .double, accessFlags := 25, slot := 1, constantValue := 0 }, { name := "TAU", type := .double, accessFlags := 25, slot := 2, constantValue := 0 }, { name := "DEGREES_TO_RADIANS", type := .double, accessFlags := 26, slot := 3, constantValue := 0 }, { name := "RADIANS_TO_DEGREES", type := .double, accessFlags := 26, slot := 4, constantValue := 0 }, { name := "negativeZeroFloatBits", type := .long, accessFlags := 26, slot := 5, constantValue := 0 }, { name := "negativeZeroDoubleBits", type := .long, accessFlags := 26, slot := 6, constantValue := 0 }, { name := "twoToTheDoubleScaleUp", type := .double, accessFlags := 8, slot := 7, constantValue := 0 }, { name := "twoToTheDoubleScaleDown", type := .double, accessFlags := 8, slot := 8, constantValue := 0 }, { name := "$assertionsDisabled", type := .boolean, accessFlags := 4120, slot := 9, constantValue := 0 }]
  methods := #[k20m0, k20m1]
  instanceTypes := #[]
  staticTypes := #[.double, .double, .double, .double, .double, .long, .long, .double, .double, .boolean]
  resolved := Array.replicate 460 none
  statics := none }

def pool21 : Array CpInfo := pool [(2, .class_ 4), (1, u "java/lang/Object"), (0, u "<init>"), (0, u "()V"), (35, .class_ 44), (1, u "java/util/Objects"), (60, .methodref 106 107), (0, .class_ 108), (0, .nameAndType 109 110), (0, u "jdk/internal/util/Preconditions"), (0, u "checkIndex"), (0, u "(IILjava/util/function/BiFunction;)I"), (60, u "(II)I")] 12

def k21m0 : Method := { name := "<init>", desc := "()V", sig := { parameters := [], returnType := none }, accessFlags := 2, code := none }
def k21c1 : Code := { maxStack := 3, maxLocals := 2, code := jdk_31_method_17_code, exceptionTable := #[], attributes := #[] }
def k21m1 : Method := { name := "checkIndex", desc := "(II)I", sig := { parameters := [.int, .int], returnType := some .int }, accessFlags := 9, code := some k21c1 }
/-- java/util/Objects -/
def k21 : Class := { plain "java/util/Objects" (some 0) with
  accessFlags := 49
  interfaces := #[]
  cf := some (fileOf pool21 42 #[] #[{ accessFlags := 2, nameIndex := 5, descriptorIndex := 6, attributes := #[] }, { accessFlags := 9, nameIndex := 109, descriptorIndex := 171, attributes := #[] }] 49 2 #[] #[])
  fields := #[]
  methods := #[k21m0, k21m1]
  instanceTypes := #[]
  staticTypes := #[]
  resolved := Array.replicate 184 none
  statics := none }

def pool22 : Array CpInfo := pool [(2, .class_ 4), (1, u "java/lang/Object"), (0, u "<init>"), (0, u "()V"), (17, .class_ 26), (1, u "jdk/internal/util/Preconditions"), (6, u "checkIndex"), (21, .class_ 56), (0, u "jdk/internal/util/Preconditions$4"), (57, .class_ 115), (0, u "jdk/internal/util/Preconditions$1"), (7, u "SIOOBE_FORMATTER"), (0, u "Ljava/util/function/BiFunction;"), (0, .class_ 126), (0, u "jdk/internal/util/Preconditions$2"), (3, u "AIOOBE_FORMATTER"), (0, .class_ 132), (0, u "jdk/internal/util/Preconditions$3"), (3, u "IOOBE_FORMATTER"), (41, u "(IILjava/util/function/BiFunction;)I")] 15

def k22m0 : Method := { name := "<init>", desc := "()V", sig := { parameters := [], returnType := none }, accessFlags := 1, code := none }
def k22c1 : Code := { maxStack := 3, maxLocals := 3, code := jdk_41_method_11_code, exceptionTable := #[], attributes := #[] }
def k22m1 : Method := { name := "checkIndex", desc := "(IILjava/util/function/BiFunction;)I", sig := { parameters := [.int, .int, (.object "java/util/function/BiFunction")], returnType := some .int }, accessFlags := 9, code := some k22c1 }
/-- jdk/internal/util/Preconditions -/
def k22 : Class := { plain "jdk/internal/util/Preconditions" (some 0) with
  accessFlags := 33
  interfaces := #[]
  cf := some (fileOf pool22 24 #[.nestMembers #[55, 131, 125, 114]] #[{ accessFlags := 1, nameIndex := 5, descriptorIndex := 6, attributes := #[] }, { accessFlags := 9, nameIndex := 33, descriptorIndex := 178, attributes := #[] }] 33 2 #[] #[{ accessFlags := 25, nameIndex := 123, descriptorIndex := 124, attributes := #[] }, { accessFlags := 25, nameIndex := 130, descriptorIndex := 124, attributes := #[] }, { accessFlags := 25, nameIndex := 136, descriptorIndex := 124, attributes := #[] }])
  fields := #[{ name := "SIOOBE_FORMATTER", type := (.object "java/util/function/BiFunction"), accessFlags := 25, slot := 0, constantValue := 0 }, { name := "AIOOBE_FORMATTER", type := (.object "java/util/function/BiFunction"), accessFlags := 25, slot := 1, constantValue := 0 }, { name := "IOOBE_FORMATTER", type := (.object "java/util/function/BiFunction"), accessFlags := 25, slot := 2, constantValue := 0 }]
  methods := #[k22m0, k22m1]
  instanceTypes := #[]
  staticTypes := #[(.object "java/util/function/BiFunction"), (.object "java/util/function/BiFunction"), (.object "java/util/function/BiFunction")]
  resolved := Array.replicate 194 none
  statics := some 2 }

def pool23 : Array CpInfo := pool [(4, .class_ 6), (1, u "java/lang/Object"), (0, u "<init>"), (0, u "()V"), (5, .class_ 16), (1, u "java/lang/StringLatin1"), (104, u "$assertionsDisabled"), (0, u "Z"), (98, .class_ 223), (1, u "java/lang/StringLatin1$LinesSpliterator"), (166, .class_ 391), (0, u "java/lang/StringLatin1$CharsSpliterator")] 3

def k23m0 : Method := { name := "<init>", desc := "()V", sig := { parameters := [], returnType := none }, accessFlags := 0, code := none }
/-- java/lang/StringLatin1 -/
def k23 : Class := { plain "java/lang/StringLatin1" (some 0) with
  accessFlags := 48
  interfaces := #[]
  cf := some (fileOf pool23 14 #[.nestMembers #[390, 221]] #[{ accessFlags := 0, nameIndex := 7, descriptorIndex := 8, attributes := #[] }] 48 4 #[] #[{ accessFlags := 4120, nameIndex := 121, descriptorIndex := 122, attributes := #[] }])
  fields := #[{ name := "$assertionsDisabled", type := .boolean, accessFlags := 4120, slot := 0, constantValue := 0 }]
  methods := #[k23m0]
  instanceTypes := #[]
  staticTypes := #[.boolean]
  resolved := Array.replicate 395 none
  statics := none }

def pool24 : Array CpInfo := pool [(9, u "<init>"), (6, .class_ 18), (1, u "java/lang/Object"), (0, u "()V"), (1, .class_ 23), (1, u "jdk/internal/util/ArraysSupport"), (0, u "LOG2_ARRAY_LONG_INDEX_SCALE"), (0, u "I"), (2, u "U"), (0, u "Ljdk/internal/misc/Unsafe;"), (8, u "BIG_ENDIAN"), (0, u "Z"), (8, u "LOG2_BYTE_BIT_SIZE"), (4, u "LOG2_ARRAY_INT_INDEX_SCALE"), (54, u "JLA"), (0, u "Ljdk/internal/access/JavaLangAccess;"), (11, u "LOG2_ARRAY_BOOLEAN_INDEX_SCALE"), (9, u "LOG2_ARRAY_BYTE_INDEX_SCALE"), (5, u "LOG2_ARRAY_CHAR_INDEX_SCALE"), (5, u "LOG2_ARRAY_SHORT_INDEX_SCALE"), (18, u "LOG2_ARRAY_FLOAT_INDEX_SCALE"), (24, u "LOG2_ARRAY_DOUBLE_INDEX_SCALE"), (89, u "T_BOOLEAN"), (2, u "T_CHAR"), (1, u "T_FLOAT"), (1, u "T_DOUBLE"), (1, u "T_BYTE"), (1, u "T_SHORT"), (1, u "T_INT"), (1, u "T_LONG"), (1, u "SOFT_MAX_ARRAY_LENGTH")] 83

def k24m0 : Method := { name := "<init>", desc := "()V", sig := { parameters := [], returnType := none }, accessFlags := 2, code := none }
/-- jdk/internal/util/ArraysSupport -/
def k24 : Class := { plain "jdk/internal/util/ArraysSupport" (some 0) with
  accessFlags := 33
  interfaces := #[]
  cf := some (fileOf pool24 21 #[] #[{ accessFlags := 2, nameIndex := 9, descriptorIndex := 19, attributes := #[] }] 33 16 #[] #[{ accessFlags := 24, nameIndex := 28, descriptorIndex := 29, attributes := #[] }, { accessFlags := 26, nameIndex := 38, descriptorIndex := 39, attributes := #[] }, { accessFlags := 25, nameIndex := 121, descriptorIndex := 25, attributes := #[] }, { accessFlags := 25, nameIndex := 131, descriptorIndex := 25, attributes := #[] }, { accessFlags := 25, nameIndex := 137, descriptorIndex := 25, attributes := #[] }, { accessFlags := 25, nameIndex := 143, descriptorIndex := 25, attributes := #[] }, { accessFlags := 25, nameIndex := 53, descriptorIndex := 25, attributes := #[] }, { accessFlags := 25, nameIndex := 24, descriptorIndex := 25, attributes := #[] }, { accessFlags := 25, nameIndex := 162, descriptorIndex := 25, attributes := #[] }, { accessFlags := 25, nameIndex := 187, descriptorIndex := 25, attributes := #[] }, { accessFlags := 26, nameIndex := 48, descriptorIndex := 25, attributes := #[] }, { accessFlags := 25, nameIndex := 277, descriptorIndex := 25, attributes := #[] }, { accessFlags := 25, nameIndex := 280, descriptorIndex := 25, attributes := #[] }, { accessFlags := 25, nameIndex := 282, descriptorIndex := 25, attributes := #[] }, { accessFlags := 25, nameIndex := 284, descriptorIndex := 25, attributes := #[] }, { accessFlags := 25, nameIndex := 286, descriptorIndex := 25, attributes := #[] }, { accessFlags := 25, nameIndex := 288, descriptorIndex := 25, attributes := #[] }, { accessFlags := 25, nameIndex := 290, descriptorIndex := 25, attributes := #[] }, { accessFlags := 25, nameIndex := 292, descriptorIndex := 25, attributes := #[] }, { accessFlags := 26, nameIndex := 108, descriptorIndex := 109, attributes := #[] }, { accessFlags := 25, nameIndex := 294, descriptorIndex := 25, attributes := #[] }])
  fields := #[{ name := "U", type := (.object "jdk/internal/misc/Unsafe"), accessFlags := 24, slot := 0, constantValue := 0 }, { name := "BIG_ENDIAN", type := .boolean, accessFlags := 26, slot := 1, constantValue := 0 }, { name := "LOG2_ARRAY_BOOLEAN_INDEX_SCALE", type := .int, accessFlags := 25, slot := 2, constantValue := 0 }, { name := "LOG2_ARRAY_BYTE_INDEX_SCALE", type := .int, accessFlags := 25, slot := 3, constantValue := 0 }, { name := "LOG2_ARRAY_CHAR_INDEX_SCALE", type := .int, accessFlags := 25, slot := 4, constantValue := 0 }, { name := "LOG2_ARRAY_SHORT_INDEX_SCALE", type := .int, accessFlags := 25, slot := 5, constantValue := 0 }, { name := "LOG2_ARRAY_INT_INDEX_SCALE", type := .int, accessFlags := 25, slot := 6, constantValue := 0 }, { name := "LOG2_ARRAY_LONG_INDEX_SCALE", type := .int, accessFlags := 25, slot := 7, constantValue := 0 }, { name := "LOG2_ARRAY_FLOAT_INDEX_SCALE", type := .int, accessFlags := 25, slot := 8, constantValue := 0 }, { name := "LOG2_ARRAY_DOUBLE_INDEX_SCALE", type := .int, accessFlags := 25, slot := 9, constantValue := 0 }, { name := "LOG2_BYTE_BIT_SIZE", type := .int, accessFlags := 26, slot := 10, constantValue := 0 }, { name := "T_BOOLEAN", type := .int, accessFlags := 25, slot := 11, constantValue := 0 }, { name := "T_CHAR", type := .int, accessFlags := 25, slot := 12, constantValue := 0 }, { name := "T_FLOAT", type := .int, accessFlags := 25, slot := 13, constantValue := 0 }, { name := "T_DOUBLE", type := .int, accessFlags := 25, slot := 14, constantValue := 0 }, { name := "T_BYTE", type := .int, accessFlags := 25, slot := 15, constantValue := 0 }, { name := "T_SHORT", type := .int, accessFlags := 25, slot := 16, constantValue := 0 }, { name := "T_INT", type := .int, accessFlags := 25, slot := 17, constantValue := 0 }, { name := "T_LONG", type := .int, accessFlags := 25, slot := 18, constantValue := 0 }, { name := "JLA", type := (.object "jdk/internal/access/JavaLangAccess"), accessFlags := 26, slot := 19, constantValue := 0 }, { name := "SOFT_MAX_ARRAY_LENGTH", type := .int, accessFlags := 25, slot := 20, constantValue := 0 }]
  methods := #[k24m0]
  instanceTypes := #[]
  staticTypes := #[(.object "jdk/internal/misc/Unsafe"), .boolean, .int, .int, .int, .int, .int, .int, .int, .int, .int, .int, .int, .int, .int, .int, .int, .int, .int, (.object "jdk/internal/access/JavaLangAccess"), .int]
  resolved := Array.replicate 378 none
  statics := none }

/-- the primitive byte -/
def k25 : Class := { plain "byte" none with kind := .primitive 'B', accessFlags := 0x411 }
/-- [B -/
def k26 : Class := { plain "[B" (some 0) with kind := .array 25 .byte, interfaces := #[16, 2], accessFlags := 1041 }

/-- the primitive char -/
def k27 : Class := { plain "char" none with kind := .primitive 'C', accessFlags := 0x411 }
/-- [C -/
def k28 : Class := { plain "[C" (some 0) with kind := .array 27 .char, interfaces := #[16, 2], accessFlags := 1041 }

/-- the primitive int -/
def k29 : Class := { plain "int" none with kind := .primitive 'I', accessFlags := 0x411 }
/-- [I -/
def k30 : Class := { plain "[I" (some 0) with kind := .array 29 .int, interfaces := #[16, 2], accessFlags := 1041 }

/-- [Ljava/lang/Object; -/
def k31 : Class := { plain "[Ljava/lang/Object;" (some 0) with kind := .array 0 (.object "java/lang/Object"), interfaces := #[16, 2], accessFlags := 1041 }

/-- [Ljava/lang/String; -/
def k32 : Class := { plain "[Ljava/lang/String;" (some 0) with kind := .array 7 (.object "java/lang/String"), interfaces := #[16, 2], accessFlags := 1041 }

def heap : Heap := #[{ cls := 7, slots := #[.long 0, .int 1, .null, .int 0, .null, .int 0, .int 0], vm := .statics 7 },
  { cls := 17, slots := #[.long 0, .int 0, .ref 3, .ref 4], vm := .statics 17 },
  { cls := 22, slots := #[.null, .null, .null], vm := .statics 22 },
  { cls := 31, slots := #[], vm := .none },
  { cls := 31, slots := #[], vm := .none }]
def classes : Array Class := #[k0, k1, k2, k3, k4, k5, k6, k7, k8, k9, k10, k11, k12, k13, k14, k15, k16, k17, k18, k19, k20, k21, k22, k23, k24, k25, k26, k27, k28, k29, k30, k31, k32]
def interned : List (Array UInt16 × Addr) := []
def slotsUsed : Nat := 14
def theMethod : MethodId := ⟨1, 1⟩
def args0 : Array Value := #[.int 5, .int 6, .int 7, .int 8]
def aboutOver (below : List Frame) : State where
  vm := { classes := classes, interned := interned.toArray }
  heap := heap
  slotsUsed := slotsUsed
  threads := #[{ frames := .invoking theMethod args0 :: below }]
def below0 : List Frame := [.native { method := ⟨0, 0⟩, args := #[] }]
def about1 : State := aboutOver below0
def p0 : Program := .bare "" "" ""
def e0 : Env := launch0.env 0 0 0
theorem w_frames : about1.frames = Frame.invoking theMethod args0 :: below0 := rfl
set_option maxRecDepth 65536 in
theorem w_args : argsFit about1.vm theMethod args0 = true := by decide +kernel
set_option maxRecDepth 65536 in
theorem w_heap : heapFits about1 = true := by decide +kernel
set_option maxRecDepth 65536 in
theorem w_runnable : about1.curStatus? = some .runnable := by decide +kernel
set_option maxRecDepth 65536 in
theorem w_alone : about1.alone = true := by decide +kernel
set_option maxRecDepth 65536 in
theorem w_named : about1.methodNamed? x = some theMethod := by decide +kernel
set_option maxRecDepth 65536 in
theorem w_hears : about1.hears theMethod below0 = true := by decide +kernel
set_option maxRecDepth 65536 in
theorem w_ripe : about1.ripe theMethod args0 below0 = true := by decide +kernel
theorem w_running : about1.status = .running := rfl
set_option maxRecDepth 65536 in
theorem w_room : about1.hasRoom e0.platform room_1 = true :=
  launch0.hasRoom_least _ room_1 (by decide +kernel) (by decide +kernel) (by decide +kernel) (by decide +kernel) (by decide +kernel) (by decide +kernel)
theorem allAtoms_all (ts : List Jvm.Cond) (a : Array Jvm.Value) (st : Jvm.State) : (allAtoms ts).before a st = ts.all (fun c => c.before a st) := by
  induction ts with
  | nil => rfl
  | cons c t ih =>
    show (Jvm.Cond.and c (allAtoms t)).before a st = _
    rw [Jvm.Cond.before_and, ih, List.all_cons]
def words1 : List Jvm.Cond := Jvm.Cond.code x code maxLocals ret :: tables_1
/-- a 'code' word, met by the world's own term for the bytes: nothing is compared byte by byte -/
theorem code_word {y : MethodName} {bytes : ByteArray} {mx : Nat} {rt : Option FieldType} {a : Array Value} {s : State} {m : MethodId} {meth : Method} {c : Code} (h1 : s.methodNamed? y = some m) (h2 : s.vm.method? m = some meth) (h3 : meth.code = some c) (h4 : c.code = bytes)
    (h5 : (c.maxLocals == mx && c.exceptionTable.isEmpty && decide (c.maxStack ≤ mostOperands) && decide (meth.sig.returnType = rt) && !meth.locks && decide (parseMethodDescriptor y.desc = some meth.sig)) = true) : (Jvm.Cond.code y bytes mx rt).before a s = true := by
  simp only [Bool.and_eq_true, beq_iff_eq, Bool.not_eq_true', decide_eq_true_eq] at h5
  obtain ⟨⟨⟨⟨⟨g1, g2⟩, g3⟩, g4⟩, g5⟩, g6⟩ := h5
  simp [Cond.before, Cond.holds, Cond.value, h1, h2, h3, h4, g1, g2, g3, g4, g5, g6]
def isCode : Jvm.Cond → Bool
  | .code _ _ _ _ => true
  | _ => false
theorem all_split {L : List Jvm.Cond} {P : Jvm.Cond → Bool} (h1 : L.all (fun c => isCode c || P c) = true) (h2 : ∀ c ∈ L.filter isCode, P c = true) : L.all P = true := by
  refine List.all_eq_true.mpr fun c hc => ?_
  have h := List.all_eq_true.mp h1 c hc
  rcases Bool.eq_false_or_eq_true (isCode c) with hi | hi
  · exact h2 c (List.mem_filter.mpr ⟨hc, hi⟩)
  · simpa [hi] using h
set_option maxRecDepth 65536 in
theorem w_c0 : (Jvm.Cond.code x code maxLocals ret).before args0 about1 = true := code_word (m := ⟨1, 1⟩) (meth := k1m1) (c := k1c1) (by decide +kernel) rfl rfl rfl (by decide +kernel)
set_option maxRecDepth 65536 in
theorem w_c1 : (Jvm.Cond.code ({ cls := "com/example/wary_meter/warymeter/ColumnNamesPinLaw", name := "draw", desc := "(I)Ljava/lang/String;" } : Jvm.MethodName) method_3_code (2 : Nat) (Option.some (Jvm.ClassFile.FieldType.object "java/lang/String"))).before args0 about1 = true := code_word (m := ⟨1, 2⟩) (meth := k1m2) (c := k1c2) (by decide +kernel) rfl rfl rfl (by decide +kernel)
set_option maxRecDepth 65536 in
theorem w_c2 : (Jvm.Cond.code ({ cls := "java/lang/String", name := "<init>", desc := "([C)V" } : Jvm.MethodName) jdk_42_method_3_code (2 : Nat) (Option.none : Option Jvm.ClassFile.FieldType)).before args0 about1 = true := code_word (m := ⟨7, 1⟩) (meth := k7m1) (c := k7c1) (by decide +kernel) rfl rfl rfl (by decide +kernel)
set_option maxRecDepth 65536 in
theorem w_c3 : (Jvm.Cond.code ({ cls := "java/lang/String", name := "<init>", desc := "([CIILjava/lang/Void;)V" } : Jvm.MethodName) jdk_42_method_149_code (6 : Nat) (Option.none : Option Jvm.ClassFile.FieldType)).before args0 about1 = true := code_word (m := ⟨7, 3⟩) (meth := k7m3) (c := k7c3) (by decide +kernel) rfl rfl rfl (by decide +kernel)
set_option maxRecDepth 65536 in
theorem w_c4 : (Jvm.Cond.code ({ cls := "java/lang/Object", name := "<init>", desc := "()V" } : Jvm.MethodName) object_method_1_code (1 : Nat) (Option.none : Option Jvm.ClassFile.FieldType)).before args0 about1 = true := code_word (m := ⟨0, 0⟩) (meth := k0m0) (c := k0c0) (by decide +kernel) rfl rfl rfl (by decide +kernel)
set_option maxRecDepth 65536 in
theorem w_c5 : (Jvm.Cond.code ({ cls := "java/lang/StringUTF16", name := "compress", desc := "([CII)[B" } : Jvm.MethodName) jdk_52_method_16_code (6 : Nat) (Option.some (Jvm.ClassFile.FieldType.array Jvm.ClassFile.FieldType.byte))).before args0 about1 = true := code_word (m := ⟨8, 2⟩) (meth := k8m2) (c := k8c2) (by decide +kernel) rfl rfl rfl (by decide +kernel)
set_option maxRecDepth 65536 in
theorem w_c6 : (Jvm.Cond.code ({ cls := "java/lang/StringUTF16", name := "compress", desc := "([CI[BII)I" } : Jvm.MethodName) jdk_52_method_21_code (7 : Nat) (Option.some Jvm.ClassFile.FieldType.int)).before args0 about1 = true := code_word (m := ⟨8, 3⟩) (meth := k8m3) (c := k8c3) (by decide +kernel) rfl rfl rfl (by decide +kernel)
set_option maxRecDepth 65536 in
theorem w_c7 : (Jvm.Cond.code ({ cls := "java/lang/StringUTF16", name := "coderFromArrayLen", desc := "([BI)B" } : Jvm.MethodName) jdk_52_method_15_code (2 : Nat) (Option.some Jvm.ClassFile.FieldType.byte)).before args0 about1 = true := code_word (m := ⟨8, 1⟩) (meth := k8m1) (c := k8c1) (by decide +kernel) rfl rfl rfl (by decide +kernel)
set_option maxRecDepth 65536 in
theorem w_c8 : (Jvm.Cond.code ({ cls := "java/util/ArrayList", name := "<init>", desc := "()V" } : Jvm.MethodName) jdk_38_method_2_code (1 : Nat) (Option.none : Option Jvm.ClassFile.FieldType)).before args0 about1 = true := code_word (m := ⟨17, 0⟩) (meth := k17m0) (c := k17c0) (by decide +kernel) rfl rfl rfl (by decide +kernel)
set_option maxRecDepth 65536 in
theorem w_c9 : (Jvm.Cond.code ({ cls := "java/util/AbstractList", name := "<init>", desc := "()V" } : Jvm.MethodName) jdk_39_method_1_code (1 : Nat) (Option.none : Option Jvm.ClassFile.FieldType)).before args0 about1 = true := code_word (m := ⟨14, 0⟩) (meth := k14m0) (c := k14c0) (by decide +kernel) rfl rfl rfl (by decide +kernel)
set_option maxRecDepth 65536 in
theorem w_c10 : (Jvm.Cond.code ({ cls := "java/util/AbstractCollection", name := "<init>", desc := "()V" } : Jvm.MethodName) jdk_22_method_1_code (1 : Nat) (Option.none : Option Jvm.ClassFile.FieldType)).before args0 about1 = true := code_word (m := ⟨11, 0⟩) (meth := k11m0) (c := k11c0) (by decide +kernel) rfl rfl rfl (by decide +kernel)
set_option maxRecDepth 65536 in
theorem w_c11 : (Jvm.Cond.code ({ cls := "com/example/wary_meter/warymeter/Column", name := "names", desc := "(Ljava/util/List;)[Ljava/lang/String;" } : Jvm.MethodName) prog_3_method_4_code (3 : Nat) (Option.some (Jvm.ClassFile.FieldType.array (Jvm.ClassFile.FieldType.object "java/lang/String")))).before args0 about1 = true := code_word (m := ⟨19, 2⟩) (meth := k19m2) (c := k19c2) (by decide +kernel) rfl rfl rfl (by decide +kernel)
set_option maxRecDepth 65536 in
theorem w_c12 : (Jvm.Cond.code ({ cls := "java/util/ArrayList", name := "size", desc := "()I" } : Jvm.MethodName) jdk_38_method_8_code (1 : Nat) (Option.some Jvm.ClassFile.FieldType.int)).before args0 about1 = true := code_word (m := ⟨17, 3⟩) (meth := k17m3) (c := k17c3) (by decide +kernel) rfl rfl rfl (by decide +kernel)
set_option maxRecDepth 65536 in
theorem w_c13 : (Jvm.Cond.code ({ cls := "com/example/wary_meter/warymeter/Column", name := "<init>", desc := "(Ljava/lang/String;Ljava/util/function/Function;)V" } : Jvm.MethodName) prog_3_method_1_code (3 : Nat) (Option.none : Option Jvm.ClassFile.FieldType)).before args0 about1 = true := code_word (m := ⟨19, 0⟩) (meth := k19m0) (c := k19c0) (by decide +kernel) rfl rfl rfl (by decide +kernel)
set_option maxRecDepth 65536 in
theorem w_c14 : (Jvm.Cond.code ({ cls := "com/example/wary_meter/warymeter/Column", name := "<init>", desc := "(Ljava/lang/String;Ljava/util/function/Function;Ljava/util/function/Function;Ljava/util/function/Function;)V" } : Jvm.MethodName) prog_3_method_2_code (5 : Nat) (Option.none : Option Jvm.ClassFile.FieldType)).before args0 about1 = true := code_word (m := ⟨19, 1⟩) (meth := k19m1) (c := k19c1) (by decide +kernel) rfl rfl rfl (by decide +kernel)
set_option maxRecDepth 65536 in
theorem w_c15 : (Jvm.Cond.code ({ cls := "java/lang/Record", name := "<init>", desc := "()V" } : Jvm.MethodName) jdk_30_method_1_code (1 : Nat) (Option.none : Option Jvm.ClassFile.FieldType)).before args0 about1 = true := code_word (m := ⟨18, 0⟩) (meth := k18m0) (c := k18c0) (by decide +kernel) rfl rfl rfl (by decide +kernel)
set_option maxRecDepth 65536 in
theorem w_c16 : (Jvm.Cond.code ({ cls := "java/util/ArrayList", name := "add", desc := "(Ljava/lang/Object;)Z" } : Jvm.MethodName) jdk_38_method_25_code (2 : Nat) (Option.some Jvm.ClassFile.FieldType.boolean)).before args0 about1 = true := code_word (m := ⟨17, 7⟩) (meth := k17m7) (c := k17c7) (by decide +kernel) rfl rfl rfl (by decide +kernel)
set_option maxRecDepth 65536 in
theorem w_c17 : (Jvm.Cond.code ({ cls := "java/util/ArrayList", name := "add", desc := "(Ljava/lang/Object;[Ljava/lang/Object;I)V" } : Jvm.MethodName) jdk_38_method_24_code (4 : Nat) (Option.none : Option Jvm.ClassFile.FieldType)).before args0 about1 = true := code_word (m := ⟨17, 6⟩) (meth := k17m6) (c := k17c6) (by decide +kernel) rfl rfl rfl (by decide +kernel)
set_option maxRecDepth 65536 in
theorem w_c18 : (Jvm.Cond.code ({ cls := "java/util/ArrayList", name := "grow", desc := "()[Ljava/lang/Object;" } : Jvm.MethodName) jdk_38_method_7_code (1 : Nat) (Option.some (Jvm.ClassFile.FieldType.array (Jvm.ClassFile.FieldType.object "java/lang/Object")))).before args0 about1 = true := code_word (m := ⟨17, 2⟩) (meth := k17m2) (c := k17c2) (by decide +kernel) rfl rfl rfl (by decide +kernel)
set_option maxRecDepth 65536 in
theorem w_c19 : (Jvm.Cond.code ({ cls := "java/util/ArrayList", name := "grow", desc := "(I)[Ljava/lang/Object;" } : Jvm.MethodName) jdk_38_method_6_code (4 : Nat) (Option.some (Jvm.ClassFile.FieldType.array (Jvm.ClassFile.FieldType.object "java/lang/Object")))).before args0 about1 = true := code_word (m := ⟨17, 1⟩) (meth := k17m1) (c := k17c1) (by decide +kernel) rfl rfl rfl (by decide +kernel)
set_option maxRecDepth 65536 in
theorem w_c20 : (Jvm.Cond.code ({ cls := "java/lang/Math", name := "max", desc := "(II)I" } : Jvm.MethodName) jdk_29_method_65_code (2 : Nat) (Option.some Jvm.ClassFile.FieldType.int)).before args0 about1 = true := code_word (m := ⟨20, 1⟩) (meth := k20m1) (c := k20c1) (by decide +kernel) rfl rfl rfl (by decide +kernel)
set_option maxRecDepth 65536 in
theorem w_c21 : (Jvm.Cond.code ({ cls := "java/util/ArrayList", name := "get", desc := "(I)Ljava/lang/Object;" } : Jvm.MethodName) jdk_38_method_20_code (2 : Nat) (Option.some (Jvm.ClassFile.FieldType.object "java/lang/Object"))).before args0 about1 = true := code_word (m := ⟨17, 5⟩) (meth := k17m5) (c := k17c5) (by decide +kernel) rfl rfl rfl (by decide +kernel)
set_option maxRecDepth 65536 in
theorem w_c22 : (Jvm.Cond.code ({ cls := "java/util/Objects", name := "checkIndex", desc := "(II)I" } : Jvm.MethodName) jdk_31_method_17_code (2 : Nat) (Option.some Jvm.ClassFile.FieldType.int)).before args0 about1 = true := code_word (m := ⟨21, 1⟩) (meth := k21m1) (c := k21c1) (by decide +kernel) rfl rfl rfl (by decide +kernel)
set_option maxRecDepth 65536 in
theorem w_c23 : (Jvm.Cond.code ({ cls := "jdk/internal/util/Preconditions", name := "checkIndex", desc := "(IILjava/util/function/BiFunction;)I" } : Jvm.MethodName) jdk_41_method_11_code (3 : Nat) (Option.some Jvm.ClassFile.FieldType.int)).before args0 about1 = true := code_word (m := ⟨22, 1⟩) (meth := k22m1) (c := k22c1) (by decide +kernel) rfl rfl rfl (by decide +kernel)
set_option maxRecDepth 65536 in
theorem w_c24 : (Jvm.Cond.code ({ cls := "java/util/ArrayList", name := "elementData", desc := "(I)Ljava/lang/Object;" } : Jvm.MethodName) jdk_38_method_18_code (2 : Nat) (Option.some (Jvm.ClassFile.FieldType.object "java/lang/Object"))).before args0 about1 = true := code_word (m := ⟨17, 4⟩) (meth := k17m4) (c := k17c4) (by decide +kernel) rfl rfl rfl (by decide +kernel)
set_option maxRecDepth 65536 in
theorem w_c25 : (Jvm.Cond.code ({ cls := "com/example/wary_meter/warymeter/Column", name := "name", desc := "()Ljava/lang/String;" } : Jvm.MethodName) prog_3_method_10_code (1 : Nat) (Option.some (Jvm.ClassFile.FieldType.object "java/lang/String"))).before args0 about1 = true := code_word (m := ⟨19, 3⟩) (meth := k19m3) (c := k19c3) (by decide +kernel) rfl rfl rfl (by decide +kernel)
set_option maxRecDepth 65536 in
theorem w_c26 : (Jvm.Cond.code ({ cls := "com/example/wary_meter/warymeter/ColumnNamesPinLaw", name := "same", desc := "(Ljava/lang/String;Ljava/lang/String;)Z" } : Jvm.MethodName) method_4_code (2 : Nat) (Option.some Jvm.ClassFile.FieldType.boolean)).before args0 about1 = true := code_word (m := ⟨1, 3⟩) (meth := k1m3) (c := k1c3) (by decide +kernel) rfl rfl rfl (by decide +kernel)
set_option maxRecDepth 65536 in
theorem w_c27 : (Jvm.Cond.code ({ cls := "java/lang/String", name := "equals", desc := "(Ljava/lang/Object;)Z" } : Jvm.MethodName) jdk_42_method_66_code (3 : Nat) (Option.some Jvm.ClassFile.FieldType.boolean)).before args0 about1 = true := code_word (m := ⟨7, 2⟩) (meth := k7m2) (c := k7c2) (by decide +kernel) rfl rfl rfl (by decide +kernel)
def codes1 : List Jvm.Cond := [Jvm.Cond.code x code maxLocals ret, Jvm.Cond.code ({ cls := "com/example/wary_meter/warymeter/ColumnNamesPinLaw", name := "draw", desc := "(I)Ljava/lang/String;" } : Jvm.MethodName) method_3_code (2 : Nat) (Option.some (Jvm.ClassFile.FieldType.object "java/lang/String")), Jvm.Cond.code ({ cls := "java/lang/String", name := "<init>", desc := "([C)V" } : Jvm.MethodName) jdk_42_method_3_code (2 : Nat) (Option.none : Option Jvm.ClassFile.FieldType), Jvm.Cond.code ({ cls := "java/lang/String", name := "<init>", desc := "([CIILjava/lang/Void;)V" } : Jvm.MethodName) jdk_42_method_149_code (6 : Nat) (Option.none : Option Jvm.ClassFile.FieldType), Jvm.Cond.code ({ cls := "java/lang/Object", name := "<init>", desc := "()V" } : Jvm.MethodName) object_method_1_code (1 : Nat) (Option.none : Option Jvm.ClassFile.FieldType), Jvm.Cond.code ({ cls := "java/lang/StringUTF16", name := "compress", desc := "([CII)[B" } : Jvm.MethodName) jdk_52_method_16_code (6 : Nat) (Option.some (Jvm.ClassFile.FieldType.array Jvm.ClassFile.FieldType.byte)), Jvm.Cond.code ({ cls := "java/lang/StringUTF16", name := "compress", desc := "([CI[BII)I" } : Jvm.MethodName) jdk_52_method_21_code (7 : Nat) (Option.some Jvm.ClassFile.FieldType.int), Jvm.Cond.code ({ cls := "java/lang/StringUTF16", name := "coderFromArrayLen", desc := "([BI)B" } : Jvm.MethodName) jdk_52_method_15_code (2 : Nat) (Option.some Jvm.ClassFile.FieldType.byte), Jvm.Cond.code ({ cls := "java/util/ArrayList", name := "<init>", desc := "()V" } : Jvm.MethodName) jdk_38_method_2_code (1 : Nat) (Option.none : Option Jvm.ClassFile.FieldType), Jvm.Cond.code ({ cls := "java/util/AbstractList", name := "<init>", desc := "()V" } : Jvm.MethodName) jdk_39_method_1_code (1 : Nat) (Option.none : Option Jvm.ClassFile.FieldType), Jvm.Cond.code ({ cls := "java/util/AbstractCollection", name := "<init>", desc := "()V" } : Jvm.MethodName) jdk_22_method_1_code (1 : Nat) (Option.none : Option Jvm.ClassFile.FieldType), Jvm.Cond.code ({ cls := "com/example/wary_meter/warymeter/Column", name := "names", desc := "(Ljava/util/List;)[Ljava/lang/String;" } : Jvm.MethodName) prog_3_method_4_code (3 : Nat) (Option.some (Jvm.ClassFile.FieldType.array (Jvm.ClassFile.FieldType.object "java/lang/String"))), Jvm.Cond.code ({ cls := "java/util/ArrayList", name := "size", desc := "()I" } : Jvm.MethodName) jdk_38_method_8_code (1 : Nat) (Option.some Jvm.ClassFile.FieldType.int), Jvm.Cond.code ({ cls := "com/example/wary_meter/warymeter/Column", name := "<init>", desc := "(Ljava/lang/String;Ljava/util/function/Function;)V" } : Jvm.MethodName) prog_3_method_1_code (3 : Nat) (Option.none : Option Jvm.ClassFile.FieldType), Jvm.Cond.code ({ cls := "com/example/wary_meter/warymeter/Column", name := "<init>", desc := "(Ljava/lang/String;Ljava/util/function/Function;Ljava/util/function/Function;Ljava/util/function/Function;)V" } : Jvm.MethodName) prog_3_method_2_code (5 : Nat) (Option.none : Option Jvm.ClassFile.FieldType), Jvm.Cond.code ({ cls := "java/lang/Record", name := "<init>", desc := "()V" } : Jvm.MethodName) jdk_30_method_1_code (1 : Nat) (Option.none : Option Jvm.ClassFile.FieldType), Jvm.Cond.code ({ cls := "java/util/ArrayList", name := "add", desc := "(Ljava/lang/Object;)Z" } : Jvm.MethodName) jdk_38_method_25_code (2 : Nat) (Option.some Jvm.ClassFile.FieldType.boolean), Jvm.Cond.code ({ cls := "java/util/ArrayList", name := "add", desc := "(Ljava/lang/Object;[Ljava/lang/Object;I)V" } : Jvm.MethodName) jdk_38_method_24_code (4 : Nat) (Option.none : Option Jvm.ClassFile.FieldType), Jvm.Cond.code ({ cls := "java/util/ArrayList", name := "grow", desc := "()[Ljava/lang/Object;" } : Jvm.MethodName) jdk_38_method_7_code (1 : Nat) (Option.some (Jvm.ClassFile.FieldType.array (Jvm.ClassFile.FieldType.object "java/lang/Object"))), Jvm.Cond.code ({ cls := "java/util/ArrayList", name := "grow", desc := "(I)[Ljava/lang/Object;" } : Jvm.MethodName) jdk_38_method_6_code (4 : Nat) (Option.some (Jvm.ClassFile.FieldType.array (Jvm.ClassFile.FieldType.object "java/lang/Object"))), Jvm.Cond.code ({ cls := "java/lang/Math", name := "max", desc := "(II)I" } : Jvm.MethodName) jdk_29_method_65_code (2 : Nat) (Option.some Jvm.ClassFile.FieldType.int), Jvm.Cond.code ({ cls := "java/util/ArrayList", name := "get", desc := "(I)Ljava/lang/Object;" } : Jvm.MethodName) jdk_38_method_20_code (2 : Nat) (Option.some (Jvm.ClassFile.FieldType.object "java/lang/Object")), Jvm.Cond.code ({ cls := "java/util/Objects", name := "checkIndex", desc := "(II)I" } : Jvm.MethodName) jdk_31_method_17_code (2 : Nat) (Option.some Jvm.ClassFile.FieldType.int), Jvm.Cond.code ({ cls := "jdk/internal/util/Preconditions", name := "checkIndex", desc := "(IILjava/util/function/BiFunction;)I" } : Jvm.MethodName) jdk_41_method_11_code (3 : Nat) (Option.some Jvm.ClassFile.FieldType.int), Jvm.Cond.code ({ cls := "java/util/ArrayList", name := "elementData", desc := "(I)Ljava/lang/Object;" } : Jvm.MethodName) jdk_38_method_18_code (2 : Nat) (Option.some (Jvm.ClassFile.FieldType.object "java/lang/Object")), Jvm.Cond.code ({ cls := "com/example/wary_meter/warymeter/Column", name := "name", desc := "()Ljava/lang/String;" } : Jvm.MethodName) prog_3_method_10_code (1 : Nat) (Option.some (Jvm.ClassFile.FieldType.object "java/lang/String")), Jvm.Cond.code ({ cls := "com/example/wary_meter/warymeter/ColumnNamesPinLaw", name := "same", desc := "(Ljava/lang/String;Ljava/lang/String;)Z" } : Jvm.MethodName) method_4_code (2 : Nat) (Option.some Jvm.ClassFile.FieldType.boolean), Jvm.Cond.code ({ cls := "java/lang/String", name := "equals", desc := "(Ljava/lang/Object;)Z" } : Jvm.MethodName) jdk_42_method_66_code (3 : Nat) (Option.some Jvm.ClassFile.FieldType.boolean)]
set_option maxRecDepth 65536 in
theorem codes_eq : words1.filter isCode = codes1 := rfl
theorem w_codes : ∀ c ∈ words1.filter isCode, c.before args0 about1 = true := by
  rw [codes_eq]
  intro c hc
  simp only [codes1, List.mem_cons, List.not_mem_nil, or_false] at hc
  rcases hc with rfl | rfl | rfl | rfl | rfl | rfl | rfl | rfl | rfl | rfl | rfl | rfl | rfl | rfl | rfl | rfl | rfl | rfl | rfl | rfl | rfl | rfl | rfl | rfl | rfl | rfl | rfl | rfl
  · exact w_c0
  · exact w_c1
  · exact w_c2
  · exact w_c3
  · exact w_c4
  · exact w_c5
  · exact w_c6
  · exact w_c7
  · exact w_c8
  · exact w_c9
  · exact w_c10
  · exact w_c11
  · exact w_c12
  · exact w_c13
  · exact w_c14
  · exact w_c15
  · exact w_c16
  · exact w_c17
  · exact w_c18
  · exact w_c19
  · exact w_c20
  · exact w_c21
  · exact w_c22
  · exact w_c23
  · exact w_c24
  · exact w_c25
  · exact w_c26
  · exact w_c27
set_option maxRecDepth 65536 in
theorem w_t1 : (words1.take 24).all (fun c => isCode c || c.before args0 about1) = true := by decide +kernel
set_option maxRecDepth 65536 in
theorem w_t2 : ((words1.drop 24).take 24).all (fun c => isCode c || c.before args0 about1) = true := by decide +kernel
set_option maxRecDepth 65536 in
theorem w_t3 : (((words1.drop 24).drop 24).take 24).all (fun c => isCode c || c.before args0 about1) = true := by decide +kernel
set_option maxRecDepth 65536 in
theorem w_t4 : ((((words1.drop 24).drop 24).drop 24).take 24).all (fun c => isCode c || c.before args0 about1) = true := by decide +kernel
set_option maxRecDepth 65536 in
theorem w_t5 : (((((words1.drop 24).drop 24).drop 24).drop 24).take 24).all (fun c => isCode c || c.before args0 about1) = true := by decide +kernel
set_option maxRecDepth 65536 in
theorem w_t6 : ((((((words1.drop 24).drop 24).drop 24).drop 24).drop 24).take 24).all (fun c => isCode c || c.before args0 about1) = true := by decide +kernel
set_option maxRecDepth 65536 in
theorem w_t7 : ((((((words1.drop 24).drop 24).drop 24).drop 24).drop 24).drop 24).all (fun c => isCode c || c.before args0 about1) = true := by decide +kernel
theorem w_tables : (allAtoms (Jvm.Cond.code x code maxLocals ret :: tables_1)).before args0 about1 = true := by
  rw [allAtoms_all]
  show words1.all (fun c => c.before args0 about1) = true
  refine all_split ?_ w_codes
  rw [← List.take_append_drop 24 words1, List.all_append, w_t1, ← List.take_append_drop 24 (words1.drop 24), List.all_append, w_t2, ← List.take_append_drop 24 ((words1.drop 24).drop 24), List.all_append, w_t3, ← List.take_append_drop 24 (((words1.drop 24).drop 24).drop 24), List.all_append, w_t4, ← List.take_append_drop 24 ((((words1.drop 24).drop 24).drop 24).drop 24), List.all_append, w_t5, ← List.take_append_drop 24 (((((words1.drop 24).drop 24).drop 24).drop 24).drop 24), List.all_append, w_t6, w_t7]
  rfl
set_option maxRecDepth 65536 in
theorem w_rest : rest_1_c.before args0 about1 = true := by decide +kernel
set_option maxRecDepth 65536 in
theorem w_case : (Jvm.Cond.and given_1 narrow_1).before args0 about1 = true := by decide +kernel
theorem w_applies : (headSpec (Jvm.Cond.code x code maxLocals ret :: tables_1) room_1).applies x e0.platform about1 = true :=
  (Spec.applies_iff w_frames).mpr ⟨w_running, w_runnable, w_alone, w_named, w_hears, w_ripe, w_room, w_tables⟩
theorem atStart : AtStart classFile x code maxLocals ret World_1 tables_1 room_1 Calls_1 rest_1 Pre_1 launch0 p0 e0 about1 theMethod args0 below0 :=
  ⟨lists_1, trivial, launch0.admits_env _ _ _, launch0.least_env, fairChoices_fair.cas, fairChoices_fair.clock, w_frames, w_args, w_heap, w_applies, trivial, w_rest, w_case⟩
end start1
theorem witness_1 : WitnessClaimed_1 := ⟨start1.p0, start1.e0, start1.about1, start1.theMethod, start1.args0, start1.below0, start1.atStart⟩
end Jvm.Pilot.@@N@@
