import JvmDerived
import JvmDerived.Pilot.@@N@@Statement
import JvmDerived.Pilot.@@N@@Code
set_option linter.unusedVariables false
set_option linter.unusedSimpArgs false
namespace Jvm.OwnKit
open Jvm Jvm.ClassFile Sem Op Lib Jvm.Free Jvm.Stand Jvm.LawKit Jvm.RoadKit
section Walk
variable {p : Program} {l : Launch} {e : Env} {R : Room} {s : State} {m : MethodId} {args : Array Value} {below : List Frame} {meth : Method} {c : Code} {T T' : State} {locs : List Loc} {cells slots k n : Nat} {Q : Option Value → Heap → List Loc → Prop} {P : Option Value → State → List Loc → Prop} {g g' : JFrame}
/-- from T with the frame g on top the run comes home: it returns, and Q says of what it returned, the heap and the places written -/
def Home {p : Program} {e : Env} {below : List Frame} {P : Option Value → State → List Loc → Prop} (T : State) (g : JFrame) : Prop :=
  ∃ U o, Steps p.tables e below (T.setTop g) U ∧ U.status = .running ∧ Ended U below o ∧ ∃ v L, o = .returned v ∧ P v U L
/-- the end of a walk that has booked no text -/
abbrev End (s : State) (Q : Option Value → Heap → List Loc → Prop) (k n : Nat) : Option Value → State → List Loc → Prop := fun v U L => Q v U.heap L ∧ FrameEnd s (.returned v) U L k n
theorem Home.go (st : ∀ t, Steps p.tables e below (T'.setTop g') t → Steps p.tables e below (T.setTop g) t) (H : @Home p e below P T' g') : @Home p e below P T g := by
  obtain ⟨U, o, h1, h2⟩ := H
  exact ⟨U, o, st _ h1, h2⟩
section Cps
variable {S : State → Prop} {S2 : State → Heap → Prop} {W E A D M : Heap → Prop} {A2 : Heap → ClassId → Prop} {O : ClassId → Prop} {h : Heap}
theorem Home.st (q : ∃ T', S T' ∧ T'.heap = h ∧ ∀ t, Steps p.tables e below (T'.setTop g') t → Steps p.tables e below (T.setTop g) t) (H : ∀ T', S T' → T'.heap = h → @Home p e below P T' g') : @Home p e below P T g := by
  obtain ⟨T', x, y, st⟩ := q
  exact Home.go st (H T' x y)
theorem Home.wr (q : ∃ T' h', S T' ∧ T'.heap = h' ∧ W h' ∧ ∀ t, Steps p.tables e below (T'.setTop g') t → Steps p.tables e below (T.setTop g) t) (H : ∀ T' h', S T' → T'.heap = h' → W h' → @Home p e below P T' g') : @Home p e below P T g := by
  obtain ⟨T', h', x, y, z, st⟩ := q
  exact Home.go st (H T' h' x y z)
theorem Home.nw {B : Addr → Prop} {A3 D3 : Heap → Addr → Prop} {ga : Addr → JFrame} (q : ∃ T' h' b, B b ∧ S T' ∧ T'.heap = h' ∧ E h' ∧ A3 h' b ∧ D3 h' b ∧ ∀ t, Steps p.tables e below (T'.setTop (ga b)) t → Steps p.tables e below (T.setTop g) t) (H : ∀ T' h' b, B b → S T' → T'.heap = h' → E h' → A3 h' b → D3 h' b → @Home p e below P T' (ga b)) : @Home p e below P T g := by
  obtain ⟨T', h', b, i, x, y, z, u, v, st⟩ := q
  exact Home.go st (H T' h' b i x y z u v)
theorem Home.nr {B : Addr → Prop} {A3 : Heap → ClassId → Addr → Prop} {ga : Addr → JFrame} (q : ∃ T' h' c' b, B b ∧ S T' ∧ T'.heap = h' ∧ E h' ∧ A3 h' c' b ∧ O c' ∧ ∀ t, Steps p.tables e below (T'.setTop (ga b)) t → Steps p.tables e below (T.setTop g) t) (H : ∀ T' h' c' b, B b → S T' → T'.heap = h' → E h' → A3 h' c' b → O c' → @Home p e below P T' (ga b)) : @Home p e below P T g := by
  obtain ⟨T', h', c', b, i, x, y, z, u, v, st⟩ := q
  exact Home.go st (H T' h' c' b i x y z u v)
theorem Home.call {S3 : State → List Loc → Prop} {Q3 : Option Value → State → List Loc → Prop} {gv : Option Value → JFrame} (q : ∃ v T' L, S3 T' L ∧ Q3 v T' L ∧ ∀ t, Steps p.tables e below (T'.setTop (gv v)) t → Steps p.tables e below (T.setTop g) t) (H : ∀ v T' L, S3 T' L → Q3 v T' L → @Home p e below P T' (gv v)) : @Home p e below P T g := by
  obtain ⟨v, T', L, x, y, st⟩ := q
  exact Home.go st (H v T' L x y)
end Cps
theorem hW0 {m : MethodId} {pc n : Nat} {L : Array Slot} {S : List Value} : 2 * (mkF m pc L S).monitorRoom + n ≤ n := by show 2 * 0 + n ≤ n; omega
theorem Home.enter (q : g = g') (H : @Home p e below P T g') : @Home p e below P T g := by
  subst q; exact H
theorem Home.retN (X : Stand p l e R s m args below meth c T locs cells slots) (hx : p.tables.exec = Jvm.exec) (hlk : meth.locks = false) {pc : Nat} {Ls : Array Slot} {z : Int32} {t : FieldType} {rest : List Value} (hret : meth.sig.returnType = some t) (ht : t = .boolean ∨ t = .byte ∨ t = .char ∨ t = .short)
    (hd : decode c.code pc = .ok (.ireturn, 1)) (hQ : Q (some (.int (nar t z))) T.heap locs) (hk : cells ≤ k) (hn : slots ≤ n) : @Home p e below (End s Q k n) T (mkF m pc Ls (.int z :: rest)) := by
  obtain ⟨fs, hr, hrun, hended, hW, hsame⟩ := X.leave (v := some (.int (nar t z))) (fun h => by rw [hret] at h; cases h) hlk
  exact ⟨_, _, Jvm.RoadKit.retN X hx hret ht hd hr, hrun, hended, _, _, rfl, hQ, ⟨_, rfl⟩, hW, hsame.mono hk hn⟩
theorem Home.ret (X : Stand p l e R s m args below meth c T locs cells slots) (hx : p.tables.exec = Jvm.exec) (hlk : meth.locks = false) {pc : Nat} {Ls : Array Slot} {w : Value} {t : FieldType} {i : Instr} {rest : List Value} (hret : meth.sig.returnType = some t) (hnn : narrow t w = w)
    (hi : (i = .ireturn ∧ (t = .int ∨ t = .boolean ∨ t = .byte ∨ t = .char ∨ t = .short) ∧ ∃ z, w = .int z) ∨ (i = .lreturn ∧ t = .long ∧ ∃ z, w = .long z) ∨ (i = .dreturn ∧ t = .double ∧ ∃ z, w = .double z) ∨ (i = .freturn ∧ t = .float ∧ ∃ z, w = .float z) ∨ (i = .areturn ∧ t.isReference = true ∧ w.isRef = true))
    (hd : decode c.code pc = .ok (i, 1)) (hQ : Q (some w) T.heap locs) (hk : cells ≤ k) (hn : slots ≤ n) : @Home p e below (End s Q k n) T (mkF m pc Ls (w :: rest)) := by
  obtain ⟨fs, hr, hrun, hended, hW, hsame⟩ := X.leave (v := some w) (fun h => by rw [hret] at h; cases h) hlk
  exact ⟨_, _, retOut X hx hret hnn hi hd hr, hrun, hended, _, _, rfl, hQ, ⟨_, rfl⟩, hW, hsame.mono hk hn⟩
theorem Home.retI (X : Stand p l e R s m args below meth c T locs cells slots) (hx : p.tables.exec = Jvm.exec) (hlk : meth.locks = false) {pc : Nat} {Ls : Array Slot} {z : Int32} {rest : List Value} (hret : meth.sig.returnType = some .int)
    (hd : decode c.code pc = .ok (.ireturn, 1)) (hQ : Q (some (.int z)) T.heap locs) (hk : cells ≤ k) (hn : slots ≤ n) : @Home p e below (End s Q k n) T (mkF m pc Ls (.int z :: rest)) :=
  Home.ret X hx hlk hret rfl (Or.inl ⟨rfl, Or.inl rfl, z, rfl⟩) hd hQ hk hn
theorem own_narrow_ref {t : FieldType} {w : Value} (hw : w.isRef = true) : narrow t w = w := by
  rcases ref_cases hw with rfl | ⟨a, rfl⟩ <;> cases t <;> rfl
theorem Home.retR (X : Stand p l e R s m args below meth c T locs cells slots) (hx : p.tables.exec = Jvm.exec) (hlk : meth.locks = false) {pc : Nat} {Ls : Array Slot} {w : Value} {t : FieldType} {rest : List Value} (hret : meth.sig.returnType = some t) (ht : t.isReference = true) (hw : w.isRef = true)
    (hd : decode c.code pc = .ok (.areturn, 1)) (hQ : Q (some w) T.heap locs) (hk : cells ≤ k) (hn : slots ≤ n) : @Home p e below (End s Q k n) T (mkF m pc Ls (w :: rest)) :=
  Home.ret X hx hlk hret (own_narrow_ref hw) (Or.inr (Or.inr (Or.inr (Or.inr ⟨rfl, ht, hw⟩)))) hd hQ hk hn
theorem Home.ret0 (X : Stand p l e R s m args below meth c T locs cells slots) (hx : p.tables.exec = Jvm.exec) (hlk : meth.locks = false) {pc : Nat} {Ls : Array Slot} (hret : meth.sig.returnType = none)
    (hd : decode c.code pc = .ok (.return_, 1)) (hQ : Q none T.heap locs) (hk : cells ≤ k) (hn : slots ≤ n) : @Home p e below (End s Q k n) T (mkF m pc Ls []) := by
  obtain ⟨fs, hr, hrun, hended, hW, hsame⟩ := X.leave (v := none) (fun _ => rfl) hlk
  exact ⟨_, _, X.returnOut hx hret hd hr, hrun, hended, _, _, rfl, hQ, ⟨_, rfl⟩, hW, hsame.mono hk hn⟩
end Walk
section New
variable {p : Program} {l : Launch} {e : Env} {R : Room} {s : State} {m : MethodId} {args : Array Value} {below : List Frame} {meth : Method} {c : Code} {T : State} {locs : List Loc} {cells slots : Nat} {Z : State} {a0 : Array Value} {h : Heap}
theorem own_newO (X : Stand p l e R s m args below meth c T locs cells slots) (hx : p.tables.exec = Jvm.exec) (hZ : Z.Warmed39 s.vm) {own C : String} {index n : Nat} (hown : s.vm.findClass own = some m.cls) (w : (Cond.classLink own index C).before a0 Z = true) (wi : (Cond.instantiable C n).before a0 Z = true) (wz : (Cond.initialized C).before a0 Z = true) (eT : T.heap = h)
    {g : JFrame} (hg : g.method = m) (hd : decode c.code g.pc = .ok (.new index, 3)) (hc : cells + 1 ≤ R.cells) (hl : slots + n ≤ R.slots) :
    ∃ T' h' b, b = h.size ∧ Stand p l e R s m args below meth c T' locs (cells + 1) (slots + n) ∧ T'.heap = h' ∧ Ext h h' ∧ Exa Z h' b C ∧ (∀ {O nm d : String} {ty : FieldType}, Laid Z a0 C O nm d → parseFieldDescriptor d = some ty → Fld Z h' b O nm d (defaultValue ty)) ∧
      ∀ target, Steps p.tables e below (T'.setTop { g with pc := g.pc + 3, stack := .ref b :: g.stack }) target → Steps p.tables e below (T.setTop g) target := by
  obtain ⟨T', h', X', e', E', A', D', -, st⟩ := newO X hx hZ hown w wi wz eT hg hd hc hl
  exact ⟨T', h', _, rfl, X', e', E', A', D', st⟩
theorem own_newR (X : Stand p l e R s m args below meth c T locs cells slots) (hx : p.tables.exec = Jvm.exec) (hZ : Z.Warmed39 s.vm) {own C : String} {index : Nat} (hown : s.vm.findClass own = some m.cls) (w1 : (Cond.classLink own index C).before a0 Z = true) (w2 : (Cond.arrayOver (.object C)).before a0 Z = true)
    (eT : T.heap = h) {g : JFrame} (hg : g.method = m) (hd : decode c.code g.pc = .ok (.anewarray index, 3)) {n : Int32} {rest : List Value} (hs : g.stack = .int n :: rest) (hn : ¬ n < 0) {cap : Nat} (hcap : n.toNatClampNeg ≤ cap) (hb : cap * 8 ≤ 536870912) (hc : cells + 1 ≤ R.cells) (hl : slots + cap ≤ R.slots) :
    ∃ T' h' cA b, b = h.size ∧ Stand p l e R s m args below meth c T' locs (cells + 1) (slots + cap) ∧ T'.heap = h' ∧ Ext h h' ∧ Arr Z h' b (newA cA (.object C) n) (.object C) ∧ Ovr Z cA C ∧
      ∀ target, Steps p.tables e below (T'.setTop { g with pc := g.pc + 3, stack := .ref b :: rest }) target → Steps p.tables e below (T.setTop g) target := by
  obtain ⟨T', h', cA, X', e', E', A', O', st⟩ := newR X hx hZ hown w1 w2 eT hg hd hs hn hcap hb hc hl
  exact ⟨T', h', cA, _, rfl, X', e', E', A', O', st⟩
end New
section Run
variable {p : Program} {l : Launch} {e : Env} {R : Room} {s : State} {m : MethodId} {args : Array Value} {below : List Frame} {meth : Method} {c : Code} {T : State} {locs : List Loc} {cells slots : Nat} {target : State}
def un32 (f : Int32 → Value) (S : List Value) : Option (List Value) := match S with | .int x :: r => some (f x :: r) | _ => none
def un64 (f : Int64 → Value) (S : List Value) : Option (List Value) := match S with | .long x :: r => some (f x :: r) | _ => none
def bi32 (f : Int32 → Int32 → Int32) (S : List Value) : Option (List Value) := match S with | .int y :: .int x :: r => some (.int (f x y) :: r) | _ => none
def bi64 (f : Int64 → Int64 → Value) (S : List Value) : Option (List Value) := match S with | .long y :: .long x :: r => some (f x y :: r) | _ => none
def sh64 (f : Int64 → Int32 → Int64) (S : List Value) : Option (List Value) := match S with | .int y :: .long x :: r => some (.long (f x y) :: r) | _ => none
/-- the stack behind an instruction that reads and writes the stack alone -/
def stk (i : Instr) (S : List Value) : Option (List Value) := match i with
  | .iconst k => some (.int (Int32.ofInt k) :: S)
  | .bipush k => some (.int (Int8.ofInt k).toInt32 :: S)
  | .sipush k => some (.int (Int16.ofInt k).toInt32 :: S)
  | .lconst k => some (.long (Int64.ofNat k) :: S)
  | .aconst_null => some (.null :: S)
  | .iadd => bi32 (· + ·) S
  | .isub => bi32 (· - ·) S
  | .imul => bi32 (· * ·) S
  | .iand => bi32 (· &&& ·) S
  | .ior => bi32 (· ||| ·) S
  | .ixor => bi32 (· ^^^ ·) S
  | .ishl => bi32 (fun x y => x <<< (y &&& 31)) S
  | .ishr => bi32 (fun x y => x >>> (y &&& 31)) S
  | .iushr => bi32 (fun x y => (x.toUInt32 >>> (y &&& 31).toUInt32).toInt32) S
  | .ladd => bi64 (fun x y => .long (x + y)) S
  | .lsub => bi64 (fun x y => .long (x - y)) S
  | .lmul => bi64 (fun x y => .long (x * y)) S
  | .land => bi64 (fun x y => .long (x &&& y)) S
  | .lor => bi64 (fun x y => .long (x ||| y)) S
  | .lxor => bi64 (fun x y => .long (x ^^^ y)) S
  | .lcmp => bi64 (fun x y => .int (if x > y then 1 else if x = y then 0 else -1)) S
  | .lshl => sh64 (fun x y => x <<< (y &&& 0x3f).toInt64) S
  | .lshr => sh64 (fun x y => x >>> (y &&& 0x3f).toInt64) S
  | .lushr => sh64 (fun x y => (x.toUInt64 >>> (y &&& 0x3f).toInt64.toUInt64).toInt64) S
  | .ineg => un32 (fun x => .int (-x)) S
  | .lneg => un64 (fun x => .long (-x)) S
  | .i2l => un32 (fun x => .long x.toInt64) S
  | .l2i => un64 (fun x => .int x.toInt32) S
  | .i2b => un32 (fun x => .int x.toInt8.toInt32) S
  | .i2c => un32 (fun x => .int x.toUInt32.toUInt16.toUInt32.toInt32) S
  | .i2s => un32 (fun x => .int x.toInt16.toInt32) S
  | .dup => match S with | x :: r => if x.category = 1 then some (x :: x :: r) else none | _ => none
  | .pop => match S with | x :: r => if x.category = 1 then some r else none | _ => none
  | .dup_x1 => match S with | x :: y :: r => if x.category = 1 ∧ y.category = 1 then some (x :: y :: x :: r) else none | _ => none
  | _ => none
theorem un32_s {f : Int32 → Value} {S S' : List Value} (h : un32 f S = some S') : ∃ x r, S = .int x :: r ∧ S' = f x :: r := by
  unfold un32 at h; split at h
  · cases h; exact ⟨_, _, rfl, rfl⟩
  · cases h
theorem un64_s {f : Int64 → Value} {S S' : List Value} (h : un64 f S = some S') : ∃ x r, S = .long x :: r ∧ S' = f x :: r := by
  unfold un64 at h; split at h
  · cases h; exact ⟨_, _, rfl, rfl⟩
  · cases h
theorem bi32_s {f : Int32 → Int32 → Int32} {S S' : List Value} (h : bi32 f S = some S') : ∃ x y r, S = .int y :: .int x :: r ∧ S' = .int (f x y) :: r := by
  unfold bi32 at h; split at h
  · cases h; exact ⟨_, _, _, rfl, rfl⟩
  · cases h
theorem bi64_s {f : Int64 → Int64 → Value} {S S' : List Value} (h : bi64 f S = some S') : ∃ x y r, S = .long y :: .long x :: r ∧ S' = f x y :: r := by
  unfold bi64 at h; split at h
  · cases h; exact ⟨_, _, _, rfl, rfl⟩
  · cases h
theorem sh64_s {f : Int64 → Int32 → Int64} {S S' : List Value} (h : sh64 f S = some S') : ∃ x y r, S = .int y :: .long x :: r ∧ S' = .long (f x y) :: r := by
  unfold sh64 at h; split at h
  · cases h; exact ⟨_, _, _, rfl, rfl⟩
  · cases h
def len1 (i : Instr) : Nat := match i with | .bipush _ => 2 | .sipush _ => 3 | _ => 1
theorem stk_s (X : Stand p l e R s m args below meth c T locs cells slots) (hx : p.tables.exec = Jvm.exec) {i : Instr} {n pc : Nat} {L : Array Slot} {S S' : List Value} (hd : decode c.code pc = .ok (i, n)) (hn : n = len1 i) (h : stk i S = some S')
    (H : Steps p.tables e below (T.setTop (mkF m (pc + n) L S')) target) : Steps p.tables e below (T.setTop (mkF m pc L S)) target := by
  subst hn
  unfold stk at h
  split at h <;> first
    | (cases h; first | exact XS.iconst X.here hx rfl hd H | exact XS.bipush X.here hx rfl hd H | exact XS.sipush X.here hx rfl hd H | exact XS.lconst X.here hx rfl hd H | exact XS.aconstNull X.here hx rfl hd H)
    | (obtain ⟨x, y, r, rfl, rfl⟩ := bi32_s h; first | exact XS.iadd X.here hx rfl hd rfl H | exact XS.isub X.here hx rfl hd rfl H | exact XS.imul X.here hx rfl hd rfl H | exact XS.iand X.here hx rfl hd rfl H | exact XS.ior X.here hx rfl hd rfl H | exact XS.ixor X.here hx rfl hd rfl H | exact XS.ishl X.here hx rfl hd rfl H | exact XS.ishr X.here hx rfl hd rfl H | exact XS.iushr X.here hx rfl hd rfl H)
    | (obtain ⟨x, y, r, rfl, rfl⟩ := bi64_s h; first | exact XS.ladd X.here hx rfl hd rfl H | exact XS.lsub X.here hx rfl hd rfl H | exact XS.lmul X.here hx rfl hd rfl H | exact XS.land X.here hx rfl hd rfl H | exact XS.lor X.here hx rfl hd rfl H | exact XS.lxor X.here hx rfl hd rfl H | exact XS.lcmp X.here hx rfl hd rfl H)
    | (obtain ⟨x, y, r, rfl, rfl⟩ := sh64_s h; first | exact XS.lshl X.here hx rfl hd rfl H | exact XS.lshr X.here hx rfl hd rfl H | exact XS.lushr X.here hx rfl hd rfl H)
    | (obtain ⟨x, r, rfl, rfl⟩ := un32_s h; first | exact XS.ineg X.here hx rfl hd rfl H | exact XS.i2l X.here hx rfl hd rfl H | exact XS.i2b X.here hx rfl hd rfl H | exact XS.i2c X.here hx rfl hd rfl H | exact XS.i2s X.here hx rfl hd rfl H)
    | (obtain ⟨x, r, rfl, rfl⟩ := un64_s h; first | exact XS.lneg X.here hx rfl hd rfl H | exact XS.l2i X.here hx rfl hd rfl H)
    | (split at h <;> (try split at h) <;> first | (cases h; done) | (rename_i q; cases h; first | exact XS.dup X.here hx rfl hd rfl q H | exact XS.pop X.here hx rfl hd rfl q H | exact XS.dupX1 X.here hx rfl hd rfl q.1 q.2 H))
    | cases h
def ldI (L : Array Slot) (S : List Value) (k : Nat) : Option (Array Slot × List Value) := match L[k]? with | some (.val (.int v)) => some (L, .int v :: S) | _ => none
def ldJ (L : Array Slot) (S : List Value) (k : Nat) : Option (Array Slot × List Value) := match L[k]? with | some (.val (.long v)) => some (L, .long v :: S) | _ => none
def ldA (L : Array Slot) (S : List Value) (k : Nat) : Option (Array Slot × List Value) := match L[k]? with | some (.val v) => if v.isRef = true then some (L, v :: S) else none | _ => none
def stI1 (L : Array Slot) (S : List Value) (k : Nat) : Option (Array Slot × List Value) := match S with | .int x :: r => (storeLocals L k (.int x)).map fun l' => (l', r) | _ => none
def stJ1 (L : Array Slot) (S : List Value) (k : Nat) : Option (Array Slot × List Value) := match S with | .long x :: r => (storeLocals L k (.long x)).map fun l' => (l', r) | _ => none
def stA1 (L : Array Slot) (S : List Value) (k : Nat) : Option (Array Slot × List Value) := match S with | x :: r => if x.isRef = true then (storeLocals L k x).map fun l' => (l', r) else none | _ => none
/-- what an instruction does to pc, locals and stack; nothing else is touched -/
def run1 (i : Instr) (n pc : Nat) (L : Array Slot) (S : List Value) : Option (Nat × Array Slot × List Value) := match i with
  | .iload_n k => if n = 1 then (ldI L S k.val).map (pc + n, ·) else none
  | .iload k => if n = 2 then (ldI L S k).map (pc + n, ·) else none
  | .lload_n k => if n = 1 then (ldJ L S k.val).map (pc + n, ·) else none
  | .lload k => if n = 2 then (ldJ L S k).map (pc + n, ·) else none
  | .aload_n k => if n = 1 then (ldA L S k.val).map (pc + n, ·) else none
  | .aload k => if n = 2 then (ldA L S k).map (pc + n, ·) else none
  | .istore_n k => if n = 1 then (stI1 L S k.val).map (pc + n, ·) else none
  | .istore k => if n = 2 then (stI1 L S k).map (pc + n, ·) else none
  | .lstore_n k => if n = 1 then (stJ1 L S k.val).map (pc + n, ·) else none
  | .lstore k => if n = 2 then (stJ1 L S k).map (pc + n, ·) else none
  | .astore_n k => if n = 1 then (stA1 L S k.val).map (pc + n, ·) else none
  | .astore k => if n = 2 then (stA1 L S k).map (pc + n, ·) else none
  | .iinc k cst => if n = 3 then (match L[k]? with | some (.val (.int x)) => (storeLocals L k (.int (x + Int32.ofInt cst))).map fun l' => (pc + n, l', S) | _ => none) else none
  | .goto o => if n = 3 then (if 0 ≤ (pc : Int) + o then some (((pc : Int) + o).toNat, L, S) else none) else none
  | i => if n = len1 i then (stk i S).map fun S' => (pc + n, L, S') else none
theorem ldI_s {L L' : Array Slot} {S S' : List Value} {k : Nat} (h : ldI L S k = some (L', S')) : ∃ v, L[k]? = some (.val (.int v)) ∧ L' = L ∧ S' = .int v :: S := by
  unfold ldI at h; split at h
  · cases h; exact ⟨_, by assumption, rfl, rfl⟩
  · cases h
theorem ldJ_s {L L' : Array Slot} {S S' : List Value} {k : Nat} (h : ldJ L S k = some (L', S')) : ∃ v, L[k]? = some (.val (.long v)) ∧ L' = L ∧ S' = .long v :: S := by
  unfold ldJ at h; split at h
  · cases h; exact ⟨_, by assumption, rfl, rfl⟩
  · cases h
theorem ldA_s {L L' : Array Slot} {S S' : List Value} {k : Nat} (h : ldA L S k = some (L', S')) : ∃ v, L[k]? = some (.val v) ∧ v.isRef = true ∧ L' = L ∧ S' = v :: S := by
  unfold ldA at h; split at h
  · split at h
    · cases h; exact ⟨_, by assumption, by assumption, rfl, rfl⟩
    · cases h
  · cases h
theorem stI1_s {L L' : Array Slot} {S S' : List Value} {k : Nat} (h : stI1 L S k = some (L', S')) : ∃ x, S = .int x :: S' ∧ storeLocals L k (.int x) = some L' := by
  unfold stI1 at h; split at h
  · rw [Option.map_eq_some_iff] at h; obtain ⟨l', h1, h2⟩ := h; cases h2; exact ⟨_, rfl, h1⟩
  · cases h
theorem stJ1_s {L L' : Array Slot} {S S' : List Value} {k : Nat} (h : stJ1 L S k = some (L', S')) : ∃ x, S = .long x :: S' ∧ storeLocals L k (.long x) = some L' := by
  unfold stJ1 at h; split at h
  · rw [Option.map_eq_some_iff] at h; obtain ⟨l', h1, h2⟩ := h; cases h2; exact ⟨_, rfl, h1⟩
  · cases h
theorem stA1_s {L L' : Array Slot} {S S' : List Value} {k : Nat} (h : stA1 L S k = some (L', S')) : ∃ x, S = x :: S' ∧ x.isRef = true ∧ storeLocals L k x = some L' := by
  unfold stA1 at h; split at h
  · split at h
    · rw [Option.map_eq_some_iff] at h; obtain ⟨l', h1, h2⟩ := h; cases h2; exact ⟨_, rfl, by assumption, h1⟩
    · cases h
  · cases h
theorem map_s {α β : Type} {o : Option α} {f : α → β} {y : β} (h : o.map f = some y) : ∃ x, o = some x ∧ f x = y := Option.map_eq_some_iff.mp h
theorem run1_s (X : Stand p l e R s m args below meth c T locs cells slots) (hx : p.tables.exec = Jvm.exec) {i : Instr} {n pc pc' : Nat} {L L' : Array Slot} {S S' : List Value} (hd : decode c.code pc = .ok (i, n)) (h : run1 i n pc L S = some (pc', L', S'))
    (H : Steps p.tables e below (T.setTop (mkF m pc' L' S')) target) : Steps p.tables e below (T.setTop (mkF m pc L S)) target := by
  unfold run1 at h
  split at h <;> split at h <;> first
    | (cases h; done)
    | (rename_i hn; subst hn; obtain ⟨⟨L1, S1⟩, h1, h2⟩ := map_s h; cases h2; first
        | (obtain ⟨v, q1, rfl, rfl⟩ := ldI_s h1; first | exact XS.iloadN X.here hx rfl hd q1 H | exact XS.iload X.here hx rfl hd q1 H)
        | (obtain ⟨v, q1, rfl, rfl⟩ := ldJ_s h1; first | exact XS.lloadN X.here hx rfl hd q1 H | exact XS.lload X.here hx rfl hd q1 H)
        | (obtain ⟨v, q1, q2, rfl, rfl⟩ := ldA_s h1; first | exact XS.aloadN X.here hx rfl hd q1 q2 H | exact XS.aload X.here hx rfl hd q1 q2 H)
        | (obtain ⟨x, rfl, q⟩ := stI1_s h1; first | exact XS.istoreN X.here hx rfl hd rfl q H | exact XS.istore X.here hx rfl hd rfl q H)
        | (obtain ⟨x, rfl, q⟩ := stJ1_s h1; first | exact XS.lstoreN X.here hx rfl hd rfl q H | exact XS.lstore X.here hx rfl hd rfl q H)
        | (obtain ⟨x, rfl, q1, q⟩ := stA1_s h1; first | exact XS.astoreN X.here hx rfl hd rfl q1 q H | exact XS.astore X.here hx rfl hd rfl q1 q H))
    | (rename_i hn; subst hn; split at h <;> first
        | (cases h; done)
        | (rename_i q; obtain ⟨l', h1, h2⟩ := map_s h; cases h2; exact XS.iinc X.here hx rfl hd q h1 H)
        | (rename_i q; cases h; exact XS.goto X.here hx rfl (pc0 := pc) rfl hd q rfl H))
    | (rename_i hn; obtain ⟨S1, h1, h2⟩ := map_s h; cases h2; exact stk_s X hx hd hn h1 H)
def runs : List (Nat × Instr × Nat) → Nat → Array Slot → List Value → Option (Nat × Array Slot × List Value)
  | [], pc, L, S => some (pc, L, S)
  | (q, i, n) :: is, pc, L, S => if q = pc then (match run1 i n pc L S with | some (pc', L', S') => runs is pc' L' S' | none => none) else none
def decs (code : ByteArray) : List (Nat × Instr × Nat) → Prop
  | [] => True
  | (q, i, n) :: is => decode code q = .ok (i, n) ∧ decs code is
theorem runs_s (X : Stand p l e R s m args below meth c T locs cells slots) (hx : p.tables.exec = Jvm.exec) {pc' : Nat} {L' : Array Slot} {S' : List Value} (H : Steps p.tables e below (T.setTop (mkF m pc' L' S')) target) :
    ∀ (is : List (Nat × Instr × Nat)) (pc : Nat) (L : Array Slot) (S : List Value), decs c.code is → runs is pc L S = some (pc', L', S') → Steps p.tables e below (T.setTop (mkF m pc L S)) target
  | [], pc, L, S, _, h => by cases h; exact H
  | (q, i, n) :: is, pc, L, S, hd, h => by
    unfold runs at h
    split at h
    · rename_i e1; subst e1
      split at h
      · rename_i pc1 L1 S1 h1
        exact run1_s X hx hd.1 h1 (runs_s X hx H is pc1 L1 S1 hd.2 h)
      · cases h
    · cases h
variable {P : Option Value → State → List Loc → Prop}
theorem Home.run (X : Stand p l e R s m args below meth c T locs cells slots) (hx : p.tables.exec = Jvm.exec) {bytes : ByteArray} (hby : c.code = bytes) {is : List (Nat × Instr × Nat)} (hd : decs bytes is) {pc pc' : Nat} {L L' : Array Slot} {S S' : List Value} (h : runs is pc L S = some (pc', L', S'))
    (H : @Home p e below P T (mkF m pc' L' S')) : @Home p e below P T (mkF m pc L S) :=
  Home.go (fun _ kt => runs_s X hx kt is pc L S (by rw [hby]; exact hd) h) H
end Run
section Calls
variable {p : Program} {l : Launch} {e : Env} {R : Room} {s : State} {m : MethodId} {args : Array Value} {below : List Frame} {meth : Method} {c : Code} {T : State} {locs : List Loc} {cells slots : Nat} {Z : State} {a0 : Array Value} {h : Heap} {y z : MethodName} {bytes : ByteArray} {maxL : Nat} {ret : Option FieldType} {rm : Room} {W : Nat} {as' : Array Value} {Q : Option Value → Heap → List Loc → Prop} {own C : String} {index : Nat}
/-- a body's contract, at one heap and one list of arguments -/
abbrev Con (l : Launch) (Z : State) (y : MethodName) (bytes : ByteArray) (maxL : Nat) (ret : Option FieldType) (ws : List Jvm.Cond) (rm : Room) (as' : Array Value) (h : Heap) (Q : Option Value → Heap → List Loc → Prop) : Prop :=
  MetFree l y (head1 (Jvm.Cond.code y bytes maxL ret :: ws) rm) (fun a U => a = as' ∧ Z.Warmed39 U.vm ∧ U.heap = h) (fun _ _ _ _ _ => True) (fun _ U o U' => ∃ v L, o = .returned v ∧ Q v U'.heap L ∧ FrameEnd U o U' L rm.cells rm.slots)
/-- it leaves the heap as it was -/
abbrev Pur (w : Option Value) (h0 : Heap) : Option Value → Heap → List Loc → Prop := fun v h L => v = w ∧ L = [] ∧ h = h0
/-- from a walk that comes home to the contract -/
theorem own_body {ws : List Jvm.Cond} {L0 : Array Slot} (pn : plainFor y = true) (ef : ∀ m, entryFrame m as' maxL = mkF m 0 L0 [])
    (body : ∀ (p : Program) (e : Env) (s : State) (m : MethodId) (below : List Frame) (meth : Method) (c : Code) (s₁ : State), p.tables.exec = Jvm.exec → c.code = bytes → meth.locks = false → c.maxLocals = maxL → meth.sig.returnType = ret → Z.Warmed39 s.vm → s.vm.findClass y.cls = some m.cls → meth.name = y.name →
      Stand p l e rm s m as' below meth c s₁ [] 0 0 → s₁.heap = h → @Home p e below (End s Q rm.cells rm.slots) s₁ (mkF m 0 L0 [])) : Con l Z y bytes maxL ret ws rm as' h Q := by
  refine MetFree.of_bodySF pn hisR ?_
  intro p e s m args below meth c s₁ Bd hml0 hP hK
  obtain ⟨rfl, hZ, hh⟩ := hP
  have H : @Home p e below (End s Q rm.cells rm.slots) s₁ (entryFrame m args maxL) := Home.enter (ef m) (body p e s m below meth c s₁ Bd.exec Bd.bytes (BodyLoose.notSynchronized Bd) hml0 Bd.returns hZ (findClass_of_methodNamed Bd.named) (name_of_methodNamed Bd.named Bd.method).1 (Stand.of_body Bd) (by rw [← hh, Bd.state]; rfl))
  obtain ⟨U, o, h1, h2, h3, v, L, rfl, h4, h5⟩ := H
  exact ⟨U, _, h1, h2, h3, v, L, rfl, h4, h5⟩
theorem own_static (X : Stand p l e R s m args below meth c T locs cells slots) (hx : p.tables.exec = Jvm.exec) (hZ : Z.Warmed39 s.vm) (hown : s.vm.findClass own = some m.cls)
    (w1 : (Cond.methodLink own index y).before a0 Z = true) (w2 : (Cond.static y).before a0 Z = true) (w3 : (Cond.initialized y.cls).before a0 Z = true) (w4 : (Cond.code y bytes maxL ret).before a0 Z = true)
    (hy : y.cls ≠ "java/lang/invoke/MethodHandle" ∧ y.cls ≠ "java/lang/invoke/VarHandle") (hM : Con l Z y bytes maxL ret [] rm as' h Q) (eT : T.heap = h)
    {g : JFrame} (hg : g.method = m) (hsize : g.locals.size = c.maxLocals) {argsL rest : List Value} (hlen : ∀ sig, parseMethodDescriptor y.desc = some sig → argsL.length = sig.parameters.length) (hstack : g.stack = argsL.reverse ++ rest) (ha : argsL.toArray = as')
    (hW : 2 * g.monitorRoom + (rest.map fun v => v.category).sum ≤ W) (hf : rm.frames + 1 ≤ R.frames) (hl : W + (maxL + 11) + rm.locals ≤ R.locals)
    (hdg : decode c.code g.pc = .ok (.invokestatic index, 3)) (hc : cells + rm.cells ≤ R.cells) (hs : slots + rm.slots ≤ R.slots) :
    ∃ v T' L, Stand p l e R s m args below meth c T' (locs ++ L) (cells + rm.cells) (slots + rm.slots) ∧ Q v T'.heap L ∧
      ∀ t, Steps p.tables e below (T'.setTop { g with pc := g.pc + 3, stack := v.toList ++ rest }) t → Steps p.tables e below (T.setTop g) t := by
  obtain ⟨v, _, ⟨T', L', k', n'⟩, -, X', ⟨L, hQ, l', y', z'⟩, st⟩ := Jvm.LawKit.callS X hx (y := y) hown (mvT hZ w1) (mvT hZ w2) (mvT hZ w3) (mvT hZ w4) hy (backOf (W := W) hM hZ w4 w3 hf hl) hg hsize hlen hstack hW hdg (fun _ _ => ⟨ha, eT, hc, hs⟩)
  dsimp only [Pt.U, Pt.locs, Pt.cells, Pt.slots] at X' l' y' z' st hQ
  subst l' y' z'
  exact ⟨v, T', L, X', hQ, st⟩
theorem own_special (X : Stand p l e R s m args below meth c T locs cells slots) (hx : p.tables.exec = Jvm.exec) (hZ : Z.Warmed39 s.vm) (hown : s.vm.findClass own = some m.cls) (hy1 : y.name = "<init>")
    (w1 : (Cond.methodLink own index y).before a0 Z = true) (w2 : (Cond.instanceMethod y).before a0 Z = true) (w3 : (Cond.initialized y.cls).before a0 Z = true) (w4 : (Cond.code y bytes maxL none).before a0 Z = true)
    (hy : y.cls ≠ "java/lang/invoke/MethodHandle" ∧ y.cls ≠ "java/lang/invoke/VarHandle") (hM : Con l Z y bytes maxL none [] rm as' h Q) (eT : T.heap = h)
    {g : JFrame} (hg : g.method = m) (hsize : g.locals.size = c.maxLocals) {a : Addr} {argsL rest : List Value} (hlen : ∀ sig, parseMethodDescriptor y.desc = some sig → argsL.length = sig.parameters.length) (hstack : g.stack = argsL.reverse ++ .ref a :: rest) (ha : (.ref a :: argsL).toArray = as')
    (hW : 2 * g.monitorRoom + (rest.map fun v => v.category).sum ≤ W) (hf : rm.frames + 1 ≤ R.frames) (hl : W + (maxL + 11) + rm.locals ≤ R.locals)
    (hdg : decode c.code g.pc = .ok (.invokespecial index, 3)) (hc : cells + rm.cells ≤ R.cells) (hs : slots + rm.slots ≤ R.slots) :
    ∃ v T' L, Stand p l e R s m args below meth c T' (locs ++ L) (cells + rm.cells) (slots + rm.slots) ∧ Q v T'.heap L ∧
      ∀ t, Steps p.tables e below (T'.setTop { g with pc := g.pc + 3, stack := v.toList ++ rest }) t → Steps p.tables e below (T.setTop g) t := by
  obtain ⟨v, _, ⟨T', L', k', n'⟩, -, X', ⟨L, hQ, l', y', z'⟩, st⟩ := X.specialBack hx (y := y) hy1 hown (mvT hZ w1) (mvT hZ w2) (mvT hZ w4) hy (backOf (W := W) hM hZ w4 w3 hf hl) hg hsize (Steps.refl _) (a := a) hlen hstack hW hdg (fun _ _ => ⟨ha, eT, hc, hs⟩)
  dsimp only [Pt.U, Pt.locs, Pt.cells, Pt.slots] at X' l' y' z' st hQ
  subst l' y' z'
  exact ⟨v, T', L, X', hQ, fun t k => st.trans k⟩
theorem own_virtual (X : Stand p l e R s m args below meth c T locs cells slots) (hx : p.tables.exec = Jvm.exec) (hZ : Z.Warmed39 s.vm) (hown : s.vm.findClass own = some m.cls)
    (w1 : (Cond.methodLink own index y).before a0 Z = true) (w2 : (Cond.declares y).before a0 Z = true) (hnf : NotFace s y) (w3 : (Cond.selects C y z).before a0 Z = true) (w4 : (Cond.instanceMethod z).before a0 Z = true) (w5 : (Cond.initialized z.cls).before a0 Z = true) (w6 : (Cond.code z bytes maxL ret).before a0 Z = true)
    (hy : y.cls ≠ "java/lang/invoke/MethodHandle" ∧ y.cls ≠ "java/lang/invoke/VarHandle") (hM : Con l Z z bytes maxL ret [] rm as' h Q) (eT : T.heap = h) {a : Addr} (E : Exa Z h a C)
    {g : JFrame} (hg : g.method = m) (hsize : g.locals.size = c.maxLocals) {argsL rest : List Value} (hlen : ∀ sig, parseMethodDescriptor y.desc = some sig → argsL.length = sig.parameters.length) (hstack : g.stack = argsL.reverse ++ .ref a :: rest) (ha : (.ref a :: argsL).toArray = as')
    (hW : 2 * g.monitorRoom + (rest.map fun v => v.category).sum ≤ W) (hf : rm.frames + 1 ≤ R.frames) (hl : W + (maxL + 11) + rm.locals ≤ R.locals)
    (hdg : decode c.code g.pc = .ok (.invokevirtual index, 3)) (hc : cells + rm.cells ≤ R.cells) (hs : slots + rm.slots ≤ R.slots) :
    ∃ v T' L, Stand p l e R s m args below meth c T' (locs ++ L) (cells + rm.cells) (slots + rm.slots) ∧ Q v T'.heap L ∧
      ∀ t, Steps p.tables e below (T'.setTop { g with pc := g.pc + 3, stack := v.toList ++ rest }) t → Steps p.tables e below (T.setTop g) t := by
  obtain ⟨cB, kB, q1, q2, q3⟩ := isOf hZ eT E
  obtain ⟨v, _, ⟨T', L', k', n'⟩, -, X', ⟨L, hQ, l', y', z'⟩, st⟩ := X.virtualBack hx (y := y) (z := z) hown (mvT hZ w1) (mvT hZ w2) hnf (mvT hZ w3) (mvT hZ w4) hy (backOf (W := W) hM hZ w6 w5 hf hl) q1 q3 hg hsize (Steps.refl _) hlen hstack hW hdg (fun _ _ => ⟨ha, eT, hc, hs⟩)
  dsimp only [Pt.U, Pt.locs, Pt.cells, Pt.slots] at X' l' y' z' st hQ
  subst l' y' z'
  exact ⟨v, T', L, X', hQ, fun t k => st.trans k⟩
theorem own_face (X : Stand p l e R s m args below meth c T locs cells slots) (hx : p.tables.exec = Jvm.exec) (hZ : Z.Warmed39 s.vm) (hown : s.vm.findClass own = some m.cls) {count : Nat}
    (w1 : (Cond.methodLink own index y).before a0 Z = true) (w2 : (Cond.declares y).before a0 Z = true) (w3 : (Cond.interfaceMethod y.cls y.cls y.name y.desc).before args s = true) (w4 : (Cond.selects C y z).before a0 Z = true) (w5 : (Cond.instanceMethod z).before a0 Z = true)
    (w6 : (Cond.publicMethod z).before a0 Z = true) (w7 : (Cond.unhidden C y.name y.desc).before a0 Z = true) (w8 : (Cond.castable C y.cls).before a0 Z = true) (w9 : (Cond.initialized z.cls).before a0 Z = true) (w10 : (Cond.code z bytes maxL ret).before a0 Z = true)
    (hy : y.cls ≠ "java/lang/invoke/MethodHandle" ∧ y.cls ≠ "java/lang/invoke/VarHandle") (hM : Con l Z z bytes maxL ret [] rm as' h Q) (eT : T.heap = h) {a : Addr} (E : Exa Z h a C)
    {g : JFrame} (hg : g.method = m) (hsize : g.locals.size = c.maxLocals) {argsL rest : List Value} (hlen : ∀ sig, parseMethodDescriptor y.desc = some sig → argsL.length = sig.parameters.length) (hstack : g.stack = argsL.reverse ++ .ref a :: rest) (ha : (.ref a :: argsL).toArray = as')
    (hW : 2 * g.monitorRoom + (rest.map fun v => v.category).sum ≤ W) (hf : rm.frames + 1 ≤ R.frames) (hl : W + (maxL + 11) + rm.locals ≤ R.locals)
    (hdg : decode c.code g.pc = .ok (.invokeinterface index count, 5)) (hc : cells + rm.cells ≤ R.cells) (hs : slots + rm.slots ≤ R.slots) :
    ∃ v T' L, Stand p l e R s m args below meth c T' (locs ++ L) (cells + rm.cells) (slots + rm.slots) ∧ Q v T'.heap L ∧
      ∀ t, Steps p.tables e below (T'.setTop { g with pc := g.pc + 5, stack := v.toList ++ rest }) t → Steps p.tables e below (T.setTop g) t := by
  obtain ⟨cB, kB, q1, q2, q3⟩ := isOf hZ eT E
  obtain ⟨v, _, ⟨T', L', k', n'⟩, -, X', ⟨L, hQ, l', y', z'⟩, st⟩ := X.interfaceBack hx (xi := y) (y := z) hown (mvT hZ w1) (mvT hZ w2) w3 (mvT hZ w4) (mvT hZ w5) (mvT hZ w6) (mvT hZ w7) (mvT hZ w8) hy (backOf (W := W) hM hZ w10 w9 hf hl) q1 q2 q3 hg hsize (Steps.refl _) hlen hstack hW hdg (fun _ _ => ⟨ha, eT, hc, hs⟩)
  dsimp only [Pt.U, Pt.locs, Pt.cells, Pt.slots] at X' l' y' z' st hQ
  subst l' y' z'
  exact ⟨v, T', L, X', hQ, fun t k => st.trans k⟩
theorem own_private (X : Stand p l e R s m args below meth c T locs cells slots) (hx : p.tables.exec = Jvm.exec) (hZ : Z.Warmed39 s.vm) (hown : s.vm.findClass own = some m.cls)
    (w1 : (Cond.methodLink own index y).before a0 Z = true) (w2 : (Cond.instanceMethod y).before a0 Z = true) (w3 : (Cond.selects y.cls y y).before a0 Z = true) (hp : s.PrivateAt y) (w5 : (Cond.initialized y.cls).before a0 Z = true) (w6 : (Cond.code y bytes maxL ret).before a0 Z = true)
    (hy : y.cls ≠ "java/lang/invoke/MethodHandle" ∧ y.cls ≠ "java/lang/invoke/VarHandle") (hM : Con l Z y bytes maxL ret [] rm as' h Q) (eT : T.heap = h) {a : Addr} (E : Exa Z h a C)
    {g : JFrame} (hg : g.method = m) (hsize : g.locals.size = c.maxLocals) {argsL rest : List Value} (hlen : ∀ sig, parseMethodDescriptor y.desc = some sig → argsL.length = sig.parameters.length) (hstack : g.stack = argsL.reverse ++ .ref a :: rest) (ha : (.ref a :: argsL).toArray = as')
    (hW : 2 * g.monitorRoom + (rest.map fun v => v.category).sum ≤ W) (hf : rm.frames + 1 ≤ R.frames) (hl : W + (maxL + 11) + rm.locals ≤ R.locals)
    (hdg : decode c.code g.pc = .ok (.invokevirtual index, 3)) (hc : cells + rm.cells ≤ R.cells) (hs : slots + rm.slots ≤ R.slots) :
    ∃ v T' L, Stand p l e R s m args below meth c T' (locs ++ L) (cells + rm.cells) (slots + rm.slots) ∧ Q v T'.heap L ∧
      ∀ t, Steps p.tables e below (T'.setTop { g with pc := g.pc + 3, stack := v.toList ++ rest }) t → Steps p.tables e below (T.setTop g) t := by
  obtain ⟨cq, q1, q2⟩ := E.cell
  obtain ⟨v, _, ⟨T', L', k', n'⟩, -, X', ⟨L, hQ, l', y', z'⟩, st⟩ := X.privateBack hx (y := y) hown (mvT hZ w1) (mvT hZ w2) (mvT hZ w3) hp (mvT hZ w6) hy (backOf (W := W) hM hZ w6 w5 hf hl) hg hsize (Steps.refl _) (a := a) (by rw [eT]; exact q1) q2 hlen hstack hW hdg (fun _ _ => ⟨ha, eT, hc, hs⟩)
  dsimp only [Pt.U, Pt.locs, Pt.cells, Pt.slots] at X' l' y' z' st hQ
  subst l' y' z'
  exact ⟨v, T', L, X', hQ, fun t k => st.trans k⟩
/-- a call that left the heap as it was -/
theorem own_pure {w : Option Value} {g : JFrame} {g' : Option Value → JFrame} (q : ∃ v T' L, Stand p l e R s m args below meth c T' (locs ++ L) (cells + rm.cells) (slots + rm.slots) ∧ Pur w h v T'.heap L ∧ ∀ t, Steps p.tables e below (T'.setTop (g' v)) t → Steps p.tables e below (T.setTop g) t)
    (hc : rm.cells = 0 := by rfl) (hs : rm.slots = 0 := by rfl) : ∃ T', Stand p l e R s m args below meth c T' locs cells slots ∧ T'.heap = h ∧ ∀ t, Steps p.tables e below (T'.setTop (g' w)) t → Steps p.tables e below (T.setTop g) t := by
  obtain ⟨v, T', L, X', ⟨rfl, rfl, hh⟩, st⟩ := q
  rw [List.append_nil, hc, hs] at X'
  exact ⟨T', X', hh, st⟩
end Calls
section Facts
variable {Z : State} {h h' : Heap} {a b : Addr} {C n d : String} {v : Value} {n0 : Nat}
theorem Old.le (O : Old Z n0 h) : n0 ≤ h.size := O.1 ▸ O.2.1
end Facts
end Jvm.OwnKit
namespace Jvm.OwnKit
open Jvm Jvm.ClassFile Sem Op Lib Jvm.Free Jvm.Stand Jvm.LawKit Jvm.RoadKit
section Arrays
variable {p : Program} {l : Launch} {e : Env} {R : Room} {s : State} {m : MethodId} {args : Array Value} {below : List Frame} {meth : Method} {c : Code} {T : State} {locs : List Loc} {cells slots : Nat} {Z : State} {h : Heap}
theorem own_alen (X : Stand p l e R s m args below meth c T locs cells slots) (hx : p.tables.exec = Jvm.exec) (hZ : Z.Warmed39 s.vm) (eT : T.heap = h) {a : Addr} {cl : Cell} {ty : FieldType} {z : Int32} (A : Arr Z h a cl ty) (S : cl.slots.size = z.toNatClampNeg) (M : ¬ z < 0)
    {g : JFrame} (hg : g.method = m) {rest : List Value} (hs : g.stack = .ref a :: rest) (hd : decode c.code g.pc = .ok (.arraylength, 1)) :
    ∀ t, Steps p.tables e below (T.setTop { g with pc := g.pc + 1, stack := .int z :: rest }) t → Steps p.tables e below (T.setTop g) t := fun t k =>
  X.arraylength hx (by rw [eT]; exact A.1) (State.isArrayOf_alike hZ.alike A.2.1) hg hs hd _ (by rw [len_of S M]; exact k)
theorem own_clone (X : Stand p l e R s m args below meth c T locs cells slots) (hx : p.tables.exec = Jvm.exec) (hZ : Z.Warmed39 s.vm) {a0 : Array Value} {own ad : String} {index : Nat} (hown : s.vm.findClass own = some m.cls)
    (w1 : (Cond.methodLink own index ⟨ad, "clone", "()Ljava/lang/Object;"⟩).before a0 Z = true) (w2 : (Cond.sameMethod ad "java/lang/Object" "clone" "()Ljava/lang/Object;").before a0 Z = true) (w3 : (Cond.native ⟨"java/lang/Object", "clone", "()Ljava/lang/Object;"⟩).before a0 Z = true)
    (w4 : (Cond.instanceMethod ⟨"java/lang/Object", "clone", "()Ljava/lang/Object;"⟩).before a0 Z = true) (w5 : (Cond.selects ad ⟨ad, "clone", "()Ljava/lang/Object;"⟩ ⟨"java/lang/Object", "clone", "()Ljava/lang/Object;"⟩).before a0 Z = true) (w6 : (Cond.castable ad "java/lang/Cloneable").before a0 Z = true)
    (eT : T.heap = h) {a : Addr} {k : ClassId} {ty : FieldType} {z : Int32} {vs : List Value} {dv : Value} (F : Arv Z h a k ty z vs dv) (E : Exa Z h a ad) {g : JFrame} (hg : g.method = m) (hsize : g.locals.size = c.maxLocals) {rest : List Value} (hst : g.stack = .ref a :: rest) (hd : decode c.code g.pc = .ok (.invokevirtual index, 3))
    (hf : 1 ≤ R.frames) {W cap : Nat} (hW : 2 * g.monitorRoom + (rest.map fun v => v.category).sum ≤ W) (hl : W + 14 ≤ R.locals) (hcap : z.toNatClampNeg ≤ cap) (hc : cells + 1 ≤ R.cells) (hsl : slots + cap ≤ R.slots) :
    ∃ T' h' b, b = h.size ∧ Stand p l e R s m args below meth c T' locs (cells + 1) (slots + cap) ∧ T'.heap = h' ∧ Ext h h' ∧ Arv Z h' b k ty z vs dv ∧ Exa Z h' b ad ∧
      ∀ target, Steps p.tables e below (T'.setTop { g with pc := g.pc + 3, stack := .ref b :: rest }) target → Steps p.tables e below (T.setTop g) target := by
  obtain ⟨cl, A, q1, S, q3, H, G⟩ := F
  have FC : FitC Z cl := fitC_of A fun i hi v hv => by rw [H i hi] at hv; cases hv; exact G i hi
  obtain ⟨T', h', X', e', ex, A', E', st⟩ := cloneA X hx hZ hown w1 w2 w3 w4 w5 w6 eT A E FC hg hsize hst hd hf hW hl (by rw [S]; exact hcap) hc hsl
  exact ⟨T', h', _, rfl, X', e', ex, ⟨cloneOf cl, A', q1, S, q3, H, G⟩, E', st⟩
theorem own_neAV {a b : Addr} {C : String} {a0 : Array Value} {k : Nat} {kc : ClassId} {ty : FieldType} {z : Int32} {vs : List Value} {dv : Value} (F : Exa Z h a C) (wi : (Cond.instantiable C k).before a0 Z = true) (G : Arv Z h b kc ty z vs dv) : a ≠ b := by obtain ⟨cl, A, -⟩ := G; exact ne_arr F wi A
end Arrays
end Jvm.OwnKit
namespace Jvm.OwnKit
open Jvm Jvm.ClassFile Sem Op Lib Jvm.Free Jvm.Stand Jvm.LawKit Jvm.RoadKit
theorem Ins.keep {Z : State} {h h' : Heap} {a : Addr} {C : String} {b : Bool} {ws : List Addr} (F : Ins Z h a C b) (K : Keep h h' ws) : Ins Z h' a C b := by
  obtain ⟨cell, cT, h1, h2, h3⟩ := F
  obtain ⟨c', e1, e2, e3, -⟩ := K.2.2 _ _ h1
  exact ⟨c', cT, e1, h2, by rw [e2, e3]; exact h3⟩
section Bounds
variable {x y a b c d : Int32}
theorem bnd_and (x m : Int32) (h : 0 ≤ m.toInt) : ¬ (x &&& m) < (0 : Int32) ∧ ¬ m < (x &&& m) := by
  have q := c_and x m h
  have e : (0 : Int32).toInt = 0 := rfl
  rw [Int32.lt_iff_toInt_lt, Int32.lt_iff_toInt_lt, e]; omega
theorem bnd_i2c (x : Int32) : ¬ (x.toUInt32.toUInt16.toUInt32.toInt32) < (0 : Int32) ∧ ¬ (65535 : Int32) < (x.toUInt32.toUInt16.toUInt32.toInt32) := by
  have q := c_i2c x
  have e : (0 : Int32).toInt = 0 := rfl
  have e1 : (65535 : Int32).toInt = 65535 := rfl
  simp only [Int32.lt_iff_toInt_lt, e, e1]; omega
theorem bnd_i2b (x : Int32) : ¬ (x.toInt8.toInt32) < (-128 : Int32) ∧ ¬ (127 : Int32) < (x.toInt8.toInt32) := by
  have q := c_i2b x
  have e : (-128 : Int32).toInt = -128 := rfl
  have e1 : (127 : Int32).toInt = 127 := rfl
  simp only [Int32.lt_iff_toInt_lt, e, e1]; omega
theorem i2c_id (h : ¬ x < a ∧ ¬ b < x) (h1 : 0 ≤ a.toInt) (h2 : b.toInt ≤ 65535) : x.toUInt32.toUInt16.toUInt32.toInt32 = x := by
  have q := c_i2c x
  simp only [Int32.lt_iff_toInt_lt] at h
  apply Int32.toInt_inj.mp; omega
theorem i2b_id (h : ¬ x < a ∧ ¬ b < x) (h1 : -128 ≤ a.toInt) (h2 : b.toInt ≤ 127) : x.toInt8.toInt32 = x := by
  have q := c_i2b x
  simp only [Int32.lt_iff_toInt_lt] at h
  apply Int32.toInt_inj.mp; omega
theorem bnd_eql (h : x = c) : ¬ x < c := by
  subst h; simp only [Int32.lt_iff_toInt_lt]; omega
theorem bnd_eqr (h : x = c) : ¬ c < x := by
  subst h; simp only [Int32.lt_iff_toInt_lt]; omega
theorem bnd_nel (h : ¬ x < c) (k : ¬ x = c) (q : d.toInt = c.toInt + 1) : ¬ x < d := by
  rw [← Int32.toInt_inj] at k; simp only [Int32.lt_iff_toInt_lt] at *; omega
theorem bnd_fix (h : ¬ x < c ∧ ¬ c < x) : x = c := by
  rw [← Int32.toInt_inj]; simp only [Int32.lt_iff_toInt_lt] at *; omega
theorem nar_char_id (h : ¬ x < a ∧ ¬ b < x) (h1 : 0 ≤ a.toInt) (h2 : b.toInt ≤ 65535) : nar .char x = x := i2c_id h h1 h2
theorem nar_byte_id (h : ¬ x < a ∧ ¬ b < x) (h1 : -128 ≤ a.toInt) (h2 : b.toInt ≤ 127) : nar .byte x = x := i2b_id h h1 h2
theorem nar_i2c (x : Int32) : nar .char (x.toUInt32.toUInt16.toUInt32.toInt32) = x.toUInt32.toUInt16.toUInt32.toInt32 := nar_char_id (bnd_i2c x) (by decide) (by decide)
theorem nar_i2b (x : Int32) : nar .byte (x.toInt8.toInt32) = x.toInt8.toInt32 := nar_byte_id (bnd_i2b x) (by decide) (by decide)
end Bounds
theorem Wr.to {h h' : Heap} {a : Addr} {sl : Nat} {v w : Value} (W : Wr h h' a sl v) (q : v = w) : Wr h h' a sl w := q ▸ W
/-- null, or an object of exactly that class -/
def Nul (Z : State) (h : Heap) (x : Value) (C : String) : Prop := x = .null ∨ ∃ a, x = .ref a ∧ Exa Z h a C
section Nulls
variable {Z : State} {h h' : Heap} {x : Value} {C : String}
theorem Nul.null (Z : State) (h : Heap) (C : String) : Nul Z h .null C := Or.inl rfl
theorem Nul.of {a : Addr} (E : Exa Z h a C) : Nul Z h (.ref a) C := Or.inr ⟨a, rfl, E⟩
theorem Nul.ext (N : Nul Z h x C) (E : Ext h h') : Nul Z h' x C := N.imp id fun ⟨a, e, F⟩ => ⟨a, e, F.ext E⟩
theorem Nul.wr {a : Addr} {sl : Nat} {v : Value} (N : Nul Z h x C) (W : Wr h h' a sl v) : Nul Z h' x C := N.imp id fun ⟨a, e, F⟩ => ⟨a, e, F.wr W⟩
theorem Nul.keep {ws : List Addr} (N : Nul Z h x C) (K : Keep h h' ws) : Nul Z h' x C := N.imp id fun ⟨a, e, F⟩ => ⟨a, e, F.keep K⟩
theorem Nul.isRef (N : Nul Z h x C) : x.isRef = true := by rcases N with rfl | ⟨a, rfl, -⟩ <;> rfl
end Nulls
section NotSub
variable {Z : State} {a0 : Array Value} {C S O K : String} {nn : Nat}
end NotSub
theorem Fld.to {Z : State} {h : Heap} {a : Addr} {C n d : String} {v w : Value} (F : Fld Z h a C n d v) (q : v = w) : Fld Z h a C n d w := q ▸ F
end Jvm.OwnKit
namespace Jvm.OwnKit
open Jvm Jvm.ClassFile Sem Op Lib Jvm.Free Jvm.Stand Jvm.LawKit Jvm.RoadKit
section Lists
variable {p : Program} {l : Launch} {e : Env} {R : Room} {s : State} {m : MethodId} {args : Array Value} {below : List Frame} {meth : Method} {c : Code} {T : State} {locs : List Loc} {cells slots : Nat} {Z : State} {h : Heap}
end Lists
end Jvm.OwnKit
namespace Jvm.OwnKit
open Jvm Jvm.ClassFile Sem Op Lib Bundle Jvm.Free Jvm.Stand Jvm.LawKit Jvm.RoadKit
section Cold
variable {p : Program} {l : Launch} {e : Env} {R : Room} {s : State} {m : MethodId} {args : Array Value} {below : List Frame} {meth : Method} {c : Code} {T : State} {locs : List Loc} {cells slots k n : Nat} {Z : State} {a0 : Array Value} {h h' : Heap} {y z : MethodName} {bytes : ByteArray} {maxL : Nat} {rt : Option FieldType} {rm : Room} {W : Nat} {as' : Array Value} {Q : Option Value → Heap → List Loc → Prop} {own C : String} {index : Nat} {EL : List (String × Nat)} {vm0 vm1 : Vm} {xs : List Addr} {sf : Bool}
/-- what a walk that may book texts knows of its tables: they came of the start's, what is booked of EL is read, xs are none of the booked cells -/
def Cold (Z : State) (EL : List (String × Nat)) (s : State) (xs : List Addr) (vm0 : Vm) (h : Heap) : Prop := (∃ k0, s.Since vm0 k0 ∧ k0 ≤ h.size) ∧ CHr Z EL s.vm s.heap vm0 h ∧ ∀ x ∈ xs, Safe Z EL vm0 h x ∧ x < h.size
theorem Cold.go (H : Cold Z EL s xs vm0 h) (hs : ∃ k0, s.Since vm1 k0 ∧ k0 ≤ h'.size) (q : CHr Z EL vm0 h vm1 h') : Cold Z EL s xs vm1 h' :=
  ⟨hs, H.2.1.trans q, fun x hx => ⟨q.safe (H.2.2 x hx).2 (H.2.2 x hx).1, Nat.lt_of_lt_of_le (H.2.2 x hx).2 q.2.1⟩⟩
theorem Cold.same (H : Cold Z EL s xs vm0 h) (q : CHr Z EL vm0 h vm0 h') : Cold Z EL s xs vm0 h' := H.go (by obtain ⟨⟨k0, a, b⟩, -⟩ := H; exact ⟨k0, a, Nat.le_trans b q.2.1⟩) q
theorem Cold.ext (H : Cold Z EL s xs vm0 h) (E : Ext h h') : Cold Z EL s xs vm0 h' := H.same (CHr.ext E H.2.1.1)
theorem Cold.keep {ws : List Addr} (H : Cold Z EL s xs vm0 h) (K : Keep h h' ws) (hs : ∀ x ∈ ws, Safe Z EL vm0 h x) : Cold Z EL s xs vm0 h' := H.same (CHr.keep K hs H.2.1.1)
theorem Cold.wr {a : Addr} {sl : Nat} {v : Value} (H : Cold Z EL s xs vm0 h) (w : Wr h h' a sl v) (S : Safe Z EL vm0 h a) : Cold Z EL s xs vm0 h' := H.same (CHr.wr w S H.2.1.1)
theorem Cold.add {b : Addr} (H : Cold Z EL s xs vm0 h) (E : Ext h h') (hb : h.size ≤ b) (hb' : b < h'.size) : Cold Z EL s (b :: xs) vm0 h' := by
  have H' := H.ext E
  refine ⟨H'.1, H'.2.1, fun x hx => ?_⟩
  rcases List.mem_cons.mp hx with rfl | hx
  · exact ⟨Safe.ext E H.2.1.1 (Safe.new hb), hb'⟩
  · exact H'.2.2 x hx
theorem Cold.safe {x : Addr} (H : Cold Z EL s xs vm0 h) (hx : x ∈ xs) : Safe Z EL vm0 h x := (H.2.2 x hx).1
theorem Cold.start (H : CHv Z EL s.vm s.heap) : Cold Z EL s [] s.vm s.heap := ⟨⟨_, (State.WarmedH.refl s).since _, Nat.le_refl _⟩, CHr.refl H, fun _ hx => nomatch hx⟩
/-- what is returned is none of the booked cells -/
def SafeR (sf : Bool) (Z : State) (EL : List (String × Nat)) (vm : Vm) (h : Heap) (v : Option Value) : Prop := sf = true → ∀ a, v = some (.ref a) → Safe Z EL vm h a ∧ a < h.size
/-- the contract of a body that may book texts -/
abbrev ConW (l : Launch) (Z : State) (EL : List (String × Nat)) (xs : List Addr) (sf : Bool) (y : MethodName) (bytes : ByteArray) (maxL : Nat) (rt : Option FieldType) (ws : List Jvm.Cond) (rm : Room) (as' : Array Value) (h : Heap) (Q : Option Value → Heap → List Loc → Prop) : Prop :=
  MetFree l y (head1 (Jvm.Cond.code y bytes maxL rt :: ws) rm) (fun a U => a = as' ∧ Z.Warmed39 U.vm ∧ U.heap = h ∧ CHv Z EL U.vm h ∧ ∀ x ∈ xs, Safe Z EL U.vm h x ∧ x < h.size) (fun _ _ _ _ _ => True) (fun _ U o U' => ∃ v L, o = .returned v ∧ Q v U'.heap L ∧ CHr Z EL U.vm U.heap U'.vm U'.heap ∧ SafeR sf Z EL U'.vm U'.heap v ∧ ReturnedEndW U o U' L rm.cells rm.slots)
abbrev EndW (s : State) (Z : State) (EL : List (String × Nat)) (sf : Bool) (Q : Option Value → Heap → List Loc → Prop) (k n : Nat) : Option Value → State → List Loc → Prop := fun v U L => Q v U.heap L ∧ CHr Z EL s.vm s.heap U.vm U.heap ∧ SafeR sf Z EL U.vm U.heap v ∧ ReturnedEndW s (.returned v) U L k n
theorem retW_mono {o : Outcome} {t : State} {L : List Loc} {k n k' n' : Nat} (h : ReturnedEndW s o t L k n) (hk : k ≤ k') (hn : n ≤ n') : ReturnedEndW s o t L k' n' := ⟨h.1, h.2.1, h.2.2.1, h.2.2.2.mono hk hn⟩
theorem HomeW.retN (X : Stand p l e R (s.setVm vm0) m args below meth c T locs cells slots) (hx : p.tables.exec = Jvm.exec) (hlk : meth.locks = false) (hZ : Z.Warmed39 (s.setVm vm0).vm) (hEL : EW Z a0 EL) (eT : T.heap = h) (H : Cold Z EL s xs vm0 h)
    {pc : Nat} {Ls : Array Slot} {z : Int32} {t : FieldType} {rest : List Value} (hret : meth.sig.returnType = some t) (ht : t = .boolean ∨ t = .byte ∨ t = .char ∨ t = .short)
    (hd : decode c.code pc = .ok (.ireturn, 1)) (hQ : Q (some (.int (nar t z))) T.heap locs) (hk : cells ≤ k) (hn : slots ≤ n) : @Home p e below (EndW s Z EL sf Q k n) T (mkF m pc Ls (.int z :: rest)) := by
  subst eT
  obtain ⟨⟨k0, hS, hk0⟩, CR, -⟩ := H
  obtain ⟨fs, hr, hrun, hended, hW⟩ := X.leaveW hS hk0 (v := some (.int (nar t z))) (fun h => by rw [hret] at h; cases h) hlk
  have q : CHr Z EL s.vm s.heap T.vm T.heap := CR.trans (CHv.at X hZ hEL CR.1)
  exact ⟨_, _, Jvm.RoadKit.retN X hx hret ht hd hr, hrun, hended, _, _, rfl, hQ, q, (fun _ _ z => by cases z), retW_mono hW hk hn⟩
theorem HomeW.ret (X : Stand p l e R (s.setVm vm0) m args below meth c T locs cells slots) (hx : p.tables.exec = Jvm.exec) (hlk : meth.locks = false) (hZ : Z.Warmed39 (s.setVm vm0).vm) (hEL : EW Z a0 EL) (eT : T.heap = h) (H : Cold Z EL s xs vm0 h) {w : Value} (hsr : sf = true → ∀ a, w = .ref a → a ∈ xs)
    {pc : Nat} {Ls : Array Slot} {t : FieldType} {i : Instr} {rest : List Value} (hret : meth.sig.returnType = some t) (hnn : narrow t w = w)
    (hi : (i = .ireturn ∧ (t = .int ∨ t = .boolean ∨ t = .byte ∨ t = .char ∨ t = .short) ∧ ∃ z, w = .int z) ∨ (i = .lreturn ∧ t = .long ∧ ∃ z, w = .long z) ∨ (i = .dreturn ∧ t = .double ∧ ∃ z, w = .double z) ∨ (i = .freturn ∧ t = .float ∧ ∃ z, w = .float z) ∨ (i = .areturn ∧ t.isReference = true ∧ w.isRef = true))
    (hd : decode c.code pc = .ok (i, 1)) (hQ : Q (some w) T.heap locs) (hk : cells ≤ k) (hn : slots ≤ n) : @Home p e below (EndW s Z EL sf Q k n) T (mkF m pc Ls (w :: rest)) := by
  subst eT
  obtain ⟨⟨k0, hS, hk0⟩, CR, hxs⟩ := H
  obtain ⟨fs, hr, hrun, hended, hW⟩ := X.leaveW hS hk0 (v := some w) (fun h => by rw [hret] at h; cases h) hlk
  have q : CHr Z EL s.vm s.heap T.vm T.heap := CR.trans (CHv.at X hZ hEL CR.1)
  exact ⟨_, _, retOut X hx hret hnn hi hd hr, hrun, hended, _, _, rfl, hQ, q, (fun z a ha => ⟨(CHv.at X hZ hEL CR.1).safe (hxs a (hsr z a (Option.some.inj ha))).2 (hxs a (hsr z a (Option.some.inj ha))).1, (hxs a (hsr z a (Option.some.inj ha))).2⟩), retW_mono hW hk hn⟩
theorem HomeW.retI (X : Stand p l e R (s.setVm vm0) m args below meth c T locs cells slots) (hx : p.tables.exec = Jvm.exec) (hlk : meth.locks = false) (hZ : Z.Warmed39 (s.setVm vm0).vm) (hEL : EW Z a0 EL) (eT : T.heap = h) (H : Cold Z EL s xs vm0 h)
    {pc : Nat} {Ls : Array Slot} {z : Int32} {rest : List Value} (hret : meth.sig.returnType = some .int)
    (hd : decode c.code pc = .ok (.ireturn, 1)) (hQ : Q (some (.int z)) T.heap locs) (hk : cells ≤ k) (hn : slots ≤ n) : @Home p e below (EndW s Z EL sf Q k n) T (mkF m pc Ls (.int z :: rest)) := HomeW.ret X hx hlk hZ hEL eT H (fun _ _ z => by cases z) hret rfl (Or.inl ⟨rfl, Or.inl rfl, _, rfl⟩) hd hQ hk hn
theorem HomeW.retR (X : Stand p l e R (s.setVm vm0) m args below meth c T locs cells slots) (hx : p.tables.exec = Jvm.exec) (hlk : meth.locks = false) (hZ : Z.Warmed39 (s.setVm vm0).vm) (hEL : EW Z a0 EL) (eT : T.heap = h) (H : Cold Z EL s xs vm0 h) {w : Value} (hsr : sf = true → ∀ a, w = .ref a → a ∈ xs)
    {pc : Nat} {Ls : Array Slot} {t : FieldType} {rest : List Value} (hret : meth.sig.returnType = some t) (ht : t.isReference = true) (hw : w.isRef = true)
    (hd : decode c.code pc = .ok (.areturn, 1)) (hQ : Q (some w) T.heap locs) (hk : cells ≤ k) (hn : slots ≤ n) : @Home p e below (EndW s Z EL sf Q k n) T (mkF m pc Ls (w :: rest)) := HomeW.ret X hx hlk hZ hEL eT H hsr hret (own_narrow_ref hw) (Or.inr (Or.inr (Or.inr (Or.inr ⟨rfl, ht, hw⟩)))) hd hQ hk hn
theorem HomeW.ret0 (X : Stand p l e R (s.setVm vm0) m args below meth c T locs cells slots) (hx : p.tables.exec = Jvm.exec) (hlk : meth.locks = false) (hZ : Z.Warmed39 (s.setVm vm0).vm) (hEL : EW Z a0 EL) (eT : T.heap = h) (H : Cold Z EL s xs vm0 h)
    {pc : Nat} {Ls : Array Slot} (hret : meth.sig.returnType = none)
    (hd : decode c.code pc = .ok (.return_, 1)) (hQ : Q none T.heap locs) (hk : cells ≤ k) (hn : slots ≤ n) : @Home p e below (EndW s Z EL sf Q k n) T (mkF m pc Ls []) := by
  subst eT
  obtain ⟨⟨k0, hS, hk0⟩, CR, -⟩ := H
  obtain ⟨fs, hr, hrun, hended, hW⟩ := X.leaveW hS hk0 (v := none) (fun _ => rfl) hlk
  have q : CHr Z EL s.vm s.heap T.vm T.heap := CR.trans (CHv.at X hZ hEL CR.1)
  exact ⟨_, _, X.returnOut hx hret hd hr, hrun, hended, _, _, rfl, hQ, q, (fun _ _ z => by cases z), retW_mono hW hk hn⟩
theorem own_bodyW {ws : List Jvm.Cond} {L0 : Array Slot} (pn : plainFor y = true) (ef : ∀ m, entryFrame m as' maxL = mkF m 0 L0 [])
    (body : ∀ (p : Program) (e : Env) (s : State) (m : MethodId) (below : List Frame) (meth : Method) (c : Code) (s₁ : State), p.tables.exec = Jvm.exec → c.code = bytes → meth.locks = false → c.maxLocals = maxL → meth.sig.returnType = rt → Z.Warmed39 (s.setVm s.vm).vm → (s.setVm s.vm).vm.findClass y.cls = some m.cls → meth.name = y.name →
      Stand p l e rm (s.setVm s.vm) m as' below meth c s₁ [] 0 0 → s₁.heap = h → Cold Z EL s xs s.vm h → @Home p e below (EndW s Z EL sf Q rm.cells rm.slots) s₁ (mkF m 0 L0 [])) : ConW l Z EL xs sf y bytes maxL rt ws rm as' h Q := by
  refine MetFree.of_bodySF pn hisR ?_
  intro p e s m args below meth c s₁ Bd hml0 hP hK
  obtain ⟨rfl, hZ, rfl, hH, hxs⟩ := hP
  have hc : Cold Z EL s xs s.vm s.heap := ⟨(Cold.start hH).1, CHr.refl hH, hxs⟩
  have H : @Home p e below (EndW s Z EL sf Q rm.cells rm.slots) s₁ (entryFrame m args maxL) := Home.enter (ef m) (body p e s m below meth c s₁ Bd.exec Bd.bytes (BodyLoose.notSynchronized Bd) hml0 Bd.returns hZ (findClass_of_methodNamed Bd.named) (name_of_methodNamed Bd.named Bd.method).1 (Stand.of_body Bd) (by rw [Bd.state]; rfl) hc)
  obtain ⟨U, o, h1, h2, h3, v, L, rfl, h4, h5, h6⟩ := H
  exact ⟨U, _, h1, h2, h3, v, L, rfl, h4, h5, h6⟩
/-- ldc of a text of EL: its cells are there -/
theorem own_ldcW {text : String} (X : Stand p l e R (s.setVm vm0) m args below meth c T locs cells slots) (hx : p.tables.exec = Jvm.exec) (hZ : Z.Warmed39 (s.setVm vm0).vm) (hown : (s.setVm vm0).vm.findClass own = some m.cls) (hEL : EW Z a0 EL) (H : Cold Z EL s xs vm0 h) (w : (Cond.stringLink own index text).before a0 Z = true) (wS : ∀ a ∈ Bundle.stringAtoms, a.before a0 Z = true)
    (eT : T.heap = h) (hmem : (own, index) ∈ EL) {vs : List Value} {z : Int32} (ht : (∀ c ∈ text.toList, c.toNat < 256) ∧ text.toList.map (fun c => Value.int (Jvm.Lit.byteI c.toNat.toUInt16)) = vs) (hz : ¬ z < 0) (hl : z.toNatClampNeg = vs.length)
    {g : JFrame} (hg : g.method = m) (hd : decode c.code g.pc = .ok (.ldc index, 2)) {n : Nat} (hn : 4 * text.toList.length ≤ n) (hbig : n ≤ 536870912) (hc : cells + 2 ≤ R.cells) (hl' : slots + (n + 4) ≤ R.slots) :
    ∃ (a b : Addr) (k : ClassId) (T' : State) (h' : Heap), Stand p l e R (s.setVm T'.vm) m args below meth c T' locs (cells + 2) (slots + (n + 4)) ∧ T'.heap = h' ∧ Ext h h' ∧ Z.Warmed39 (s.setVm T'.vm).vm ∧ (s.setVm T'.vm).vm.findClass own = some m.cls ∧ Cold Z EL s xs T'.vm h' ∧
      Exa Z h' a "java/lang/String" ∧ Fld Z h' a "java/lang/String" "coder" "B" (.int 0) ∧ Fld Z h' a "java/lang/String" "value" "[B" (.ref b) ∧ Arv Z h' b k .byte z vs (.int 0) ∧ a < h'.size ∧ b < h'.size ∧ (∀ x ∈ xs, x ≠ a ∧ x ≠ b) ∧
      ∀ t, Steps p.tables e below (T'.setTop { g with pc := g.pc + 2, stack := .ref a :: g.stack }) t → Steps p.tables e below (T.setTop g) t := by
  obtain ⟨k0, hS, hk⟩ := H.1
  obtain ⟨a, T', h', k1, b, k, X', e1, E, hS', hk', hZ', ho', f1, f2, f3, f4, f5, f6, hC, -, hne, st⟩ := ldcCH X hx hZ hown w wS eT hS hk hEL hmem H.2.1.1 ht hz hl hg hd hn hbig hc hl'
  have H' := H.go ⟨k1, hS', hk'⟩ hC
  exact ⟨a, b, k, T', h', X', e1, E, hZ', ho', H', f1, f2, f3, f4, f5, f6, fun x hx => hne x (H'.safe hx), st⟩
end Cold
end Jvm.OwnKit
namespace Jvm.OwnKit
end Jvm.OwnKit
namespace Jvm.Pilot.@@N@@
open Jvm Jvm.ClassFile Sem Op Lib Jvm.Free Jvm.Stand Jvm.LawKit Jvm.RoadKit Jvm.OwnKit Bundle Jvm.Pilot.@@N@@.Jvm.D
set_option maxRecDepth 65536
set_option maxHeartbeats 40000000
abbrev HW (a0 : Array Value) (Z : State) : Prop := ∀ d ∈ tables_1, d.before a0 Z = true
theorem own_lenk {Z : State} {args : Array Value} {t : Term} {a : Addr} {c : Cell} {ty : FieldType} {k : Int32} (ev : t.eval args Z none [] Z = some (.ref a)) (A : Arr Z Z.heap a c ty) (h : (Jvm.Cond.eq (Jvm.Term.length t) (Jvm.Term.int k)).value args Z none Z [] = some true) : c.slots.size < 2 ^ 31 ∧ c.slots.size.toInt32 = k := by
  have e := eqv_i (Term.int_eval k) h
  have ha := A.fin (U := Z) (Vm.Alike.refl _)
  by_cases q : c.slots.size < 2 ^ 31
  · have e2 := len_f (first := Z) (o := none) (idx := []) (args := args) ev ha q
    rw [e] at e2
    exact ⟨q, by injection e2 with e3; injection e3 with e4; exact e4.symm⟩
  · exfalso
    simp [Term.eval, ev, ha, q] at e
theorem own_eqr {args : Array Value} {first s : State} {o : Option Outcome} {idx : List Nat} {a b : Term} {y : Addr} (hb : b.eval args first o idx s = some (.ref y)) (h : (Jvm.Cond.eq a b).value args first o s idx = some true) : a.eval args first o idx s = some (.ref y) := by
  cases ha : a.eval args first o idx s with
  | none => simp [Cond.value, ha, hb] at h
  | some x => cases x <;> simp [Cond.value, ha, hb] at h ⊢; try exact h
theorem own_nearv {Z : State} {h : Heap} {a b : Addr} {k k' : ClassId} {ty ty' : FieldType} {n n' : Int32} {vs vs' : List Value} {d d' : Value} (F : Arv Z h a k ty n vs d) (G : Arv Z h b k' ty' n' vs' d') (q : n.toNatClampNeg ≠ n'.toNatClampNeg) : a ≠ b := fun e => by
  subst e
  obtain ⟨c1, A, -, S, -⟩ := F
  obtain ⟨c2, B, -, S', -⟩ := G
  cases A.1.symm.trans B.1
  exact q (S.symm.trans S')
theorem own_w44 {Z : State} {a0 : Array Value} (hw : HW a0 Z) : (Cond.initializedFor "com/example/tapline/tapline/rules/ReturnPeriod" "$VALUES" "[Lcom/example/tapline/tapline/rules/ReturnPeriod;").before a0 Z = true := hw _ (List.mem_of_getElem? (i := 44) rfl)
theorem own_w2 {Z : State} {a0 : Array Value} (hw : HW a0 Z) : (Cond.initialized "com/example/tapline/tapline/rules/ReturnPeriod").before a0 Z = true := hw _ (List.mem_of_getElem? (i := 2) rfl)
theorem own_w42 {Z : State} {a0 : Array Value} (hw : HW a0 Z) : (Cond.laysStatic "com/example/tapline/tapline/rules/ReturnPeriod" "MONTH" "Lcom/example/tapline/tapline/rules/ReturnPeriod;").before a0 Z = true := hw _ (List.mem_of_getElem? (i := 42) rfl)
theorem own_w43 {Z : State} {a0 : Array Value} (hw : HW a0 Z) : (Cond.laysStatic "com/example/tapline/tapline/rules/ReturnPeriod" "QUARTER" "Lcom/example/tapline/tapline/rules/ReturnPeriod;").before a0 Z = true := hw _ (List.mem_of_getElem? (i := 43) rfl)
theorem own_w0 {Z : State} {a0 : Array Value} (hw : HW a0 Z) : (Cond.methodLink "com/example/tapline/tapline/rules/ReturnPeriodIdsPinLaw" 7 ⟨"com/example/tapline/tapline/rules/ReturnPeriod", "ids", "()Ljava/util/List;"⟩).before a0 Z = true := hw _ (List.mem_of_getElem? (i := 0) rfl)
theorem d1_0 : decode prog_74_method_8_code 0 = .ok (.new 64, 3) := by decide +kernel
theorem own_w4 {Z : State} {a0 : Array Value} (hw : HW a0 Z) : (Cond.classLink "com/example/tapline/tapline/rules/ReturnPeriod" 64 "java/util/ArrayList").before a0 Z = true := hw _ (List.mem_of_getElem? (i := 4) rfl)
theorem own_w5 {Z : State} {a0 : Array Value} (hw : HW a0 Z) : (Cond.instantiable "java/util/ArrayList" 3).before a0 Z = true := hw _ (List.mem_of_getElem? (i := 5) rfl)
theorem own_w6 {Z : State} {a0 : Array Value} (hw : HW a0 Z) : (Cond.initialized "java/util/ArrayList").before a0 Z = true := hw _ (List.mem_of_getElem? (i := 6) rfl)
theorem own_w26 {Z : State} {a0 : Array Value} (hw : HW a0 Z) : (Cond.lays "java/util/ArrayList" "java/util/AbstractList" "modCount" "I").before a0 Z = true := hw _ (List.mem_of_getElem? (i := 26) rfl)
theorem own_w29 {Z : State} {a0 : Array Value} (hw : HW a0 Z) : (Cond.lays "java/util/ArrayList" "java/util/ArrayList" "elementData" "[Ljava/lang/Object;").before a0 Z = true := hw _ (List.mem_of_getElem? (i := 29) rfl)
theorem own_w61 {Z : State} {a0 : Array Value} (hw : HW a0 Z) : (Cond.lays "java/util/ArrayList" "java/util/ArrayList" "size" "I").before a0 Z = true := hw _ (List.mem_of_getElem? (i := 61) rfl)
theorem d1_3 : decode prog_74_method_8_code 3 = .ok (.dup, 1) := by decide +kernel
theorem own_w7 {Z : State} {a0 : Array Value} (hw : HW a0 Z) : (Cond.methodLink "com/example/tapline/tapline/rules/ReturnPeriod" 66 ⟨"java/util/ArrayList", "<init>", "()V"⟩).before a0 Z = true := hw _ (List.mem_of_getElem? (i := 7) rfl)
theorem sg1_3_1 : decs prog_74_method_8_code [(3, .dup, 1)] := ⟨d1_3, trivial⟩
theorem d1_4 : decode prog_74_method_8_code 4 = .ok (.invokespecial 66, 3) := by decide +kernel
theorem d2_0 : decode jdk_38_method_2_code 0 = .ok (.aload_n 0, 1) := by decide +kernel
theorem own_w10 {Z : State} {a0 : Array Value} (hw : HW a0 Z) : (Cond.methodLink "java/util/ArrayList" 1 ⟨"java/util/AbstractList", "<init>", "()V"⟩).before a0 Z = true := hw _ (List.mem_of_getElem? (i := 10) rfl)
theorem sg2_0_1 : decs jdk_38_method_2_code [(0, .aload_n 0, 1)] := ⟨d2_0, trivial⟩
theorem d2_1 : decode jdk_38_method_2_code 1 = .ok (.invokespecial 1, 3) := by decide +kernel
theorem d3_0 : decode jdk_39_method_1_code 0 = .ok (.aload_n 0, 1) := by decide +kernel
theorem own_w16 {Z : State} {a0 : Array Value} (hw : HW a0 Z) : (Cond.methodLink "java/util/AbstractList" 1 ⟨"java/util/AbstractCollection", "<init>", "()V"⟩).before a0 Z = true := hw _ (List.mem_of_getElem? (i := 16) rfl)
theorem sg3_0_1 : decs jdk_39_method_1_code [(0, .aload_n 0, 1)] := ⟨d3_0, trivial⟩
theorem d3_1 : decode jdk_39_method_1_code 1 = .ok (.invokespecial 1, 3) := by decide +kernel
theorem d4_0 : decode jdk_22_method_1_code 0 = .ok (.aload_n 0, 1) := by decide +kernel
theorem own_w22 {Z : State} {a0 : Array Value} (hw : HW a0 Z) : (Cond.methodLink "java/util/AbstractCollection" 1 ⟨"java/lang/Object", "<init>", "()V"⟩).before a0 Z = true := hw _ (List.mem_of_getElem? (i := 22) rfl)
theorem sg4_0_1 : decs jdk_22_method_1_code [(0, .aload_n 0, 1)] := ⟨d4_0, trivial⟩
theorem d4_1 : decode jdk_22_method_1_code 1 = .ok (.invokespecial 1, 3) := by decide +kernel
theorem own_w24 {Z : State} {a0 : Array Value} (hw : HW a0 Z) : (Cond.code ⟨"java/lang/Object", "<init>", "()V"⟩ object_method_1_code 1 (Option.none : Option Jvm.ClassFile.FieldType)).before a0 Z = true := hw _ (List.mem_of_getElem? (i := 24) rfl)
theorem own_w23 {Z : State} {a0 : Array Value} (hw : HW a0 Z) : (Cond.instanceMethod ⟨"java/lang/Object", "<init>", "()V"⟩).before a0 Z = true := hw _ (List.mem_of_getElem? (i := 23) rfl)
theorem d4_4 : decode jdk_22_method_1_code 4 = .ok (.return_, 1) := by decide +kernel
theorem ef_rm4_0 (m : MethodId) (x0 : Addr) : entryFrame m #[(.ref x0)] 1 = mkF m 0 #[.val (.ref x0)] [] := by first | (simp [entryFrame, mkF, argsToLocals, Value.category]; done) | rfl
theorem own_pn0 : plainName "java/util/AbstractCollection" = true := by first | (simp [plainName, overriddenIn]; done) | decide +kernel
theorem own_w21 {Z : State} {a0 : Array Value} (hw : HW a0 Z) : (Cond.code ⟨"java/util/AbstractCollection", "<init>", "()V"⟩ jdk_22_method_1_code 1 (Option.none : Option Jvm.ClassFile.FieldType)).before a0 Z = true := hw _ (List.mem_of_getElem? (i := 21) rfl)
theorem own_w20 {Z : State} {a0 : Array Value} (hw : HW a0 Z) : (Cond.initialized "java/util/AbstractCollection").before a0 Z = true := hw _ (List.mem_of_getElem? (i := 20) rfl)
theorem own_pd0 : parseMethodDescriptor "()V" = some ⟨[], none⟩ := by decide +kernel
theorem own_w17 {Z : State} {a0 : Array Value} (hw : HW a0 Z) : (Cond.instanceMethod ⟨"java/util/AbstractCollection", "<init>", "()V"⟩).before a0 Z = true := hw _ (List.mem_of_getElem? (i := 17) rfl)
theorem d3_4 : decode jdk_39_method_1_code 4 = .ok (.aload_n 0, 1) := by decide +kernel
theorem d3_5 : decode jdk_39_method_1_code 5 = .ok (.iconst 0, 1) := by decide +kernel
theorem sg3_4_2 : decs jdk_39_method_1_code [(4, .aload_n 0, 1), (5, .iconst 0, 1)] := ⟨d3_4, d3_5, trivial⟩
theorem d3_6 : decode jdk_39_method_1_code 6 = .ok (.putfield 7, 3) := by decide +kernel
theorem own_w25 {Z : State} {a0 : Array Value} (hw : HW a0 Z) : (Cond.fieldLink "java/util/AbstractList" 7 "java/util/AbstractList" "modCount" "I").before a0 Z = true := hw _ (List.mem_of_getElem? (i := 25) rfl)
theorem d3_9 : decode jdk_39_method_1_code 9 = .ok (.return_, 1) := by decide +kernel
theorem ef_rm3_0 (m : MethodId) (x0 : Addr) : entryFrame m #[(.ref x0)] 1 = mkF m 0 #[.val (.ref x0)] [] := by first | (simp [entryFrame, mkF, argsToLocals, Value.category]; done) | rfl
theorem own_pn1 : plainName "java/util/AbstractList" = true := by first | (simp [plainName, overriddenIn]; done) | decide +kernel
theorem own_w15 {Z : State} {a0 : Array Value} (hw : HW a0 Z) : (Cond.code ⟨"java/util/AbstractList", "<init>", "()V"⟩ jdk_39_method_1_code 1 (Option.none : Option Jvm.ClassFile.FieldType)).before a0 Z = true := hw _ (List.mem_of_getElem? (i := 15) rfl)
theorem own_w14 {Z : State} {a0 : Array Value} (hw : HW a0 Z) : (Cond.initialized "java/util/AbstractList").before a0 Z = true := hw _ (List.mem_of_getElem? (i := 14) rfl)
theorem own_w11 {Z : State} {a0 : Array Value} (hw : HW a0 Z) : (Cond.instanceMethod ⟨"java/util/AbstractList", "<init>", "()V"⟩).before a0 Z = true := hw _ (List.mem_of_getElem? (i := 11) rfl)
theorem d2_4 : decode jdk_38_method_2_code 4 = .ok (.aload_n 0, 1) := by decide +kernel
theorem sg2_4_1 : decs jdk_38_method_2_code [(4, .aload_n 0, 1)] := ⟨d2_4, trivial⟩
theorem d2_5 : decode jdk_38_method_2_code 5 = .ok (.getstatic 39, 3) := by decide +kernel
theorem own_w27 {Z : State} {a0 : Array Value} (hw : HW a0 Z) : (Cond.fieldLink "java/util/ArrayList" 39 "java/util/ArrayList" "DEFAULTCAPACITY_EMPTY_ELEMENTDATA" "[Ljava/lang/Object;").before a0 Z = true := hw _ (List.mem_of_getElem? (i := 27) rfl)
theorem d2_8 : decode jdk_38_method_2_code 8 = .ok (.putfield 9, 3) := by decide +kernel
theorem own_w28 {Z : State} {a0 : Array Value} (hw : HW a0 Z) : (Cond.fieldLink "java/util/ArrayList" 9 "java/util/ArrayList" "elementData" "[Ljava/lang/Object;").before a0 Z = true := hw _ (List.mem_of_getElem? (i := 28) rfl)
theorem d2_11 : decode jdk_38_method_2_code 11 = .ok (.return_, 1) := by decide +kernel
theorem ef_rm2_0 (m : MethodId) (x0 : Addr) : entryFrame m #[(.ref x0)] 1 = mkF m 0 #[.val (.ref x0)] [] := by first | (simp [entryFrame, mkF, argsToLocals, Value.category]; done) | rfl
theorem own_pn2 : plainName "java/util/ArrayList" = true := by first | (simp [plainName, overriddenIn]; done) | decide +kernel
theorem own_w9 {Z : State} {a0 : Array Value} (hw : HW a0 Z) : (Cond.code ⟨"java/util/ArrayList", "<init>", "()V"⟩ jdk_38_method_2_code 1 (Option.none : Option Jvm.ClassFile.FieldType)).before a0 Z = true := hw _ (List.mem_of_getElem? (i := 9) rfl)
theorem own_w8 {Z : State} {a0 : Array Value} (hw : HW a0 Z) : (Cond.instanceMethod ⟨"java/util/ArrayList", "<init>", "()V"⟩).before a0 Z = true := hw _ (List.mem_of_getElem? (i := 8) rfl)
theorem d1_7 : decode prog_74_method_8_code 7 = .ok (.astore_n 0, 1) := by decide +kernel
theorem own_w30 {Z : State} {a0 : Array Value} (hw : HW a0 Z) : (Cond.methodLink "com/example/tapline/tapline/rules/ReturnPeriod" 54 ⟨"com/example/tapline/tapline/rules/ReturnPeriod", "values", "()[Lcom/example/tapline/tapline/rules/ReturnPeriod;"⟩).before a0 Z = true := hw _ (List.mem_of_getElem? (i := 30) rfl)
theorem sg1_7_1 : decs prog_74_method_8_code [(7, .astore_n 0, 1)] := ⟨d1_7, trivial⟩
theorem d1_8 : decode prog_74_method_8_code 8 = .ok (.invokestatic 54, 3) := by decide +kernel
theorem d6_0 : decode prog_74_method_1_code 0 = .ok (.getstatic 10, 3) := by decide +kernel
theorem own_w33 {Z : State} {a0 : Array Value} (hw : HW a0 Z) : (Cond.fieldLink "com/example/tapline/tapline/rules/ReturnPeriod" 10 "com/example/tapline/tapline/rules/ReturnPeriod" "$VALUES" "[Lcom/example/tapline/tapline/rules/ReturnPeriod;").before a0 Z = true := hw _ (List.mem_of_getElem? (i := 33) rfl)
theorem own_w35 {Z : State} {a0 : Array Value} (hw : HW a0 Z) : (Cond.methodLink "com/example/tapline/tapline/rules/ReturnPeriod" 14 ⟨"[Lcom/example/tapline/tapline/rules/ReturnPeriod;", "clone", "()Ljava/lang/Object;"⟩).before a0 Z = true := hw _ (List.mem_of_getElem? (i := 35) rfl)
theorem d6_3 : decode prog_74_method_1_code 3 = .ok (.invokevirtual 14, 3) := by decide +kernel
theorem own_w36 {Z : State} {a0 : Array Value} (hw : HW a0 Z) : (Cond.sameMethod "[Lcom/example/tapline/tapline/rules/ReturnPeriod;" "java/lang/Object" "clone" "()Ljava/lang/Object;").before a0 Z = true := hw _ (List.mem_of_getElem? (i := 36) rfl)
theorem own_w40 {Z : State} {a0 : Array Value} (hw : HW a0 Z) : (Cond.native ⟨"java/lang/Object", "clone", "()Ljava/lang/Object;"⟩).before a0 Z = true := hw _ (List.mem_of_getElem? (i := 40) rfl)
theorem own_w38 {Z : State} {a0 : Array Value} (hw : HW a0 Z) : (Cond.instanceMethod ⟨"java/lang/Object", "clone", "()Ljava/lang/Object;"⟩).before a0 Z = true := hw _ (List.mem_of_getElem? (i := 38) rfl)
theorem own_w39 {Z : State} {a0 : Array Value} (hw : HW a0 Z) : (Cond.selects "[Lcom/example/tapline/tapline/rules/ReturnPeriod;" ⟨"[Lcom/example/tapline/tapline/rules/ReturnPeriod;", "clone", "()Ljava/lang/Object;"⟩ ⟨"java/lang/Object", "clone", "()Ljava/lang/Object;"⟩).before a0 Z = true := hw _ (List.mem_of_getElem? (i := 39) rfl)
theorem own_w41 {Z : State} {a0 : Array Value} (hw : HW a0 Z) : (Cond.castable "[Lcom/example/tapline/tapline/rules/ReturnPeriod;" "java/lang/Cloneable").before a0 Z = true := hw _ (List.mem_of_getElem? (i := 41) rfl)
theorem d6_6 : decode prog_74_method_1_code 6 = .ok (.checkcast 15, 3) := by decide +kernel
theorem own_w45 {Z : State} {a0 : Array Value} (hw : HW a0 Z) : (Cond.classLink "com/example/tapline/tapline/rules/ReturnPeriod" 15 "[Lcom/example/tapline/tapline/rules/ReturnPeriod;").before a0 Z = true := hw _ (List.mem_of_getElem? (i := 45) rfl)
theorem d6_9 : decode prog_74_method_1_code 9 = .ok (.areturn, 1) := by decide +kernel
theorem ef_rm6_0 (m : MethodId)  : entryFrame m #[] 0 = mkF m 0 #[] [] := by first | (simp [entryFrame, mkF, argsToLocals, Value.category]; done) | rfl
theorem own_pn3 : plainName "com/example/tapline/tapline/rules/ReturnPeriod" = true := by first | (simp [plainName, overriddenIn]; done) | decide +kernel
theorem own_w32 {Z : State} {a0 : Array Value} (hw : HW a0 Z) : (Cond.code ⟨"com/example/tapline/tapline/rules/ReturnPeriod", "values", "()[Lcom/example/tapline/tapline/rules/ReturnPeriod;"⟩ prog_74_method_1_code 0 (Option.some (Jvm.ClassFile.FieldType.array (Jvm.ClassFile.FieldType.object "com/example/tapline/tapline/rules/ReturnPeriod")))).before a0 Z = true := hw _ (List.mem_of_getElem? (i := 32) rfl)
theorem own_pd1 : parseMethodDescriptor "()[Lcom/example/tapline/tapline/rules/ReturnPeriod;" = some ⟨[], some (.array (.object "com/example/tapline/tapline/rules/ReturnPeriod"))⟩ := by decide +kernel
theorem own_w31 {Z : State} {a0 : Array Value} (hw : HW a0 Z) : (Cond.static ⟨"com/example/tapline/tapline/rules/ReturnPeriod", "values", "()[Lcom/example/tapline/tapline/rules/ReturnPeriod;"⟩).before a0 Z = true := hw _ (List.mem_of_getElem? (i := 31) rfl)
theorem d1_11 : decode prog_74_method_8_code 11 = .ok (.astore_n 1, 1) := by decide +kernel
theorem d1_12 : decode prog_74_method_8_code 12 = .ok (.aload_n 1, 1) := by decide +kernel
theorem sg1_11_2 : decs prog_74_method_8_code [(11, .astore_n 1, 1), (12, .aload_n 1, 1)] := ⟨d1_11, d1_12, trivial⟩
theorem d1_13 : decode prog_74_method_8_code 13 = .ok (.arraylength, 1) := by decide +kernel
theorem d1_14 : decode prog_74_method_8_code 14 = .ok (.istore_n 2, 1) := by decide +kernel
theorem d1_15 : decode prog_74_method_8_code 15 = .ok (.iconst 0, 1) := by decide +kernel
theorem d1_16 : decode prog_74_method_8_code 16 = .ok (.istore_n 3, 1) := by decide +kernel
theorem d1_17 : decode prog_74_method_8_code 17 = .ok (.iload_n 3, 1) := by decide +kernel
theorem d1_18 : decode prog_74_method_8_code 18 = .ok (.iload_n 2, 1) := by decide +kernel
theorem sg1_14_5 : decs prog_74_method_8_code [(14, .istore_n 2, 1), (15, .iconst 0, 1), (16, .istore_n 3, 1), (17, .iload_n 3, 1), (18, .iload_n 2, 1)] := ⟨d1_14, d1_15, d1_16, d1_17, d1_18, trivial⟩
theorem d1_19 : decode prog_74_method_8_code 19 = .ok (.if_icmp .ge 26, 3) := by decide +kernel
theorem d1_22 : decode prog_74_method_8_code 22 = .ok (.aload_n 1, 1) := by decide +kernel
theorem d1_23 : decode prog_74_method_8_code 23 = .ok (.iload_n 3, 1) := by decide +kernel
theorem sg1_22_2 : decs prog_74_method_8_code [(22, .aload_n 1, 1), (23, .iload_n 3, 1)] := ⟨d1_22, d1_23, trivial⟩
theorem d1_24 : decode prog_74_method_8_code 24 = .ok (.aaload, 1) := by decide +kernel
theorem d1_25 : decode prog_74_method_8_code 25 = .ok (.astore 4, 2) := by decide +kernel
theorem d1_27 : decode prog_74_method_8_code 27 = .ok (.aload_n 0, 1) := by decide +kernel
theorem d1_28 : decode prog_74_method_8_code 28 = .ok (.aload 4, 2) := by decide +kernel
theorem sg1_25_3 : decs prog_74_method_8_code [(25, .astore 4, 2), (27, .aload_n 0, 1), (28, .aload 4, 2)] := ⟨d1_25, d1_27, d1_28, trivial⟩
theorem d1_30 : decode prog_74_method_8_code 30 = .ok (.getfield 29, 3) := by decide +kernel
theorem own_w47 {Z : State} {a0 : Array Value} (hw : HW a0 Z) : (Cond.fieldLink "com/example/tapline/tapline/rules/ReturnPeriod" 29 "com/example/tapline/tapline/rules/ReturnPeriod" "id" "Ljava/lang/String;").before a0 Z = true := hw _ (List.mem_of_getElem? (i := 47) rfl)
theorem own_w49 {Z : State} {a0 : Array Value} (hw : HW a0 Z) : (Cond.methodLink "com/example/tapline/tapline/rules/ReturnPeriod" 69 ⟨"java/util/List", "add", "(Ljava/lang/Object;)Z"⟩).before a0 Z = true := hw _ (List.mem_of_getElem? (i := 49) rfl)
theorem d1_33 : decode prog_74_method_8_code 33 = .ok (.invokeinterface 69 2, 5) := by decide +kernel
theorem d7_0 : decode jdk_38_method_25_code 0 = .ok (.aload_n 0, 1) := by decide +kernel
theorem d7_1 : decode jdk_38_method_25_code 1 = .ok (.dup, 1) := by decide +kernel
theorem sg7_0_2 : decs jdk_38_method_25_code [(0, .aload_n 0, 1), (1, .dup, 1)] := ⟨d7_0, d7_1, trivial⟩
theorem d7_2 : decode jdk_38_method_25_code 2 = .ok (.getfield 63, 3) := by decide +kernel
theorem own_w58 {Z : State} {a0 : Array Value} (hw : HW a0 Z) : (Cond.fieldLink "java/util/ArrayList" 63 "java/util/ArrayList" "modCount" "I").before a0 Z = true := hw _ (List.mem_of_getElem? (i := 58) rfl)
theorem own_w59 {Z : State} {a0 : Array Value} (hw : HW a0 Z) : (Cond.sameField "java/util/ArrayList" "java/util/AbstractList" "modCount" "I").before a0 Z = true := hw _ (List.mem_of_getElem? (i := 59) rfl)
theorem d7_5 : decode jdk_38_method_25_code 5 = .ok (.iconst 1, 1) := by decide +kernel
theorem d7_6 : decode jdk_38_method_25_code 6 = .ok (.iadd, 1) := by decide +kernel
theorem sg7_5_2 : decs jdk_38_method_25_code [(5, .iconst 1, 1), (6, .iadd, 1)] := ⟨d7_5, d7_6, trivial⟩
theorem d7_7 : decode jdk_38_method_25_code 7 = .ok (.putfield 63, 3) := by decide +kernel
theorem d7_10 : decode jdk_38_method_25_code 10 = .ok (.aload_n 0, 1) := by decide +kernel
theorem d7_11 : decode jdk_38_method_25_code 11 = .ok (.aload_n 1, 1) := by decide +kernel
theorem d7_12 : decode jdk_38_method_25_code 12 = .ok (.aload_n 0, 1) := by decide +kernel
theorem sg7_10_3 : decs jdk_38_method_25_code [(10, .aload_n 0, 1), (11, .aload_n 1, 1), (12, .aload_n 0, 1)] := ⟨d7_10, d7_11, d7_12, trivial⟩
theorem d7_13 : decode jdk_38_method_25_code 13 = .ok (.getfield 9, 3) := by decide +kernel
theorem d7_16 : decode jdk_38_method_25_code 16 = .ok (.aload_n 0, 1) := by decide +kernel
theorem sg7_16_1 : decs jdk_38_method_25_code [(16, .aload_n 0, 1)] := ⟨d7_16, trivial⟩
theorem d7_17 : decode jdk_38_method_25_code 17 = .ok (.getfield 48, 3) := by decide +kernel
theorem own_w60 {Z : State} {a0 : Array Value} (hw : HW a0 Z) : (Cond.fieldLink "java/util/ArrayList" 48 "java/util/ArrayList" "size" "I").before a0 Z = true := hw _ (List.mem_of_getElem? (i := 60) rfl)
theorem own_w62 {Z : State} {a0 : Array Value} (hw : HW a0 Z) : (Cond.methodLink "java/util/ArrayList" 131 ⟨"java/util/ArrayList", "add", "(Ljava/lang/Object;[Ljava/lang/Object;I)V"⟩).before a0 Z = true := hw _ (List.mem_of_getElem? (i := 62) rfl)
theorem d7_20 : decode jdk_38_method_25_code 20 = .ok (.invokevirtual 131, 3) := by decide +kernel
theorem d8_0 : decode jdk_38_method_24_code 0 = .ok (.iload_n 3, 1) := by decide +kernel
theorem d8_1 : decode jdk_38_method_24_code 1 = .ok (.aload_n 2, 1) := by decide +kernel
theorem sg8_0_2 : decs jdk_38_method_24_code [(0, .iload_n 3, 1), (1, .aload_n 2, 1)] := ⟨d8_0, d8_1, trivial⟩
theorem d8_2 : decode jdk_38_method_24_code 2 = .ok (.arraylength, 1) := by decide +kernel
theorem d8_3 : decode jdk_38_method_24_code 3 = .ok (.if_icmp .ne 8, 3) := by decide +kernel
theorem d8_6 : decode jdk_38_method_24_code 6 = .ok (.aload_n 0, 1) := by decide +kernel
theorem own_w67 {Z : State} {a0 : Array Value} (hw : HW a0 Z) : (Cond.methodLink "java/util/ArrayList" 129 ⟨"java/util/ArrayList", "grow", "()[Ljava/lang/Object;"⟩).before a0 Z = true := hw _ (List.mem_of_getElem? (i := 67) rfl)
theorem sg8_6_1 : decs jdk_38_method_24_code [(6, .aload_n 0, 1)] := ⟨d8_6, trivial⟩
theorem d8_7 : decode jdk_38_method_24_code 7 = .ok (.invokevirtual 129, 3) := by decide +kernel
theorem d9_0 : decode jdk_38_method_7_code 0 = .ok (.aload_n 0, 1) := by decide +kernel
theorem d9_1 : decode jdk_38_method_7_code 1 = .ok (.aload_n 0, 1) := by decide +kernel
theorem sg9_0_2 : decs jdk_38_method_7_code [(0, .aload_n 0, 1), (1, .aload_n 0, 1)] := ⟨d9_0, d9_1, trivial⟩
theorem d9_2 : decode jdk_38_method_7_code 2 = .ok (.getfield 48, 3) := by decide +kernel
theorem d9_5 : decode jdk_38_method_7_code 5 = .ok (.iconst 1, 1) := by decide +kernel
theorem d9_6 : decode jdk_38_method_7_code 6 = .ok (.iadd, 1) := by decide +kernel
theorem own_w72 {Z : State} {a0 : Array Value} (hw : HW a0 Z) : (Cond.methodLink "java/util/ArrayList" 69 ⟨"java/util/ArrayList", "grow", "(I)[Ljava/lang/Object;"⟩).before a0 Z = true := hw _ (List.mem_of_getElem? (i := 72) rfl)
theorem sg9_5_2 : decs jdk_38_method_7_code [(5, .iconst 1, 1), (6, .iadd, 1)] := ⟨d9_5, d9_6, trivial⟩
theorem d9_7 : decode jdk_38_method_7_code 7 = .ok (.invokevirtual 69, 3) := by decide +kernel
theorem d10_0 : decode jdk_38_method_6_code 0 = .ok (.aload_n 0, 1) := by decide +kernel
theorem sg10_0_1 : decs jdk_38_method_6_code [(0, .aload_n 0, 1)] := ⟨d10_0, trivial⟩
theorem d10_1 : decode jdk_38_method_6_code 1 = .ok (.getfield 9, 3) := by decide +kernel
theorem d10_4 : decode jdk_38_method_6_code 4 = .ok (.arraylength, 1) := by decide +kernel
theorem d10_5 : decode jdk_38_method_6_code 5 = .ok (.istore_n 2, 1) := by decide +kernel
theorem d10_6 : decode jdk_38_method_6_code 6 = .ok (.iload_n 2, 1) := by decide +kernel
theorem sg10_5_2 : decs jdk_38_method_6_code [(5, .istore_n 2, 1), (6, .iload_n 2, 1)] := ⟨d10_5, d10_6, trivial⟩
theorem d10_7 : decode jdk_38_method_6_code 7 = .ok (.ifCond .gt 13, 3) := by decide +kernel
theorem d10_10 : decode jdk_38_method_6_code 10 = .ok (.aload_n 0, 1) := by decide +kernel
theorem sg10_10_1 : decs jdk_38_method_6_code [(10, .aload_n 0, 1)] := ⟨d10_10, trivial⟩
theorem d10_11 : decode jdk_38_method_6_code 11 = .ok (.getfield 9, 3) := by decide +kernel
theorem d10_14 : decode jdk_38_method_6_code 14 = .ok (.getstatic 39, 3) := by decide +kernel
theorem d10_17 : decode jdk_38_method_6_code 17 = .ok (.if_acmp .eq 28, 3) := by decide +kernel
theorem d10_45 : decode jdk_38_method_6_code 45 = .ok (.aload_n 0, 1) := by decide +kernel
theorem d10_46 : decode jdk_38_method_6_code 46 = .ok (.bipush 10, 2) := by decide +kernel
theorem d10_48 : decode jdk_38_method_6_code 48 = .ok (.iload_n 1, 1) := by decide +kernel
theorem own_w77 {Z : State} {a0 : Array Value} (hw : HW a0 Z) : (Cond.methodLink "java/util/ArrayList" 79 ⟨"java/lang/Math", "max", "(II)I"⟩).before a0 Z = true := hw _ (List.mem_of_getElem? (i := 77) rfl)
theorem sg10_45_3 : decs jdk_38_method_6_code [(45, .aload_n 0, 1), (46, .bipush 10, 2), (48, .iload_n 1, 1)] := ⟨d10_45, d10_46, d10_48, trivial⟩
theorem d10_49 : decode jdk_38_method_6_code 49 = .ok (.invokestatic 79, 3) := by decide +kernel
theorem d11_0 : decode jdk_29_method_65_code 0 = .ok (.iload_n 0, 1) := by decide +kernel
theorem d11_1 : decode jdk_29_method_65_code 1 = .ok (.iload_n 1, 1) := by decide +kernel
theorem sg11_0_2 : decs jdk_29_method_65_code [(0, .iload_n 0, 1), (1, .iload_n 1, 1)] := ⟨d11_0, d11_1, trivial⟩
theorem d11_2 : decode jdk_29_method_65_code 2 = .ok (.if_icmp .lt 7, 3) := by decide +kernel
theorem d11_5 : decode jdk_29_method_65_code 5 = .ok (.iload_n 0, 1) := by decide +kernel
theorem d11_6 : decode jdk_29_method_65_code 6 = .ok (.goto 4, 3) := by decide +kernel
theorem sg11_5_2 : decs jdk_29_method_65_code [(5, .iload_n 0, 1), (6, .goto 4, 3)] := ⟨d11_5, d11_6, trivial⟩
theorem d11_10 : decode jdk_29_method_65_code 10 = .ok (.ireturn, 1) := by decide +kernel
theorem ef_rm11_0 (m : MethodId) (x0 : Int32) (x1 : Int32) : entryFrame m #[(.int x0), (.int x1)] 2 = mkF m 0 #[.val (.int x0), .val (.int x1)] [] := by first | (simp [entryFrame, mkF, argsToLocals, Value.category]; done) | rfl
theorem own_w80 {Z : State} {a0 : Array Value} (hw : HW a0 Z) : (Cond.code ⟨"java/lang/Math", "max", "(II)I"⟩ jdk_29_method_65_code 2 (Option.some Jvm.ClassFile.FieldType.int)).before a0 Z = true := hw _ (List.mem_of_getElem? (i := 80) rfl)
theorem own_w79 {Z : State} {a0 : Array Value} (hw : HW a0 Z) : (Cond.initialized "java/lang/Math").before a0 Z = true := hw _ (List.mem_of_getElem? (i := 79) rfl)
theorem own_pd2 : parseMethodDescriptor "(II)I" = some ⟨[.int, .int], some .int⟩ := by decide +kernel
theorem own_w78 {Z : State} {a0 : Array Value} (hw : HW a0 Z) : (Cond.static ⟨"java/lang/Math", "max", "(II)I"⟩).before a0 Z = true := hw _ (List.mem_of_getElem? (i := 78) rfl)
theorem d10_52 : decode jdk_38_method_6_code 52 = .ok (.anewarray 7, 3) := by decide +kernel
theorem own_w81 {Z : State} {a0 : Array Value} (hw : HW a0 Z) : (Cond.classLink "java/util/ArrayList" 7 "java/lang/Object").before a0 Z = true := hw _ (List.mem_of_getElem? (i := 81) rfl)
theorem own_w82 {Z : State} {a0 : Array Value} (hw : HW a0 Z) : (Cond.arrayOver (Jvm.ClassFile.FieldType.object "java/lang/Object")).before a0 Z = true := hw _ (List.mem_of_getElem? (i := 82) rfl)
theorem d10_55 : decode jdk_38_method_6_code 55 = .ok (.dup_x1, 1) := by decide +kernel
theorem sg10_55_1 : decs jdk_38_method_6_code [(55, .dup_x1, 1)] := ⟨d10_55, trivial⟩
theorem d10_56 : decode jdk_38_method_6_code 56 = .ok (.putfield 9, 3) := by decide +kernel
theorem d10_59 : decode jdk_38_method_6_code 59 = .ok (.areturn, 1) := by decide +kernel
theorem ef_rm10_0 (m : MethodId) (x0 : Addr) (x1 : Int32) : entryFrame m #[(.ref x0), (.int x1)] 4 = mkF m 0 #[.val (.ref x0), .val (.int x1), .unset, .unset] [] := by first | (simp [entryFrame, mkF, argsToLocals, Value.category]; done) | rfl
theorem own_w76 {Z : State} {a0 : Array Value} (hw : HW a0 Z) : (Cond.code ⟨"java/util/ArrayList", "grow", "(I)[Ljava/lang/Object;"⟩ jdk_38_method_6_code 4 (Option.some (Jvm.ClassFile.FieldType.array (Jvm.ClassFile.FieldType.object "java/lang/Object")))).before a0 Z = true := hw _ (List.mem_of_getElem? (i := 76) rfl)
theorem own_pd3 : parseMethodDescriptor "(I)[Ljava/lang/Object;" = some ⟨[.int], some (.array (.object "java/lang/Object"))⟩ := by decide +kernel
theorem own_w75 {Z : State} {a0 : Array Value} (hw : HW a0 Z) : (Cond.selects "java/util/ArrayList" ⟨"java/util/ArrayList", "grow", "(I)[Ljava/lang/Object;"⟩ ⟨"java/util/ArrayList", "grow", "(I)[Ljava/lang/Object;"⟩).before a0 Z = true := hw _ (List.mem_of_getElem? (i := 75) rfl)
theorem own_w73 {Z : State} {a0 : Array Value} (hw : HW a0 Z) : (Cond.instanceMethod ⟨"java/util/ArrayList", "grow", "(I)[Ljava/lang/Object;"⟩).before a0 Z = true := hw _ (List.mem_of_getElem? (i := 73) rfl)
theorem own_w74 {Z : State} {a0 : Array Value} (hw : HW a0 Z) : (Cond.privateMethod ⟨"java/util/ArrayList", "grow", "(I)[Ljava/lang/Object;"⟩).before a0 Z = true := hw _ (List.mem_of_getElem? (i := 74) rfl)
theorem d9_10 : decode jdk_38_method_7_code 10 = .ok (.areturn, 1) := by decide +kernel
theorem ef_rm9_0 (m : MethodId) (x0 : Addr) : entryFrame m #[(.ref x0)] 1 = mkF m 0 #[.val (.ref x0)] [] := by first | (simp [entryFrame, mkF, argsToLocals, Value.category]; done) | rfl
theorem own_w71 {Z : State} {a0 : Array Value} (hw : HW a0 Z) : (Cond.code ⟨"java/util/ArrayList", "grow", "()[Ljava/lang/Object;"⟩ jdk_38_method_7_code 1 (Option.some (Jvm.ClassFile.FieldType.array (Jvm.ClassFile.FieldType.object "java/lang/Object")))).before a0 Z = true := hw _ (List.mem_of_getElem? (i := 71) rfl)
theorem own_pd4 : parseMethodDescriptor "()[Ljava/lang/Object;" = some ⟨[], some (.array (.object "java/lang/Object"))⟩ := by decide +kernel
theorem own_w70 {Z : State} {a0 : Array Value} (hw : HW a0 Z) : (Cond.selects "java/util/ArrayList" ⟨"java/util/ArrayList", "grow", "()[Ljava/lang/Object;"⟩ ⟨"java/util/ArrayList", "grow", "()[Ljava/lang/Object;"⟩).before a0 Z = true := hw _ (List.mem_of_getElem? (i := 70) rfl)
theorem own_w68 {Z : State} {a0 : Array Value} (hw : HW a0 Z) : (Cond.instanceMethod ⟨"java/util/ArrayList", "grow", "()[Ljava/lang/Object;"⟩).before a0 Z = true := hw _ (List.mem_of_getElem? (i := 68) rfl)
theorem own_w69 {Z : State} {a0 : Array Value} (hw : HW a0 Z) : (Cond.privateMethod ⟨"java/util/ArrayList", "grow", "()[Ljava/lang/Object;"⟩).before a0 Z = true := hw _ (List.mem_of_getElem? (i := 69) rfl)
theorem d8_10 : decode jdk_38_method_24_code 10 = .ok (.astore_n 2, 1) := by decide +kernel
theorem d8_11 : decode jdk_38_method_24_code 11 = .ok (.aload_n 2, 1) := by decide +kernel
theorem d8_12 : decode jdk_38_method_24_code 12 = .ok (.iload_n 3, 1) := by decide +kernel
theorem d8_13 : decode jdk_38_method_24_code 13 = .ok (.aload_n 1, 1) := by decide +kernel
theorem sg8_10_4 : decs jdk_38_method_24_code [(10, .astore_n 2, 1), (11, .aload_n 2, 1), (12, .iload_n 3, 1), (13, .aload_n 1, 1)] := ⟨d8_10, d8_11, d8_12, d8_13, trivial⟩
theorem d8_14 : decode jdk_38_method_24_code 14 = .ok (.aastore, 1) := by decide +kernel
theorem own_w83 {Z : State} {a0 : Array Value} (hw : HW a0 Z) : (Cond.castable "java/lang/String" "java/lang/Object").before a0 Z = true := hw _ (List.mem_of_getElem? (i := 83) rfl)
theorem d8_15 : decode jdk_38_method_24_code 15 = .ok (.aload_n 0, 1) := by decide +kernel
theorem d8_16 : decode jdk_38_method_24_code 16 = .ok (.iload_n 3, 1) := by decide +kernel
theorem d8_17 : decode jdk_38_method_24_code 17 = .ok (.iconst 1, 1) := by decide +kernel
theorem d8_18 : decode jdk_38_method_24_code 18 = .ok (.iadd, 1) := by decide +kernel
theorem sg8_15_4 : decs jdk_38_method_24_code [(15, .aload_n 0, 1), (16, .iload_n 3, 1), (17, .iconst 1, 1), (18, .iadd, 1)] := ⟨d8_15, d8_16, d8_17, d8_18, trivial⟩
theorem d8_19 : decode jdk_38_method_24_code 19 = .ok (.putfield 48, 3) := by decide +kernel
theorem d8_22 : decode jdk_38_method_24_code 22 = .ok (.return_, 1) := by decide +kernel
theorem ef_rm8_0 (m : MethodId) (x0 : Addr) (x1 : Addr) (x2 : Addr) (x3 : Int32) : entryFrame m #[(.ref x0), (.ref x1), (.ref x2), (.int x3)] 4 = mkF m 0 #[.val (.ref x0), .val (.ref x1), .val (.ref x2), .val (.int x3)] [] := by first | (simp [entryFrame, mkF, argsToLocals, Value.category]; done) | rfl
theorem own_w66 {Z : State} {a0 : Array Value} (hw : HW a0 Z) : (Cond.code ⟨"java/util/ArrayList", "add", "(Ljava/lang/Object;[Ljava/lang/Object;I)V"⟩ jdk_38_method_24_code 4 (Option.none : Option Jvm.ClassFile.FieldType)).before a0 Z = true := hw _ (List.mem_of_getElem? (i := 66) rfl)
theorem own_pd5 : parseMethodDescriptor "(Ljava/lang/Object;[Ljava/lang/Object;I)V" = some ⟨[(.object "java/lang/Object"), (.array (.object "java/lang/Object")), .int], none⟩ := by decide +kernel
theorem own_w65 {Z : State} {a0 : Array Value} (hw : HW a0 Z) : (Cond.selects "java/util/ArrayList" ⟨"java/util/ArrayList", "add", "(Ljava/lang/Object;[Ljava/lang/Object;I)V"⟩ ⟨"java/util/ArrayList", "add", "(Ljava/lang/Object;[Ljava/lang/Object;I)V"⟩).before a0 Z = true := hw _ (List.mem_of_getElem? (i := 65) rfl)
theorem own_w63 {Z : State} {a0 : Array Value} (hw : HW a0 Z) : (Cond.instanceMethod ⟨"java/util/ArrayList", "add", "(Ljava/lang/Object;[Ljava/lang/Object;I)V"⟩).before a0 Z = true := hw _ (List.mem_of_getElem? (i := 63) rfl)
theorem own_w64 {Z : State} {a0 : Array Value} (hw : HW a0 Z) : (Cond.privateMethod ⟨"java/util/ArrayList", "add", "(Ljava/lang/Object;[Ljava/lang/Object;I)V"⟩).before a0 Z = true := hw _ (List.mem_of_getElem? (i := 64) rfl)
theorem d7_23 : decode jdk_38_method_25_code 23 = .ok (.iconst 1, 1) := by decide +kernel
theorem sg7_23_1 : decs jdk_38_method_25_code [(23, .iconst 1, 1)] := ⟨d7_23, trivial⟩
theorem d7_24 : decode jdk_38_method_25_code 24 = .ok (.ireturn, 1) := by decide +kernel
theorem ef_rm7_0 (m : MethodId) (x0 : Addr) (x1 : Addr) : entryFrame m #[(.ref x0), (.ref x1)] 2 = mkF m 0 #[.val (.ref x0), .val (.ref x1)] [] := by first | (simp [entryFrame, mkF, argsToLocals, Value.category]; done) | rfl
theorem own_w57 {Z : State} {a0 : Array Value} (hw : HW a0 Z) : (Cond.code ⟨"java/util/ArrayList", "add", "(Ljava/lang/Object;)Z"⟩ jdk_38_method_25_code 2 (Option.some Jvm.ClassFile.FieldType.boolean)).before a0 Z = true := hw _ (List.mem_of_getElem? (i := 57) rfl)
theorem own_pd6 : parseMethodDescriptor "(Ljava/lang/Object;)Z" = some ⟨[(.object "java/lang/Object")], some .boolean⟩ := by decide +kernel
theorem own_w52 {Z : State} {a0 : Array Value} (hw : HW a0 Z) : (Cond.selects "java/util/ArrayList" ⟨"java/util/List", "add", "(Ljava/lang/Object;)Z"⟩ ⟨"java/util/ArrayList", "add", "(Ljava/lang/Object;)Z"⟩).before a0 Z = true := hw _ (List.mem_of_getElem? (i := 52) rfl)
theorem own_w50 {Z : State} {a0 : Array Value} (hw : HW a0 Z) : (Cond.declares ⟨"java/util/List", "add", "(Ljava/lang/Object;)Z"⟩).before a0 Z = true := hw _ (List.mem_of_getElem? (i := 50) rfl)
theorem own_w51 {Z : State} {a0 : Array Value} (hw : HW a0 Z) : (Cond.interfaceMethod "java/util/List" "java/util/List" "add" "(Ljava/lang/Object;)Z").before a0 Z = true := hw _ (List.mem_of_getElem? (i := 51) rfl)
theorem own_w53 {Z : State} {a0 : Array Value} (hw : HW a0 Z) : (Cond.instanceMethod ⟨"java/util/ArrayList", "add", "(Ljava/lang/Object;)Z"⟩).before a0 Z = true := hw _ (List.mem_of_getElem? (i := 53) rfl)
theorem own_w54 {Z : State} {a0 : Array Value} (hw : HW a0 Z) : (Cond.publicMethod ⟨"java/util/ArrayList", "add", "(Ljava/lang/Object;)Z"⟩).before a0 Z = true := hw _ (List.mem_of_getElem? (i := 54) rfl)
theorem own_w55 {Z : State} {a0 : Array Value} (hw : HW a0 Z) : (Cond.unhidden "java/util/ArrayList" "add" "(Ljava/lang/Object;)Z").before a0 Z = true := hw _ (List.mem_of_getElem? (i := 55) rfl)
theorem own_w56 {Z : State} {a0 : Array Value} (hw : HW a0 Z) : (Cond.castable "java/util/ArrayList" "java/util/List").before a0 Z = true := hw _ (List.mem_of_getElem? (i := 56) rfl)
theorem d1_38 : decode prog_74_method_8_code 38 = .ok (.pop, 1) := by decide +kernel
theorem d1_39 : decode prog_74_method_8_code 39 = .ok (.iinc 3 1, 3) := by decide +kernel
theorem d1_42 : decode prog_74_method_8_code 42 = .ok (.goto (-25), 3) := by decide +kernel
theorem sg1_38_5 : decs prog_74_method_8_code [(38, .pop, 1), (39, .iinc 3 1, 3), (42, .goto (-25), 3), (17, .iload_n 3, 1), (18, .iload_n 2, 1)] := ⟨d1_38, d1_39, d1_42, d1_17, d1_18, trivial⟩
theorem sg8_11_3 : decs jdk_38_method_24_code [(11, .aload_n 2, 1), (12, .iload_n 3, 1), (13, .aload_n 1, 1)] := ⟨d8_11, d8_12, d8_13, trivial⟩
theorem ef_rm8_1 (m : MethodId) (x0 : Addr) (x1 : Addr) (x2 : Addr) (x3 : Int32) : entryFrame m #[(.ref x0), (.ref x1), (.ref x2), (.int x3)] 4 = mkF m 0 #[.val (.ref x0), .val (.ref x1), .val (.ref x2), .val (.int x3)] [] := by first | (simp [entryFrame, mkF, argsToLocals, Value.category]; done) | rfl
theorem ef_rm7_1 (m : MethodId) (x0 : Addr) (x1 : Addr) : entryFrame m #[(.ref x0), (.ref x1)] 2 = mkF m 0 #[.val (.ref x0), .val (.ref x1)] [] := by first | (simp [entryFrame, mkF, argsToLocals, Value.category]; done) | rfl
theorem d1_45 : decode prog_74_method_8_code 45 = .ok (.aload_n 0, 1) := by decide +kernel
theorem sg1_45_1 : decs prog_74_method_8_code [(45, .aload_n 0, 1)] := ⟨d1_45, trivial⟩
theorem d1_46 : decode prog_74_method_8_code 46 = .ok (.areturn, 1) := by decide +kernel
theorem ef_rm1_0 (m : MethodId)  : entryFrame m #[] 5 = mkF m 0 #[.unset, .unset, .unset, .unset, .unset] [] := by first | (simp [entryFrame, mkF, argsToLocals, Value.category]; done) | rfl
theorem own_w3 {Z : State} {a0 : Array Value} (hw : HW a0 Z) : (Cond.code ⟨"com/example/tapline/tapline/rules/ReturnPeriod", "ids", "()Ljava/util/List;"⟩ prog_74_method_8_code 5 (Option.some (Jvm.ClassFile.FieldType.object "java/util/List"))).before a0 Z = true := hw _ (List.mem_of_getElem? (i := 3) rfl)
theorem own_pd7 : parseMethodDescriptor "()Ljava/util/List;" = some ⟨[], some (.object "java/util/List")⟩ := by decide +kernel
theorem own_w1 {Z : State} {a0 : Array Value} (hw : HW a0 Z) : (Cond.static ⟨"com/example/tapline/tapline/rules/ReturnPeriod", "ids", "()Ljava/util/List;"⟩).before a0 Z = true := hw _ (List.mem_of_getElem? (i := 1) rfl)
theorem own_w84 {Z : State} {a0 : Array Value} (hw : HW a0 Z) : (Cond.methodLink "com/example/tapline/tapline/rules/ReturnPeriodIdsPinLaw" 13 ⟨"java/util/List", "size", "()I"⟩).before a0 Z = true := hw _ (List.mem_of_getElem? (i := 84) rfl)
theorem sg0_3_2 : decs code [(3, .astore_n 1, 1), (4, .aload_n 1, 1)] := ⟨at_3, at_4, trivial⟩
theorem d12_0 : decode jdk_38_method_8_code 0 = .ok (.aload_n 0, 1) := by decide +kernel
theorem sg12_0_1 : decs jdk_38_method_8_code [(0, .aload_n 0, 1)] := ⟨d12_0, trivial⟩
theorem d12_1 : decode jdk_38_method_8_code 1 = .ok (.getfield 48, 3) := by decide +kernel
theorem d12_4 : decode jdk_38_method_8_code 4 = .ok (.ireturn, 1) := by decide +kernel
theorem ef_rm12_0 (m : MethodId) (x0 : Addr) : entryFrame m #[(.ref x0)] 1 = mkF m 0 #[.val (.ref x0)] [] := by first | (simp [entryFrame, mkF, argsToLocals, Value.category]; done) | rfl
theorem own_w91 {Z : State} {a0 : Array Value} (hw : HW a0 Z) : (Cond.code ⟨"java/util/ArrayList", "size", "()I"⟩ jdk_38_method_8_code 1 (Option.some Jvm.ClassFile.FieldType.int)).before a0 Z = true := hw _ (List.mem_of_getElem? (i := 91) rfl)
theorem own_pd8 : parseMethodDescriptor "()I" = some ⟨[], some .int⟩ := by decide +kernel
theorem own_w87 {Z : State} {a0 : Array Value} (hw : HW a0 Z) : (Cond.selects "java/util/ArrayList" ⟨"java/util/List", "size", "()I"⟩ ⟨"java/util/ArrayList", "size", "()I"⟩).before a0 Z = true := hw _ (List.mem_of_getElem? (i := 87) rfl)
theorem own_w85 {Z : State} {a0 : Array Value} (hw : HW a0 Z) : (Cond.declares ⟨"java/util/List", "size", "()I"⟩).before a0 Z = true := hw _ (List.mem_of_getElem? (i := 85) rfl)
theorem own_w86 {Z : State} {a0 : Array Value} (hw : HW a0 Z) : (Cond.interfaceMethod "java/util/List" "java/util/List" "size" "()I").before a0 Z = true := hw _ (List.mem_of_getElem? (i := 86) rfl)
theorem own_w88 {Z : State} {a0 : Array Value} (hw : HW a0 Z) : (Cond.instanceMethod ⟨"java/util/ArrayList", "size", "()I"⟩).before a0 Z = true := hw _ (List.mem_of_getElem? (i := 88) rfl)
theorem own_w89 {Z : State} {a0 : Array Value} (hw : HW a0 Z) : (Cond.publicMethod ⟨"java/util/ArrayList", "size", "()I"⟩).before a0 Z = true := hw _ (List.mem_of_getElem? (i := 89) rfl)
theorem own_w90 {Z : State} {a0 : Array Value} (hw : HW a0 Z) : (Cond.unhidden "java/util/ArrayList" "size" "()I").before a0 Z = true := hw _ (List.mem_of_getElem? (i := 90) rfl)
theorem sg0_10_1 : decs code [(10, .iconst 2, 1)] := ⟨at_10, trivial⟩
theorem sg0_16_4 : decs code [(16, .iload_n 0, 1), (17, .iconst 1, 1), (18, .iand, 1), (19, .istore_n 2, 1)] := ⟨at_16, at_17, at_18, at_19, trivial⟩
theorem own_w92 {Z : State} {a0 : Array Value} (hw : HW a0 Z) : (Cond.methodLink "com/example/tapline/tapline/rules/ReturnPeriodIdsPinLaw" 19 ⟨"java/util/List", "get", "(I)Ljava/lang/Object;"⟩).before a0 Z = true := hw _ (List.mem_of_getElem? (i := 92) rfl)
theorem sg0_20_2 : decs code [(20, .aload_n 1, 1), (21, .iload_n 2, 1)] := ⟨at_20, at_21, trivial⟩
theorem d13_0 : decode jdk_38_method_20_code 0 = .ok (.iload_n 1, 1) := by decide +kernel
theorem d13_1 : decode jdk_38_method_20_code 1 = .ok (.aload_n 0, 1) := by decide +kernel
theorem sg13_0_2 : decs jdk_38_method_20_code [(0, .iload_n 1, 1), (1, .aload_n 0, 1)] := ⟨d13_0, d13_1, trivial⟩
theorem d13_2 : decode jdk_38_method_20_code 2 = .ok (.getfield 48, 3) := by decide +kernel
theorem own_w100 {Z : State} {a0 : Array Value} (hw : HW a0 Z) : (Cond.methodLink "java/util/ArrayList" 118 ⟨"java/util/Objects", "checkIndex", "(II)I"⟩).before a0 Z = true := hw _ (List.mem_of_getElem? (i := 100) rfl)
theorem d13_5 : decode jdk_38_method_20_code 5 = .ok (.invokestatic 118, 3) := by decide +kernel
theorem d14_0 : decode jdk_31_method_17_code 0 = .ok (.iload_n 0, 1) := by decide +kernel
theorem d14_1 : decode jdk_31_method_17_code 1 = .ok (.iload_n 1, 1) := by decide +kernel
theorem d14_2 : decode jdk_31_method_17_code 2 = .ok (.aconst_null, 1) := by decide +kernel
theorem own_w104 {Z : State} {a0 : Array Value} (hw : HW a0 Z) : (Cond.methodLink "java/util/Objects" 105 ⟨"jdk/internal/util/Preconditions", "checkIndex", "(IILjava/util/function/BiFunction;)I"⟩).before a0 Z = true := hw _ (List.mem_of_getElem? (i := 104) rfl)
theorem sg14_0_3 : decs jdk_31_method_17_code [(0, .iload_n 0, 1), (1, .iload_n 1, 1), (2, .aconst_null, 1)] := ⟨d14_0, d14_1, d14_2, trivial⟩
theorem d14_3 : decode jdk_31_method_17_code 3 = .ok (.invokestatic 105, 3) := by decide +kernel
theorem d15_0 : decode jdk_41_method_11_code 0 = .ok (.iload_n 0, 1) := by decide +kernel
theorem sg15_0_1 : decs jdk_41_method_11_code [(0, .iload_n 0, 1)] := ⟨d15_0, trivial⟩
theorem d15_1 : decode jdk_41_method_11_code 1 = .ok (.ifCond .lt 8, 3) := by decide +kernel
theorem d15_4 : decode jdk_41_method_11_code 4 = .ok (.iload_n 0, 1) := by decide +kernel
theorem d15_5 : decode jdk_41_method_11_code 5 = .ok (.iload_n 1, 1) := by decide +kernel
theorem sg15_4_2 : decs jdk_41_method_11_code [(4, .iload_n 0, 1), (5, .iload_n 1, 1)] := ⟨d15_4, d15_5, trivial⟩
theorem d15_6 : decode jdk_41_method_11_code 6 = .ok (.if_icmp .lt 10, 3) := by decide +kernel
theorem d15_16 : decode jdk_41_method_11_code 16 = .ok (.iload_n 0, 1) := by decide +kernel
theorem sg15_16_1 : decs jdk_41_method_11_code [(16, .iload_n 0, 1)] := ⟨d15_16, trivial⟩
theorem d15_17 : decode jdk_41_method_11_code 17 = .ok (.ireturn, 1) := by decide +kernel
theorem ef_rm15_0 (m : MethodId) (x0 : Int32) (x1 : Int32) : entryFrame m #[(.int x0), (.int x1), .null] 3 = mkF m 0 #[.val (.int x0), .val (.int x1), .val .null] [] := by first | (simp [entryFrame, mkF, argsToLocals, Value.category]; done) | rfl
theorem own_pn4 : plainName "jdk/internal/util/Preconditions" = true := by first | (simp [plainName, overriddenIn]; done) | decide +kernel
theorem own_w107 {Z : State} {a0 : Array Value} (hw : HW a0 Z) : (Cond.code ⟨"jdk/internal/util/Preconditions", "checkIndex", "(IILjava/util/function/BiFunction;)I"⟩ jdk_41_method_11_code 3 (Option.some Jvm.ClassFile.FieldType.int)).before a0 Z = true := hw _ (List.mem_of_getElem? (i := 107) rfl)
theorem own_w106 {Z : State} {a0 : Array Value} (hw : HW a0 Z) : (Cond.initialized "jdk/internal/util/Preconditions").before a0 Z = true := hw _ (List.mem_of_getElem? (i := 106) rfl)
theorem own_pd9 : parseMethodDescriptor "(IILjava/util/function/BiFunction;)I" = some ⟨[.int, .int, (.object "java/util/function/BiFunction")], some .int⟩ := by decide +kernel
theorem own_w105 {Z : State} {a0 : Array Value} (hw : HW a0 Z) : (Cond.static ⟨"jdk/internal/util/Preconditions", "checkIndex", "(IILjava/util/function/BiFunction;)I"⟩).before a0 Z = true := hw _ (List.mem_of_getElem? (i := 105) rfl)
theorem d14_6 : decode jdk_31_method_17_code 6 = .ok (.ireturn, 1) := by decide +kernel
theorem ef_rm14_0 (m : MethodId) (x0 : Int32) (x1 : Int32) : entryFrame m #[(.int x0), (.int x1)] 2 = mkF m 0 #[.val (.int x0), .val (.int x1)] [] := by first | (simp [entryFrame, mkF, argsToLocals, Value.category]; done) | rfl
theorem own_pn5 : plainName "java/util/Objects" = true := by first | (simp [plainName, overriddenIn]; done) | decide +kernel
theorem own_w103 {Z : State} {a0 : Array Value} (hw : HW a0 Z) : (Cond.code ⟨"java/util/Objects", "checkIndex", "(II)I"⟩ jdk_31_method_17_code 2 (Option.some Jvm.ClassFile.FieldType.int)).before a0 Z = true := hw _ (List.mem_of_getElem? (i := 103) rfl)
theorem own_w102 {Z : State} {a0 : Array Value} (hw : HW a0 Z) : (Cond.initialized "java/util/Objects").before a0 Z = true := hw _ (List.mem_of_getElem? (i := 102) rfl)
theorem own_w101 {Z : State} {a0 : Array Value} (hw : HW a0 Z) : (Cond.static ⟨"java/util/Objects", "checkIndex", "(II)I"⟩).before a0 Z = true := hw _ (List.mem_of_getElem? (i := 101) rfl)
theorem d13_8 : decode jdk_38_method_20_code 8 = .ok (.pop, 1) := by decide +kernel
theorem d13_9 : decode jdk_38_method_20_code 9 = .ok (.aload_n 0, 1) := by decide +kernel
theorem d13_10 : decode jdk_38_method_20_code 10 = .ok (.iload_n 1, 1) := by decide +kernel
theorem own_w108 {Z : State} {a0 : Array Value} (hw : HW a0 Z) : (Cond.methodLink "java/util/ArrayList" 123 ⟨"java/util/ArrayList", "elementData", "(I)Ljava/lang/Object;"⟩).before a0 Z = true := hw _ (List.mem_of_getElem? (i := 108) rfl)
theorem sg13_8_3 : decs jdk_38_method_20_code [(8, .pop, 1), (9, .aload_n 0, 1), (10, .iload_n 1, 1)] := ⟨d13_8, d13_9, d13_10, trivial⟩
theorem d13_11 : decode jdk_38_method_20_code 11 = .ok (.invokevirtual 123, 3) := by decide +kernel
theorem d16_0 : decode jdk_38_method_18_code 0 = .ok (.aload_n 0, 1) := by decide +kernel
theorem sg16_0_1 : decs jdk_38_method_18_code [(0, .aload_n 0, 1)] := ⟨d16_0, trivial⟩
theorem d16_1 : decode jdk_38_method_18_code 1 = .ok (.getfield 9, 3) := by decide +kernel
theorem d16_4 : decode jdk_38_method_18_code 4 = .ok (.iload_n 1, 1) := by decide +kernel
theorem sg16_4_1 : decs jdk_38_method_18_code [(4, .iload_n 1, 1)] := ⟨d16_4, trivial⟩
theorem d16_5 : decode jdk_38_method_18_code 5 = .ok (.aaload, 1) := by decide +kernel
theorem d16_6 : decode jdk_38_method_18_code 6 = .ok (.areturn, 1) := by decide +kernel
theorem ef_rm16_0 (m : MethodId) (x0 : Addr) (x1 : Int32) : entryFrame m #[(.ref x0), (.int x1)] 2 = mkF m 0 #[.val (.ref x0), .val (.int x1)] [] := by first | (simp [entryFrame, mkF, argsToLocals, Value.category]; done) | rfl
theorem own_w112 {Z : State} {a0 : Array Value} (hw : HW a0 Z) : (Cond.code ⟨"java/util/ArrayList", "elementData", "(I)Ljava/lang/Object;"⟩ jdk_38_method_18_code 2 (Option.some (Jvm.ClassFile.FieldType.object "java/lang/Object"))).before a0 Z = true := hw _ (List.mem_of_getElem? (i := 112) rfl)
theorem own_pd10 : parseMethodDescriptor "(I)Ljava/lang/Object;" = some ⟨[.int], some (.object "java/lang/Object")⟩ := by decide +kernel
theorem own_w111 {Z : State} {a0 : Array Value} (hw : HW a0 Z) : (Cond.selects "java/util/ArrayList" ⟨"java/util/ArrayList", "elementData", "(I)Ljava/lang/Object;"⟩ ⟨"java/util/ArrayList", "elementData", "(I)Ljava/lang/Object;"⟩).before a0 Z = true := hw _ (List.mem_of_getElem? (i := 111) rfl)
theorem own_w109 {Z : State} {a0 : Array Value} (hw : HW a0 Z) : (Cond.declares ⟨"java/util/ArrayList", "elementData", "(I)Ljava/lang/Object;"⟩).before a0 Z = true := hw _ (List.mem_of_getElem? (i := 109) rfl)
theorem own_w110 {Z : State} {a0 : Array Value} (hw : HW a0 Z) : (Cond.instanceMethod ⟨"java/util/ArrayList", "elementData", "(I)Ljava/lang/Object;"⟩).before a0 Z = true := hw _ (List.mem_of_getElem? (i := 110) rfl)
theorem d13_14 : decode jdk_38_method_20_code 14 = .ok (.areturn, 1) := by decide +kernel
theorem ef_rm13_0 (m : MethodId) (x0 : Addr) (x1 : Int32) : entryFrame m #[(.ref x0), (.int x1)] 2 = mkF m 0 #[.val (.ref x0), .val (.int x1)] [] := by first | (simp [entryFrame, mkF, argsToLocals, Value.category]; done) | rfl
theorem own_w99 {Z : State} {a0 : Array Value} (hw : HW a0 Z) : (Cond.code ⟨"java/util/ArrayList", "get", "(I)Ljava/lang/Object;"⟩ jdk_38_method_20_code 2 (Option.some (Jvm.ClassFile.FieldType.object "java/lang/Object"))).before a0 Z = true := hw _ (List.mem_of_getElem? (i := 99) rfl)
theorem own_w95 {Z : State} {a0 : Array Value} (hw : HW a0 Z) : (Cond.selects "java/util/ArrayList" ⟨"java/util/List", "get", "(I)Ljava/lang/Object;"⟩ ⟨"java/util/ArrayList", "get", "(I)Ljava/lang/Object;"⟩).before a0 Z = true := hw _ (List.mem_of_getElem? (i := 95) rfl)
theorem own_w93 {Z : State} {a0 : Array Value} (hw : HW a0 Z) : (Cond.declares ⟨"java/util/List", "get", "(I)Ljava/lang/Object;"⟩).before a0 Z = true := hw _ (List.mem_of_getElem? (i := 93) rfl)
theorem own_w94 {Z : State} {a0 : Array Value} (hw : HW a0 Z) : (Cond.interfaceMethod "java/util/List" "java/util/List" "get" "(I)Ljava/lang/Object;").before a0 Z = true := hw _ (List.mem_of_getElem? (i := 94) rfl)
theorem own_w96 {Z : State} {a0 : Array Value} (hw : HW a0 Z) : (Cond.instanceMethod ⟨"java/util/ArrayList", "get", "(I)Ljava/lang/Object;"⟩).before a0 Z = true := hw _ (List.mem_of_getElem? (i := 96) rfl)
theorem own_w97 {Z : State} {a0 : Array Value} (hw : HW a0 Z) : (Cond.publicMethod ⟨"java/util/ArrayList", "get", "(I)Ljava/lang/Object;"⟩).before a0 Z = true := hw _ (List.mem_of_getElem? (i := 97) rfl)
theorem own_w98 {Z : State} {a0 : Array Value} (hw : HW a0 Z) : (Cond.unhidden "java/util/ArrayList" "get" "(I)Ljava/lang/Object;").before a0 Z = true := hw _ (List.mem_of_getElem? (i := 98) rfl)
theorem own_w113 {Z : State} {a0 : Array Value} (hw : HW a0 Z) : (Cond.classLink "com/example/tapline/tapline/rules/ReturnPeriodIdsPinLaw" 23 "java/lang/String").before a0 Z = true := hw _ (List.mem_of_getElem? (i := 113) rfl)
theorem sg0_30_2 : decs code [(30, .astore_n 3, 1), (31, .iload_n 2, 1)] := ⟨at_30, at_31, trivial⟩
theorem own_w115 {Z : State} {a0 : Array Value} (hw : HW a0 Z) : (Cond.stringLink "com/example/tapline/tapline/rules/ReturnPeriodIdsPinLaw" 25 "month").before a0 Z = true := hw _ (List.mem_of_getElem? (i := 115) rfl)
theorem sg0_37_3 : decs code [(37, .goto 5, 3), (42, .astore 4, 2), (44, .iload_n 2, 1)] := ⟨at_37, at_42, at_44, trivial⟩
theorem own_w123 {Z : State} {a0 : Array Value} (hw : HW a0 Z) : (Cond.fieldLink "com/example/tapline/tapline/rules/ReturnPeriodIdsPinLaw" 29 "com/example/tapline/tapline/rules/ReturnPeriod" "MONTH" "Lcom/example/tapline/tapline/rules/ReturnPeriod;").before a0 Z = true := hw _ (List.mem_of_getElem? (i := 123) rfl)
theorem own_w124 {Z : State} {a0 : Array Value} (hw : HW a0 Z) : (Cond.methodLink "com/example/tapline/tapline/rules/ReturnPeriodIdsPinLaw" 36 ⟨"java/lang/String", "equals", "(Ljava/lang/Object;)Z"⟩).before a0 Z = true := hw _ (List.mem_of_getElem? (i := 124) rfl)
theorem sg0_51_4 : decs code [(51, .goto 6, 3), (57, .astore 5, 2), (59, .aload 4, 2), (61, .aload_n 3, 1)] := ⟨at_51, at_57, at_59, at_61, trivial⟩
theorem d17_0 : decode jdk_42_method_66_code 0 = .ok (.aload_n 0, 1) := by decide +kernel
theorem d17_1 : decode jdk_42_method_66_code 1 = .ok (.aload_n 1, 1) := by decide +kernel
theorem sg17_0_2 : decs jdk_42_method_66_code [(0, .aload_n 0, 1), (1, .aload_n 1, 1)] := ⟨d17_0, d17_1, trivial⟩
theorem d17_2 : decode jdk_42_method_66_code 2 = .ok (.if_acmp .ne 5, 3) := by decide +kernel
theorem d17_5 : decode jdk_42_method_66_code 5 = .ok (.iconst 1, 1) := by decide +kernel
theorem sg17_5_1 : decs jdk_42_method_66_code [(5, .iconst 1, 1)] := ⟨d17_5, trivial⟩
theorem d17_6 : decode jdk_42_method_66_code 6 = .ok (.ireturn, 1) := by decide +kernel
theorem d17_7 : decode jdk_42_method_66_code 7 = .ok (.aload_n 1, 1) := by decide +kernel
theorem sg17_7_1 : decs jdk_42_method_66_code [(7, .aload_n 1, 1)] := ⟨d17_7, trivial⟩
theorem d17_8 : decode jdk_42_method_66_code 8 = .ok (.instanceof 10, 3) := by decide +kernel
theorem own_w129 {Z : State} {a0 : Array Value} (hw : HW a0 Z) : (Cond.classLink "java/lang/String" 10 "java/lang/String").before a0 Z = true := hw _ (List.mem_of_getElem? (i := 129) rfl)
theorem d17_11 : decode jdk_42_method_66_code 11 = .ok (.ifCond .eq 43, 3) := by decide +kernel
theorem d17_14 : decode jdk_42_method_66_code 14 = .ok (.aload_n 1, 1) := by decide +kernel
theorem sg17_14_1 : decs jdk_42_method_66_code [(14, .aload_n 1, 1)] := ⟨d17_14, trivial⟩
theorem d17_15 : decode jdk_42_method_66_code 15 = .ok (.checkcast 10, 3) := by decide +kernel
theorem d17_18 : decode jdk_42_method_66_code 18 = .ok (.astore_n 2, 1) := by decide +kernel
theorem sg17_18_1 : decs jdk_42_method_66_code [(18, .astore_n 2, 1)] := ⟨d17_18, trivial⟩
theorem d17_19 : decode jdk_42_method_66_code 19 = .ok (.getstatic 38, 3) := by decide +kernel
theorem own_w130 {Z : State} {a0 : Array Value} (hw : HW a0 Z) : (Cond.fieldLink "java/lang/String" 38 "java/lang/String" "COMPACT_STRINGS" "Z").before a0 Z = true := hw _ (List.mem_of_getElem? (i := 130) rfl)
theorem d17_22 : decode jdk_42_method_66_code 22 = .ok (.ifCond .eq 14, 3) := by decide +kernel
theorem d17_25 : decode jdk_42_method_66_code 25 = .ok (.aload_n 0, 1) := by decide +kernel
theorem sg17_25_1 : decs jdk_42_method_66_code [(25, .aload_n 0, 1)] := ⟨d17_25, trivial⟩
theorem d17_26 : decode jdk_42_method_66_code 26 = .ok (.getfield 15, 3) := by decide +kernel
theorem own_w131 {Z : State} {a0 : Array Value} (hw : HW a0 Z) : (Cond.fieldLink "java/lang/String" 15 "java/lang/String" "coder" "B").before a0 Z = true := hw _ (List.mem_of_getElem? (i := 131) rfl)
theorem d17_29 : decode jdk_42_method_66_code 29 = .ok (.aload_n 2, 1) := by decide +kernel
theorem sg17_29_1 : decs jdk_42_method_66_code [(29, .aload_n 2, 1)] := ⟨d17_29, trivial⟩
theorem d17_30 : decode jdk_42_method_66_code 30 = .ok (.getfield 15, 3) := by decide +kernel
theorem d17_33 : decode jdk_42_method_66_code 33 = .ok (.if_icmp .ne 21, 3) := by decide +kernel
theorem d17_36 : decode jdk_42_method_66_code 36 = .ok (.aload_n 0, 1) := by decide +kernel
theorem sg17_36_1 : decs jdk_42_method_66_code [(36, .aload_n 0, 1)] := ⟨d17_36, trivial⟩
theorem d17_37 : decode jdk_42_method_66_code 37 = .ok (.getfield 9, 3) := by decide +kernel
theorem own_w132 {Z : State} {a0 : Array Value} (hw : HW a0 Z) : (Cond.fieldLink "java/lang/String" 9 "java/lang/String" "value" "[B").before a0 Z = true := hw _ (List.mem_of_getElem? (i := 132) rfl)
theorem d17_40 : decode jdk_42_method_66_code 40 = .ok (.aload_n 2, 1) := by decide +kernel
theorem sg17_40_1 : decs jdk_42_method_66_code [(40, .aload_n 2, 1)] := ⟨d17_40, trivial⟩
theorem d17_41 : decode jdk_42_method_66_code 41 = .ok (.getfield 9, 3) := by decide +kernel
theorem own_w133 {Z : State} {a0 : Array Value} (hw : HW a0 Z) : (Cond.methodLink "java/lang/String" 541 ⟨"java/lang/StringLatin1", "equals", "([B[B)Z"⟩).before a0 Z = true := hw _ (List.mem_of_getElem? (i := 133) rfl)
theorem d17_44 : decode jdk_42_method_66_code 44 = .ok (.invokestatic 541, 3) := by decide +kernel
theorem d18_0 : decode jdk_43_method_13_code 0 = .ok (.aload_n 0, 1) := by decide +kernel
theorem sg18_0_1 : decs jdk_43_method_13_code [(0, .aload_n 0, 1)] := ⟨d18_0, trivial⟩
theorem d18_1 : decode jdk_43_method_13_code 1 = .ok (.arraylength, 1) := by decide +kernel
theorem d18_2 : decode jdk_43_method_13_code 2 = .ok (.aload_n 1, 1) := by decide +kernel
theorem sg18_2_1 : decs jdk_43_method_13_code [(2, .aload_n 1, 1)] := ⟨d18_2, trivial⟩
theorem d18_3 : decode jdk_43_method_13_code 3 = .ok (.arraylength, 1) := by decide +kernel
theorem d18_4 : decode jdk_43_method_13_code 4 = .ok (.if_icmp .ne 30, 3) := by decide +kernel
theorem d18_7 : decode jdk_43_method_13_code 7 = .ok (.iconst 0, 1) := by decide +kernel
theorem d18_8 : decode jdk_43_method_13_code 8 = .ok (.istore_n 2, 1) := by decide +kernel
theorem d18_9 : decode jdk_43_method_13_code 9 = .ok (.iload_n 2, 1) := by decide +kernel
theorem d18_10 : decode jdk_43_method_13_code 10 = .ok (.aload_n 0, 1) := by decide +kernel
theorem sg18_7_4 : decs jdk_43_method_13_code [(7, .iconst 0, 1), (8, .istore_n 2, 1), (9, .iload_n 2, 1), (10, .aload_n 0, 1)] := ⟨d18_7, d18_8, d18_9, d18_10, trivial⟩
theorem d18_11 : decode jdk_43_method_13_code 11 = .ok (.arraylength, 1) := by decide +kernel
theorem d18_12 : decode jdk_43_method_13_code 12 = .ok (.if_icmp .ge 20, 3) := by decide +kernel
theorem d18_15 : decode jdk_43_method_13_code 15 = .ok (.aload_n 0, 1) := by decide +kernel
theorem d18_16 : decode jdk_43_method_13_code 16 = .ok (.iload_n 2, 1) := by decide +kernel
theorem sg18_15_2 : decs jdk_43_method_13_code [(15, .aload_n 0, 1), (16, .iload_n 2, 1)] := ⟨d18_15, d18_16, trivial⟩
theorem d18_17 : decode jdk_43_method_13_code 17 = .ok (.baload, 1) := by decide +kernel
theorem d18_18 : decode jdk_43_method_13_code 18 = .ok (.aload_n 1, 1) := by decide +kernel
theorem d18_19 : decode jdk_43_method_13_code 19 = .ok (.iload_n 2, 1) := by decide +kernel
theorem sg18_18_2 : decs jdk_43_method_13_code [(18, .aload_n 1, 1), (19, .iload_n 2, 1)] := ⟨d18_18, d18_19, trivial⟩
theorem d18_20 : decode jdk_43_method_13_code 20 = .ok (.baload, 1) := by decide +kernel
theorem d18_21 : decode jdk_43_method_13_code 21 = .ok (.if_icmp .eq 5, 3) := by decide +kernel
theorem d18_26 : decode jdk_43_method_13_code 26 = .ok (.iinc 2 1, 3) := by decide +kernel
theorem d18_29 : decode jdk_43_method_13_code 29 = .ok (.goto (-20), 3) := by decide +kernel
theorem sg18_26_4 : decs jdk_43_method_13_code [(26, .iinc 2 1, 3), (29, .goto (-20), 3), (9, .iload_n 2, 1), (10, .aload_n 0, 1)] := ⟨d18_26, d18_29, d18_9, d18_10, trivial⟩
theorem d18_32 : decode jdk_43_method_13_code 32 = .ok (.iconst 1, 1) := by decide +kernel
theorem sg18_32_1 : decs jdk_43_method_13_code [(32, .iconst 1, 1)] := ⟨d18_32, trivial⟩
theorem d18_33 : decode jdk_43_method_13_code 33 = .ok (.ireturn, 1) := by decide +kernel
theorem ef_rm18_0 (m : MethodId) (x0 : Addr) (x1 : Addr) : entryFrame m #[(.ref x0), (.ref x1)] 3 = mkF m 0 #[.val (.ref x0), .val (.ref x1), .unset] [] := by first | (simp [entryFrame, mkF, argsToLocals, Value.category]; done) | rfl
theorem own_pn6 : plainName "java/lang/StringLatin1" = true := by first | (simp [plainName, overriddenIn]; done) | decide +kernel
theorem own_w136 {Z : State} {a0 : Array Value} (hw : HW a0 Z) : (Cond.code ⟨"java/lang/StringLatin1", "equals", "([B[B)Z"⟩ jdk_43_method_13_code 3 (Option.some Jvm.ClassFile.FieldType.boolean)).before a0 Z = true := hw _ (List.mem_of_getElem? (i := 136) rfl)
theorem own_w135 {Z : State} {a0 : Array Value} (hw : HW a0 Z) : (Cond.initialized "java/lang/StringLatin1").before a0 Z = true := hw _ (List.mem_of_getElem? (i := 135) rfl)
theorem own_pd11 : parseMethodDescriptor "([B[B)Z" = some ⟨[(.array .byte), (.array .byte)], some .boolean⟩ := by decide +kernel
theorem own_w134 {Z : State} {a0 : Array Value} (hw : HW a0 Z) : (Cond.static ⟨"java/lang/StringLatin1", "equals", "([B[B)Z"⟩).before a0 Z = true := hw _ (List.mem_of_getElem? (i := 134) rfl)
theorem d17_47 : decode jdk_42_method_66_code 47 = .ok (.ifCond .eq 7, 3) := by decide +kernel
theorem d17_50 : decode jdk_42_method_66_code 50 = .ok (.iconst 1, 1) := by decide +kernel
theorem d17_51 : decode jdk_42_method_66_code 51 = .ok (.goto 4, 3) := by decide +kernel
theorem sg17_50_2 : decs jdk_42_method_66_code [(50, .iconst 1, 1), (51, .goto 4, 3)] := ⟨d17_50, d17_51, trivial⟩
theorem d17_55 : decode jdk_42_method_66_code 55 = .ok (.ireturn, 1) := by decide +kernel
theorem ef_rm17_0 (m : MethodId) (x0 : Addr) (x1 : Addr) : entryFrame m #[(.ref x0), (.ref x1)] 3 = mkF m 0 #[.val (.ref x0), .val (.ref x1), .unset] [] := by first | (simp [entryFrame, mkF, argsToLocals, Value.category]; done) | rfl
theorem own_pn7 : plainName "java/lang/String" = true := by first | (simp [plainName, overriddenIn]; done) | decide +kernel
theorem own_w128 {Z : State} {a0 : Array Value} (hw : HW a0 Z) : (Cond.code ⟨"java/lang/String", "equals", "(Ljava/lang/Object;)Z"⟩ jdk_42_method_66_code 3 (Option.some Jvm.ClassFile.FieldType.boolean)).before a0 Z = true := hw _ (List.mem_of_getElem? (i := 128) rfl)
theorem own_w116 {Z : State} {a0 : Array Value} (hw : HW a0 Z) : (Cond.initialized "java/lang/String").before a0 Z = true := hw _ (List.mem_of_getElem? (i := 116) rfl)
theorem own_w127 {Z : State} {a0 : Array Value} (hw : HW a0 Z) : (Cond.selects "java/lang/String" ⟨"java/lang/String", "equals", "(Ljava/lang/Object;)Z"⟩ ⟨"java/lang/String", "equals", "(Ljava/lang/Object;)Z"⟩).before a0 Z = true := hw _ (List.mem_of_getElem? (i := 127) rfl)
theorem own_w125 {Z : State} {a0 : Array Value} (hw : HW a0 Z) : (Cond.declares ⟨"java/lang/String", "equals", "(Ljava/lang/Object;)Z"⟩).before a0 Z = true := hw _ (List.mem_of_getElem? (i := 125) rfl)
theorem own_w126 {Z : State} {a0 : Array Value} (hw : HW a0 Z) : (Cond.instanceMethod ⟨"java/lang/String", "equals", "(Ljava/lang/Object;)Z"⟩).before a0 Z = true := hw _ (List.mem_of_getElem? (i := 126) rfl)
theorem own_w137 {Z : State} {a0 : Array Value} (hw : HW a0 Z) : (Cond.methodLink "com/example/tapline/tapline/rules/ReturnPeriodIdsPinLaw" 40 ⟨"com/example/tapline/tapline/rules/ReturnPeriod", "id", "()Ljava/lang/String;"⟩).before a0 Z = true := hw _ (List.mem_of_getElem? (i := 137) rfl)
theorem sg0_68_2 : decs code [(68, .aload 4, 2), (70, .aload 5, 2)] := ⟨at_68, at_70, trivial⟩
theorem d19_0 : decode prog_74_method_4_code 0 = .ok (.aload_n 0, 1) := by decide +kernel
theorem sg19_0_1 : decs prog_74_method_4_code [(0, .aload_n 0, 1)] := ⟨d19_0, trivial⟩
theorem d19_1 : decode prog_74_method_4_code 1 = .ok (.getfield 29, 3) := by decide +kernel
theorem d19_4 : decode prog_74_method_4_code 4 = .ok (.areturn, 1) := by decide +kernel
theorem ef_rm19_0 (m : MethodId) (x0 : Addr) : entryFrame m #[(.ref x0)] 1 = mkF m 0 #[.val (.ref x0)] [] := by first | (simp [entryFrame, mkF, argsToLocals, Value.category]; done) | rfl
theorem own_w141 {Z : State} {a0 : Array Value} (hw : HW a0 Z) : (Cond.code ⟨"com/example/tapline/tapline/rules/ReturnPeriod", "id", "()Ljava/lang/String;"⟩ prog_74_method_4_code 1 (Option.some (Jvm.ClassFile.FieldType.object "java/lang/String"))).before a0 Z = true := hw _ (List.mem_of_getElem? (i := 141) rfl)
theorem own_pd12 : parseMethodDescriptor "()Ljava/lang/String;" = some ⟨[], some (.object "java/lang/String")⟩ := by decide +kernel
theorem own_w140 {Z : State} {a0 : Array Value} (hw : HW a0 Z) : (Cond.selects "com/example/tapline/tapline/rules/ReturnPeriod" ⟨"com/example/tapline/tapline/rules/ReturnPeriod", "id", "()Ljava/lang/String;"⟩ ⟨"com/example/tapline/tapline/rules/ReturnPeriod", "id", "()Ljava/lang/String;"⟩).before a0 Z = true := hw _ (List.mem_of_getElem? (i := 140) rfl)
theorem own_w138 {Z : State} {a0 : Array Value} (hw : HW a0 Z) : (Cond.declares ⟨"com/example/tapline/tapline/rules/ReturnPeriod", "id", "()Ljava/lang/String;"⟩).before a0 Z = true := hw _ (List.mem_of_getElem? (i := 138) rfl)
theorem own_w139 {Z : State} {a0 : Array Value} (hw : HW a0 Z) : (Cond.instanceMethod ⟨"com/example/tapline/tapline/rules/ReturnPeriod", "id", "()Ljava/lang/String;"⟩).before a0 Z = true := hw _ (List.mem_of_getElem? (i := 139) rfl)
theorem own_w142 {Z : State} {a0 : Array Value} (hw : HW a0 Z) : (Cond.methodLink "com/example/tapline/tapline/rules/ReturnPeriodIdsPinLaw" 44 ⟨"com/example/tapline/tapline/rules/ReturnPeriod", "byId", "(Ljava/lang/String;)Lcom/example/tapline/tapline/rules/ReturnPeriod;"⟩).before a0 Z = true := hw _ (List.mem_of_getElem? (i := 142) rfl)
theorem sg0_81_1 : decs code [(81, .aload_n 3, 1)] := ⟨at_81, trivial⟩
theorem d20_0 : decode prog_74_method_7_code 0 = .ok (.aconst_null, 1) := by decide +kernel
theorem d20_1 : decode prog_74_method_7_code 1 = .ok (.astore_n 1, 1) := by decide +kernel
theorem sg20_0_2 : decs prog_74_method_7_code [(0, .aconst_null, 1), (1, .astore_n 1, 1)] := ⟨d20_0, d20_1, trivial⟩
theorem d20_2 : decode prog_74_method_7_code 2 = .ok (.invokestatic 54, 3) := by decide +kernel
theorem d20_5 : decode prog_74_method_7_code 5 = .ok (.astore_n 2, 1) := by decide +kernel
theorem d20_6 : decode prog_74_method_7_code 6 = .ok (.aload_n 2, 1) := by decide +kernel
theorem sg20_5_2 : decs prog_74_method_7_code [(5, .astore_n 2, 1), (6, .aload_n 2, 1)] := ⟨d20_5, d20_6, trivial⟩
theorem d20_7 : decode prog_74_method_7_code 7 = .ok (.arraylength, 1) := by decide +kernel
theorem d20_8 : decode prog_74_method_7_code 8 = .ok (.istore_n 3, 1) := by decide +kernel
theorem d20_9 : decode prog_74_method_7_code 9 = .ok (.iconst 0, 1) := by decide +kernel
theorem d20_10 : decode prog_74_method_7_code 10 = .ok (.istore 4, 2) := by decide +kernel
theorem d20_12 : decode prog_74_method_7_code 12 = .ok (.iload 4, 2) := by decide +kernel
theorem d20_14 : decode prog_74_method_7_code 14 = .ok (.iload_n 3, 1) := by decide +kernel
theorem sg20_8_5 : decs prog_74_method_7_code [(8, .istore_n 3, 1), (9, .iconst 0, 1), (10, .istore 4, 2), (12, .iload 4, 2), (14, .iload_n 3, 1)] := ⟨d20_8, d20_9, d20_10, d20_12, d20_14, trivial⟩
theorem d20_15 : decode prog_74_method_7_code 15 = .ok (.if_icmp .ge 30, 3) := by decide +kernel
theorem d20_18 : decode prog_74_method_7_code 18 = .ok (.aload_n 2, 1) := by decide +kernel
theorem d20_19 : decode prog_74_method_7_code 19 = .ok (.iload 4, 2) := by decide +kernel
theorem sg20_18_2 : decs prog_74_method_7_code [(18, .aload_n 2, 1), (19, .iload 4, 2)] := ⟨d20_18, d20_19, trivial⟩
theorem d20_21 : decode prog_74_method_7_code 21 = .ok (.aaload, 1) := by decide +kernel
theorem d20_22 : decode prog_74_method_7_code 22 = .ok (.astore 5, 2) := by decide +kernel
theorem d20_24 : decode prog_74_method_7_code 24 = .ok (.aload 5, 2) := by decide +kernel
theorem sg20_22_2 : decs prog_74_method_7_code [(22, .astore 5, 2), (24, .aload 5, 2)] := ⟨d20_22, d20_24, trivial⟩
theorem d20_26 : decode prog_74_method_7_code 26 = .ok (.getfield 29, 3) := by decide +kernel
theorem d20_29 : decode prog_74_method_7_code 29 = .ok (.aload_n 0, 1) := by decide +kernel
theorem own_w145 {Z : State} {a0 : Array Value} (hw : HW a0 Z) : (Cond.methodLink "com/example/tapline/tapline/rules/ReturnPeriod" 58 ⟨"java/lang/String", "equals", "(Ljava/lang/Object;)Z"⟩).before a0 Z = true := hw _ (List.mem_of_getElem? (i := 145) rfl)
theorem sg20_29_1 : decs prog_74_method_7_code [(29, .aload_n 0, 1)] := ⟨d20_29, trivial⟩
theorem d20_30 : decode prog_74_method_7_code 30 = .ok (.invokevirtual 58, 3) := by decide +kernel
theorem d20_33 : decode prog_74_method_7_code 33 = .ok (.ifCond .eq 6, 3) := by decide +kernel
theorem d20_36 : decode prog_74_method_7_code 36 = .ok (.aload 5, 2) := by decide +kernel
theorem d20_38 : decode prog_74_method_7_code 38 = .ok (.astore_n 1, 1) := by decide +kernel
theorem d20_39 : decode prog_74_method_7_code 39 = .ok (.iinc 4 1, 3) := by decide +kernel
theorem d20_42 : decode prog_74_method_7_code 42 = .ok (.goto (-30), 3) := by decide +kernel
theorem sg20_36_6 : decs prog_74_method_7_code [(36, .aload 5, 2), (38, .astore_n 1, 1), (39, .iinc 4 1, 3), (42, .goto (-30), 3), (12, .iload 4, 2), (14, .iload_n 3, 1)] := ⟨d20_36, d20_38, d20_39, d20_42, d20_12, d20_14, trivial⟩
theorem d18_34 : decode jdk_43_method_13_code 34 = .ok (.iconst 0, 1) := by decide +kernel
theorem sg18_34_1 : decs jdk_43_method_13_code [(34, .iconst 0, 1)] := ⟨d18_34, trivial⟩
theorem d18_35 : decode jdk_43_method_13_code 35 = .ok (.ireturn, 1) := by decide +kernel
theorem ef_rm18_1 (m : MethodId) (x0 : Addr) (x1 : Addr) : entryFrame m #[(.ref x0), (.ref x1)] 3 = mkF m 0 #[.val (.ref x0), .val (.ref x1), .unset] [] := by first | (simp [entryFrame, mkF, argsToLocals, Value.category]; done) | rfl
theorem d17_54 : decode jdk_42_method_66_code 54 = .ok (.iconst 0, 1) := by decide +kernel
theorem sg17_54_1 : decs jdk_42_method_66_code [(54, .iconst 0, 1)] := ⟨d17_54, trivial⟩
theorem ef_rm17_1 (m : MethodId) (x0 : Addr) (x1 : Addr) : entryFrame m #[(.ref x0), (.ref x1)] 3 = mkF m 0 #[.val (.ref x0), .val (.ref x1), .unset] [] := by first | (simp [entryFrame, mkF, argsToLocals, Value.category]; done) | rfl
theorem sg20_39_4 : decs prog_74_method_7_code [(39, .iinc 4 1, 3), (42, .goto (-30), 3), (12, .iload 4, 2), (14, .iload_n 3, 1)] := ⟨d20_39, d20_42, d20_12, d20_14, trivial⟩
theorem d20_45 : decode prog_74_method_7_code 45 = .ok (.aload_n 1, 1) := by decide +kernel
theorem sg20_45_1 : decs prog_74_method_7_code [(45, .aload_n 1, 1)] := ⟨d20_45, trivial⟩
theorem d20_46 : decode prog_74_method_7_code 46 = .ok (.areturn, 1) := by decide +kernel
theorem ef_rm20_0 (m : MethodId) (x0 : Addr) : entryFrame m #[(.ref x0)] 6 = mkF m 0 #[.val (.ref x0), .unset, .unset, .unset, .unset, .unset] [] := by first | (simp [entryFrame, mkF, argsToLocals, Value.category]; done) | rfl
theorem own_w144 {Z : State} {a0 : Array Value} (hw : HW a0 Z) : (Cond.code ⟨"com/example/tapline/tapline/rules/ReturnPeriod", "byId", "(Ljava/lang/String;)Lcom/example/tapline/tapline/rules/ReturnPeriod;"⟩ prog_74_method_7_code 6 (Option.some (Jvm.ClassFile.FieldType.object "com/example/tapline/tapline/rules/ReturnPeriod"))).before a0 Z = true := hw _ (List.mem_of_getElem? (i := 144) rfl)
theorem own_pd13 : parseMethodDescriptor "(Ljava/lang/String;)Lcom/example/tapline/tapline/rules/ReturnPeriod;" = some ⟨[(.object "java/lang/String")], some (.object "com/example/tapline/tapline/rules/ReturnPeriod")⟩ := by decide +kernel
theorem own_w143 {Z : State} {a0 : Array Value} (hw : HW a0 Z) : (Cond.static ⟨"com/example/tapline/tapline/rules/ReturnPeriod", "byId", "(Ljava/lang/String;)Lcom/example/tapline/tapline/rules/ReturnPeriod;"⟩).before a0 Z = true := hw _ (List.mem_of_getElem? (i := 143) rfl)
theorem sg0_85_1 : decs code [(85, .aload 5, 2)] := ⟨at_85, trivial⟩
theorem sg0_90_2 : decs code [(90, .iconst 1, 1), (91, .goto 4, 3)] := ⟨at_90, at_91, trivial⟩
theorem ef_rm15_1 (m : MethodId) (x0 : Int32) (x1 : Int32) : entryFrame m #[(.int x0), (.int x1), .null] 3 = mkF m 0 #[.val (.int x0), .val (.int x1), .val .null] [] := by first | (simp [entryFrame, mkF, argsToLocals, Value.category]; done) | rfl
theorem ef_rm14_1 (m : MethodId) (x0 : Int32) (x1 : Int32) : entryFrame m #[(.int x0), (.int x1)] 2 = mkF m 0 #[.val (.int x0), .val (.int x1)] [] := by first | (simp [entryFrame, mkF, argsToLocals, Value.category]; done) | rfl
theorem ef_rm16_1 (m : MethodId) (x0 : Addr) (x1 : Int32) : entryFrame m #[(.ref x0), (.int x1)] 2 = mkF m 0 #[.val (.ref x0), .val (.int x1)] [] := by first | (simp [entryFrame, mkF, argsToLocals, Value.category]; done) | rfl
theorem ef_rm13_1 (m : MethodId) (x0 : Addr) (x1 : Int32) : entryFrame m #[(.ref x0), (.int x1)] 2 = mkF m 0 #[.val (.ref x0), .val (.int x1)] [] := by first | (simp [entryFrame, mkF, argsToLocals, Value.category]; done) | rfl
theorem own_w146 {Z : State} {a0 : Array Value} (hw : HW a0 Z) : (Cond.stringLink "com/example/tapline/tapline/rules/ReturnPeriodIdsPinLaw" 27 "quarter").before a0 Z = true := hw _ (List.mem_of_getElem? (i := 146) rfl)
theorem sg0_42_2 : decs code [(42, .astore 4, 2), (44, .iload_n 2, 1)] := ⟨at_42, at_44, trivial⟩
theorem own_w147 {Z : State} {a0 : Array Value} (hw : HW a0 Z) : (Cond.fieldLink "com/example/tapline/tapline/rules/ReturnPeriodIdsPinLaw" 33 "com/example/tapline/tapline/rules/ReturnPeriod" "QUARTER" "Lcom/example/tapline/tapline/rules/ReturnPeriod;").before a0 Z = true := hw _ (List.mem_of_getElem? (i := 147) rfl)
theorem sg0_57_3 : decs code [(57, .astore 5, 2), (59, .aload 4, 2), (61, .aload_n 3, 1)] := ⟨at_57, at_59, at_61, trivial⟩
theorem ef_rm18_2 (m : MethodId) (x0 : Addr) (x1 : Addr) : entryFrame m #[(.ref x0), (.ref x1)] 3 = mkF m 0 #[.val (.ref x0), .val (.ref x1), .unset] [] := by first | (simp [entryFrame, mkF, argsToLocals, Value.category]; done) | rfl
theorem ef_rm17_2 (m : MethodId) (x0 : Addr) (x1 : Addr) : entryFrame m #[(.ref x0), (.ref x1)] 3 = mkF m 0 #[.val (.ref x0), .val (.ref x1), .unset] [] := by first | (simp [entryFrame, mkF, argsToLocals, Value.category]; done) | rfl
theorem ef_rm19_1 (m : MethodId) (x0 : Addr) : entryFrame m #[(.ref x0)] 1 = mkF m 0 #[.val (.ref x0)] [] := by first | (simp [entryFrame, mkF, argsToLocals, Value.category]; done) | rfl
theorem ef_rm18_3 (m : MethodId) (x0 : Addr) (x1 : Addr) : entryFrame m #[(.ref x0), (.ref x1)] 3 = mkF m 0 #[.val (.ref x0), .val (.ref x1), .unset] [] := by first | (simp [entryFrame, mkF, argsToLocals, Value.category]; done) | rfl
theorem ef_rm17_3 (m : MethodId) (x0 : Addr) (x1 : Addr) : entryFrame m #[(.ref x0), (.ref x1)] 3 = mkF m 0 #[.val (.ref x0), .val (.ref x1), .unset] [] := by first | (simp [entryFrame, mkF, argsToLocals, Value.category]; done) | rfl
theorem ef_rm20_1 (m : MethodId) (x0 : Addr) : entryFrame m #[(.ref x0)] 6 = mkF m 0 #[.val (.ref x0), .unset, .unset, .unset, .unset, .unset] [] := by first | (simp [entryFrame, mkF, argsToLocals, Value.category]; done) | rfl
theorem ef_rm0 (m : MethodId) (x0 : Int32) : entryFrame m #[(.int x0)] maxLocals = mkF m 0 #[.val (.int x0), .unset, .unset, .unset, .unset, .unset] [] := by first | (simp [entryFrame, mkF, argsToLocals, Value.category, maxLocals]; done) | rfl
theorem own_pn8 : plainName "com/example/tapline/tapline/rules/ReturnPeriodIdsPinLaw" = true := by first | (simp [plainName, overriddenIn]; done) | decide +kernel
theorem own_w118 {Z : State} {a0 : Array Value} (hw : HW a0 Z) : (Cond.arrayClass Jvm.ClassFile.FieldType.byte).before a0 Z = true := hw _ (List.mem_of_getElem? (i := 118) rfl)
theorem own_w117 {Z : State} {a0 : Array Value} (hw : HW a0 Z) : (Cond.instantiable "java/lang/String" 4).before a0 Z = true := hw _ (List.mem_of_getElem? (i := 117) rfl)
abbrev own_EL : List (String × Nat) := [("com/example/tapline/tapline/rules/ReturnPeriodIdsPinLaw", 25), ("com/example/tapline/tapline/rules/ReturnPeriodIdsPinLaw", 27)]
theorem own_hEL {Z : State} {a0 : Array Value} (hw : HW a0 Z) : EW Z a0 own_EL := (EW.cons (own_w115 hw) (by decide) (EW.cons (own_w146 hw) (by decide) EW.nil))
theorem own_wS0 : ∀ a ∈ Bundle.stringAtoms, a ∈ tables_1 := by decide +kernel
theorem own_wS {Z : State} {a0 : Array Value} (hw : HW a0 Z) : ∀ a ∈ Bundle.stringAtoms, a.before a0 Z = true := fun a ha => hw a (own_wS0 a ha)
theorem rm4_0 (l : Launch) (Z : State) (a0 : Array Value) (hw : HW a0 Z) (ws : List Jvm.Cond) (o0 : Addr) (h0 : Heap) (n0 : Nat) (O0 : Old Z n0 h0) :
    Con l Z (⟨"java/util/AbstractCollection", "<init>", "()V"⟩ : MethodName) jdk_22_method_1_code 1 none ws ({ frames := 1, cells := 0, slots := 0, locals := 12 } : Room) #[(.ref o0)] h0 (Pur none h0) := by
 refine own_body (plainFor_of_name own_pn0) (fun m => ef_rm4_0 m o0) ?_
 intro p e s m below meth c s₁ hx hby hlk hml hret hZ hown hnm X0 e0
 have N0 := Fr.nil n0
 refine Home.run X0 hx hby sg4_0_1 (pc' := 1) (L' := #[.val (.ref o0)]) (S' := [(.ref o0)]) rfl ?_
 refine Home.st (initO X0 hx hZ hown (own_w22 hw) (own_w23 hw) (own_w24 hw) e0 rfl (by rw [hml]; rfl) rfl (hb hby d4_1) (by decide) (W := 0) (by exact hW0) (by decide)) fun T1 X1 e1 => ?_
 exact Home.ret0 X1 hx hlk hret (hb hby d4_4) ⟨rfl, rfl, e1⟩ (by decide) (by decide)
theorem rm3_0 (l : Launch) (Z : State) (a0 : Array Value) (hw : HW a0 Z) (ws : List Jvm.Cond) (o0 : Addr) (h0 : Heap) (n0 : Nat) (O0 : Old Z n0 h0) (E_o0 : Exa Z h0 o0 "java/util/ArrayList") (F_modCount_o0 : Fld Z h0 o0 "java/util/AbstractList" "modCount" "I" (.int (0 : Int32))) (g_o0 : n0 ≤ o0) (F_elementData_o0 : Fld Z h0 o0 "java/util/ArrayList" "elementData" "[Ljava/lang/Object;" .null) (F_size_o0 : Fld Z h0 o0 "java/util/ArrayList" "size" "I" (.int (0 : Int32))) :
    Con l Z (⟨"java/util/AbstractList", "<init>", "()V"⟩ : MethodName) jdk_39_method_1_code 1 none ws ({ frames := 2, cells := 0, slots := 0, locals := 24 } : Room) #[(.ref o0)] h0 (fun v h L => v = none ∧ Fr n0 L ∧ Keep h0 h [o0] ∧ Exa Z h o0 "java/util/ArrayList" ∧ Fld Z h o0 "java/util/AbstractList" "modCount" "I" (.int (0 : Int32)) ∧ Fld Z h o0 "java/util/ArrayList" "elementData" "[Ljava/lang/Object;" .null ∧ Fld Z h o0 "java/util/ArrayList" "size" "I" (.int (0 : Int32))) := by
 refine own_body (plainFor_of_name own_pn1) (fun m => ef_rm3_0 m o0) ?_
 intro p e s m below meth c s₁ hx hby hlk hml hret hZ hown hnm X0 e0
 have N0 := Fr.nil n0
 refine Home.run X0 hx hby sg3_0_1 (pc' := 1) (L' := #[.val (.ref o0)]) (S' := [(.ref o0)]) rfl ?_
 refine Home.st (own_pure (own_special X0 hx hZ hown rfl (own_w16 hw) (own_w17 hw) (own_w20 hw) (own_w21 hw) (by decide) (rm4_0 l Z a0 hw [] o0 h0 n0 O0) e0 rfl (by rw [hml]; rfl) (a := o0) (argsL := []) (rest := []) (lenOf own_pd0 rfl) rfl rfl (W := 0) (by exact hW0) (by decide) (by decide) (hb hby d3_1) (by decide) (by decide))) fun T1 X1 e1 => ?_
 refine Home.run X1 hx hby sg3_4_2 (pc' := 6) (L' := #[.val (.ref o0)]) (S' := [(.int (0 : Int32)), (.ref o0)]) rfl ?_
 refine Home.wr (putF X1 hx hZ hown (host := "") (Or.inl (own_w25 hw)) Via.refl e1 F_modCount_o0 E_o0 (Or.inl (own_w26 hw)) (own_w5 hw) (ty := .int) (by decide) rfl rfl rfl rfl (hb hby d3_6)) fun T2 h2 X2 e2 W2 => ?_
 have Fw2 := F_modCount_o0.same W2
 have O2 := O0.wr W2 g_o0
 have K2 : Keep h0 h2 ([o0] : List Addr) := Keep.wr (Keep.refl h0 ([o0] : List Addr)) W2 (Or.inl (List.mem_of_getElem? (i := 0) rfl))
 have N2 := Fr.snoc X2 N0 g_o0
 show Home T2 (mkF m 9 #[.val (.ref o0)] [])
 have q3 := (F_elementData_o0.other W2 (Or.inr (slot_ne (Or.inl (own_w29 hw)) (Or.inl (own_w26 hw)) (by decide) (t := (.array (.object "java/lang/Object"))) (t' := .int) (by decide) (by decide))))
 have q4 := (F_size_o0.other W2 (Or.inr (slot_ne (Or.inl (own_w61 hw)) (Or.inl (own_w26 hw)) (by decide) (t := .int) (t' := .int) (by decide) (by decide))))
 exact Home.ret0 X2 hx hlk hret (hb hby d3_9) (by rw [show T2.heap = h2 from e2]; exact ⟨rfl, N2, K2, (E_o0.keep K2), Fw2, q3, q4⟩) (by decide) (by decide)
theorem rm2_0 (l : Launch) (Z : State) (a0 : Array Value) (hw : HW a0 Z) (ws : List Jvm.Cond) (o0 sv_DEFAULTCAPACITY_EMPTY_ELEMENTDATA : Addr) (h0 : Heap) (n0 : Nat) (O0 : Old Z n0 h0) (E_o0 : Exa Z h0 o0 "java/util/ArrayList") (F_modCount_o0 : Fld Z h0 o0 "java/util/AbstractList" "modCount" "I" (.int (0 : Int32))) (F_elementData_o0 : Fld Z h0 o0 "java/util/ArrayList" "elementData" "[Ljava/lang/Object;" .null) (F_size_o0 : Fld Z h0 o0 "java/util/ArrayList" "size" "I" (.int (0 : Int32))) (g_o0 : n0 ≤ o0) (S_DEFAULTCAPACITY_EMPTY_ELEMENTDATA : Sta Z Z.heap "java/util/ArrayList" "DEFAULTCAPACITY_EMPTY_ELEMENTDATA" "[Ljava/lang/Object;" (.ref sv_DEFAULTCAPACITY_EMPTY_ELEMENTDATA)) :
    Con l Z (⟨"java/util/ArrayList", "<init>", "()V"⟩ : MethodName) jdk_38_method_2_code 1 none ws ({ frames := 3, cells := 0, slots := 0, locals := 36 } : Room) #[(.ref o0)] h0 (fun v h L => v = none ∧ Fr n0 L ∧ Keep h0 h [o0] ∧ Exa Z h o0 "java/util/ArrayList" ∧ Fld Z h o0 "java/util/AbstractList" "modCount" "I" (.int (0 : Int32)) ∧ Fld Z h o0 "java/util/ArrayList" "elementData" "[Ljava/lang/Object;" (.ref sv_DEFAULTCAPACITY_EMPTY_ELEMENTDATA) ∧ Fld Z h o0 "java/util/ArrayList" "size" "I" (.int (0 : Int32))) := by
 refine own_body (plainFor_of_name own_pn2) (fun m => ef_rm2_0 m o0) ?_
 intro p e s m below meth c s₁ hx hby hlk hml hret hZ hown hnm X0 e0
 have N0 := Fr.nil n0
 refine Home.run X0 hx hby sg2_0_1 (pc' := 1) (L' := #[.val (.ref o0)]) (S' := [(.ref o0)]) rfl ?_
 refine Home.call (own_special X0 hx hZ hown rfl (own_w10 hw) (own_w11 hw) (own_w14 hw) (own_w15 hw) (by decide) (rm3_0 l Z a0 hw [] o0 h0 n0 O0 E_o0 F_modCount_o0 g_o0 F_elementData_o0 F_size_o0) e0 rfl (by rw [hml]; rfl) (a := o0) (argsL := []) (rest := []) (lenOf own_pd0 rfl) rfl rfl (W := 0) (by exact hW0) (by decide) (by decide) (hb hby d2_1) (by decide) (by decide)) ?_
 rintro _ T1 L1 X1 ⟨rfl, N1q, K1q, P1_0, P1_1, P1_2, P1_3⟩
 have O1 := Old.keep O0 K1q (allS g_o0 all0)
 have K1 : Keep h0 T1.heap ([o0] : List Addr) := Keep.trans (Keep.refl h0 ([o0] : List Addr)) K1q (allS (Or.inl (List.mem_of_getElem? (i := 0) rfl)) all0)
 have N1 := Fr.app N0 N1q
 refine Home.run X1 hx hby sg2_4_1 (pc' := 5) (L' := #[.val (.ref o0)]) (S' := [(.ref o0)]) rfl ?_
 refine Home.st (getS2 X1 hx hZ hown (host := "") (Or.inl (own_w27 hw)) Via.refl rfl (S_DEFAULTCAPACITY_EMPTY_ELEMENTDATA.ext O1.2) rfl (hb hby d2_5)) fun T2 X2 e2 => ?_
 show Home T2 (mkF m 8 #[.val (.ref o0)] [(.ref sv_DEFAULTCAPACITY_EMPTY_ELEMENTDATA), (.ref o0)])
 refine Home.wr (putF X2 hx hZ hown (host := "") (Or.inl (own_w28 hw)) Via.refl e2 P1_2 P1_0 (Or.inl (own_w29 hw)) (own_w5 hw) (ty := (.array (.object "java/lang/Object"))) (by decide) rfl rfl rfl rfl (hb hby d2_8)) fun T3 h3 X3 e3 W3 => ?_
 have Fw3 := P1_2.same W3
 have O3 := O1.wr W3 g_o0
 have K3 : Keep h0 h3 ([o0] : List Addr) := Keep.wr K1 W3 (Or.inl (List.mem_of_getElem? (i := 0) rfl))
 have N3 := Fr.snoc X3 N1 g_o0
 have q4 := (P1_1.other W3 (Or.inr (slot_ne (Or.inl (own_w26 hw)) (Or.inl (own_w29 hw)) (by decide) (t := .int) (t' := (.array (.object "java/lang/Object"))) (by decide) (by decide))))
 have q5 := (P1_3.other W3 (Or.inr (slot_ne (Or.inl (own_w61 hw)) (Or.inl (own_w29 hw)) (by decide) (t := .int) (t' := (.array (.object "java/lang/Object"))) (by decide) (by decide))))
 exact Home.ret0 X3 hx hlk hret (hb hby d2_11) (by rw [show T3.heap = h3 from e3]; exact ⟨rfl, N3, K3, (E_o0.keep K3), q4, Fw3, q5⟩) (by decide) (by decide)
theorem rm6_0 (l : Launch) (Z : State) (a0 : Array Value) (hw : HW a0 Z) (ws : List Jvm.Cond) (sv__VALUES : Addr) (k_sv__VALUES : ClassId) (sv_MONTH sv_QUARTER : Addr) (h0 : Heap) (n0 : Nat) (O0 : Old Z n0 h0) (S__VALUES : Sta Z Z.heap "com/example/tapline/tapline/rules/ReturnPeriod" "$VALUES" "[Lcom/example/tapline/tapline/rules/ReturnPeriod;" (.ref sv__VALUES)) (V_sv__VALUES : Arv Z Z.heap sv__VALUES k_sv__VALUES (.object "com/example/tapline/tapline/rules/ReturnPeriod") (2 : Int32) [(.ref sv_MONTH), (.ref sv_QUARTER)] .null) (E_sv__VALUES : Exa Z Z.heap sv__VALUES "[Lcom/example/tapline/tapline/rules/ReturnPeriod;") :
    Con l Z (⟨"com/example/tapline/tapline/rules/ReturnPeriod", "values", "()[Lcom/example/tapline/tapline/rules/ReturnPeriod;"⟩ : MethodName) prog_74_method_1_code 0 (some (.array (.object "com/example/tapline/tapline/rules/ReturnPeriod"))) ws ({ frames := 1, cells := 1, slots := 2, locals := 14 } : Room) #[] h0 (fun v h L => ∃ (b2 : Addr), v = some (.ref b2) ∧ Fr n0 L ∧ h0.size ≤ b2 ∧ Keep h0 h [] ∧ Arv Z h b2 k_sv__VALUES (.object "com/example/tapline/tapline/rules/ReturnPeriod") (2 : Int32) [(.ref sv_MONTH), (.ref sv_QUARTER)] .null ∧ Exa Z h b2 "[Lcom/example/tapline/tapline/rules/ReturnPeriod;") := by
 refine own_body (plainFor_of_name own_pn3) (fun m => ef_rm6_0 m ) ?_
 intro p e s m below meth c s₁ hx hby hlk hml hret hZ hown hnm X0 e0
 have N0 := Fr.nil n0
 refine Home.st (getS2 X0 hx hZ hown (host := "") (Or.inl (own_w33 hw)) Via.refl e0 (S__VALUES.ext O0.2) rfl (hb hby d6_0)) fun T1 X1 e1 => ?_
 refine Home.nw (own_clone X1 hx hZ hown (own_w35 hw) (own_w36 hw) (own_w40 hw) (own_w38 hw) (own_w39 hw) (own_w41 hw) e1 (V_sv__VALUES.ext O0.2) (E_sv__VALUES.ext O0.2) (g := (mkF m 3 #[] [(.ref sv__VALUES)])) rfl (by rw [hml]; rfl) rfl (hb hby d6_3) (by decide) (W := 0) (by exact hW0) (by decide) (cap := 2) (by decide) (by decide) (by decide)) fun T2 h2 b2 g2 X2 e2 E2 V2 A2 => ?_
 have g_b2 : n0 ≤ b2 := Nat.le_trans (Old.le O0) (Nat.le_of_eq g2.symm)
 have O2 := O0.ext E2
 have K2 : Keep h0 h2 ([] : List Addr) := Keep.ext (Keep.refl h0 ([] : List Addr)) E2
 refine Home.st (castY X2 hx hZ hown (own_w45 hw) e2 (Ins.self A2) rfl rfl (hb hby d6_6)) fun T3 X3 e3 => ?_
 exact Home.retR X3 hx hlk hret rfl rfl (hb hby d6_9) (by rw [show T3.heap = h2 from e3]; exact ⟨b2, rfl, N0, (Nat.le_trans (Nat.le_refl _) (Nat.le_of_eq g2.symm)), K2, V2, A2⟩) (by decide) (by decide)
theorem rm11_0 (l : Launch) (Z : State) (a0 : Array Value) (hw : HW a0 Z) (ws : List Jvm.Cond)  (h0 : Heap) (n0 : Nat) (O0 : Old Z n0 h0) :
    Con l Z (⟨"java/lang/Math", "max", "(II)I"⟩ : MethodName) jdk_29_method_65_code 2 (some .int) ws ({ frames := 0, cells := 0, slots := 0, locals := 0 } : Room) #[(.int (10 : Int32)), (.int (1 : Int32))] h0 (Pur (some (.int (10 : Int32))) h0) := by
 refine own_body (Jvm.Free.JP.mathPlain rfl (by decide +kernel)) (fun m => ef_rm11_0 m (10 : Int32) (1 : Int32)) ?_
 intro p e s m below meth c s₁ hx hby hlk hml hret hZ hown hnm X0 e0
 have N0 := Fr.nil n0
 refine Home.run X0 hx hby sg11_0_2 (pc' := 2) (L' := #[.val (.int (10 : Int32)), .val (.int (1 : Int32))]) (S' := [(.int (1 : Int32)), (.int (10 : Int32))]) rfl ?_
 refine Home.go (fun _ => XS.icmpNo X0.here hx rfl (hb hby d11_2) rfl (flt (by decide)).1) ?_
 refine Home.run X0 hx hby sg11_5_2 (pc' := 10) (L' := #[.val (.int (10 : Int32)), .val (.int (1 : Int32))]) (S' := [(.int (10 : Int32))]) rfl ?_
 exact Home.retI X0 hx hlk hret (hb hby d11_10) ⟨rfl, rfl, e0⟩ (by decide) (by decide)
theorem rm10_0 (l : Launch) (Z : State) (a0 : Array Value) (hw : HW a0 Z) (ws : List Jvm.Cond) (o0 sv_DEFAULTCAPACITY_EMPTY_ELEMENTDATA : Addr) (kde : ClassId) (h0 : Heap) (n0 : Nat) (O0 : Old Z n0 h0) (F_elementData_o0 : Fld Z h0 o0 "java/util/ArrayList" "elementData" "[Ljava/lang/Object;" (.ref sv_DEFAULTCAPACITY_EMPTY_ELEMENTDATA)) (V_de : Arv Z Z.heap sv_DEFAULTCAPACITY_EMPTY_ELEMENTDATA kde (.object "java/lang/Object") (0 : Int32) [] .null) (S_DEFAULTCAPACITY_EMPTY_ELEMENTDATA : Sta Z Z.heap "java/util/ArrayList" "DEFAULTCAPACITY_EMPTY_ELEMENTDATA" "[Ljava/lang/Object;" (.ref sv_DEFAULTCAPACITY_EMPTY_ELEMENTDATA)) (E_o0 : Exa Z h0 o0 "java/util/ArrayList") (g_o0 : n0 ≤ o0) (F_size_o0 : Fld Z h0 o0 "java/util/ArrayList" "size" "I" (.int (0 : Int32))) (F_modCount_o0 : Fld Z h0 o0 "java/util/AbstractList" "modCount" "I" (.int (1 : Int32))) :
    Con l Z (⟨"java/util/ArrayList", "grow", "(I)[Ljava/lang/Object;"⟩ : MethodName) jdk_38_method_6_code 4 (some (.array (.object "java/lang/Object"))) ws ({ frames := 1, cells := 1, slots := 10, locals := 14 } : Room) #[(.ref o0), (.int (1 : Int32))] h0 (fun v h L => ∃ (b6 : Addr), ∃ (k6 : ClassId), v = some (.ref b6) ∧ Fr n0 L ∧ h0.size ≤ b6 ∧ Keep h0 h [o0] ∧ Fld Z h o0 "java/util/ArrayList" "elementData" "[Ljava/lang/Object;" (.ref b6) ∧ Exa Z h o0 "java/util/ArrayList" ∧ Fld Z h o0 "java/util/ArrayList" "size" "I" (.int (0 : Int32)) ∧ Fld Z h o0 "java/util/AbstractList" "modCount" "I" (.int (1 : Int32)) ∧ Arv Z h b6 k6 (.object "java/lang/Object") (10 : Int32) [.null, .null, .null, .null, .null, .null, .null, .null, .null, .null] .null ∧ Ovr Z k6 "java/lang/Object") := by
 refine own_body (plainFor_of_name own_pn2) (fun m => ef_rm10_0 m o0 (1 : Int32)) ?_
 intro p e s m below meth c s₁ hx hby hlk hml hret hZ hown hnm X0 e0
 have N0 := Fr.nil n0
 refine Home.run X0 hx hby sg10_0_1 (pc' := 1) (L' := #[.val (.ref o0), .val (.int (1 : Int32)), .unset, .unset]) (S' := [(.ref o0)]) rfl ?_
 refine Home.st (getF X0 hx hZ hown (host := "") (Or.inl (own_w28 hw)) Via.refl e0 F_elementData_o0 rfl rfl (hb hby d10_1)) fun T1 X1 e1 => ?_
 obtain ⟨cl2, Ar2, q2, S2, M2, H2, G2⟩ := id (V_de.ext O0.2)
 refine Home.go (own_alen X1 hx hZ e1 Ar2 S2 M2 rfl rfl (hb hby d10_4)) ?_
 refine Home.run X1 hx hby sg10_5_2 (pc' := 7) (L' := #[.val (.ref o0), .val (.int (1 : Int32)), .val (.int (0 : Int32)), .unset]) (S' := [(.int (0 : Int32))]) rfl ?_
 refine Home.go (fun _ => XS.ifNo X1.here hx rfl (hb hby d10_7) rfl ((if0 _ _).trans (flt (by decide)).2.2.1)) ?_
 refine Home.run X1 hx hby sg10_10_1 (pc' := 11) (L' := #[.val (.ref o0), .val (.int (1 : Int32)), .val (.int (0 : Int32)), .unset]) (S' := [(.ref o0)]) rfl ?_
 refine Home.st (getF X1 hx hZ hown (host := "") (Or.inl (own_w28 hw)) Via.refl e1 F_elementData_o0 rfl rfl (hb hby d10_11)) fun T3 X3 e3 => ?_
 show Home T3 (mkF m 14 #[.val (.ref o0), .val (.int (1 : Int32)), .val (.int (0 : Int32)), .unset] [(.ref sv_DEFAULTCAPACITY_EMPTY_ELEMENTDATA)])
 refine Home.st (getS2 X3 hx hZ hown (host := "") (Or.inl (own_w27 hw)) Via.refl e3 (S_DEFAULTCAPACITY_EMPTY_ELEMENTDATA.ext O0.2) rfl (hb hby d10_14)) fun T4 X4 e4 => ?_
 refine Home.go (fun _ => Jvm.RoadKit.acmp X4 hx rfl rfl rfl (pc0 := 17) (pc' := 45) (same := true) rfl (hb hby d10_17) rfl (decide_eq_true rfl) (by decide) (by decide)) ?_
 show Home T4 (mkF m 45 #[.val (.ref o0), .val (.int (1 : Int32)), .val (.int (0 : Int32)), .unset] [])
 refine Home.run X4 hx hby sg10_45_3 (pc' := 49) (L' := #[.val (.ref o0), .val (.int (1 : Int32)), .val (.int (0 : Int32)), .unset]) (S' := [(.int (1 : Int32)), (.int (10 : Int32)), (.ref o0)]) rfl ?_
 refine Home.st (own_pure (own_static X4 hx hZ hown (own_w77 hw) (own_w78 hw) (own_w79 hw) (own_w80 hw) (by decide) (rm11_0 l Z a0 hw []  h0 n0 O0) e4 rfl (by rw [hml]; rfl) (argsL := [(.int (10 : Int32)), (.int (1 : Int32))]) (rest := [(.ref o0)]) (lenOf own_pd2 rfl) rfl rfl (W := 1) (by exact hW0) (by decide) (by decide) (hb hby d10_49) (by decide) (by decide))) fun T5 X5 e5 => ?_
 refine Home.nr (own_newR X5 hx hZ hown (own_w81 hw) (own_w82 hw) e5 (g := (mkF m 52 #[.val (.ref o0), .val (.int (1 : Int32)), .val (.int (0 : Int32)), .unset] [(.int (10 : Int32)), (.ref o0)])) rfl (hb hby d10_52) rfl (by decide) (cap := 10) (by decide) (by decide) (by decide) (by decide)) fun T6 h6 k6 b6 g6 X6 e6 E6 A6 Ov6 => ?_
 have g_b6 : n0 ≤ b6 := Nat.le_trans (Old.le O0) (Nat.le_of_eq g6.symm)
 have V6 : Arv Z h6 b6 k6 (.object "java/lang/Object") (10 : Int32) [.null, .null, .null, .null, .null, .null, .null, .null, .null, .null] .null := (Arv.new A6 (by decide)).pad (pad_rep [] .null 10)
 have O6 := O0.ext E6
 have K6 : Keep h0 h6 ([o0] : List Addr) := Keep.ext (Keep.refl h0 ([o0] : List Addr)) E6
 refine Home.run X6 hx hby sg10_55_1 (pc' := 56) (L' := #[.val (.ref o0), .val (.int (1 : Int32)), .val (.int (0 : Int32)), .unset]) (S' := [(.ref b6), (.ref o0), (.ref b6)]) rfl ?_
 have q7 := (F_elementData_o0.ext E6)
 refine Home.wr (putF X6 hx hZ hown (host := "") (Or.inl (own_w28 hw)) Via.refl e6 q7 (E_o0.keep K6) (Or.inl (own_w29 hw)) (own_w5 hw) (ty := (.array (.object "java/lang/Object"))) (by decide) rfl rfl rfl rfl (hb hby d10_56)) fun T8 h8 X8 e8 W8 => ?_
 have Fw8 := q7.same W8
 have O8 := O6.wr W8 g_o0
 have K8 : Keep h0 h8 ([o0] : List Addr) := Keep.wr K6 W8 (Or.inl (List.mem_of_getElem? (i := 0) rfl))
 have N8 := Fr.snoc X8 N0 g_o0
 show Home T8 (mkF m 59 #[.val (.ref o0), .val (.int (1 : Int32)), .val (.int (0 : Int32)), .unset] [(.ref b6)])
 have q9 := ((F_size_o0.ext E6).other W8 (Or.inr (slot_ne (Or.inl (own_w61 hw)) (Or.inl (own_w29 hw)) (by decide) (t := .int) (t' := (.array (.object "java/lang/Object"))) (by decide) (by decide))))
 have q10 := ((F_modCount_o0.ext E6).other W8 (Or.inr (slot_ne (Or.inl (own_w26 hw)) (Or.inl (own_w29 hw)) (by decide) (t := .int) (t' := (.array (.object "java/lang/Object"))) (by decide) (by decide))))
 have ne11 : b6 ≠ o0 := (Ne.symm (Nat.ne_of_lt (Nat.lt_of_lt_of_le F_elementData_o0.lt (Nat.le_trans (Nat.le_refl _) (Nat.le_of_eq g6.symm)))))
 have q12 := (V6.other W8 ne11)
 exact Home.retR X8 hx hlk hret rfl rfl (hb hby d10_59) (by rw [show T8.heap = h8 from e8]; exact ⟨b6, k6, rfl, N8, (Nat.le_trans (Nat.le_refl _) (Nat.le_of_eq g6.symm)), K8, Fw8, (E_o0.keep K8), q9, q10, q12, Ov6⟩) (by decide) (by decide)
theorem rm9_0 (l : Launch) (Z : State) (a0 : Array Value) (hw : HW a0 Z) (ws : List Jvm.Cond) (o0 sv_DEFAULTCAPACITY_EMPTY_ELEMENTDATA : Addr) (kde : ClassId) (h0 : Heap) (n0 : Nat) (O0 : Old Z n0 h0) (F_size_o0 : Fld Z h0 o0 "java/util/ArrayList" "size" "I" (.int (0 : Int32))) (E_o0 : Exa Z h0 o0 "java/util/ArrayList") (F_elementData_o0 : Fld Z h0 o0 "java/util/ArrayList" "elementData" "[Ljava/lang/Object;" (.ref sv_DEFAULTCAPACITY_EMPTY_ELEMENTDATA)) (V_de : Arv Z Z.heap sv_DEFAULTCAPACITY_EMPTY_ELEMENTDATA kde (.object "java/lang/Object") (0 : Int32) [] .null) (S_DEFAULTCAPACITY_EMPTY_ELEMENTDATA : Sta Z Z.heap "java/util/ArrayList" "DEFAULTCAPACITY_EMPTY_ELEMENTDATA" "[Ljava/lang/Object;" (.ref sv_DEFAULTCAPACITY_EMPTY_ELEMENTDATA)) (F_modCount_o0 : Fld Z h0 o0 "java/util/AbstractList" "modCount" "I" (.int (1 : Int32))) (g_o0 : n0 ≤ o0) :
    Con l Z (⟨"java/util/ArrayList", "grow", "()[Ljava/lang/Object;"⟩ : MethodName) jdk_38_method_7_code 1 (some (.array (.object "java/lang/Object"))) ws ({ frames := 2, cells := 1, slots := 10, locals := 29 } : Room) #[(.ref o0)] h0 (fun v h L => ∃ (b6_2 : Addr), ∃ (k6_2 : ClassId), v = some (.ref b6_2) ∧ Fr n0 L ∧ h0.size ≤ b6_2 ∧ Keep h0 h [o0] ∧ Fld Z h o0 "java/util/ArrayList" "size" "I" (.int (0 : Int32)) ∧ Exa Z h o0 "java/util/ArrayList" ∧ Fld Z h o0 "java/util/ArrayList" "elementData" "[Ljava/lang/Object;" (.ref b6_2) ∧ Fld Z h o0 "java/util/AbstractList" "modCount" "I" (.int (1 : Int32)) ∧ Arv Z h b6_2 k6_2 (.object "java/lang/Object") (10 : Int32) [.null, .null, .null, .null, .null, .null, .null, .null, .null, .null] .null ∧ Ovr Z k6_2 "java/lang/Object") := by
 refine own_body (plainFor_of_name own_pn2) (fun m => ef_rm9_0 m o0) ?_
 intro p e s m below meth c s₁ hx hby hlk hml hret hZ hown hnm X0 e0
 have N0 := Fr.nil n0
 refine Home.run X0 hx hby sg9_0_2 (pc' := 2) (L' := #[.val (.ref o0)]) (S' := [(.ref o0), (.ref o0)]) rfl ?_
 refine Home.st (getF X0 hx hZ hown (host := "") (Or.inl (own_w60 hw)) Via.refl e0 F_size_o0 rfl rfl (hb hby d9_2)) fun T1 X1 e1 => ?_
 refine Home.run X1 hx hby sg9_5_2 (pc' := 7) (L' := #[.val (.ref o0)]) (S' := [(.int (1 : Int32)), (.ref o0)]) rfl ?_
 refine Home.call (own_private X1 hx hZ hown (own_w72 hw) (own_w73 hw) (own_w75 hw) (Cond.privateMethod_at (mvP hZ (own_w74 hw) (args := #[]))) (own_w6 hw) (own_w76 hw) (by decide) (rm10_0 l Z a0 hw [] o0 sv_DEFAULTCAPACITY_EMPTY_ELEMENTDATA kde h0 n0 O0 F_elementData_o0 V_de S_DEFAULTCAPACITY_EMPTY_ELEMENTDATA E_o0 g_o0 F_size_o0 F_modCount_o0) e1 E_o0 rfl (by rw [hml]; rfl) (argsL := [(.int (1 : Int32))]) (rest := []) (lenOf own_pd3 rfl) rfl rfl (W := 0) (by exact hW0) (by decide) (by decide) (hb hby d9_7) (by decide) (by decide)) ?_
 rintro _ T2 L2 X2 ⟨b6_2, k6_2, rfl, N2q, sz_b6_2, K2q, P2_0, P2_1, P2_2, P2_3, P2_4, P2_5⟩
 have g_b6_2 : n0 ≤ b6_2 := Nat.le_trans (Old.le O0) sz_b6_2
 have O2 := Old.keep O0 K2q (allS g_o0 all0)
 have K2 : Keep h0 T2.heap ([o0] : List Addr) := Keep.trans (Keep.refl h0 ([o0] : List Addr)) K2q (allS (Or.inl (List.mem_of_getElem? (i := 0) rfl)) all0)
 have N2 := Fr.app N0 N2q
 show Home T2 (mkF m 10 #[.val (.ref o0)] [(.ref b6_2)])
 exact Home.retR X2 hx hlk hret rfl rfl (hb hby d9_10) ⟨b6_2, k6_2, rfl, N2, (Nat.le_trans (Nat.le_refl _) sz_b6_2), K2, P2_2, P2_1, P2_0, P2_3, P2_4, P2_5⟩ (by decide) (by decide)
theorem rm8_0 (l : Launch) (Z : State) (a0 : Array Value) (hw : HW a0 Z) (ws : List Jvm.Cond) (o0 sv_MONTH_id sv_DEFAULTCAPACITY_EMPTY_ELEMENTDATA : Addr) (kde : ClassId) (h0 : Heap) (n0 : Nat) (O0 : Old Z n0 h0) (V_de : Arv Z Z.heap sv_DEFAULTCAPACITY_EMPTY_ELEMENTDATA kde (.object "java/lang/Object") (0 : Int32) [] .null) (E_o0 : Exa Z h0 o0 "java/util/ArrayList") (F_size_o0 : Fld Z h0 o0 "java/util/ArrayList" "size" "I" (.int (0 : Int32))) (F_elementData_o0 : Fld Z h0 o0 "java/util/ArrayList" "elementData" "[Ljava/lang/Object;" (.ref sv_DEFAULTCAPACITY_EMPTY_ELEMENTDATA)) (S_DEFAULTCAPACITY_EMPTY_ELEMENTDATA : Sta Z Z.heap "java/util/ArrayList" "DEFAULTCAPACITY_EMPTY_ELEMENTDATA" "[Ljava/lang/Object;" (.ref sv_DEFAULTCAPACITY_EMPTY_ELEMENTDATA)) (F_modCount_o0 : Fld Z h0 o0 "java/util/AbstractList" "modCount" "I" (.int (1 : Int32))) (g_o0 : n0 ≤ o0) (E_sv_MONTH_id : Exa Z Z.heap sv_MONTH_id "java/lang/String") :
    Con l Z (⟨"java/util/ArrayList", "add", "(Ljava/lang/Object;[Ljava/lang/Object;I)V"⟩ : MethodName) jdk_38_method_24_code 4 none ws ({ frames := 3, cells := 1, slots := 10, locals := 41 } : Room) #[(.ref o0), (.ref sv_MONTH_id), (.ref sv_DEFAULTCAPACITY_EMPTY_ELEMENTDATA), (.int (0 : Int32))] h0 (fun v h L => ∃ (b6_2_2 : Addr), ∃ (k6_2_2 : ClassId), v = none ∧ Fr n0 L ∧ h0.size ≤ b6_2_2 ∧ Keep h0 h [o0] ∧ Exa Z h o0 "java/util/ArrayList" ∧ Fld Z h o0 "java/util/ArrayList" "size" "I" (.int (1 : Int32)) ∧ Fld Z h o0 "java/util/ArrayList" "elementData" "[Ljava/lang/Object;" (.ref b6_2_2) ∧ Fld Z h o0 "java/util/AbstractList" "modCount" "I" (.int (1 : Int32)) ∧ Arv Z h b6_2_2 k6_2_2 (.object "java/lang/Object") (10 : Int32) [(.ref sv_MONTH_id), .null, .null, .null, .null, .null, .null, .null, .null, .null] .null ∧ Ovr Z k6_2_2 "java/lang/Object") := by
 refine own_body (plainFor_of_name own_pn2) (fun m => ef_rm8_0 m o0 sv_MONTH_id sv_DEFAULTCAPACITY_EMPTY_ELEMENTDATA (0 : Int32)) ?_
 intro p e s m below meth c s₁ hx hby hlk hml hret hZ hown hnm X0 e0
 have N0 := Fr.nil n0
 refine Home.run X0 hx hby sg8_0_2 (pc' := 2) (L' := #[.val (.ref o0), .val (.ref sv_MONTH_id), .val (.ref sv_DEFAULTCAPACITY_EMPTY_ELEMENTDATA), .val (.int (0 : Int32))]) (S' := [(.ref sv_DEFAULTCAPACITY_EMPTY_ELEMENTDATA), (.int (0 : Int32))]) rfl ?_
 obtain ⟨cl1, Ar1, q1, S1, M1, H1, G1⟩ := id (V_de.ext O0.2)
 refine Home.go (own_alen X0 hx hZ e0 Ar1 S1 M1 rfl rfl (hb hby d8_2)) ?_
 refine Home.go (fun _ => XS.icmpNo X0.here hx rfl (hb hby d8_3) rfl (teq (by decide)).2) ?_
 refine Home.run X0 hx hby sg8_6_1 (pc' := 7) (L' := #[.val (.ref o0), .val (.ref sv_MONTH_id), .val (.ref sv_DEFAULTCAPACITY_EMPTY_ELEMENTDATA), .val (.int (0 : Int32))]) (S' := [(.ref o0)]) rfl ?_
 refine Home.call (own_private X0 hx hZ hown (own_w67 hw) (own_w68 hw) (own_w70 hw) (Cond.privateMethod_at (mvP hZ (own_w69 hw) (args := #[]))) (own_w6 hw) (own_w71 hw) (by decide) (rm9_0 l Z a0 hw [] o0 sv_DEFAULTCAPACITY_EMPTY_ELEMENTDATA kde h0 n0 O0 F_size_o0 E_o0 F_elementData_o0 V_de S_DEFAULTCAPACITY_EMPTY_ELEMENTDATA F_modCount_o0 g_o0) e0 E_o0 rfl (by rw [hml]; rfl) (argsL := []) (rest := []) (lenOf own_pd4 rfl) rfl rfl (W := 0) (by exact hW0) (by decide) (by decide) (hb hby d8_7) (by decide) (by decide)) ?_
 rintro _ T2 L2 X2 ⟨b6_2_2, k6_2_2, rfl, N2q, sz_b6_2_2, K2q, P2_0, P2_1, P2_2, P2_3, P2_4, P2_5⟩
 have g_b6_2_2 : n0 ≤ b6_2_2 := Nat.le_trans (Old.le O0) sz_b6_2_2
 have O2 := Old.keep O0 K2q (allS g_o0 all0)
 have K2 : Keep h0 T2.heap ([o0] : List Addr) := Keep.trans (Keep.refl h0 ([o0] : List Addr)) K2q (allS (Or.inl (List.mem_of_getElem? (i := 0) rfl)) all0)
 have N2 := Fr.app N0 N2q
 show Home T2 (mkF m 10 #[.val (.ref o0), .val (.ref sv_MONTH_id), .val (.ref sv_DEFAULTCAPACITY_EMPTY_ELEMENTDATA), .val (.int (0 : Int32))] [(.ref b6_2_2)])
 refine Home.run X2 hx hby sg8_10_4 (pc' := 14) (L' := #[.val (.ref o0), .val (.ref sv_MONTH_id), .val (.ref b6_2_2), .val (.int (0 : Int32))]) (S' := [(.ref sv_MONTH_id), (.int (0 : Int32)), (.ref b6_2_2)]) rfl ?_
 obtain ⟨cl3, Ar3, q3, S3, M3, H3, G3⟩ := id P2_4
 refine Home.wr (stR X2 hx hZ rfl Ar3 (j := (0 : Int32)) (inb_of S3 ⟨by decide, by decide⟩) rfl (Sto.ofV Ar3 q3 P2_5 ((Ins.of_exa E_sv_MONTH_id (own_w83 hw)).ext O2.2)) rfl rfl (hb hby d8_14)) fun T3 h3 X3 e3 W3 => ?_
 have V3 : Arv Z h3 b6_2_2 k6_2_2 (.object "java/lang/Object") (10 : Int32) [(.ref sv_MONTH_id), .null, .null, .null, .null, .null, .null, .null, .null, .null] .null := Arv.set Ar3 q3 S3 M3 H3 G3 rfl W3 0 rfl (Nat.le_of_ble_eq_true rfl)
 have O3 := O2.wr W3 g_b6_2_2
 have K3 : Keep h0 h3 ([o0] : List Addr) := Keep.wr K2 W3 (Or.inr (Nat.le_trans (Nat.le_refl _) sz_b6_2_2))
 have N3 := Fr.snoc X3 N2 g_b6_2_2
 refine Home.run X3 hx hby sg8_15_4 (pc' := 19) (L' := #[.val (.ref o0), .val (.ref sv_MONTH_id), .val (.ref b6_2_2), .val (.int (0 : Int32))]) (S' := [(.int (1 : Int32)), (.ref o0)]) rfl ?_
 have ne4 : o0 ≠ b6_2_2 := (Nat.ne_of_lt (Nat.lt_of_lt_of_le E_o0.lt (Nat.le_trans (Nat.le_refl _) sz_b6_2_2)))
 have q5 := (P2_0.other W3 (Or.inl ne4))
 refine Home.wr (putF X3 hx hZ hown (host := "") (Or.inl (own_w60 hw)) Via.refl e3 q5 (E_o0.keep K3) (Or.inl (own_w61 hw)) (own_w5 hw) (ty := .int) (by decide) rfl rfl rfl rfl (hb hby d8_19)) fun T6 h6 X6 e6 W6 => ?_
 have Fw6 := q5.same W6
 have O6 := O3.wr W6 g_o0
 have K6 : Keep h0 h6 ([o0] : List Addr) := Keep.wr K3 W6 (Or.inl (List.mem_of_getElem? (i := 0) rfl))
 have N6 := Fr.snoc X6 N3 g_o0
 show Home T6 (mkF m 22 #[.val (.ref o0), .val (.ref sv_MONTH_id), .val (.ref b6_2_2), .val (.int (0 : Int32))] [])
 have q7 := ((P2_2.other W3 (Or.inl ne4)).other W6 (Or.inr (slot_ne (Or.inl (own_w29 hw)) (Or.inl (own_w61 hw)) (by decide) (t := (.array (.object "java/lang/Object"))) (t' := .int) (by decide) (by decide))))
 have q8 := ((P2_3.other W3 (Or.inl ne4)).other W6 (Or.inr (slot_ne (Or.inl (own_w26 hw)) (Or.inl (own_w61 hw)) (by decide) (t := .int) (t' := .int) (by decide) (by decide))))
 have ne9 : b6_2_2 ≠ o0 := (Ne.symm ne4)
 have q10 := (V3.other W6 ne9)
 exact Home.ret0 X6 hx hlk hret (hb hby d8_22) (by rw [show T6.heap = h6 from e6]; exact ⟨b6_2_2, k6_2_2, rfl, N6, (Nat.le_trans (Nat.le_refl _) sz_b6_2_2), K6, (E_o0.keep K6), Fw6, q7, q8, q10, P2_5⟩) (by decide) (by decide)
theorem rm7_0 (l : Launch) (Z : State) (a0 : Array Value) (hw : HW a0 Z) (ws : List Jvm.Cond) (o0 sv_MONTH_id sv_DEFAULTCAPACITY_EMPTY_ELEMENTDATA : Addr) (kde : ClassId) (h0 : Heap) (n0 : Nat) (O0 : Old Z n0 h0) (F_modCount_o0 : Fld Z h0 o0 "java/util/AbstractList" "modCount" "I" (.int (0 : Int32))) (E_o0 : Exa Z h0 o0 "java/util/ArrayList") (g_o0 : n0 ≤ o0) (F_elementData_o0 : Fld Z h0 o0 "java/util/ArrayList" "elementData" "[Ljava/lang/Object;" (.ref sv_DEFAULTCAPACITY_EMPTY_ELEMENTDATA)) (F_size_o0 : Fld Z h0 o0 "java/util/ArrayList" "size" "I" (.int (0 : Int32))) (V_de : Arv Z Z.heap sv_DEFAULTCAPACITY_EMPTY_ELEMENTDATA kde (.object "java/lang/Object") (0 : Int32) [] .null) (S_DEFAULTCAPACITY_EMPTY_ELEMENTDATA : Sta Z Z.heap "java/util/ArrayList" "DEFAULTCAPACITY_EMPTY_ELEMENTDATA" "[Ljava/lang/Object;" (.ref sv_DEFAULTCAPACITY_EMPTY_ELEMENTDATA)) (E_sv_MONTH_id : Exa Z Z.heap sv_MONTH_id "java/lang/String") :
    Con l Z (⟨"java/util/ArrayList", "add", "(Ljava/lang/Object;)Z"⟩ : MethodName) jdk_38_method_25_code 2 (some .boolean) ws ({ frames := 4, cells := 1, slots := 10, locals := 56 } : Room) #[(.ref o0), (.ref sv_MONTH_id)] h0 (fun v h L => ∃ (b6_2_2_7 : Addr), ∃ (k6_2_2_7 : ClassId), v = some (.int (1 : Int32)) ∧ Fr n0 L ∧ h0.size ≤ b6_2_2_7 ∧ Keep h0 h [o0] ∧ Fld Z h o0 "java/util/AbstractList" "modCount" "I" (.int (1 : Int32)) ∧ Exa Z h o0 "java/util/ArrayList" ∧ Fld Z h o0 "java/util/ArrayList" "elementData" "[Ljava/lang/Object;" (.ref b6_2_2_7) ∧ Fld Z h o0 "java/util/ArrayList" "size" "I" (.int (1 : Int32)) ∧ Arv Z h b6_2_2_7 k6_2_2_7 (.object "java/lang/Object") (10 : Int32) [(.ref sv_MONTH_id), .null, .null, .null, .null, .null, .null, .null, .null, .null] .null ∧ Ovr Z k6_2_2_7 "java/lang/Object") := by
 refine own_body (plainFor_of_name own_pn2) (fun m => ef_rm7_0 m o0 sv_MONTH_id) ?_
 intro p e s m below meth c s₁ hx hby hlk hml hret hZ hown hnm X0 e0
 have N0 := Fr.nil n0
 refine Home.run X0 hx hby sg7_0_2 (pc' := 2) (L' := #[.val (.ref o0), .val (.ref sv_MONTH_id)]) (S' := [(.ref o0), (.ref o0)]) rfl ?_
 refine Home.st (getF X0 hx hZ hown (host := "") (Or.inl (own_w58 hw)) (Via.of (own_w59 hw)) e0 F_modCount_o0 rfl rfl (hb hby d7_2)) fun T1 X1 e1 => ?_
 refine Home.run X1 hx hby sg7_5_2 (pc' := 7) (L' := #[.val (.ref o0), .val (.ref sv_MONTH_id)]) (S' := [(.int (1 : Int32)), (.ref o0)]) rfl ?_
 refine Home.wr (putF X1 hx hZ hown (host := "") (Or.inl (own_w58 hw)) (Via.of (own_w59 hw)) e1 F_modCount_o0 E_o0 (Or.inl (own_w26 hw)) (own_w5 hw) (ty := .int) (by decide) rfl rfl rfl rfl (hb hby d7_7)) fun T2 h2 X2 e2 W2 => ?_
 have Fw2 := F_modCount_o0.same W2
 have O2 := O0.wr W2 g_o0
 have K2 : Keep h0 h2 ([o0] : List Addr) := Keep.wr (Keep.refl h0 ([o0] : List Addr)) W2 (Or.inl (List.mem_of_getElem? (i := 0) rfl))
 have N2 := Fr.snoc X2 N0 g_o0
 show Home T2 (mkF m 10 #[.val (.ref o0), .val (.ref sv_MONTH_id)] [])
 refine Home.run X2 hx hby sg7_10_3 (pc' := 13) (L' := #[.val (.ref o0), .val (.ref sv_MONTH_id)]) (S' := [(.ref o0), (.ref sv_MONTH_id), (.ref o0)]) rfl ?_
 have q3 := (F_elementData_o0.other W2 (Or.inr (slot_ne (Or.inl (own_w29 hw)) (Or.inl (own_w26 hw)) (by decide) (t := (.array (.object "java/lang/Object"))) (t' := .int) (by decide) (by decide))))
 refine Home.st (getF X2 hx hZ hown (host := "") (Or.inl (own_w28 hw)) Via.refl e2 q3 rfl rfl (hb hby d7_13)) fun T4 X4 e4 => ?_
 refine Home.run X4 hx hby sg7_16_1 (pc' := 17) (L' := #[.val (.ref o0), .val (.ref sv_MONTH_id)]) (S' := [(.ref o0), (.ref sv_DEFAULTCAPACITY_EMPTY_ELEMENTDATA), (.ref sv_MONTH_id), (.ref o0)]) rfl ?_
 have q5 := (F_size_o0.other W2 (Or.inr (slot_ne (Or.inl (own_w61 hw)) (Or.inl (own_w26 hw)) (by decide) (t := .int) (t' := .int) (by decide) (by decide))))
 refine Home.st (getF X4 hx hZ hown (host := "") (Or.inl (own_w60 hw)) Via.refl e4 q5 rfl rfl (hb hby d7_17)) fun T6 X6 e6 => ?_
 refine Home.call (own_private X6 hx hZ hown (own_w62 hw) (own_w63 hw) (own_w65 hw) (Cond.privateMethod_at (mvP hZ (own_w64 hw) (args := #[]))) (own_w6 hw) (own_w66 hw) (by decide) (rm8_0 l Z a0 hw [] o0 sv_MONTH_id sv_DEFAULTCAPACITY_EMPTY_ELEMENTDATA kde h2 n0 O2 V_de (E_o0.keep K2) q5 q3 S_DEFAULTCAPACITY_EMPTY_ELEMENTDATA Fw2 g_o0 E_sv_MONTH_id) e6 (E_o0.keep K2) rfl (by rw [hml]; rfl) (argsL := [(.ref sv_MONTH_id), (.ref sv_DEFAULTCAPACITY_EMPTY_ELEMENTDATA), (.int (0 : Int32))]) (rest := []) (lenOf own_pd5 rfl) rfl rfl (W := 0) (by exact hW0) (by decide) (by decide) (hb hby d7_20) (by decide) (by decide)) ?_
 rintro _ T7 L7 X7 ⟨b6_2_2_7, k6_2_2_7, rfl, N7q, sz_b6_2_2_7, K7q, P7_0, P7_1, P7_2, P7_3, P7_4, P7_5⟩
 have g_b6_2_2_7 : n0 ≤ b6_2_2_7 := Nat.le_trans (Old.le O2) sz_b6_2_2_7
 have O7 := Old.keep O2 K7q (allS g_o0 all0)
 have K7 : Keep h0 T7.heap ([o0] : List Addr) := Keep.trans K2 K7q (allS (Or.inl (List.mem_of_getElem? (i := 0) rfl)) all0)
 have N7 := Fr.app N2 N7q
 show Home T7 (mkF m 23 #[.val (.ref o0), .val (.ref sv_MONTH_id)] [])
 refine Home.run X7 hx hby sg7_23_1 (pc' := 24) (L' := #[.val (.ref o0), .val (.ref sv_MONTH_id)]) (S' := [(.int (1 : Int32))]) rfl ?_
 exact Home.retN X7 hx hlk (t := .boolean) hret (by simp) (hb hby d7_24) ⟨b6_2_2_7, k6_2_2_7, rfl, N7, (Nat.le_trans (Nat.le_of_eq W2.size.symm) sz_b6_2_2_7), K7, P7_3, P7_0, P7_2, P7_1, P7_4, P7_5⟩ (by decide) (by decide)
theorem rm8_1 (l : Launch) (Z : State) (a0 : Array Value) (hw : HW a0 Z) (ws : List Jvm.Cond) (o0 o2 sv_QUARTER_id : Addr) (k_o2 : ClassId) (sv_MONTH_id : Addr) (h0 : Heap) (n0 : Nat) (O0 : Old Z n0 h0) (V_o2 : Arv Z h0 o2 k_o2 (.object "java/lang/Object") (10 : Int32) [(.ref sv_MONTH_id), .null, .null, .null, .null, .null, .null, .null, .null, .null] .null) (O_o2 : Ovr Z k_o2 "java/lang/Object") (E_sv_QUARTER_id : Exa Z Z.heap sv_QUARTER_id "java/lang/String") (g_o2 : n0 ≤ o2) (E_o0 : Exa Z h0 o0 "java/util/ArrayList") (F_size_o0 : Fld Z h0 o0 "java/util/ArrayList" "size" "I" (.int (1 : Int32))) (g_o0 : n0 ≤ o0) (F_modCount_o0 : Fld Z h0 o0 "java/util/AbstractList" "modCount" "I" (.int (2 : Int32))) (F_elementData_o0 : Fld Z h0 o0 "java/util/ArrayList" "elementData" "[Ljava/lang/Object;" (.ref o2)) :
    Con l Z (⟨"java/util/ArrayList", "add", "(Ljava/lang/Object;[Ljava/lang/Object;I)V"⟩ : MethodName) jdk_38_method_24_code 4 none ws ({ frames := 0, cells := 0, slots := 0, locals := 0 } : Room) #[(.ref o0), (.ref sv_QUARTER_id), (.ref o2), (.int (1 : Int32))] h0 (fun v h L => v = none ∧ Fr n0 L ∧ Keep h0 h [o2, o0] ∧ Arv Z h o2 k_o2 (.object "java/lang/Object") (10 : Int32) [(.ref sv_MONTH_id), (.ref sv_QUARTER_id), .null, .null, .null, .null, .null, .null, .null, .null] .null ∧ Exa Z h o0 "java/util/ArrayList" ∧ Fld Z h o0 "java/util/ArrayList" "size" "I" (.int (2 : Int32)) ∧ Fld Z h o0 "java/util/AbstractList" "modCount" "I" (.int (2 : Int32)) ∧ Fld Z h o0 "java/util/ArrayList" "elementData" "[Ljava/lang/Object;" (.ref o2)) := by
 refine own_body (plainFor_of_name own_pn2) (fun m => ef_rm8_1 m o0 sv_QUARTER_id o2 (1 : Int32)) ?_
 intro p e s m below meth c s₁ hx hby hlk hml hret hZ hown hnm X0 e0
 have N0 := Fr.nil n0
 refine Home.run X0 hx hby sg8_0_2 (pc' := 2) (L' := #[.val (.ref o0), .val (.ref sv_QUARTER_id), .val (.ref o2), .val (.int (1 : Int32))]) (S' := [(.ref o2), (.int (1 : Int32))]) rfl ?_
 obtain ⟨cl1, Ar1, q1, S1, M1, H1, G1⟩ := id V_o2
 refine Home.go (own_alen X0 hx hZ e0 Ar1 S1 M1 rfl rfl (hb hby d8_2)) ?_
 refine Home.go (fun _ => XS.icmpYes X0.here hx rfl (pc0 := 3) (pc' := 11) rfl (hb hby d8_3) rfl (feq (by decide)).2 (by decide) (by decide)) ?_
 refine Home.run X0 hx hby sg8_11_3 (pc' := 14) (L' := #[.val (.ref o0), .val (.ref sv_QUARTER_id), .val (.ref o2), .val (.int (1 : Int32))]) (S' := [(.ref sv_QUARTER_id), (.int (1 : Int32)), (.ref o2)]) rfl ?_
 obtain ⟨cl2, Ar2, q2, S2, M2, H2, G2⟩ := id V_o2
 refine Home.wr (stR X0 hx hZ e0 Ar2 (j := (1 : Int32)) (inb_of S2 ⟨by decide, by decide⟩) rfl (Sto.ofV Ar2 q2 O_o2 ((Ins.of_exa E_sv_QUARTER_id (own_w83 hw)).ext O0.2)) rfl rfl (hb hby d8_14)) fun T2 h2 X2 e2 W2 => ?_
 have V2 : Arv Z h2 o2 k_o2 (.object "java/lang/Object") (10 : Int32) [(.ref sv_MONTH_id), (.ref sv_QUARTER_id), .null, .null, .null, .null, .null, .null, .null, .null] .null := Arv.set Ar2 q2 S2 M2 H2 G2 rfl W2 1 rfl (Nat.le_of_ble_eq_true rfl)
 have O2 := O0.wr W2 g_o2
 have K2 : Keep h0 h2 ([o2, o0] : List Addr) := Keep.wr (Keep.refl h0 ([o2, o0] : List Addr)) W2 (Or.inl (List.mem_of_getElem? (i := 0) rfl))
 have N2 := Fr.snoc X2 N0 g_o2
 show Home T2 (mkF m 15 #[.val (.ref o0), .val (.ref sv_QUARTER_id), .val (.ref o2), .val (.int (1 : Int32))] [])
 refine Home.run X2 hx hby sg8_15_4 (pc' := 19) (L' := #[.val (.ref o0), .val (.ref sv_QUARTER_id), .val (.ref o2), .val (.int (1 : Int32))]) (S' := [(.int (2 : Int32)), (.ref o0)]) rfl ?_
 have ne3 : o0 ≠ o2 := (own_neAV (E_o0.wr W2) (own_w5 hw) V2)
 have q4 := (F_size_o0.other W2 (Or.inl ne3))
 refine Home.wr (putF X2 hx hZ hown (host := "") (Or.inl (own_w60 hw)) Via.refl e2 q4 (E_o0.keep K2) (Or.inl (own_w61 hw)) (own_w5 hw) (ty := .int) (by decide) rfl rfl rfl rfl (hb hby d8_19)) fun T5 h5 X5 e5 W5 => ?_
 have Fw5 := q4.same W5
 have O5 := O2.wr W5 g_o0
 have K5 : Keep h0 h5 ([o2, o0] : List Addr) := Keep.wr K2 W5 (Or.inl (List.mem_of_getElem? (i := 1) rfl))
 have N5 := Fr.snoc X5 N2 g_o0
 show Home T5 (mkF m 22 #[.val (.ref o0), .val (.ref sv_QUARTER_id), .val (.ref o2), .val (.int (1 : Int32))] [])
 have ne6 : o2 ≠ o0 := (Ne.symm ne3)
 have q7 := (V2.other W5 ne6)
 have q8 := ((F_modCount_o0.other W2 (Or.inl ne3)).other W5 (Or.inr (slot_ne (Or.inl (own_w26 hw)) (Or.inl (own_w61 hw)) (by decide) (t := .int) (t' := .int) (by decide) (by decide))))
 have q9 := ((F_elementData_o0.other W2 (Or.inl ne3)).other W5 (Or.inr (slot_ne (Or.inl (own_w29 hw)) (Or.inl (own_w61 hw)) (by decide) (t := (.array (.object "java/lang/Object"))) (t' := .int) (by decide) (by decide))))
 exact Home.ret0 X5 hx hlk hret (hb hby d8_22) (by rw [show T5.heap = h5 from e5]; exact ⟨rfl, N5, K5, q7, (E_o0.keep K5), Fw5, q8, q9⟩) (by decide) (by decide)
theorem rm7_1 (l : Launch) (Z : State) (a0 : Array Value) (hw : HW a0 Z) (ws : List Jvm.Cond) (o0 sv_QUARTER_id p3 : Addr) (k_p3 : ClassId) (sv_MONTH_id : Addr) (h0 : Heap) (n0 : Nat) (O0 : Old Z n0 h0) (F_modCount_o0 : Fld Z h0 o0 "java/util/AbstractList" "modCount" "I" (.int (1 : Int32))) (E_o0 : Exa Z h0 o0 "java/util/ArrayList") (g_o0 : n0 ≤ o0) (F_elementData_o0 : Fld Z h0 o0 "java/util/ArrayList" "elementData" "[Ljava/lang/Object;" (.ref p3)) (F_size_o0 : Fld Z h0 o0 "java/util/ArrayList" "size" "I" (.int (1 : Int32))) (V_p3 : Arv Z h0 p3 k_p3 (.object "java/lang/Object") (10 : Int32) [(.ref sv_MONTH_id), .null, .null, .null, .null, .null, .null, .null, .null, .null] .null) (O_p3 : Ovr Z k_p3 "java/lang/Object") (E_sv_QUARTER_id : Exa Z Z.heap sv_QUARTER_id "java/lang/String") (g_p3 : n0 ≤ p3) :
    Con l Z (⟨"java/util/ArrayList", "add", "(Ljava/lang/Object;)Z"⟩ : MethodName) jdk_38_method_25_code 2 (some .boolean) ws ({ frames := 1, cells := 0, slots := 0, locals := 15 } : Room) #[(.ref o0), (.ref sv_QUARTER_id)] h0 (fun v h L => v = some (.int (1 : Int32)) ∧ Fr n0 L ∧ Keep h0 h [o0, p3] ∧ Fld Z h o0 "java/util/AbstractList" "modCount" "I" (.int (2 : Int32)) ∧ Exa Z h o0 "java/util/ArrayList" ∧ Fld Z h o0 "java/util/ArrayList" "elementData" "[Ljava/lang/Object;" (.ref p3) ∧ Fld Z h o0 "java/util/ArrayList" "size" "I" (.int (2 : Int32)) ∧ Arv Z h p3 k_p3 (.object "java/lang/Object") (10 : Int32) [(.ref sv_MONTH_id), (.ref sv_QUARTER_id), .null, .null, .null, .null, .null, .null, .null, .null] .null) := by
 refine own_body (plainFor_of_name own_pn2) (fun m => ef_rm7_1 m o0 sv_QUARTER_id) ?_
 intro p e s m below meth c s₁ hx hby hlk hml hret hZ hown hnm X0 e0
 have N0 := Fr.nil n0
 refine Home.run X0 hx hby sg7_0_2 (pc' := 2) (L' := #[.val (.ref o0), .val (.ref sv_QUARTER_id)]) (S' := [(.ref o0), (.ref o0)]) rfl ?_
 refine Home.st (getF X0 hx hZ hown (host := "") (Or.inl (own_w58 hw)) (Via.of (own_w59 hw)) e0 F_modCount_o0 rfl rfl (hb hby d7_2)) fun T1 X1 e1 => ?_
 refine Home.run X1 hx hby sg7_5_2 (pc' := 7) (L' := #[.val (.ref o0), .val (.ref sv_QUARTER_id)]) (S' := [(.int (2 : Int32)), (.ref o0)]) rfl ?_
 refine Home.wr (putF X1 hx hZ hown (host := "") (Or.inl (own_w58 hw)) (Via.of (own_w59 hw)) e1 F_modCount_o0 E_o0 (Or.inl (own_w26 hw)) (own_w5 hw) (ty := .int) (by decide) rfl rfl rfl rfl (hb hby d7_7)) fun T2 h2 X2 e2 W2 => ?_
 have Fw2 := F_modCount_o0.same W2
 have O2 := O0.wr W2 g_o0
 have K2 : Keep h0 h2 ([o0, p3] : List Addr) := Keep.wr (Keep.refl h0 ([o0, p3] : List Addr)) W2 (Or.inl (List.mem_of_getElem? (i := 0) rfl))
 have N2 := Fr.snoc X2 N0 g_o0
 show Home T2 (mkF m 10 #[.val (.ref o0), .val (.ref sv_QUARTER_id)] [])
 refine Home.run X2 hx hby sg7_10_3 (pc' := 13) (L' := #[.val (.ref o0), .val (.ref sv_QUARTER_id)]) (S' := [(.ref o0), (.ref sv_QUARTER_id), (.ref o0)]) rfl ?_
 have q3 := (F_elementData_o0.other W2 (Or.inr (slot_ne (Or.inl (own_w29 hw)) (Or.inl (own_w26 hw)) (by decide) (t := (.array (.object "java/lang/Object"))) (t' := .int) (by decide) (by decide))))
 refine Home.st (getF X2 hx hZ hown (host := "") (Or.inl (own_w28 hw)) Via.refl e2 q3 rfl rfl (hb hby d7_13)) fun T4 X4 e4 => ?_
 refine Home.run X4 hx hby sg7_16_1 (pc' := 17) (L' := #[.val (.ref o0), .val (.ref sv_QUARTER_id)]) (S' := [(.ref o0), (.ref p3), (.ref sv_QUARTER_id), (.ref o0)]) rfl ?_
 have q5 := (F_size_o0.other W2 (Or.inr (slot_ne (Or.inl (own_w61 hw)) (Or.inl (own_w26 hw)) (by decide) (t := .int) (t' := .int) (by decide) (by decide))))
 refine Home.st (getF X4 hx hZ hown (host := "") (Or.inl (own_w60 hw)) Via.refl e4 q5 rfl rfl (hb hby d7_17)) fun T6 X6 e6 => ?_
 have ne7 : p3 ≠ o0 := (Ne.symm (own_neAV E_o0 (own_w5 hw) V_p3))
 have q8 := (V_p3.other W2 ne7)
 refine Home.call (own_private X6 hx hZ hown (own_w62 hw) (own_w63 hw) (own_w65 hw) (Cond.privateMethod_at (mvP hZ (own_w64 hw) (args := #[]))) (own_w6 hw) (own_w66 hw) (by decide) (rm8_1 l Z a0 hw [] o0 p3 sv_QUARTER_id k_p3 sv_MONTH_id h2 n0 O2 q8 O_p3 E_sv_QUARTER_id g_p3 (E_o0.keep K2) q5 g_o0 Fw2 q3) e6 (E_o0.keep K2) rfl (by rw [hml]; rfl) (argsL := [(.ref sv_QUARTER_id), (.ref p3), (.int (1 : Int32))]) (rest := []) (lenOf own_pd5 rfl) rfl rfl (W := 0) (by exact hW0) (by decide) (by decide) (hb hby d7_20) (by decide) (by decide)) ?_
 rintro _ T9 L9 X9 ⟨rfl, N9q, K9q, P9_0, P9_1, P9_2, P9_3, P9_4⟩
 have O9 := Old.keep O2 K9q (allS g_p3 (allS g_o0 all0))
 have K9 : Keep h0 T9.heap ([o0, p3] : List Addr) := Keep.trans K2 K9q (allS (Or.inl (List.mem_of_getElem? (i := 1) rfl)) (allS (Or.inl (List.mem_of_getElem? (i := 0) rfl)) all0))
 have N9 := Fr.app N2 N9q
 show Home T9 (mkF m 23 #[.val (.ref o0), .val (.ref sv_QUARTER_id)] [])
 refine Home.run X9 hx hby sg7_23_1 (pc' := 24) (L' := #[.val (.ref o0), .val (.ref sv_QUARTER_id)]) (S' := [(.int (1 : Int32))]) rfl ?_
 exact Home.retN X9 hx hlk (t := .boolean) hret (by simp) (hb hby d7_24) ⟨rfl, N9, K9, P9_3, P9_1, P9_4, P9_2, P9_0⟩ (by decide) (by decide)
theorem rm1_0 (l : Launch) (Z : State) (a0 : Array Value) (hw : HW a0 Z) (ws : List Jvm.Cond) (sv_DEFAULTCAPACITY_EMPTY_ELEMENTDATA sv__VALUES : Addr) (k_sv__VALUES : ClassId) (sv_MONTH sv_QUARTER sv_MONTH_id : Addr) (kde : ClassId) (sv_QUARTER_id : Addr) (h0 : Heap) (n0 : Nat) (O0 : Old Z n0 h0) (S_DEFAULTCAPACITY_EMPTY_ELEMENTDATA : Sta Z Z.heap "java/util/ArrayList" "DEFAULTCAPACITY_EMPTY_ELEMENTDATA" "[Ljava/lang/Object;" (.ref sv_DEFAULTCAPACITY_EMPTY_ELEMENTDATA)) (S__VALUES : Sta Z Z.heap "com/example/tapline/tapline/rules/ReturnPeriod" "$VALUES" "[Lcom/example/tapline/tapline/rules/ReturnPeriod;" (.ref sv__VALUES)) (V_sv__VALUES : Arv Z Z.heap sv__VALUES k_sv__VALUES (.object "com/example/tapline/tapline/rules/ReturnPeriod") (2 : Int32) [(.ref sv_MONTH), (.ref sv_QUARTER)] .null) (E_sv__VALUES : Exa Z Z.heap sv__VALUES "[Lcom/example/tapline/tapline/rules/ReturnPeriod;") (F_id_sv_MONTH : Fld Z Z.heap sv_MONTH "com/example/tapline/tapline/rules/ReturnPeriod" "id" "Ljava/lang/String;" (.ref sv_MONTH_id)) (V_de : Arv Z Z.heap sv_DEFAULTCAPACITY_EMPTY_ELEMENTDATA kde (.object "java/lang/Object") (0 : Int32) [] .null) (E_sv_MONTH_id : Exa Z Z.heap sv_MONTH_id "java/lang/String") (F_id_sv_QUARTER : Fld Z Z.heap sv_QUARTER "com/example/tapline/tapline/rules/ReturnPeriod" "id" "Ljava/lang/String;" (.ref sv_QUARTER_id)) (E_sv_QUARTER_id : Exa Z Z.heap sv_QUARTER_id "java/lang/String") :
    Con l Z (⟨"com/example/tapline/tapline/rules/ReturnPeriod", "ids", "()Ljava/util/List;"⟩ : MethodName) prog_74_method_8_code 5 (some (.object "java/util/List")) ws ({ frames := 5, cells := 3, slots := 15, locals := 69 } : Room) #[] h0 (fun v h L => ∃ (b1 : Addr), ∃ (b6_2_2_7_11 : Addr), ∃ (k6_2_2_7_11 : ClassId), v = some (.ref b1) ∧ Fr n0 L ∧ h0.size ≤ b1 ∧ h0.size ≤ b6_2_2_7_11 ∧ Keep h0 h [] ∧ Exa Z h b1 "java/util/ArrayList" ∧ Fld Z h b1 "java/util/AbstractList" "modCount" "I" (.int (2 : Int32)) ∧ Fld Z h b1 "java/util/ArrayList" "elementData" "[Ljava/lang/Object;" (.ref b6_2_2_7_11) ∧ Fld Z h b1 "java/util/ArrayList" "size" "I" (.int (2 : Int32)) ∧ Arv Z h b6_2_2_7_11 k6_2_2_7_11 (.object "java/lang/Object") (10 : Int32) [(.ref sv_MONTH_id), (.ref sv_QUARTER_id), .null, .null, .null, .null, .null, .null, .null, .null] .null ∧ Ovr Z k6_2_2_7_11 "java/lang/Object") := by
 refine own_body (plainFor_of_name own_pn3) (fun m => ef_rm1_0 m ) ?_
 intro p e s m below meth c s₁ hx hby hlk hml hret hZ hown hnm X0 e0
 have N0 := Fr.nil n0
 refine Home.nw (own_newO X0 hx hZ hown (own_w4 hw) (own_w5 hw) (own_w6 hw) e0 rfl (hb hby d1_0) (by decide) (by decide)) fun T1 h1 b1 g1 X1 e1 E1 A1 D1 => ?_
 have g_b1 : n0 ≤ b1 := Nat.le_trans (Old.le O0) (Nat.le_of_eq g1.symm)
 have F_modCount_b1 : Fld Z h1 b1 "java/util/AbstractList" "modCount" "I" (.int (0 : Int32)) := D1 (Or.inl (own_w26 hw)) (ty := .int) (by decide)
 have F_elementData_b1 : Fld Z h1 b1 "java/util/ArrayList" "elementData" "[Ljava/lang/Object;" .null := D1 (Or.inl (own_w29 hw)) (ty := (.array (.object "java/lang/Object"))) (by decide)
 have F_size_b1 : Fld Z h1 b1 "java/util/ArrayList" "size" "I" (.int (0 : Int32)) := D1 (Or.inl (own_w61 hw)) (ty := .int) (by decide)
 have O1 := O0.ext E1
 have K1 : Keep h0 h1 ([] : List Addr) := Keep.ext (Keep.refl h0 ([] : List Addr)) E1
 refine Home.run X1 hx hby sg1_3_1 (pc' := 4) (L' := #[.unset, .unset, .unset, .unset, .unset]) (S' := [(.ref b1), (.ref b1)]) rfl ?_
 refine Home.call (own_special X1 hx hZ hown rfl (own_w7 hw) (own_w8 hw) (own_w6 hw) (own_w9 hw) (by decide) (rm2_0 l Z a0 hw [] b1 sv_DEFAULTCAPACITY_EMPTY_ELEMENTDATA h1 n0 O1 A1 F_modCount_b1 F_elementData_b1 F_size_b1 g_b1 S_DEFAULTCAPACITY_EMPTY_ELEMENTDATA) e1 rfl (by rw [hml]; rfl) (a := b1) (argsL := []) (rest := [(.ref b1)]) (lenOf own_pd0 rfl) rfl rfl (W := 1) (by exact hW0) (by decide) (by decide) (hb hby d1_4) (by decide) (by decide)) ?_
 rintro _ T2 L2 X2 ⟨rfl, N2q, K2q, P2_0, P2_1, P2_2, P2_3⟩
 have O2 := Old.keep O1 K2q (allS g_b1 all0)
 have K2 : Keep h0 T2.heap ([] : List Addr) := Keep.trans K1 K2q (allS (Or.inr (Nat.le_trans (Nat.le_refl _) (Nat.le_of_eq g1.symm))) all0)
 have N2 := Fr.app N0 N2q
 show Home T2 (mkF m 7 #[.unset, .unset, .unset, .unset, .unset] [(.ref b1)])
 refine Home.run X2 hx hby sg1_7_1 (pc' := 8) (L' := #[.val (.ref b1), .unset, .unset, .unset, .unset]) (S' := []) rfl ?_
 refine Home.call (own_static X2 hx hZ hown (own_w30 hw) (own_w31 hw) (own_w2 hw) (own_w32 hw) (by decide) (rm6_0 l Z a0 hw [] sv__VALUES k_sv__VALUES sv_MONTH sv_QUARTER T2.heap n0 O2 S__VALUES V_sv__VALUES E_sv__VALUES) rfl rfl (by rw [hml]; rfl) (argsL := []) (rest := []) (lenOf own_pd1 rfl) rfl rfl (W := 0) (by exact hW0) (by decide) (by decide) (hb hby d1_8) (by decide) (by decide)) ?_
 rintro _ T3 L3 X3 ⟨b2_3, rfl, N3q, sz_b2_3, K3q, P3_0, P3_1⟩
 have g_b2_3 : n0 ≤ b2_3 := Nat.le_trans (Old.le O2) sz_b2_3
 have O3 := Old.keep O2 K3q all0
 have K3 : Keep h0 T3.heap ([] : List Addr) := Keep.trans K2 K3q all0
 have N3 := Fr.app N2 N3q
 refine Home.run X3 hx hby sg1_11_2 (pc' := 13) (L' := #[.val (.ref b1), .val (.ref b2_3), .unset, .unset, .unset]) (S' := [(.ref b2_3)]) rfl ?_
 obtain ⟨cl4, Ar4, q4, S4, M4, H4, G4⟩ := id P3_0
 refine Home.go (own_alen X3 hx hZ rfl Ar4 S4 M4 rfl rfl (hb hby d1_13)) ?_
 show Home T3 (mkF m 14 #[.val (.ref b1), .val (.ref b2_3), .unset, .unset, .unset] [(.int (2 : Int32))])
 refine Home.run X3 hx hby sg1_14_5 (pc' := 19) (L' := #[.val (.ref b1), .val (.ref b2_3), .val (.int (2 : Int32)), .val (.int (0 : Int32)), .unset]) (S' := [(.int (2 : Int32)), (.int (0 : Int32))]) rfl ?_
 refine Home.go (fun _ => XS.icmpNo X3.here hx rfl (hb hby d1_19) rfl (tlt (by decide)).2.1) ?_
 refine Home.run X3 hx hby sg1_22_2 (pc' := 24) (L' := #[.val (.ref b1), .val (.ref b2_3), .val (.int (2 : Int32)), .val (.int (0 : Int32)), .unset]) (S' := [(.int (0 : Int32)), (.ref b2_3)]) rfl ?_
 obtain ⟨cl5, Ar5, q5, S5, M5, H5, G5⟩ := id P3_0
 have ib5 : ¬ ((0 : Int32) < 0 ∨ cl5.slots.size ≤ ((0 : Int32)).toNatClampNeg) := inb_of S5 ⟨by decide, by decide⟩
 refine Home.go (X3.aaload hx (j := (0 : Int32)) (v := (.ref sv_MONTH)) Ar5.1 (State.isArrayOf_alike hZ.alike Ar5.2.1) rfl Ar5.2.2 ib5 (Has.at H5 ib5 rfl) rfl rfl (hb hby d1_24)) ?_
 refine Home.run X3 hx hby sg1_25_3 (pc' := 30) (L' := #[.val (.ref b1), .val (.ref b2_3), .val (.int (2 : Int32)), .val (.int (0 : Int32)), .val (.ref sv_MONTH)]) (S' := [(.ref sv_MONTH), (.ref b1)]) rfl ?_
 refine Home.st (getF X3 hx hZ hown (host := "") (Or.inl (own_w47 hw)) Via.refl rfl (F_id_sv_MONTH.ext O3.2) rfl rfl (hb hby d1_30)) fun T6 X6 e6 => ?_
 show Home T6 (mkF m 33 #[.val (.ref b1), .val (.ref b2_3), .val (.int (2 : Int32)), .val (.int (0 : Int32)), .val (.ref sv_MONTH)] [(.ref sv_MONTH_id), (.ref b1)])
 have q7 := (P2_0.keep K3q)
 have q8 := (P2_1.keep K3q nin0)
 have q9 := (P2_2.keep K3q nin0)
 have q10 := (P2_3.keep K3q nin0)
 refine Home.call (own_face X6 hx hZ hown (own_w49 hw) (own_w50 hw) (mvT hZ (own_w51 hw)) (own_w52 hw) (own_w53 hw) (own_w54 hw) (own_w55 hw) (own_w56 hw) (own_w6 hw) (own_w57 hw) (by decide) (rm7_0 l Z a0 hw [] b1 sv_MONTH_id sv_DEFAULTCAPACITY_EMPTY_ELEMENTDATA kde T3.heap n0 O3 q8 q7 g_b1 q9 q10 V_de S_DEFAULTCAPACITY_EMPTY_ELEMENTDATA E_sv_MONTH_id) e6 q7 rfl (by rw [hml]; rfl) (argsL := [(.ref sv_MONTH_id)]) (rest := []) (lenOf own_pd6 rfl) rfl rfl (W := 0) (by exact hW0) (by decide) (by decide) (hb hby d1_33) (by decide) (by decide)) ?_
 rintro _ T11 L11 X11 ⟨b6_2_2_7_11, k6_2_2_7_11, rfl, N11q, sz_b6_2_2_7_11, K11q, P11_0, P11_1, P11_2, P11_3, P11_4, P11_5⟩
 have g_b6_2_2_7_11 : n0 ≤ b6_2_2_7_11 := Nat.le_trans (Old.le O3) sz_b6_2_2_7_11
 have O11 := Old.keep O3 K11q (allS g_b1 all0)
 have K11 : Keep h0 T11.heap ([] : List Addr) := Keep.trans K3 K11q (allS (Or.inr (Nat.le_trans (Nat.le_refl _) (Nat.le_of_eq g1.symm))) all0)
 have N11 := Fr.app N3 N11q
 show Home T11 (mkF m 38 #[.val (.ref b1), .val (.ref b2_3), .val (.int (2 : Int32)), .val (.int (0 : Int32)), .val (.ref sv_MONTH)] [(.int (1 : Int32))])
 refine Home.run X11 hx hby sg1_38_5 (pc' := 19) (L' := #[.val (.ref b1), .val (.ref b2_3), .val (.int (2 : Int32)), .val (.int (1 : Int32)), .val (.ref sv_MONTH)]) (S' := [(.int (2 : Int32)), (.int (1 : Int32))]) rfl ?_
 refine Home.go (fun _ => XS.icmpNo X11.here hx rfl (hb hby d1_19) rfl (tlt (by decide)).2.1) ?_
 refine Home.run X11 hx hby sg1_22_2 (pc' := 24) (L' := #[.val (.ref b1), .val (.ref b2_3), .val (.int (2 : Int32)), .val (.int (1 : Int32)), .val (.ref sv_MONTH)]) (S' := [(.int (1 : Int32)), (.ref b2_3)]) rfl ?_
 have ne12 : b2_3 ≠ b1 := (Ne.symm (Nat.ne_of_lt (Nat.lt_of_lt_of_le A1.lt (Nat.le_trans K2q.1 sz_b2_3))))
 have q13 := (P3_0.keep K11q (ninS ne12 nin0))
 obtain ⟨cl14, Ar14, q14, S14, M14, H14, G14⟩ := id q13
 have ib14 : ¬ ((1 : Int32) < 0 ∨ cl14.slots.size ≤ ((1 : Int32)).toNatClampNeg) := inb_of S14 ⟨by decide, by decide⟩
 refine Home.go (X11.aaload hx (j := (1 : Int32)) (v := (.ref sv_QUARTER)) Ar14.1 (State.isArrayOf_alike hZ.alike Ar14.2.1) rfl Ar14.2.2 ib14 (Has.at H14 ib14 rfl) rfl rfl (hb hby d1_24)) ?_
 show Home T11 (mkF m 25 #[.val (.ref b1), .val (.ref b2_3), .val (.int (2 : Int32)), .val (.int (1 : Int32)), .val (.ref sv_MONTH)] [(.ref sv_QUARTER)])
 refine Home.run X11 hx hby sg1_25_3 (pc' := 30) (L' := #[.val (.ref b1), .val (.ref b2_3), .val (.int (2 : Int32)), .val (.int (1 : Int32)), .val (.ref sv_QUARTER)]) (S' := [(.ref sv_QUARTER), (.ref b1)]) rfl ?_
 refine Home.st (getF X11 hx hZ hown (host := "") (Or.inl (own_w47 hw)) Via.refl rfl (F_id_sv_QUARTER.ext O11.2) rfl rfl (hb hby d1_30)) fun T15 X15 e15 => ?_
 refine Home.call (own_face X15 hx hZ hown (own_w49 hw) (own_w50 hw) (mvT hZ (own_w51 hw)) (own_w52 hw) (own_w53 hw) (own_w54 hw) (own_w55 hw) (own_w56 hw) (own_w6 hw) (own_w57 hw) (by decide) (rm7_1 l Z a0 hw [] b1 sv_QUARTER_id b6_2_2_7_11 k6_2_2_7_11 sv_MONTH_id T11.heap n0 O11 P11_0 P11_1 g_b1 P11_2 P11_3 P11_4 P11_5 E_sv_QUARTER_id g_b6_2_2_7_11) e15 P11_1 rfl (by rw [hml]; rfl) (argsL := [(.ref sv_QUARTER_id)]) (rest := []) (lenOf own_pd6 rfl) rfl rfl (W := 0) (by exact hW0) (by decide) (by decide) (hb hby d1_33) (by decide) (by decide)) ?_
 rintro _ T16 L16 X16 ⟨rfl, N16q, K16q, P16_0, P16_1, P16_2, P16_3, P16_4⟩
 have le17 : h0.size ≤ T2.heap.size := Nat.le_trans E1.1 K2q.1
 have le18 : h0.size ≤ T3.heap.size := Nat.le_trans le17 K3q.1
 have O16 := Old.keep O11 K16q (allS g_b1 (allS g_b6_2_2_7_11 all0))
 have K16 : Keep h0 T16.heap ([] : List Addr) := Keep.trans K11 K16q (allS (Or.inr (Nat.le_trans (Nat.le_refl _) (Nat.le_of_eq g1.symm))) (allS (Or.inr (Nat.le_trans le18 sz_b6_2_2_7_11)) all0))
 have N16 := Fr.app N11 N16q
 show Home T16 (mkF m 38 #[.val (.ref b1), .val (.ref b2_3), .val (.int (2 : Int32)), .val (.int (1 : Int32)), .val (.ref sv_QUARTER)] [(.int (1 : Int32))])
 refine Home.run X16 hx hby sg1_38_5 (pc' := 19) (L' := #[.val (.ref b1), .val (.ref b2_3), .val (.int (2 : Int32)), .val (.int (2 : Int32)), .val (.ref sv_QUARTER)]) (S' := [(.int (2 : Int32)), (.int (2 : Int32))]) rfl ?_
 refine Home.go (fun _ => XS.icmpYes X16.here hx rfl (pc0 := 19) (pc' := 45) rfl (hb hby d1_19) rfl (flt (by decide)).2.1 (by decide) (by decide)) ?_
 refine Home.run X16 hx hby sg1_45_1 (pc' := 46) (L' := #[.val (.ref b1), .val (.ref b2_3), .val (.int (2 : Int32)), .val (.int (2 : Int32)), .val (.ref sv_QUARTER)]) (S' := [(.ref b1)]) rfl ?_
 exact Home.retR X16 hx hlk hret rfl rfl (hb hby d1_46) ⟨b1, b6_2_2_7_11, k6_2_2_7_11, rfl, N16, (Nat.le_trans (Nat.le_refl _) (Nat.le_of_eq g1.symm)), (Nat.le_trans le18 sz_b6_2_2_7_11), K16, P16_1, P16_0, P16_2, P16_3, P16_4, P11_5⟩ (by decide) (by decide)
theorem rm12_0 (l : Launch) (Z : State) (a0 : Array Value) (hw : HW a0 Z) (ws : List Jvm.Cond) (o0 : Addr) (h0 : Heap) (n0 : Nat) (O0 : Old Z n0 h0) (F_size_o0 : Fld Z h0 o0 "java/util/ArrayList" "size" "I" (.int (2 : Int32))) :
    Con l Z (⟨"java/util/ArrayList", "size", "()I"⟩ : MethodName) jdk_38_method_8_code 1 (some .int) ws ({ frames := 0, cells := 0, slots := 0, locals := 0 } : Room) #[(.ref o0)] h0 (Pur (some (.int (2 : Int32))) h0) := by
 refine own_body (plainFor_of_name own_pn2) (fun m => ef_rm12_0 m o0) ?_
 intro p e s m below meth c s₁ hx hby hlk hml hret hZ hown hnm X0 e0
 have N0 := Fr.nil n0
 refine Home.run X0 hx hby sg12_0_1 (pc' := 1) (L' := #[.val (.ref o0)]) (S' := [(.ref o0)]) rfl ?_
 refine Home.st (getF X0 hx hZ hown (host := "") (Or.inl (own_w60 hw)) Via.refl e0 F_size_o0 rfl rfl (hb hby d12_1)) fun T1 X1 e1 => ?_
 exact Home.retI X1 hx hlk hret (hb hby d12_4) ⟨rfl, rfl, e1⟩ (by decide) (by decide)
theorem rm15_0 (l : Launch) (Z : State) (a0 : Array Value) (hw : HW a0 Z) (ws : List Jvm.Cond)  (h0 : Heap) (n0 : Nat) (O0 : Old Z n0 h0) :
    Con l Z (⟨"jdk/internal/util/Preconditions", "checkIndex", "(IILjava/util/function/BiFunction;)I"⟩ : MethodName) jdk_41_method_11_code 3 (some .int) ws ({ frames := 0, cells := 0, slots := 0, locals := 0 } : Room) #[(.int (0 : Int32)), (.int (2 : Int32)), .null] h0 (Pur (some (.int (0 : Int32))) h0) := by
 refine own_body (plainFor_of_name own_pn4) (fun m => ef_rm15_0 m (0 : Int32) (2 : Int32)) ?_
 intro p e s m below meth c s₁ hx hby hlk hml hret hZ hown hnm X0 e0
 have N0 := Fr.nil n0
 refine Home.run X0 hx hby sg15_0_1 (pc' := 1) (L' := #[.val (.int (0 : Int32)), .val (.int (2 : Int32)), .val .null]) (S' := [(.int (0 : Int32))]) rfl ?_
 refine Home.go (fun _ => XS.ifNo X0.here hx rfl (hb hby d15_1) rfl ((if0 _ _).trans (flt (by decide)).1)) ?_
 refine Home.run X0 hx hby sg15_4_2 (pc' := 6) (L' := #[.val (.int (0 : Int32)), .val (.int (2 : Int32)), .val .null]) (S' := [(.int (2 : Int32)), (.int (0 : Int32))]) rfl ?_
 refine Home.go (fun _ => XS.icmpYes X0.here hx rfl (pc0 := 6) (pc' := 16) rfl (hb hby d15_6) rfl (tlt (by decide)).1 (by decide) (by decide)) ?_
 refine Home.run X0 hx hby sg15_16_1 (pc' := 17) (L' := #[.val (.int (0 : Int32)), .val (.int (2 : Int32)), .val .null]) (S' := [(.int (0 : Int32))]) rfl ?_
 exact Home.retI X0 hx hlk hret (hb hby d15_17) ⟨rfl, rfl, e0⟩ (by decide) (by decide)
theorem rm14_0 (l : Launch) (Z : State) (a0 : Array Value) (hw : HW a0 Z) (ws : List Jvm.Cond)  (h0 : Heap) (n0 : Nat) (O0 : Old Z n0 h0) :
    Con l Z (⟨"java/util/Objects", "checkIndex", "(II)I"⟩ : MethodName) jdk_31_method_17_code 2 (some .int) ws ({ frames := 1, cells := 0, slots := 0, locals := 14 } : Room) #[(.int (0 : Int32)), (.int (2 : Int32))] h0 (Pur (some (.int (0 : Int32))) h0) := by
 refine own_body (plainFor_of_name own_pn5) (fun m => ef_rm14_0 m (0 : Int32) (2 : Int32)) ?_
 intro p e s m below meth c s₁ hx hby hlk hml hret hZ hown hnm X0 e0
 have N0 := Fr.nil n0
 refine Home.run X0 hx hby sg14_0_3 (pc' := 3) (L' := #[.val (.int (0 : Int32)), .val (.int (2 : Int32))]) (S' := [.null, (.int (2 : Int32)), (.int (0 : Int32))]) rfl ?_
 refine Home.st (own_pure (own_static X0 hx hZ hown (own_w104 hw) (own_w105 hw) (own_w106 hw) (own_w107 hw) (by decide) (rm15_0 l Z a0 hw []  h0 n0 O0) e0 rfl (by rw [hml]; rfl) (argsL := [(.int (0 : Int32)), (.int (2 : Int32)), .null]) (rest := []) (lenOf own_pd9 rfl) rfl rfl (W := 0) (by exact hW0) (by decide) (by decide) (hb hby d14_3) (by decide) (by decide))) fun T1 X1 e1 => ?_
 exact Home.retI X1 hx hlk hret (hb hby d14_6) ⟨rfl, rfl, e1⟩ (by decide) (by decide)
theorem rm16_0 (l : Launch) (Z : State) (a0 : Array Value) (hw : HW a0 Z) (ws : List Jvm.Cond) (o0 p2 : Addr) (k_p2 : ClassId) (sv_MONTH_id sv_QUARTER_id : Addr) (h0 : Heap) (n0 : Nat) (O0 : Old Z n0 h0) (F_elementData_o0 : Fld Z h0 o0 "java/util/ArrayList" "elementData" "[Ljava/lang/Object;" (.ref p2)) (V_p2 : Arv Z h0 p2 k_p2 (.object "java/lang/Object") (10 : Int32) [(.ref sv_MONTH_id), (.ref sv_QUARTER_id), .null, .null, .null, .null, .null, .null, .null, .null] .null) :
    Con l Z (⟨"java/util/ArrayList", "elementData", "(I)Ljava/lang/Object;"⟩ : MethodName) jdk_38_method_18_code 2 (some (.object "java/lang/Object")) ws ({ frames := 0, cells := 0, slots := 0, locals := 0 } : Room) #[(.ref o0), (.int (0 : Int32))] h0 (Pur (some (.ref sv_MONTH_id)) h0) := by
 refine own_body (plainFor_of_name own_pn2) (fun m => ef_rm16_0 m o0 (0 : Int32)) ?_
 intro p e s m below meth c s₁ hx hby hlk hml hret hZ hown hnm X0 e0
 have N0 := Fr.nil n0
 refine Home.run X0 hx hby sg16_0_1 (pc' := 1) (L' := #[.val (.ref o0), .val (.int (0 : Int32))]) (S' := [(.ref o0)]) rfl ?_
 refine Home.st (getF X0 hx hZ hown (host := "") (Or.inl (own_w28 hw)) Via.refl e0 F_elementData_o0 rfl rfl (hb hby d16_1)) fun T1 X1 e1 => ?_
 refine Home.run X1 hx hby sg16_4_1 (pc' := 5) (L' := #[.val (.ref o0), .val (.int (0 : Int32))]) (S' := [(.int (0 : Int32)), (.ref p2)]) rfl ?_
 obtain ⟨cl2, Ar2, q2, S2, M2, H2, G2⟩ := id V_p2
 have ib2 : ¬ ((0 : Int32) < 0 ∨ cl2.slots.size ≤ ((0 : Int32)).toNatClampNeg) := inb_of S2 ⟨by decide, by decide⟩
 refine Home.go (X1.aaload hx (j := (0 : Int32)) (v := (.ref sv_MONTH_id)) (by rw [e1]; exact Ar2.1) (State.isArrayOf_alike hZ.alike Ar2.2.1) rfl Ar2.2.2 ib2 (Has.at H2 ib2 rfl) rfl rfl (hb hby d16_5)) ?_
 exact Home.retR X1 hx hlk hret rfl rfl (hb hby d16_6) ⟨rfl, rfl, e1⟩ (by decide) (by decide)
theorem rm13_0 (l : Launch) (Z : State) (a0 : Array Value) (hw : HW a0 Z) (ws : List Jvm.Cond) (o0 p2 : Addr) (k_p2 : ClassId) (sv_MONTH_id sv_QUARTER_id : Addr) (h0 : Heap) (n0 : Nat) (O0 : Old Z n0 h0) (F_size_o0 : Fld Z h0 o0 "java/util/ArrayList" "size" "I" (.int (2 : Int32))) (E_o0 : Exa Z h0 o0 "java/util/ArrayList") (F_elementData_o0 : Fld Z h0 o0 "java/util/ArrayList" "elementData" "[Ljava/lang/Object;" (.ref p2)) (V_p2 : Arv Z h0 p2 k_p2 (.object "java/lang/Object") (10 : Int32) [(.ref sv_MONTH_id), (.ref sv_QUARTER_id), .null, .null, .null, .null, .null, .null, .null, .null] .null) :
    Con l Z (⟨"java/util/ArrayList", "get", "(I)Ljava/lang/Object;"⟩ : MethodName) jdk_38_method_20_code 2 (some (.object "java/lang/Object")) ws ({ frames := 2, cells := 0, slots := 0, locals := 27 } : Room) #[(.ref o0), (.int (0 : Int32))] h0 (Pur (some (.ref sv_MONTH_id)) h0) := by
 refine own_body (plainFor_of_name own_pn2) (fun m => ef_rm13_0 m o0 (0 : Int32)) ?_
 intro p e s m below meth c s₁ hx hby hlk hml hret hZ hown hnm X0 e0
 have N0 := Fr.nil n0
 refine Home.run X0 hx hby sg13_0_2 (pc' := 2) (L' := #[.val (.ref o0), .val (.int (0 : Int32))]) (S' := [(.ref o0), (.int (0 : Int32))]) rfl ?_
 refine Home.st (getF X0 hx hZ hown (host := "") (Or.inl (own_w60 hw)) Via.refl e0 F_size_o0 rfl rfl (hb hby d13_2)) fun T1 X1 e1 => ?_
 refine Home.st (own_pure (own_static X1 hx hZ hown (own_w100 hw) (own_w101 hw) (own_w102 hw) (own_w103 hw) (by decide) (rm14_0 l Z a0 hw []  h0 n0 O0) e1 rfl (by rw [hml]; rfl) (argsL := [(.int (0 : Int32)), (.int (2 : Int32))]) (rest := []) (lenOf own_pd2 rfl) rfl rfl (W := 0) (by exact hW0) (by decide) (by decide) (hb hby d13_5) (by decide) (by decide))) fun T2 X2 e2 => ?_
 refine Home.run X2 hx hby sg13_8_3 (pc' := 11) (L' := #[.val (.ref o0), .val (.int (0 : Int32))]) (S' := [(.int (0 : Int32)), (.ref o0)]) rfl ?_
 refine Home.st (own_pure (own_virtual X2 hx hZ hown (own_w108 hw) (own_w109 hw) (notFace_of_selects (args := #[]) (mvT hZ (own_w111 hw))) (own_w111 hw) (own_w110 hw) (own_w6 hw) (own_w112 hw) (by decide) (rm16_0 l Z a0 hw [] o0 p2 k_p2 sv_MONTH_id sv_QUARTER_id h0 n0 O0 F_elementData_o0 V_p2) e2 E_o0 rfl (by rw [hml]; rfl) (argsL := [(.int (0 : Int32))]) (rest := []) (lenOf own_pd10 rfl) rfl rfl (W := 0) (by exact hW0) (by decide) (by decide) (hb hby d13_11) (by decide) (by decide))) fun T3 X3 e3 => ?_
 exact Home.retR X3 hx hlk hret rfl rfl (hb hby d13_14) ⟨rfl, rfl, e3⟩ (by decide) (by decide)
theorem rm18_0 (l : Launch) (Z : State) (a0 : Array Value) (hw : HW a0 Z) (ws : List Jvm.Cond) (o0 sv_MONTH_id_value : Addr) (k_o0 k_sv_MONTH_id_value : ClassId) (h0 : Heap) (n0 : Nat) (O0 : Old Z n0 h0) (V_o0 : Arv Z h0 o0 k_o0 .byte (5 : Int32) [(.int (109 : Int32)), (.int (111 : Int32)), (.int (110 : Int32)), (.int (116 : Int32)), (.int (104 : Int32))] (.int (0 : Int32))) (V_sv_MONTH_id_value : Arv Z Z.heap sv_MONTH_id_value k_sv_MONTH_id_value .byte (5 : Int32) [(.int (109 : Int32)), (.int (111 : Int32)), (.int (110 : Int32)), (.int (116 : Int32)), (.int (104 : Int32))] (.int (0 : Int32))) :
    Con l Z (⟨"java/lang/StringLatin1", "equals", "([B[B)Z"⟩ : MethodName) jdk_43_method_13_code 3 (some .boolean) ws ({ frames := 0, cells := 0, slots := 0, locals := 0 } : Room) #[(.ref o0), (.ref sv_MONTH_id_value)] h0 (Pur (some (.int (1 : Int32))) h0) := by
 refine own_body (plainFor_of_name own_pn6) (fun m => ef_rm18_0 m o0 sv_MONTH_id_value) ?_
 intro p e s m below meth c s₁ hx hby hlk hml hret hZ hown hnm X0 e0
 have N0 := Fr.nil n0
 refine Home.run X0 hx hby sg18_0_1 (pc' := 1) (L' := #[.val (.ref o0), .val (.ref sv_MONTH_id_value), .unset]) (S' := [(.ref o0)]) rfl ?_
 obtain ⟨cl1, Ar1, q1, S1, M1, H1, G1⟩ := id V_o0
 refine Home.go (own_alen X0 hx hZ e0 Ar1 S1 M1 rfl rfl (hb hby d18_1)) ?_
 refine Home.run X0 hx hby sg18_2_1 (pc' := 3) (L' := #[.val (.ref o0), .val (.ref sv_MONTH_id_value), .unset]) (S' := [(.ref sv_MONTH_id_value), (.int (5 : Int32))]) rfl ?_
 obtain ⟨cl2, Ar2, q2, S2, M2, H2, G2⟩ := id (V_sv_MONTH_id_value.ext O0.2)
 refine Home.go (own_alen X0 hx hZ e0 Ar2 S2 M2 rfl rfl (hb hby d18_3)) ?_
 refine Home.go (fun _ => XS.icmpNo X0.here hx rfl (hb hby d18_4) rfl (teq (by decide)).2) ?_
 refine Home.run X0 hx hby sg18_7_4 (pc' := 11) (L' := #[.val (.ref o0), .val (.ref sv_MONTH_id_value), .val (.int (0 : Int32))]) (S' := [(.ref o0), (.int (0 : Int32))]) rfl ?_
 obtain ⟨cl3, Ar3, q3, S3, M3, H3, G3⟩ := id V_o0
 refine Home.go (own_alen X0 hx hZ e0 Ar3 S3 M3 rfl rfl (hb hby d18_11)) ?_
 show Home s₁ (mkF m 12 #[.val (.ref o0), .val (.ref sv_MONTH_id_value), .val (.int (0 : Int32))] [(.int (5 : Int32)), (.int (0 : Int32))])
 refine Home.go (fun _ => XS.icmpNo X0.here hx rfl (hb hby d18_12) rfl (tlt (by decide)).2.1) ?_
 refine Home.run X0 hx hby sg18_15_2 (pc' := 17) (L' := #[.val (.ref o0), .val (.ref sv_MONTH_id_value), .val (.int (0 : Int32))]) (S' := [(.int (0 : Int32)), (.ref o0)]) rfl ?_
 obtain ⟨cl4, Ar4, q4, S4, M4, H4, G4⟩ := id V_o0
 have ib4 : ¬ ((0 : Int32) < 0 ∨ cl4.slots.size ≤ ((0 : Int32)).toNatClampNeg) := inb_of S4 ⟨by decide, by decide⟩
 refine Home.go (X0.baloadBytes hx (j := (0 : Int32)) (v := (.int (109 : Int32))) (by rw [e0]; exact Ar4.1) (State.isArrayOf_alike hZ.alike Ar4.2.1) Ar4.2.2 ib4 (Has.at H4 ib4 rfl) rfl rfl (hb hby d18_17)) ?_
 refine Home.run X0 hx hby sg18_18_2 (pc' := 20) (L' := #[.val (.ref o0), .val (.ref sv_MONTH_id_value), .val (.int (0 : Int32))]) (S' := [(.int (0 : Int32)), (.ref sv_MONTH_id_value), (.int (109 : Int32))]) rfl ?_
 obtain ⟨cl5, Ar5, q5, S5, M5, H5, G5⟩ := id (V_sv_MONTH_id_value.ext O0.2)
 have ib5 : ¬ ((0 : Int32) < 0 ∨ cl5.slots.size ≤ ((0 : Int32)).toNatClampNeg) := inb_of S5 ⟨by decide, by decide⟩
 refine Home.go (X0.baloadBytes hx (j := (0 : Int32)) (v := (.int (109 : Int32))) (by rw [e0]; exact Ar5.1) (State.isArrayOf_alike hZ.alike Ar5.2.1) Ar5.2.2 ib5 (Has.at H5 ib5 rfl) rfl rfl (hb hby d18_20)) ?_
 show Home s₁ (mkF m 21 #[.val (.ref o0), .val (.ref sv_MONTH_id_value), .val (.int (0 : Int32))] [(.int (109 : Int32)), (.int (109 : Int32))])
 refine Home.go (fun _ => XS.icmpYes X0.here hx rfl (pc0 := 21) (pc' := 26) rfl (hb hby d18_21) rfl (teq (by decide)).1 (by decide) (by decide)) ?_
 refine Home.run X0 hx hby sg18_26_4 (pc' := 11) (L' := #[.val (.ref o0), .val (.ref sv_MONTH_id_value), .val (.int (1 : Int32))]) (S' := [(.ref o0), (.int (1 : Int32))]) rfl ?_
 obtain ⟨cl6, Ar6, q6, S6, M6, H6, G6⟩ := id V_o0
 refine Home.go (own_alen X0 hx hZ e0 Ar6 S6 M6 rfl rfl (hb hby d18_11)) ?_
 refine Home.go (fun _ => XS.icmpNo X0.here hx rfl (hb hby d18_12) rfl (tlt (by decide)).2.1) ?_
 refine Home.run X0 hx hby sg18_15_2 (pc' := 17) (L' := #[.val (.ref o0), .val (.ref sv_MONTH_id_value), .val (.int (1 : Int32))]) (S' := [(.int (1 : Int32)), (.ref o0)]) rfl ?_
 obtain ⟨cl7, Ar7, q7, S7, M7, H7, G7⟩ := id V_o0
 have ib7 : ¬ ((1 : Int32) < 0 ∨ cl7.slots.size ≤ ((1 : Int32)).toNatClampNeg) := inb_of S7 ⟨by decide, by decide⟩
 refine Home.go (X0.baloadBytes hx (j := (1 : Int32)) (v := (.int (111 : Int32))) (by rw [e0]; exact Ar7.1) (State.isArrayOf_alike hZ.alike Ar7.2.1) Ar7.2.2 ib7 (Has.at H7 ib7 rfl) rfl rfl (hb hby d18_17)) ?_
 show Home s₁ (mkF m 18 #[.val (.ref o0), .val (.ref sv_MONTH_id_value), .val (.int (1 : Int32))] [(.int (111 : Int32))])
 refine Home.run X0 hx hby sg18_18_2 (pc' := 20) (L' := #[.val (.ref o0), .val (.ref sv_MONTH_id_value), .val (.int (1 : Int32))]) (S' := [(.int (1 : Int32)), (.ref sv_MONTH_id_value), (.int (111 : Int32))]) rfl ?_
 obtain ⟨cl8, Ar8, q8, S8, M8, H8, G8⟩ := id (V_sv_MONTH_id_value.ext O0.2)
 have ib8 : ¬ ((1 : Int32) < 0 ∨ cl8.slots.size ≤ ((1 : Int32)).toNatClampNeg) := inb_of S8 ⟨by decide, by decide⟩
 refine Home.go (X0.baloadBytes hx (j := (1 : Int32)) (v := (.int (111 : Int32))) (by rw [e0]; exact Ar8.1) (State.isArrayOf_alike hZ.alike Ar8.2.1) Ar8.2.2 ib8 (Has.at H8 ib8 rfl) rfl rfl (hb hby d18_20)) ?_
 refine Home.go (fun _ => XS.icmpYes X0.here hx rfl (pc0 := 21) (pc' := 26) rfl (hb hby d18_21) rfl (teq (by decide)).1 (by decide) (by decide)) ?_
 refine Home.run X0 hx hby sg18_26_4 (pc' := 11) (L' := #[.val (.ref o0), .val (.ref sv_MONTH_id_value), .val (.int (2 : Int32))]) (S' := [(.ref o0), (.int (2 : Int32))]) rfl ?_
 obtain ⟨cl9, Ar9, q9, S9, M9, H9, G9⟩ := id V_o0
 refine Home.go (own_alen X0 hx hZ e0 Ar9 S9 M9 rfl rfl (hb hby d18_11)) ?_
 show Home s₁ (mkF m 12 #[.val (.ref o0), .val (.ref sv_MONTH_id_value), .val (.int (2 : Int32))] [(.int (5 : Int32)), (.int (2 : Int32))])
 refine Home.go (fun _ => XS.icmpNo X0.here hx rfl (hb hby d18_12) rfl (tlt (by decide)).2.1) ?_
 refine Home.run X0 hx hby sg18_15_2 (pc' := 17) (L' := #[.val (.ref o0), .val (.ref sv_MONTH_id_value), .val (.int (2 : Int32))]) (S' := [(.int (2 : Int32)), (.ref o0)]) rfl ?_
 obtain ⟨cl10, Ar10, q10, S10, M10, H10, G10⟩ := id V_o0
 have ib10 : ¬ ((2 : Int32) < 0 ∨ cl10.slots.size ≤ ((2 : Int32)).toNatClampNeg) := inb_of S10 ⟨by decide, by decide⟩
 refine Home.go (X0.baloadBytes hx (j := (2 : Int32)) (v := (.int (110 : Int32))) (by rw [e0]; exact Ar10.1) (State.isArrayOf_alike hZ.alike Ar10.2.1) Ar10.2.2 ib10 (Has.at H10 ib10 rfl) rfl rfl (hb hby d18_17)) ?_
 refine Home.run X0 hx hby sg18_18_2 (pc' := 20) (L' := #[.val (.ref o0), .val (.ref sv_MONTH_id_value), .val (.int (2 : Int32))]) (S' := [(.int (2 : Int32)), (.ref sv_MONTH_id_value), (.int (110 : Int32))]) rfl ?_
 obtain ⟨cl11, Ar11, q11, S11, M11, H11, G11⟩ := id (V_sv_MONTH_id_value.ext O0.2)
 have ib11 : ¬ ((2 : Int32) < 0 ∨ cl11.slots.size ≤ ((2 : Int32)).toNatClampNeg) := inb_of S11 ⟨by decide, by decide⟩
 refine Home.go (X0.baloadBytes hx (j := (2 : Int32)) (v := (.int (110 : Int32))) (by rw [e0]; exact Ar11.1) (State.isArrayOf_alike hZ.alike Ar11.2.1) Ar11.2.2 ib11 (Has.at H11 ib11 rfl) rfl rfl (hb hby d18_20)) ?_
 show Home s₁ (mkF m 21 #[.val (.ref o0), .val (.ref sv_MONTH_id_value), .val (.int (2 : Int32))] [(.int (110 : Int32)), (.int (110 : Int32))])
 refine Home.go (fun _ => XS.icmpYes X0.here hx rfl (pc0 := 21) (pc' := 26) rfl (hb hby d18_21) rfl (teq (by decide)).1 (by decide) (by decide)) ?_
 refine Home.run X0 hx hby sg18_26_4 (pc' := 11) (L' := #[.val (.ref o0), .val (.ref sv_MONTH_id_value), .val (.int (3 : Int32))]) (S' := [(.ref o0), (.int (3 : Int32))]) rfl ?_
 obtain ⟨cl12, Ar12, q12, S12, M12, H12, G12⟩ := id V_o0
 refine Home.go (own_alen X0 hx hZ e0 Ar12 S12 M12 rfl rfl (hb hby d18_11)) ?_
 refine Home.go (fun _ => XS.icmpNo X0.here hx rfl (hb hby d18_12) rfl (tlt (by decide)).2.1) ?_
 refine Home.run X0 hx hby sg18_15_2 (pc' := 17) (L' := #[.val (.ref o0), .val (.ref sv_MONTH_id_value), .val (.int (3 : Int32))]) (S' := [(.int (3 : Int32)), (.ref o0)]) rfl ?_
 obtain ⟨cl13, Ar13, q13, S13, M13, H13, G13⟩ := id V_o0
 have ib13 : ¬ ((3 : Int32) < 0 ∨ cl13.slots.size ≤ ((3 : Int32)).toNatClampNeg) := inb_of S13 ⟨by decide, by decide⟩
 refine Home.go (X0.baloadBytes hx (j := (3 : Int32)) (v := (.int (116 : Int32))) (by rw [e0]; exact Ar13.1) (State.isArrayOf_alike hZ.alike Ar13.2.1) Ar13.2.2 ib13 (Has.at H13 ib13 rfl) rfl rfl (hb hby d18_17)) ?_
 show Home s₁ (mkF m 18 #[.val (.ref o0), .val (.ref sv_MONTH_id_value), .val (.int (3 : Int32))] [(.int (116 : Int32))])
 refine Home.run X0 hx hby sg18_18_2 (pc' := 20) (L' := #[.val (.ref o0), .val (.ref sv_MONTH_id_value), .val (.int (3 : Int32))]) (S' := [(.int (3 : Int32)), (.ref sv_MONTH_id_value), (.int (116 : Int32))]) rfl ?_
 obtain ⟨cl14, Ar14, q14, S14, M14, H14, G14⟩ := id (V_sv_MONTH_id_value.ext O0.2)
 have ib14 : ¬ ((3 : Int32) < 0 ∨ cl14.slots.size ≤ ((3 : Int32)).toNatClampNeg) := inb_of S14 ⟨by decide, by decide⟩
 refine Home.go (X0.baloadBytes hx (j := (3 : Int32)) (v := (.int (116 : Int32))) (by rw [e0]; exact Ar14.1) (State.isArrayOf_alike hZ.alike Ar14.2.1) Ar14.2.2 ib14 (Has.at H14 ib14 rfl) rfl rfl (hb hby d18_20)) ?_
 refine Home.go (fun _ => XS.icmpYes X0.here hx rfl (pc0 := 21) (pc' := 26) rfl (hb hby d18_21) rfl (teq (by decide)).1 (by decide) (by decide)) ?_
 refine Home.run X0 hx hby sg18_26_4 (pc' := 11) (L' := #[.val (.ref o0), .val (.ref sv_MONTH_id_value), .val (.int (4 : Int32))]) (S' := [(.ref o0), (.int (4 : Int32))]) rfl ?_
 obtain ⟨cl15, Ar15, q15, S15, M15, H15, G15⟩ := id V_o0
 refine Home.go (own_alen X0 hx hZ e0 Ar15 S15 M15 rfl rfl (hb hby d18_11)) ?_
 show Home s₁ (mkF m 12 #[.val (.ref o0), .val (.ref sv_MONTH_id_value), .val (.int (4 : Int32))] [(.int (5 : Int32)), (.int (4 : Int32))])
 refine Home.go (fun _ => XS.icmpNo X0.here hx rfl (hb hby d18_12) rfl (tlt (by decide)).2.1) ?_
 refine Home.run X0 hx hby sg18_15_2 (pc' := 17) (L' := #[.val (.ref o0), .val (.ref sv_MONTH_id_value), .val (.int (4 : Int32))]) (S' := [(.int (4 : Int32)), (.ref o0)]) rfl ?_
 obtain ⟨cl16, Ar16, q16, S16, M16, H16, G16⟩ := id V_o0
 have ib16 : ¬ ((4 : Int32) < 0 ∨ cl16.slots.size ≤ ((4 : Int32)).toNatClampNeg) := inb_of S16 ⟨by decide, by decide⟩
 refine Home.go (X0.baloadBytes hx (j := (4 : Int32)) (v := (.int (104 : Int32))) (by rw [e0]; exact Ar16.1) (State.isArrayOf_alike hZ.alike Ar16.2.1) Ar16.2.2 ib16 (Has.at H16 ib16 rfl) rfl rfl (hb hby d18_17)) ?_
 refine Home.run X0 hx hby sg18_18_2 (pc' := 20) (L' := #[.val (.ref o0), .val (.ref sv_MONTH_id_value), .val (.int (4 : Int32))]) (S' := [(.int (4 : Int32)), (.ref sv_MONTH_id_value), (.int (104 : Int32))]) rfl ?_
 obtain ⟨cl17, Ar17, q17, S17, M17, H17, G17⟩ := id (V_sv_MONTH_id_value.ext O0.2)
 have ib17 : ¬ ((4 : Int32) < 0 ∨ cl17.slots.size ≤ ((4 : Int32)).toNatClampNeg) := inb_of S17 ⟨by decide, by decide⟩
 refine Home.go (X0.baloadBytes hx (j := (4 : Int32)) (v := (.int (104 : Int32))) (by rw [e0]; exact Ar17.1) (State.isArrayOf_alike hZ.alike Ar17.2.1) Ar17.2.2 ib17 (Has.at H17 ib17 rfl) rfl rfl (hb hby d18_20)) ?_
 show Home s₁ (mkF m 21 #[.val (.ref o0), .val (.ref sv_MONTH_id_value), .val (.int (4 : Int32))] [(.int (104 : Int32)), (.int (104 : Int32))])
 refine Home.go (fun _ => XS.icmpYes X0.here hx rfl (pc0 := 21) (pc' := 26) rfl (hb hby d18_21) rfl (teq (by decide)).1 (by decide) (by decide)) ?_
 refine Home.run X0 hx hby sg18_26_4 (pc' := 11) (L' := #[.val (.ref o0), .val (.ref sv_MONTH_id_value), .val (.int (5 : Int32))]) (S' := [(.ref o0), (.int (5 : Int32))]) rfl ?_
 obtain ⟨cl18, Ar18, q18, S18, M18, H18, G18⟩ := id V_o0
 refine Home.go (own_alen X0 hx hZ e0 Ar18 S18 M18 rfl rfl (hb hby d18_11)) ?_
 refine Home.go (fun _ => XS.icmpYes X0.here hx rfl (pc0 := 12) (pc' := 32) rfl (hb hby d18_12) rfl (flt (by decide)).2.1 (by decide) (by decide)) ?_
 refine Home.run X0 hx hby sg18_32_1 (pc' := 33) (L' := #[.val (.ref o0), .val (.ref sv_MONTH_id_value), .val (.int (5 : Int32))]) (S' := [(.int (1 : Int32))]) rfl ?_
 exact Home.retN X0 hx hlk (t := .boolean) hret (by simp) (hb hby d18_33) ⟨congrArg some (congrArg Value.int (by first | rfl | exact nar_i2c _ | exact nar_i2b _)), rfl, e0⟩ (by decide) (by decide)
theorem rm17_0 (l : Launch) (Z : State) (a0 : Array Value) (hw : HW a0 Z) (ws : List Jvm.Cond) (o0 sv_MONTH_id : Addr) (sv_COMPACT_STRINGS : Int32) (p3 sv_MONTH_id_value : Addr) (k_p3 k_sv_MONTH_id_value : ClassId) (h0 : Heap) (n0 : Nat) (O0 : Old Z n0 h0) (E_sv_MONTH_id : Exa Z Z.heap sv_MONTH_id "java/lang/String") (S_COMPACT_STRINGS : Sta Z Z.heap "java/lang/String" "COMPACT_STRINGS" "Z" (.int sv_COMPACT_STRINGS)) (hCS : ¬ (sv_COMPACT_STRINGS = (0 : Int32))) (F_coder_o0 : Fld Z h0 o0 "java/lang/String" "coder" "B" (.int (0 : Int32))) (F_coder_sv_MONTH_id : Fld Z Z.heap sv_MONTH_id "java/lang/String" "coder" "B" (.int (0 : Int32))) (F_value_o0 : Fld Z h0 o0 "java/lang/String" "value" "[B" (.ref p3)) (F_value_sv_MONTH_id : Fld Z Z.heap sv_MONTH_id "java/lang/String" "value" "[B" (.ref sv_MONTH_id_value)) (V_p3 : Arv Z h0 p3 k_p3 .byte (5 : Int32) [(.int (109 : Int32)), (.int (111 : Int32)), (.int (110 : Int32)), (.int (116 : Int32)), (.int (104 : Int32))] (.int (0 : Int32))) (V_sv_MONTH_id_value : Arv Z Z.heap sv_MONTH_id_value k_sv_MONTH_id_value .byte (5 : Int32) [(.int (109 : Int32)), (.int (111 : Int32)), (.int (110 : Int32)), (.int (116 : Int32)), (.int (104 : Int32))] (.int (0 : Int32))) :
    Con l Z (⟨"java/lang/String", "equals", "(Ljava/lang/Object;)Z"⟩ : MethodName) jdk_42_method_66_code 3 (some .boolean) ws ({ frames := 1, cells := 0, slots := 0, locals := 14 } : Room) #[(.ref o0), (.ref sv_MONTH_id)] h0 (Pur (some (.int (1 : Int32))) h0) := by
 refine own_body (plainFor_of_name own_pn7) (fun m => ef_rm17_0 m o0 sv_MONTH_id) ?_
 intro p e s m below meth c s₁ hx hby hlk hml hret hZ hown hnm X0 e0
 have N0 := Fr.nil n0
 refine Home.run X0 hx hby sg17_0_2 (pc' := 2) (L' := #[.val (.ref o0), .val (.ref sv_MONTH_id), .unset]) (S' := [(.ref sv_MONTH_id), (.ref o0)]) rfl ?_
 by_cases ha1 : o0 = sv_MONTH_id
 ·
  refine Home.go (fun _ => Jvm.RoadKit.acmp X0 hx rfl rfl rfl (pc0 := 2) (pc' := 5) (same := true) rfl (hb hby d17_2) rfl (decide_eq_true (congrArg Value.ref ha1)) (by decide) (by decide)) ?_
  show Home s₁ (mkF m 5 #[.val (.ref o0), .val (.ref sv_MONTH_id), .unset] [])
  refine Home.run X0 hx hby sg17_5_1 (pc' := 6) (L' := #[.val (.ref o0), .val (.ref sv_MONTH_id), .unset]) (S' := [(.int (1 : Int32))]) rfl ?_
  exact Home.retN X0 hx hlk (t := .boolean) hret (by simp) (hb hby d17_6) ⟨congrArg some (congrArg Value.int (by first | rfl | exact nar_i2c _ | exact nar_i2b _)), rfl, e0⟩ (by decide) (by decide)
 ·
  refine Home.go (fun _ => Jvm.RoadKit.acmp X0 hx rfl rfl rfl (pc0 := 2) (pc' := 7) (same := false) rfl (hb hby d17_2) rfl (decide_eq_false fun q => ha1 (Value.ref.inj q)) (by decide) (by decide)) ?_
  show Home s₁ (mkF m 7 #[.val (.ref o0), .val (.ref sv_MONTH_id), .unset] [])
  refine Home.run X0 hx hby sg17_7_1 (pc' := 8) (L' := #[.val (.ref o0), .val (.ref sv_MONTH_id), .unset]) (S' := [(.ref sv_MONTH_id)]) rfl ?_
  refine Home.st (instY X0 hx hZ hown (own_w129 hw) e0 (Ins.self (E_sv_MONTH_id.ext O0.2)) rfl rfl (hb hby d17_8)) fun T2 X2 e2 => ?_
  refine Home.go (fun _ => XS.ifNo X2.here hx rfl (hb hby d17_11) rfl ((if0 _ _).trans (feq (by decide)).1)) ?_
  refine Home.run X2 hx hby sg17_14_1 (pc' := 15) (L' := #[.val (.ref o0), .val (.ref sv_MONTH_id), .unset]) (S' := [(.ref sv_MONTH_id)]) rfl ?_
  refine Home.st (castY X2 hx hZ hown (own_w129 hw) e2 (Ins.self (E_sv_MONTH_id.ext O0.2)) rfl rfl (hb hby d17_15)) fun T3 X3 e3 => ?_
  refine Home.run X3 hx hby sg17_18_1 (pc' := 19) (L' := #[.val (.ref o0), .val (.ref sv_MONTH_id), .val (.ref sv_MONTH_id)]) (S' := []) rfl ?_
  refine Home.st (getS2 X3 hx hZ hown (host := "") (Or.inl (own_w130 hw)) Via.refl e3 (S_COMPACT_STRINGS.ext O0.2) rfl (hb hby d17_19)) fun T4 X4 e4 => ?_
  refine Home.go (fun _ => XS.ifNo X4.here hx rfl (hb hby d17_22) rfl ((if0 _ _).trans (feq hCS).1)) ?_
  refine Home.run X4 hx hby sg17_25_1 (pc' := 26) (L' := #[.val (.ref o0), .val (.ref sv_MONTH_id), .val (.ref sv_MONTH_id)]) (S' := [(.ref o0)]) rfl ?_
  refine Home.st (getF X4 hx hZ hown (host := "") (Or.inl (own_w131 hw)) Via.refl e4 F_coder_o0 rfl rfl (hb hby d17_26)) fun T5 X5 e5 => ?_
  show Home T5 (mkF m 29 #[.val (.ref o0), .val (.ref sv_MONTH_id), .val (.ref sv_MONTH_id)] [(.int (0 : Int32))])
  refine Home.run X5 hx hby sg17_29_1 (pc' := 30) (L' := #[.val (.ref o0), .val (.ref sv_MONTH_id), .val (.ref sv_MONTH_id)]) (S' := [(.ref sv_MONTH_id), (.int (0 : Int32))]) rfl ?_
  refine Home.st (getF X5 hx hZ hown (host := "") (Or.inl (own_w131 hw)) Via.refl e5 (F_coder_sv_MONTH_id.ext O0.2) rfl rfl (hb hby d17_30)) fun T6 X6 e6 => ?_
  refine Home.go (fun _ => XS.icmpNo X6.here hx rfl (hb hby d17_33) rfl (teq (by decide)).2) ?_
  refine Home.run X6 hx hby sg17_36_1 (pc' := 37) (L' := #[.val (.ref o0), .val (.ref sv_MONTH_id), .val (.ref sv_MONTH_id)]) (S' := [(.ref o0)]) rfl ?_
  refine Home.st (getF X6 hx hZ hown (host := "") (Or.inl (own_w132 hw)) Via.refl e6 F_value_o0 rfl rfl (hb hby d17_37)) fun T7 X7 e7 => ?_
  refine Home.run X7 hx hby sg17_40_1 (pc' := 41) (L' := #[.val (.ref o0), .val (.ref sv_MONTH_id), .val (.ref sv_MONTH_id)]) (S' := [(.ref sv_MONTH_id), (.ref p3)]) rfl ?_
  refine Home.st (getF X7 hx hZ hown (host := "") (Or.inl (own_w132 hw)) Via.refl e7 (F_value_sv_MONTH_id.ext O0.2) rfl rfl (hb hby d17_41)) fun T8 X8 e8 => ?_
  refine Home.st (own_pure (own_static X8 hx hZ hown (own_w133 hw) (own_w134 hw) (own_w135 hw) (own_w136 hw) (by decide) (rm18_0 l Z a0 hw [] p3 sv_MONTH_id_value k_p3 k_sv_MONTH_id_value h0 n0 O0 V_p3 V_sv_MONTH_id_value) e8 rfl (by rw [hml]; rfl) (argsL := [(.ref p3), (.ref sv_MONTH_id_value)]) (rest := []) (lenOf own_pd11 rfl) rfl rfl (W := 0) (by exact hW0) (by decide) (by decide) (hb hby d17_44) (by decide) (by decide))) fun T9 X9 e9 => ?_
  show Home T9 (mkF m 47 #[.val (.ref o0), .val (.ref sv_MONTH_id), .val (.ref sv_MONTH_id)] [(.int (1 : Int32))])
  refine Home.go (fun _ => XS.ifNo X9.here hx rfl (hb hby d17_47) rfl ((if0 _ _).trans (feq (by decide)).1)) ?_
  refine Home.run X9 hx hby sg17_50_2 (pc' := 55) (L' := #[.val (.ref o0), .val (.ref sv_MONTH_id), .val (.ref sv_MONTH_id)]) (S' := [(.int (1 : Int32))]) rfl ?_
  exact Home.retN X9 hx hlk (t := .boolean) hret (by simp) (hb hby d17_55) ⟨congrArg some (congrArg Value.int (by first | rfl | exact nar_i2c _ | exact nar_i2b _)), rfl, e9⟩ (by decide) (by decide)
theorem rm19_0 (l : Launch) (Z : State) (a0 : Array Value) (hw : HW a0 Z) (ws : List Jvm.Cond) (sv_MONTH sv_MONTH_id : Addr) (h0 : Heap) (n0 : Nat) (O0 : Old Z n0 h0) (F_id_sv_MONTH : Fld Z Z.heap sv_MONTH "com/example/tapline/tapline/rules/ReturnPeriod" "id" "Ljava/lang/String;" (.ref sv_MONTH_id)) :
    Con l Z (⟨"com/example/tapline/tapline/rules/ReturnPeriod", "id", "()Ljava/lang/String;"⟩ : MethodName) prog_74_method_4_code 1 (some (.object "java/lang/String")) ws ({ frames := 0, cells := 0, slots := 0, locals := 0 } : Room) #[(.ref sv_MONTH)] h0 (Pur (some (.ref sv_MONTH_id)) h0) := by
 refine own_body (plainFor_of_name own_pn3) (fun m => ef_rm19_0 m sv_MONTH) ?_
 intro p e s m below meth c s₁ hx hby hlk hml hret hZ hown hnm X0 e0
 have N0 := Fr.nil n0
 refine Home.run X0 hx hby sg19_0_1 (pc' := 1) (L' := #[.val (.ref sv_MONTH)]) (S' := [(.ref sv_MONTH)]) rfl ?_
 refine Home.st (getF X0 hx hZ hown (host := "") (Or.inl (own_w47 hw)) Via.refl e0 (F_id_sv_MONTH.ext O0.2) rfl rfl (hb hby d19_1)) fun T1 X1 e1 => ?_
 exact Home.retR X1 hx hlk hret rfl rfl (hb hby d19_4) ⟨rfl, rfl, e1⟩ (by decide) (by decide)
theorem rm18_1 (l : Launch) (Z : State) (a0 : Array Value) (hw : HW a0 Z) (ws : List Jvm.Cond) (sv_QUARTER_id_value sv_MONTH_id_value : Addr) (k_sv_QUARTER_id_value k_sv_MONTH_id_value : ClassId) (h0 : Heap) (n0 : Nat) (O0 : Old Z n0 h0) (V_sv_QUARTER_id_value : Arv Z Z.heap sv_QUARTER_id_value k_sv_QUARTER_id_value .byte (7 : Int32) [(.int (113 : Int32)), (.int (117 : Int32)), (.int (97 : Int32)), (.int (114 : Int32)), (.int (116 : Int32)), (.int (101 : Int32)), (.int (114 : Int32))] (.int (0 : Int32))) (V_sv_MONTH_id_value : Arv Z Z.heap sv_MONTH_id_value k_sv_MONTH_id_value .byte (5 : Int32) [(.int (109 : Int32)), (.int (111 : Int32)), (.int (110 : Int32)), (.int (116 : Int32)), (.int (104 : Int32))] (.int (0 : Int32))) :
    Con l Z (⟨"java/lang/StringLatin1", "equals", "([B[B)Z"⟩ : MethodName) jdk_43_method_13_code 3 (some .boolean) ws ({ frames := 0, cells := 0, slots := 0, locals := 0 } : Room) #[(.ref sv_QUARTER_id_value), (.ref sv_MONTH_id_value)] h0 (Pur (some (.int (0 : Int32))) h0) := by
 refine own_body (plainFor_of_name own_pn6) (fun m => ef_rm18_1 m sv_QUARTER_id_value sv_MONTH_id_value) ?_
 intro p e s m below meth c s₁ hx hby hlk hml hret hZ hown hnm X0 e0
 have N0 := Fr.nil n0
 refine Home.run X0 hx hby sg18_0_1 (pc' := 1) (L' := #[.val (.ref sv_QUARTER_id_value), .val (.ref sv_MONTH_id_value), .unset]) (S' := [(.ref sv_QUARTER_id_value)]) rfl ?_
 obtain ⟨cl1, Ar1, q1, S1, M1, H1, G1⟩ := id (V_sv_QUARTER_id_value.ext O0.2)
 refine Home.go (own_alen X0 hx hZ e0 Ar1 S1 M1 rfl rfl (hb hby d18_1)) ?_
 refine Home.run X0 hx hby sg18_2_1 (pc' := 3) (L' := #[.val (.ref sv_QUARTER_id_value), .val (.ref sv_MONTH_id_value), .unset]) (S' := [(.ref sv_MONTH_id_value), (.int (7 : Int32))]) rfl ?_
 obtain ⟨cl2, Ar2, q2, S2, M2, H2, G2⟩ := id (V_sv_MONTH_id_value.ext O0.2)
 refine Home.go (own_alen X0 hx hZ e0 Ar2 S2 M2 rfl rfl (hb hby d18_3)) ?_
 refine Home.go (fun _ => XS.icmpYes X0.here hx rfl (pc0 := 4) (pc' := 34) rfl (hb hby d18_4) rfl (feq (by decide)).2 (by decide) (by decide)) ?_
 refine Home.run X0 hx hby sg18_34_1 (pc' := 35) (L' := #[.val (.ref sv_QUARTER_id_value), .val (.ref sv_MONTH_id_value), .unset]) (S' := [(.int (0 : Int32))]) rfl ?_
 exact Home.retN X0 hx hlk (t := .boolean) hret (by simp) (hb hby d18_35) ⟨congrArg some (congrArg Value.int (by first | rfl | exact nar_i2c _ | exact nar_i2b _)), rfl, e0⟩ (by decide) (by decide)
theorem rm17_1 (l : Launch) (Z : State) (a0 : Array Value) (hw : HW a0 Z) (ws : List Jvm.Cond) (sv_QUARTER_id sv_MONTH_id : Addr) (sv_COMPACT_STRINGS : Int32) (sv_QUARTER_id_value sv_MONTH_id_value : Addr) (k_sv_QUARTER_id_value k_sv_MONTH_id_value : ClassId) (h0 : Heap) (n0 : Nat) (O0 : Old Z n0 h0) (ne_sv_MONTH_id_sv_QUARTER_id : sv_MONTH_id ≠ sv_QUARTER_id) (E_sv_MONTH_id : Exa Z Z.heap sv_MONTH_id "java/lang/String") (S_COMPACT_STRINGS : Sta Z Z.heap "java/lang/String" "COMPACT_STRINGS" "Z" (.int sv_COMPACT_STRINGS)) (hCS : ¬ (sv_COMPACT_STRINGS = (0 : Int32))) (F_coder_sv_QUARTER_id : Fld Z Z.heap sv_QUARTER_id "java/lang/String" "coder" "B" (.int (0 : Int32))) (F_coder_sv_MONTH_id : Fld Z Z.heap sv_MONTH_id "java/lang/String" "coder" "B" (.int (0 : Int32))) (F_value_sv_QUARTER_id : Fld Z Z.heap sv_QUARTER_id "java/lang/String" "value" "[B" (.ref sv_QUARTER_id_value)) (F_value_sv_MONTH_id : Fld Z Z.heap sv_MONTH_id "java/lang/String" "value" "[B" (.ref sv_MONTH_id_value)) (V_sv_QUARTER_id_value : Arv Z Z.heap sv_QUARTER_id_value k_sv_QUARTER_id_value .byte (7 : Int32) [(.int (113 : Int32)), (.int (117 : Int32)), (.int (97 : Int32)), (.int (114 : Int32)), (.int (116 : Int32)), (.int (101 : Int32)), (.int (114 : Int32))] (.int (0 : Int32))) (V_sv_MONTH_id_value : Arv Z Z.heap sv_MONTH_id_value k_sv_MONTH_id_value .byte (5 : Int32) [(.int (109 : Int32)), (.int (111 : Int32)), (.int (110 : Int32)), (.int (116 : Int32)), (.int (104 : Int32))] (.int (0 : Int32))) :
    Con l Z (⟨"java/lang/String", "equals", "(Ljava/lang/Object;)Z"⟩ : MethodName) jdk_42_method_66_code 3 (some .boolean) ws ({ frames := 1, cells := 0, slots := 0, locals := 14 } : Room) #[(.ref sv_QUARTER_id), (.ref sv_MONTH_id)] h0 (Pur (some (.int (0 : Int32))) h0) := by
 refine own_body (plainFor_of_name own_pn7) (fun m => ef_rm17_1 m sv_QUARTER_id sv_MONTH_id) ?_
 intro p e s m below meth c s₁ hx hby hlk hml hret hZ hown hnm X0 e0
 have N0 := Fr.nil n0
 refine Home.run X0 hx hby sg17_0_2 (pc' := 2) (L' := #[.val (.ref sv_QUARTER_id), .val (.ref sv_MONTH_id), .unset]) (S' := [(.ref sv_MONTH_id), (.ref sv_QUARTER_id)]) rfl ?_
 have ne1 : sv_QUARTER_id ≠ sv_MONTH_id := (Ne.symm ne_sv_MONTH_id_sv_QUARTER_id)
 refine Home.go (fun _ => Jvm.RoadKit.acmp X0 hx rfl rfl rfl (pc0 := 2) (pc' := 7) (same := false) rfl (hb hby d17_2) rfl (decide_eq_false fun q => ne1 (Value.ref.inj q)) (by decide) (by decide)) ?_
 show Home s₁ (mkF m 7 #[.val (.ref sv_QUARTER_id), .val (.ref sv_MONTH_id), .unset] [])
 refine Home.run X0 hx hby sg17_7_1 (pc' := 8) (L' := #[.val (.ref sv_QUARTER_id), .val (.ref sv_MONTH_id), .unset]) (S' := [(.ref sv_MONTH_id)]) rfl ?_
 refine Home.st (instY X0 hx hZ hown (own_w129 hw) e0 (Ins.self (E_sv_MONTH_id.ext O0.2)) rfl rfl (hb hby d17_8)) fun T2 X2 e2 => ?_
 refine Home.go (fun _ => XS.ifNo X2.here hx rfl (hb hby d17_11) rfl ((if0 _ _).trans (feq (by decide)).1)) ?_
 refine Home.run X2 hx hby sg17_14_1 (pc' := 15) (L' := #[.val (.ref sv_QUARTER_id), .val (.ref sv_MONTH_id), .unset]) (S' := [(.ref sv_MONTH_id)]) rfl ?_
 refine Home.st (castY X2 hx hZ hown (own_w129 hw) e2 (Ins.self (E_sv_MONTH_id.ext O0.2)) rfl rfl (hb hby d17_15)) fun T3 X3 e3 => ?_
 refine Home.run X3 hx hby sg17_18_1 (pc' := 19) (L' := #[.val (.ref sv_QUARTER_id), .val (.ref sv_MONTH_id), .val (.ref sv_MONTH_id)]) (S' := []) rfl ?_
 refine Home.st (getS2 X3 hx hZ hown (host := "") (Or.inl (own_w130 hw)) Via.refl e3 (S_COMPACT_STRINGS.ext O0.2) rfl (hb hby d17_19)) fun T4 X4 e4 => ?_
 refine Home.go (fun _ => XS.ifNo X4.here hx rfl (hb hby d17_22) rfl ((if0 _ _).trans (feq hCS).1)) ?_
 refine Home.run X4 hx hby sg17_25_1 (pc' := 26) (L' := #[.val (.ref sv_QUARTER_id), .val (.ref sv_MONTH_id), .val (.ref sv_MONTH_id)]) (S' := [(.ref sv_QUARTER_id)]) rfl ?_
 refine Home.st (getF X4 hx hZ hown (host := "") (Or.inl (own_w131 hw)) Via.refl e4 (F_coder_sv_QUARTER_id.ext O0.2) rfl rfl (hb hby d17_26)) fun T5 X5 e5 => ?_
 show Home T5 (mkF m 29 #[.val (.ref sv_QUARTER_id), .val (.ref sv_MONTH_id), .val (.ref sv_MONTH_id)] [(.int (0 : Int32))])
 refine Home.run X5 hx hby sg17_29_1 (pc' := 30) (L' := #[.val (.ref sv_QUARTER_id), .val (.ref sv_MONTH_id), .val (.ref sv_MONTH_id)]) (S' := [(.ref sv_MONTH_id), (.int (0 : Int32))]) rfl ?_
 refine Home.st (getF X5 hx hZ hown (host := "") (Or.inl (own_w131 hw)) Via.refl e5 (F_coder_sv_MONTH_id.ext O0.2) rfl rfl (hb hby d17_30)) fun T6 X6 e6 => ?_
 refine Home.go (fun _ => XS.icmpNo X6.here hx rfl (hb hby d17_33) rfl (teq (by decide)).2) ?_
 refine Home.run X6 hx hby sg17_36_1 (pc' := 37) (L' := #[.val (.ref sv_QUARTER_id), .val (.ref sv_MONTH_id), .val (.ref sv_MONTH_id)]) (S' := [(.ref sv_QUARTER_id)]) rfl ?_
 refine Home.st (getF X6 hx hZ hown (host := "") (Or.inl (own_w132 hw)) Via.refl e6 (F_value_sv_QUARTER_id.ext O0.2) rfl rfl (hb hby d17_37)) fun T7 X7 e7 => ?_
 refine Home.run X7 hx hby sg17_40_1 (pc' := 41) (L' := #[.val (.ref sv_QUARTER_id), .val (.ref sv_MONTH_id), .val (.ref sv_MONTH_id)]) (S' := [(.ref sv_MONTH_id), (.ref sv_QUARTER_id_value)]) rfl ?_
 refine Home.st (getF X7 hx hZ hown (host := "") (Or.inl (own_w132 hw)) Via.refl e7 (F_value_sv_MONTH_id.ext O0.2) rfl rfl (hb hby d17_41)) fun T8 X8 e8 => ?_
 refine Home.st (own_pure (own_static X8 hx hZ hown (own_w133 hw) (own_w134 hw) (own_w135 hw) (own_w136 hw) (by decide) (rm18_1 l Z a0 hw [] sv_QUARTER_id_value sv_MONTH_id_value k_sv_QUARTER_id_value k_sv_MONTH_id_value h0 n0 O0 V_sv_QUARTER_id_value V_sv_MONTH_id_value) e8 rfl (by rw [hml]; rfl) (argsL := [(.ref sv_QUARTER_id_value), (.ref sv_MONTH_id_value)]) (rest := []) (lenOf own_pd11 rfl) rfl rfl (W := 0) (by exact hW0) (by decide) (by decide) (hb hby d17_44) (by decide) (by decide))) fun T9 X9 e9 => ?_
 show Home T9 (mkF m 47 #[.val (.ref sv_QUARTER_id), .val (.ref sv_MONTH_id), .val (.ref sv_MONTH_id)] [(.int (0 : Int32))])
 refine Home.go (fun _ => XS.ifYes X9.here hx rfl (pc0 := 47) (pc' := 54) rfl (hb hby d17_47) rfl ((if0 _ _).trans (teq (by decide)).1) (by decide) (by decide)) ?_
 refine Home.run X9 hx hby sg17_54_1 (pc' := 55) (L' := #[.val (.ref sv_QUARTER_id), .val (.ref sv_MONTH_id), .val (.ref sv_MONTH_id)]) (S' := [(.int (0 : Int32))]) rfl ?_
 exact Home.retN X9 hx hlk (t := .boolean) hret (by simp) (hb hby d17_55) ⟨congrArg some (congrArg Value.int (by first | rfl | exact nar_i2c _ | exact nar_i2b _)), rfl, e9⟩ (by decide) (by decide)
theorem rm20_0 (l : Launch) (Z : State) (a0 : Array Value) (hw : HW a0 Z) (ws : List Jvm.Cond) (sv_MONTH_id sv__VALUES : Addr) (k_sv__VALUES : ClassId) (sv_MONTH sv_QUARTER : Addr) (sv_COMPACT_STRINGS : Int32) (sv_MONTH_id_value : Addr) (k_sv_MONTH_id_value : ClassId) (sv_QUARTER_id sv_QUARTER_id_value : Addr) (k_sv_QUARTER_id_value : ClassId) (h0 : Heap) (n0 : Nat) (O0 : Old Z n0 h0) (S__VALUES : Sta Z Z.heap "com/example/tapline/tapline/rules/ReturnPeriod" "$VALUES" "[Lcom/example/tapline/tapline/rules/ReturnPeriod;" (.ref sv__VALUES)) (V_sv__VALUES : Arv Z Z.heap sv__VALUES k_sv__VALUES (.object "com/example/tapline/tapline/rules/ReturnPeriod") (2 : Int32) [(.ref sv_MONTH), (.ref sv_QUARTER)] .null) (E_sv__VALUES : Exa Z Z.heap sv__VALUES "[Lcom/example/tapline/tapline/rules/ReturnPeriod;") (F_id_sv_MONTH : Fld Z Z.heap sv_MONTH "com/example/tapline/tapline/rules/ReturnPeriod" "id" "Ljava/lang/String;" (.ref sv_MONTH_id)) (E_sv_MONTH_id : Exa Z Z.heap sv_MONTH_id "java/lang/String") (S_COMPACT_STRINGS : Sta Z Z.heap "java/lang/String" "COMPACT_STRINGS" "Z" (.int sv_COMPACT_STRINGS)) (F_coder_sv_MONTH_id : Fld Z Z.heap sv_MONTH_id "java/lang/String" "coder" "B" (.int (0 : Int32))) (F_value_sv_MONTH_id : Fld Z Z.heap sv_MONTH_id "java/lang/String" "value" "[B" (.ref sv_MONTH_id_value)) (V_sv_MONTH_id_value : Arv Z Z.heap sv_MONTH_id_value k_sv_MONTH_id_value .byte (5 : Int32) [(.int (109 : Int32)), (.int (111 : Int32)), (.int (110 : Int32)), (.int (116 : Int32)), (.int (104 : Int32))] (.int (0 : Int32))) (hCS : ¬ (sv_COMPACT_STRINGS = (0 : Int32))) (F_id_sv_QUARTER : Fld Z Z.heap sv_QUARTER "com/example/tapline/tapline/rules/ReturnPeriod" "id" "Ljava/lang/String;" (.ref sv_QUARTER_id)) (E_sv_QUARTER_id : Exa Z Z.heap sv_QUARTER_id "java/lang/String") (F_coder_sv_QUARTER_id : Fld Z Z.heap sv_QUARTER_id "java/lang/String" "coder" "B" (.int (0 : Int32))) (F_value_sv_QUARTER_id : Fld Z Z.heap sv_QUARTER_id "java/lang/String" "value" "[B" (.ref sv_QUARTER_id_value)) (V_sv_QUARTER_id_value : Arv Z Z.heap sv_QUARTER_id_value k_sv_QUARTER_id_value .byte (7 : Int32) [(.int (113 : Int32)), (.int (117 : Int32)), (.int (97 : Int32)), (.int (114 : Int32)), (.int (116 : Int32)), (.int (101 : Int32)), (.int (114 : Int32))] (.int (0 : Int32))) (ne_sv_MONTH_id_sv_QUARTER_id : sv_MONTH_id ≠ sv_QUARTER_id) :
    Con l Z (⟨"com/example/tapline/tapline/rules/ReturnPeriod", "byId", "(Ljava/lang/String;)Lcom/example/tapline/tapline/rules/ReturnPeriod;"⟩ : MethodName) prog_74_method_7_code 6 (some (.object "com/example/tapline/tapline/rules/ReturnPeriod")) ws ({ frames := 2, cells := 1, slots := 2, locals := 28 } : Room) #[(.ref sv_MONTH_id)] h0 (fun v h L => v = some (.ref sv_MONTH) ∧ Fr n0 L ∧ Keep h0 h []) := by
 refine own_body (plainFor_of_name own_pn3) (fun m => ef_rm20_0 m sv_MONTH_id) ?_
 intro p e s m below meth c s₁ hx hby hlk hml hret hZ hown hnm X0 e0
 have N0 := Fr.nil n0
 refine Home.run X0 hx hby sg20_0_2 (pc' := 2) (L' := #[.val (.ref sv_MONTH_id), .val .null, .unset, .unset, .unset, .unset]) (S' := []) rfl ?_
 refine Home.call (own_static X0 hx hZ hown (own_w30 hw) (own_w31 hw) (own_w2 hw) (own_w32 hw) (by decide) (rm6_0 l Z a0 hw [] sv__VALUES k_sv__VALUES sv_MONTH sv_QUARTER h0 n0 O0 S__VALUES V_sv__VALUES E_sv__VALUES) e0 rfl (by rw [hml]; rfl) (argsL := []) (rest := []) (lenOf own_pd1 rfl) rfl rfl (W := 0) (by exact hW0) (by decide) (by decide) (hb hby d20_2) (by decide) (by decide)) ?_
 rintro _ T1 L1 X1 ⟨b2_1, rfl, N1q, sz_b2_1, K1q, P1_0, P1_1⟩
 have g_b2_1 : n0 ≤ b2_1 := Nat.le_trans (Old.le O0) sz_b2_1
 have O1 := Old.keep O0 K1q all0
 have K1 : Keep h0 T1.heap ([] : List Addr) := Keep.trans (Keep.refl h0 ([] : List Addr)) K1q all0
 have N1 := Fr.app N0 N1q
 refine Home.run X1 hx hby sg20_5_2 (pc' := 7) (L' := #[.val (.ref sv_MONTH_id), .val .null, .val (.ref b2_1), .unset, .unset, .unset]) (S' := [(.ref b2_1)]) rfl ?_
 obtain ⟨cl2, Ar2, q2, S2, M2, H2, G2⟩ := id P1_0
 refine Home.go (own_alen X1 hx hZ rfl Ar2 S2 M2 rfl rfl (hb hby d20_7)) ?_
 show Home T1 (mkF m 8 #[.val (.ref sv_MONTH_id), .val .null, .val (.ref b2_1), .unset, .unset, .unset] [(.int (2 : Int32))])
 refine Home.run X1 hx hby sg20_8_5 (pc' := 15) (L' := #[.val (.ref sv_MONTH_id), .val .null, .val (.ref b2_1), .val (.int (2 : Int32)), .val (.int (0 : Int32)), .unset]) (S' := [(.int (2 : Int32)), (.int (0 : Int32))]) rfl ?_
 refine Home.go (fun _ => XS.icmpNo X1.here hx rfl (hb hby d20_15) rfl (tlt (by decide)).2.1) ?_
 refine Home.run X1 hx hby sg20_18_2 (pc' := 21) (L' := #[.val (.ref sv_MONTH_id), .val .null, .val (.ref b2_1), .val (.int (2 : Int32)), .val (.int (0 : Int32)), .unset]) (S' := [(.int (0 : Int32)), (.ref b2_1)]) rfl ?_
 obtain ⟨cl3, Ar3, q3, S3, M3, H3, G3⟩ := id P1_0
 have ib3 : ¬ ((0 : Int32) < 0 ∨ cl3.slots.size ≤ ((0 : Int32)).toNatClampNeg) := inb_of S3 ⟨by decide, by decide⟩
 refine Home.go (X1.aaload hx (j := (0 : Int32)) (v := (.ref sv_MONTH)) Ar3.1 (State.isArrayOf_alike hZ.alike Ar3.2.1) rfl Ar3.2.2 ib3 (Has.at H3 ib3 rfl) rfl rfl (hb hby d20_21)) ?_
 refine Home.run X1 hx hby sg20_22_2 (pc' := 26) (L' := #[.val (.ref sv_MONTH_id), .val .null, .val (.ref b2_1), .val (.int (2 : Int32)), .val (.int (0 : Int32)), .val (.ref sv_MONTH)]) (S' := [(.ref sv_MONTH)]) rfl ?_
 refine Home.st (getF X1 hx hZ hown (host := "") (Or.inl (own_w47 hw)) Via.refl rfl (F_id_sv_MONTH.ext O1.2) rfl rfl (hb hby d20_26)) fun T4 X4 e4 => ?_
 show Home T4 (mkF m 29 #[.val (.ref sv_MONTH_id), .val .null, .val (.ref b2_1), .val (.int (2 : Int32)), .val (.int (0 : Int32)), .val (.ref sv_MONTH)] [(.ref sv_MONTH_id)])
 refine Home.run X4 hx hby sg20_29_1 (pc' := 30) (L' := #[.val (.ref sv_MONTH_id), .val .null, .val (.ref b2_1), .val (.int (2 : Int32)), .val (.int (0 : Int32)), .val (.ref sv_MONTH)]) (S' := [(.ref sv_MONTH_id), (.ref sv_MONTH_id)]) rfl ?_
 refine Home.st (own_pure (own_virtual X4 hx hZ hown (own_w145 hw) (own_w125 hw) (notFace_of_selects (args := #[]) (mvT hZ (own_w127 hw))) (own_w127 hw) (own_w126 hw) (own_w116 hw) (own_w128 hw) (by decide) (rm17_0 l Z a0 hw [] sv_MONTH_id sv_MONTH_id sv_COMPACT_STRINGS sv_MONTH_id_value sv_MONTH_id_value k_sv_MONTH_id_value k_sv_MONTH_id_value T1.heap n0 O1 E_sv_MONTH_id S_COMPACT_STRINGS hCS (F_coder_sv_MONTH_id.ext O1.2) F_coder_sv_MONTH_id (F_value_sv_MONTH_id.ext O1.2) F_value_sv_MONTH_id (V_sv_MONTH_id_value.ext O1.2) V_sv_MONTH_id_value) e4 (E_sv_MONTH_id.ext O1.2) rfl (by rw [hml]; rfl) (argsL := [(.ref sv_MONTH_id)]) (rest := []) (lenOf own_pd6 rfl) rfl rfl (W := 0) (by exact hW0) (by decide) (by decide) (hb hby d20_30) (by decide) (by decide))) fun T5 X5 e5 => ?_
 refine Home.go (fun _ => XS.ifNo X5.here hx rfl (hb hby d20_33) rfl ((if0 _ _).trans (feq (by decide)).1)) ?_
 refine Home.run X5 hx hby sg20_36_6 (pc' := 15) (L' := #[.val (.ref sv_MONTH_id), .val (.ref sv_MONTH), .val (.ref b2_1), .val (.int (2 : Int32)), .val (.int (1 : Int32)), .val (.ref sv_MONTH)]) (S' := [(.int (2 : Int32)), (.int (1 : Int32))]) rfl ?_
 refine Home.go (fun _ => XS.icmpNo X5.here hx rfl (hb hby d20_15) rfl (tlt (by decide)).2.1) ?_
 refine Home.run X5 hx hby sg20_18_2 (pc' := 21) (L' := #[.val (.ref sv_MONTH_id), .val (.ref sv_MONTH), .val (.ref b2_1), .val (.int (2 : Int32)), .val (.int (1 : Int32)), .val (.ref sv_MONTH)]) (S' := [(.int (1 : Int32)), (.ref b2_1)]) rfl ?_
 obtain ⟨cl6, Ar6, q6, S6, M6, H6, G6⟩ := id P1_0
 have ib6 : ¬ ((1 : Int32) < 0 ∨ cl6.slots.size ≤ ((1 : Int32)).toNatClampNeg) := inb_of S6 ⟨by decide, by decide⟩
 refine Home.go (X5.aaload hx (j := (1 : Int32)) (v := (.ref sv_QUARTER)) (by rw [e5]; exact Ar6.1) (State.isArrayOf_alike hZ.alike Ar6.2.1) rfl Ar6.2.2 ib6 (Has.at H6 ib6 rfl) rfl rfl (hb hby d20_21)) ?_
 show Home T5 (mkF m 22 #[.val (.ref sv_MONTH_id), .val (.ref sv_MONTH), .val (.ref b2_1), .val (.int (2 : Int32)), .val (.int (1 : Int32)), .val (.ref sv_MONTH)] [(.ref sv_QUARTER)])
 refine Home.run X5 hx hby sg20_22_2 (pc' := 26) (L' := #[.val (.ref sv_MONTH_id), .val (.ref sv_MONTH), .val (.ref b2_1), .val (.int (2 : Int32)), .val (.int (1 : Int32)), .val (.ref sv_QUARTER)]) (S' := [(.ref sv_QUARTER)]) rfl ?_
 refine Home.st (getF X5 hx hZ hown (host := "") (Or.inl (own_w47 hw)) Via.refl e5 (F_id_sv_QUARTER.ext O1.2) rfl rfl (hb hby d20_26)) fun T7 X7 e7 => ?_
 refine Home.run X7 hx hby sg20_29_1 (pc' := 30) (L' := #[.val (.ref sv_MONTH_id), .val (.ref sv_MONTH), .val (.ref b2_1), .val (.int (2 : Int32)), .val (.int (1 : Int32)), .val (.ref sv_QUARTER)]) (S' := [(.ref sv_MONTH_id), (.ref sv_QUARTER_id)]) rfl ?_
 refine Home.st (own_pure (own_virtual X7 hx hZ hown (own_w145 hw) (own_w125 hw) (notFace_of_selects (args := #[]) (mvT hZ (own_w127 hw))) (own_w127 hw) (own_w126 hw) (own_w116 hw) (own_w128 hw) (by decide) (rm17_1 l Z a0 hw [] sv_QUARTER_id sv_MONTH_id sv_COMPACT_STRINGS sv_QUARTER_id_value sv_MONTH_id_value k_sv_QUARTER_id_value k_sv_MONTH_id_value T1.heap n0 O1 ne_sv_MONTH_id_sv_QUARTER_id E_sv_MONTH_id S_COMPACT_STRINGS hCS F_coder_sv_QUARTER_id F_coder_sv_MONTH_id F_value_sv_QUARTER_id F_value_sv_MONTH_id V_sv_QUARTER_id_value V_sv_MONTH_id_value) e7 (E_sv_QUARTER_id.ext O1.2) rfl (by rw [hml]; rfl) (argsL := [(.ref sv_MONTH_id)]) (rest := []) (lenOf own_pd6 rfl) rfl rfl (W := 0) (by exact hW0) (by decide) (by decide) (hb hby d20_30) (by decide) (by decide))) fun T8 X8 e8 => ?_
 refine Home.go (fun _ => XS.ifYes X8.here hx rfl (pc0 := 33) (pc' := 39) rfl (hb hby d20_33) rfl ((if0 _ _).trans (teq (by decide)).1) (by decide) (by decide)) ?_
 refine Home.run X8 hx hby sg20_39_4 (pc' := 15) (L' := #[.val (.ref sv_MONTH_id), .val (.ref sv_MONTH), .val (.ref b2_1), .val (.int (2 : Int32)), .val (.int (2 : Int32)), .val (.ref sv_QUARTER)]) (S' := [(.int (2 : Int32)), (.int (2 : Int32))]) rfl ?_
 refine Home.go (fun _ => XS.icmpYes X8.here hx rfl (pc0 := 15) (pc' := 45) rfl (hb hby d20_15) rfl (flt (by decide)).2.1 (by decide) (by decide)) ?_
 refine Home.run X8 hx hby sg20_45_1 (pc' := 46) (L' := #[.val (.ref sv_MONTH_id), .val (.ref sv_MONTH), .val (.ref b2_1), .val (.int (2 : Int32)), .val (.int (2 : Int32)), .val (.ref sv_QUARTER)]) (S' := [(.ref sv_MONTH)]) rfl ?_
 exact Home.retR X8 hx hlk hret rfl rfl (hb hby d20_46) (by rw [show T8.heap = T1.heap from e8]; exact ⟨rfl, N1, K1⟩) (by decide) (by decide)
theorem rm15_1 (l : Launch) (Z : State) (a0 : Array Value) (hw : HW a0 Z) (ws : List Jvm.Cond)  (h0 : Heap) (n0 : Nat) (O0 : Old Z n0 h0) :
    Con l Z (⟨"jdk/internal/util/Preconditions", "checkIndex", "(IILjava/util/function/BiFunction;)I"⟩ : MethodName) jdk_41_method_11_code 3 (some .int) ws ({ frames := 0, cells := 0, slots := 0, locals := 0 } : Room) #[(.int (1 : Int32)), (.int (2 : Int32)), .null] h0 (Pur (some (.int (1 : Int32))) h0) := by
 refine own_body (plainFor_of_name own_pn4) (fun m => ef_rm15_1 m (1 : Int32) (2 : Int32)) ?_
 intro p e s m below meth c s₁ hx hby hlk hml hret hZ hown hnm X0 e0
 have N0 := Fr.nil n0
 refine Home.run X0 hx hby sg15_0_1 (pc' := 1) (L' := #[.val (.int (1 : Int32)), .val (.int (2 : Int32)), .val .null]) (S' := [(.int (1 : Int32))]) rfl ?_
 refine Home.go (fun _ => XS.ifNo X0.here hx rfl (hb hby d15_1) rfl ((if0 _ _).trans (flt (by decide)).1)) ?_
 refine Home.run X0 hx hby sg15_4_2 (pc' := 6) (L' := #[.val (.int (1 : Int32)), .val (.int (2 : Int32)), .val .null]) (S' := [(.int (2 : Int32)), (.int (1 : Int32))]) rfl ?_
 refine Home.go (fun _ => XS.icmpYes X0.here hx rfl (pc0 := 6) (pc' := 16) rfl (hb hby d15_6) rfl (tlt (by decide)).1 (by decide) (by decide)) ?_
 refine Home.run X0 hx hby sg15_16_1 (pc' := 17) (L' := #[.val (.int (1 : Int32)), .val (.int (2 : Int32)), .val .null]) (S' := [(.int (1 : Int32))]) rfl ?_
 exact Home.retI X0 hx hlk hret (hb hby d15_17) ⟨rfl, rfl, e0⟩ (by decide) (by decide)
theorem rm14_1 (l : Launch) (Z : State) (a0 : Array Value) (hw : HW a0 Z) (ws : List Jvm.Cond)  (h0 : Heap) (n0 : Nat) (O0 : Old Z n0 h0) :
    Con l Z (⟨"java/util/Objects", "checkIndex", "(II)I"⟩ : MethodName) jdk_31_method_17_code 2 (some .int) ws ({ frames := 1, cells := 0, slots := 0, locals := 14 } : Room) #[(.int (1 : Int32)), (.int (2 : Int32))] h0 (Pur (some (.int (1 : Int32))) h0) := by
 refine own_body (plainFor_of_name own_pn5) (fun m => ef_rm14_1 m (1 : Int32) (2 : Int32)) ?_
 intro p e s m below meth c s₁ hx hby hlk hml hret hZ hown hnm X0 e0
 have N0 := Fr.nil n0
 refine Home.run X0 hx hby sg14_0_3 (pc' := 3) (L' := #[.val (.int (1 : Int32)), .val (.int (2 : Int32))]) (S' := [.null, (.int (2 : Int32)), (.int (1 : Int32))]) rfl ?_
 refine Home.st (own_pure (own_static X0 hx hZ hown (own_w104 hw) (own_w105 hw) (own_w106 hw) (own_w107 hw) (by decide) (rm15_1 l Z a0 hw []  h0 n0 O0) e0 rfl (by rw [hml]; rfl) (argsL := [(.int (1 : Int32)), (.int (2 : Int32)), .null]) (rest := []) (lenOf own_pd9 rfl) rfl rfl (W := 0) (by exact hW0) (by decide) (by decide) (hb hby d14_3) (by decide) (by decide))) fun T1 X1 e1 => ?_
 exact Home.retI X1 hx hlk hret (hb hby d14_6) ⟨rfl, rfl, e1⟩ (by decide) (by decide)
theorem rm16_1 (l : Launch) (Z : State) (a0 : Array Value) (hw : HW a0 Z) (ws : List Jvm.Cond) (o0 p2 : Addr) (k_p2 : ClassId) (sv_MONTH_id sv_QUARTER_id : Addr) (h0 : Heap) (n0 : Nat) (O0 : Old Z n0 h0) (F_elementData_o0 : Fld Z h0 o0 "java/util/ArrayList" "elementData" "[Ljava/lang/Object;" (.ref p2)) (V_p2 : Arv Z h0 p2 k_p2 (.object "java/lang/Object") (10 : Int32) [(.ref sv_MONTH_id), (.ref sv_QUARTER_id), .null, .null, .null, .null, .null, .null, .null, .null] .null) :
    Con l Z (⟨"java/util/ArrayList", "elementData", "(I)Ljava/lang/Object;"⟩ : MethodName) jdk_38_method_18_code 2 (some (.object "java/lang/Object")) ws ({ frames := 0, cells := 0, slots := 0, locals := 0 } : Room) #[(.ref o0), (.int (1 : Int32))] h0 (Pur (some (.ref sv_QUARTER_id)) h0) := by
 refine own_body (plainFor_of_name own_pn2) (fun m => ef_rm16_1 m o0 (1 : Int32)) ?_
 intro p e s m below meth c s₁ hx hby hlk hml hret hZ hown hnm X0 e0
 have N0 := Fr.nil n0
 refine Home.run X0 hx hby sg16_0_1 (pc' := 1) (L' := #[.val (.ref o0), .val (.int (1 : Int32))]) (S' := [(.ref o0)]) rfl ?_
 refine Home.st (getF X0 hx hZ hown (host := "") (Or.inl (own_w28 hw)) Via.refl e0 F_elementData_o0 rfl rfl (hb hby d16_1)) fun T1 X1 e1 => ?_
 refine Home.run X1 hx hby sg16_4_1 (pc' := 5) (L' := #[.val (.ref o0), .val (.int (1 : Int32))]) (S' := [(.int (1 : Int32)), (.ref p2)]) rfl ?_
 obtain ⟨cl2, Ar2, q2, S2, M2, H2, G2⟩ := id V_p2
 have ib2 : ¬ ((1 : Int32) < 0 ∨ cl2.slots.size ≤ ((1 : Int32)).toNatClampNeg) := inb_of S2 ⟨by decide, by decide⟩
 refine Home.go (X1.aaload hx (j := (1 : Int32)) (v := (.ref sv_QUARTER_id)) (by rw [e1]; exact Ar2.1) (State.isArrayOf_alike hZ.alike Ar2.2.1) rfl Ar2.2.2 ib2 (Has.at H2 ib2 rfl) rfl rfl (hb hby d16_5)) ?_
 exact Home.retR X1 hx hlk hret rfl rfl (hb hby d16_6) ⟨rfl, rfl, e1⟩ (by decide) (by decide)
theorem rm13_1 (l : Launch) (Z : State) (a0 : Array Value) (hw : HW a0 Z) (ws : List Jvm.Cond) (o0 p2 : Addr) (k_p2 : ClassId) (sv_MONTH_id sv_QUARTER_id : Addr) (h0 : Heap) (n0 : Nat) (O0 : Old Z n0 h0) (F_size_o0 : Fld Z h0 o0 "java/util/ArrayList" "size" "I" (.int (2 : Int32))) (E_o0 : Exa Z h0 o0 "java/util/ArrayList") (F_elementData_o0 : Fld Z h0 o0 "java/util/ArrayList" "elementData" "[Ljava/lang/Object;" (.ref p2)) (V_p2 : Arv Z h0 p2 k_p2 (.object "java/lang/Object") (10 : Int32) [(.ref sv_MONTH_id), (.ref sv_QUARTER_id), .null, .null, .null, .null, .null, .null, .null, .null] .null) :
    Con l Z (⟨"java/util/ArrayList", "get", "(I)Ljava/lang/Object;"⟩ : MethodName) jdk_38_method_20_code 2 (some (.object "java/lang/Object")) ws ({ frames := 2, cells := 0, slots := 0, locals := 27 } : Room) #[(.ref o0), (.int (1 : Int32))] h0 (Pur (some (.ref sv_QUARTER_id)) h0) := by
 refine own_body (plainFor_of_name own_pn2) (fun m => ef_rm13_1 m o0 (1 : Int32)) ?_
 intro p e s m below meth c s₁ hx hby hlk hml hret hZ hown hnm X0 e0
 have N0 := Fr.nil n0
 refine Home.run X0 hx hby sg13_0_2 (pc' := 2) (L' := #[.val (.ref o0), .val (.int (1 : Int32))]) (S' := [(.ref o0), (.int (1 : Int32))]) rfl ?_
 refine Home.st (getF X0 hx hZ hown (host := "") (Or.inl (own_w60 hw)) Via.refl e0 F_size_o0 rfl rfl (hb hby d13_2)) fun T1 X1 e1 => ?_
 refine Home.st (own_pure (own_static X1 hx hZ hown (own_w100 hw) (own_w101 hw) (own_w102 hw) (own_w103 hw) (by decide) (rm14_1 l Z a0 hw []  h0 n0 O0) e1 rfl (by rw [hml]; rfl) (argsL := [(.int (1 : Int32)), (.int (2 : Int32))]) (rest := []) (lenOf own_pd2 rfl) rfl rfl (W := 0) (by exact hW0) (by decide) (by decide) (hb hby d13_5) (by decide) (by decide))) fun T2 X2 e2 => ?_
 refine Home.run X2 hx hby sg13_8_3 (pc' := 11) (L' := #[.val (.ref o0), .val (.int (1 : Int32))]) (S' := [(.int (1 : Int32)), (.ref o0)]) rfl ?_
 refine Home.st (own_pure (own_virtual X2 hx hZ hown (own_w108 hw) (own_w109 hw) (notFace_of_selects (args := #[]) (mvT hZ (own_w111 hw))) (own_w111 hw) (own_w110 hw) (own_w6 hw) (own_w112 hw) (by decide) (rm16_1 l Z a0 hw [] o0 p2 k_p2 sv_MONTH_id sv_QUARTER_id h0 n0 O0 F_elementData_o0 V_p2) e2 E_o0 rfl (by rw [hml]; rfl) (argsL := [(.int (1 : Int32))]) (rest := []) (lenOf own_pd10 rfl) rfl rfl (W := 0) (by exact hW0) (by decide) (by decide) (hb hby d13_11) (by decide) (by decide))) fun T3 X3 e3 => ?_
 exact Home.retR X3 hx hlk hret rfl rfl (hb hby d13_14) ⟨rfl, rfl, e3⟩ (by decide) (by decide)
theorem rm18_2 (l : Launch) (Z : State) (a0 : Array Value) (hw : HW a0 Z) (ws : List Jvm.Cond) (o0 sv_QUARTER_id_value : Addr) (k_o0 k_sv_QUARTER_id_value : ClassId) (h0 : Heap) (n0 : Nat) (O0 : Old Z n0 h0) (V_o0 : Arv Z h0 o0 k_o0 .byte (7 : Int32) [(.int (113 : Int32)), (.int (117 : Int32)), (.int (97 : Int32)), (.int (114 : Int32)), (.int (116 : Int32)), (.int (101 : Int32)), (.int (114 : Int32))] (.int (0 : Int32))) (V_sv_QUARTER_id_value : Arv Z Z.heap sv_QUARTER_id_value k_sv_QUARTER_id_value .byte (7 : Int32) [(.int (113 : Int32)), (.int (117 : Int32)), (.int (97 : Int32)), (.int (114 : Int32)), (.int (116 : Int32)), (.int (101 : Int32)), (.int (114 : Int32))] (.int (0 : Int32))) :
    Con l Z (⟨"java/lang/StringLatin1", "equals", "([B[B)Z"⟩ : MethodName) jdk_43_method_13_code 3 (some .boolean) ws ({ frames := 0, cells := 0, slots := 0, locals := 0 } : Room) #[(.ref o0), (.ref sv_QUARTER_id_value)] h0 (Pur (some (.int (1 : Int32))) h0) := by
 refine own_body (plainFor_of_name own_pn6) (fun m => ef_rm18_2 m o0 sv_QUARTER_id_value) ?_
 intro p e s m below meth c s₁ hx hby hlk hml hret hZ hown hnm X0 e0
 have N0 := Fr.nil n0
 refine Home.run X0 hx hby sg18_0_1 (pc' := 1) (L' := #[.val (.ref o0), .val (.ref sv_QUARTER_id_value), .unset]) (S' := [(.ref o0)]) rfl ?_
 obtain ⟨cl1, Ar1, q1, S1, M1, H1, G1⟩ := id V_o0
 refine Home.go (own_alen X0 hx hZ e0 Ar1 S1 M1 rfl rfl (hb hby d18_1)) ?_
 refine Home.run X0 hx hby sg18_2_1 (pc' := 3) (L' := #[.val (.ref o0), .val (.ref sv_QUARTER_id_value), .unset]) (S' := [(.ref sv_QUARTER_id_value), (.int (7 : Int32))]) rfl ?_
 obtain ⟨cl2, Ar2, q2, S2, M2, H2, G2⟩ := id (V_sv_QUARTER_id_value.ext O0.2)
 refine Home.go (own_alen X0 hx hZ e0 Ar2 S2 M2 rfl rfl (hb hby d18_3)) ?_
 refine Home.go (fun _ => XS.icmpNo X0.here hx rfl (hb hby d18_4) rfl (teq (by decide)).2) ?_
 refine Home.run X0 hx hby sg18_7_4 (pc' := 11) (L' := #[.val (.ref o0), .val (.ref sv_QUARTER_id_value), .val (.int (0 : Int32))]) (S' := [(.ref o0), (.int (0 : Int32))]) rfl ?_
 obtain ⟨cl3, Ar3, q3, S3, M3, H3, G3⟩ := id V_o0
 refine Home.go (own_alen X0 hx hZ e0 Ar3 S3 M3 rfl rfl (hb hby d18_11)) ?_
 show Home s₁ (mkF m 12 #[.val (.ref o0), .val (.ref sv_QUARTER_id_value), .val (.int (0 : Int32))] [(.int (7 : Int32)), (.int (0 : Int32))])
 refine Home.go (fun _ => XS.icmpNo X0.here hx rfl (hb hby d18_12) rfl (tlt (by decide)).2.1) ?_
 refine Home.run X0 hx hby sg18_15_2 (pc' := 17) (L' := #[.val (.ref o0), .val (.ref sv_QUARTER_id_value), .val (.int (0 : Int32))]) (S' := [(.int (0 : Int32)), (.ref o0)]) rfl ?_
 obtain ⟨cl4, Ar4, q4, S4, M4, H4, G4⟩ := id V_o0
 have ib4 : ¬ ((0 : Int32) < 0 ∨ cl4.slots.size ≤ ((0 : Int32)).toNatClampNeg) := inb_of S4 ⟨by decide, by decide⟩
 refine Home.go (X0.baloadBytes hx (j := (0 : Int32)) (v := (.int (113 : Int32))) (by rw [e0]; exact Ar4.1) (State.isArrayOf_alike hZ.alike Ar4.2.1) Ar4.2.2 ib4 (Has.at H4 ib4 rfl) rfl rfl (hb hby d18_17)) ?_
 refine Home.run X0 hx hby sg18_18_2 (pc' := 20) (L' := #[.val (.ref o0), .val (.ref sv_QUARTER_id_value), .val (.int (0 : Int32))]) (S' := [(.int (0 : Int32)), (.ref sv_QUARTER_id_value), (.int (113 : Int32))]) rfl ?_
 obtain ⟨cl5, Ar5, q5, S5, M5, H5, G5⟩ := id (V_sv_QUARTER_id_value.ext O0.2)
 have ib5 : ¬ ((0 : Int32) < 0 ∨ cl5.slots.size ≤ ((0 : Int32)).toNatClampNeg) := inb_of S5 ⟨by decide, by decide⟩
 refine Home.go (X0.baloadBytes hx (j := (0 : Int32)) (v := (.int (113 : Int32))) (by rw [e0]; exact Ar5.1) (State.isArrayOf_alike hZ.alike Ar5.2.1) Ar5.2.2 ib5 (Has.at H5 ib5 rfl) rfl rfl (hb hby d18_20)) ?_
 show Home s₁ (mkF m 21 #[.val (.ref o0), .val (.ref sv_QUARTER_id_value), .val (.int (0 : Int32))] [(.int (113 : Int32)), (.int (113 : Int32))])
 refine Home.go (fun _ => XS.icmpYes X0.here hx rfl (pc0 := 21) (pc' := 26) rfl (hb hby d18_21) rfl (teq (by decide)).1 (by decide) (by decide)) ?_
 refine Home.run X0 hx hby sg18_26_4 (pc' := 11) (L' := #[.val (.ref o0), .val (.ref sv_QUARTER_id_value), .val (.int (1 : Int32))]) (S' := [(.ref o0), (.int (1 : Int32))]) rfl ?_
 obtain ⟨cl6, Ar6, q6, S6, M6, H6, G6⟩ := id V_o0
 refine Home.go (own_alen X0 hx hZ e0 Ar6 S6 M6 rfl rfl (hb hby d18_11)) ?_
 refine Home.go (fun _ => XS.icmpNo X0.here hx rfl (hb hby d18_12) rfl (tlt (by decide)).2.1) ?_
 refine Home.run X0 hx hby sg18_15_2 (pc' := 17) (L' := #[.val (.ref o0), .val (.ref sv_QUARTER_id_value), .val (.int (1 : Int32))]) (S' := [(.int (1 : Int32)), (.ref o0)]) rfl ?_
 obtain ⟨cl7, Ar7, q7, S7, M7, H7, G7⟩ := id V_o0
 have ib7 : ¬ ((1 : Int32) < 0 ∨ cl7.slots.size ≤ ((1 : Int32)).toNatClampNeg) := inb_of S7 ⟨by decide, by decide⟩
 refine Home.go (X0.baloadBytes hx (j := (1 : Int32)) (v := (.int (117 : Int32))) (by rw [e0]; exact Ar7.1) (State.isArrayOf_alike hZ.alike Ar7.2.1) Ar7.2.2 ib7 (Has.at H7 ib7 rfl) rfl rfl (hb hby d18_17)) ?_
 show Home s₁ (mkF m 18 #[.val (.ref o0), .val (.ref sv_QUARTER_id_value), .val (.int (1 : Int32))] [(.int (117 : Int32))])
 refine Home.run X0 hx hby sg18_18_2 (pc' := 20) (L' := #[.val (.ref o0), .val (.ref sv_QUARTER_id_value), .val (.int (1 : Int32))]) (S' := [(.int (1 : Int32)), (.ref sv_QUARTER_id_value), (.int (117 : Int32))]) rfl ?_
 obtain ⟨cl8, Ar8, q8, S8, M8, H8, G8⟩ := id (V_sv_QUARTER_id_value.ext O0.2)
 have ib8 : ¬ ((1 : Int32) < 0 ∨ cl8.slots.size ≤ ((1 : Int32)).toNatClampNeg) := inb_of S8 ⟨by decide, by decide⟩
 refine Home.go (X0.baloadBytes hx (j := (1 : Int32)) (v := (.int (117 : Int32))) (by rw [e0]; exact Ar8.1) (State.isArrayOf_alike hZ.alike Ar8.2.1) Ar8.2.2 ib8 (Has.at H8 ib8 rfl) rfl rfl (hb hby d18_20)) ?_
 refine Home.go (fun _ => XS.icmpYes X0.here hx rfl (pc0 := 21) (pc' := 26) rfl (hb hby d18_21) rfl (teq (by decide)).1 (by decide) (by decide)) ?_
 refine Home.run X0 hx hby sg18_26_4 (pc' := 11) (L' := #[.val (.ref o0), .val (.ref sv_QUARTER_id_value), .val (.int (2 : Int32))]) (S' := [(.ref o0), (.int (2 : Int32))]) rfl ?_
 obtain ⟨cl9, Ar9, q9, S9, M9, H9, G9⟩ := id V_o0
 refine Home.go (own_alen X0 hx hZ e0 Ar9 S9 M9 rfl rfl (hb hby d18_11)) ?_
 show Home s₁ (mkF m 12 #[.val (.ref o0), .val (.ref sv_QUARTER_id_value), .val (.int (2 : Int32))] [(.int (7 : Int32)), (.int (2 : Int32))])
 refine Home.go (fun _ => XS.icmpNo X0.here hx rfl (hb hby d18_12) rfl (tlt (by decide)).2.1) ?_
 refine Home.run X0 hx hby sg18_15_2 (pc' := 17) (L' := #[.val (.ref o0), .val (.ref sv_QUARTER_id_value), .val (.int (2 : Int32))]) (S' := [(.int (2 : Int32)), (.ref o0)]) rfl ?_
 obtain ⟨cl10, Ar10, q10, S10, M10, H10, G10⟩ := id V_o0
 have ib10 : ¬ ((2 : Int32) < 0 ∨ cl10.slots.size ≤ ((2 : Int32)).toNatClampNeg) := inb_of S10 ⟨by decide, by decide⟩
 refine Home.go (X0.baloadBytes hx (j := (2 : Int32)) (v := (.int (97 : Int32))) (by rw [e0]; exact Ar10.1) (State.isArrayOf_alike hZ.alike Ar10.2.1) Ar10.2.2 ib10 (Has.at H10 ib10 rfl) rfl rfl (hb hby d18_17)) ?_
 refine Home.run X0 hx hby sg18_18_2 (pc' := 20) (L' := #[.val (.ref o0), .val (.ref sv_QUARTER_id_value), .val (.int (2 : Int32))]) (S' := [(.int (2 : Int32)), (.ref sv_QUARTER_id_value), (.int (97 : Int32))]) rfl ?_
 obtain ⟨cl11, Ar11, q11, S11, M11, H11, G11⟩ := id (V_sv_QUARTER_id_value.ext O0.2)
 have ib11 : ¬ ((2 : Int32) < 0 ∨ cl11.slots.size ≤ ((2 : Int32)).toNatClampNeg) := inb_of S11 ⟨by decide, by decide⟩
 refine Home.go (X0.baloadBytes hx (j := (2 : Int32)) (v := (.int (97 : Int32))) (by rw [e0]; exact Ar11.1) (State.isArrayOf_alike hZ.alike Ar11.2.1) Ar11.2.2 ib11 (Has.at H11 ib11 rfl) rfl rfl (hb hby d18_20)) ?_
 show Home s₁ (mkF m 21 #[.val (.ref o0), .val (.ref sv_QUARTER_id_value), .val (.int (2 : Int32))] [(.int (97 : Int32)), (.int (97 : Int32))])
 refine Home.go (fun _ => XS.icmpYes X0.here hx rfl (pc0 := 21) (pc' := 26) rfl (hb hby d18_21) rfl (teq (by decide)).1 (by decide) (by decide)) ?_
 refine Home.run X0 hx hby sg18_26_4 (pc' := 11) (L' := #[.val (.ref o0), .val (.ref sv_QUARTER_id_value), .val (.int (3 : Int32))]) (S' := [(.ref o0), (.int (3 : Int32))]) rfl ?_
 obtain ⟨cl12, Ar12, q12, S12, M12, H12, G12⟩ := id V_o0
 refine Home.go (own_alen X0 hx hZ e0 Ar12 S12 M12 rfl rfl (hb hby d18_11)) ?_
 refine Home.go (fun _ => XS.icmpNo X0.here hx rfl (hb hby d18_12) rfl (tlt (by decide)).2.1) ?_
 refine Home.run X0 hx hby sg18_15_2 (pc' := 17) (L' := #[.val (.ref o0), .val (.ref sv_QUARTER_id_value), .val (.int (3 : Int32))]) (S' := [(.int (3 : Int32)), (.ref o0)]) rfl ?_
 obtain ⟨cl13, Ar13, q13, S13, M13, H13, G13⟩ := id V_o0
 have ib13 : ¬ ((3 : Int32) < 0 ∨ cl13.slots.size ≤ ((3 : Int32)).toNatClampNeg) := inb_of S13 ⟨by decide, by decide⟩
 refine Home.go (X0.baloadBytes hx (j := (3 : Int32)) (v := (.int (114 : Int32))) (by rw [e0]; exact Ar13.1) (State.isArrayOf_alike hZ.alike Ar13.2.1) Ar13.2.2 ib13 (Has.at H13 ib13 rfl) rfl rfl (hb hby d18_17)) ?_
 show Home s₁ (mkF m 18 #[.val (.ref o0), .val (.ref sv_QUARTER_id_value), .val (.int (3 : Int32))] [(.int (114 : Int32))])
 refine Home.run X0 hx hby sg18_18_2 (pc' := 20) (L' := #[.val (.ref o0), .val (.ref sv_QUARTER_id_value), .val (.int (3 : Int32))]) (S' := [(.int (3 : Int32)), (.ref sv_QUARTER_id_value), (.int (114 : Int32))]) rfl ?_
 obtain ⟨cl14, Ar14, q14, S14, M14, H14, G14⟩ := id (V_sv_QUARTER_id_value.ext O0.2)
 have ib14 : ¬ ((3 : Int32) < 0 ∨ cl14.slots.size ≤ ((3 : Int32)).toNatClampNeg) := inb_of S14 ⟨by decide, by decide⟩
 refine Home.go (X0.baloadBytes hx (j := (3 : Int32)) (v := (.int (114 : Int32))) (by rw [e0]; exact Ar14.1) (State.isArrayOf_alike hZ.alike Ar14.2.1) Ar14.2.2 ib14 (Has.at H14 ib14 rfl) rfl rfl (hb hby d18_20)) ?_
 refine Home.go (fun _ => XS.icmpYes X0.here hx rfl (pc0 := 21) (pc' := 26) rfl (hb hby d18_21) rfl (teq (by decide)).1 (by decide) (by decide)) ?_
 refine Home.run X0 hx hby sg18_26_4 (pc' := 11) (L' := #[.val (.ref o0), .val (.ref sv_QUARTER_id_value), .val (.int (4 : Int32))]) (S' := [(.ref o0), (.int (4 : Int32))]) rfl ?_
 obtain ⟨cl15, Ar15, q15, S15, M15, H15, G15⟩ := id V_o0
 refine Home.go (own_alen X0 hx hZ e0 Ar15 S15 M15 rfl rfl (hb hby d18_11)) ?_
 show Home s₁ (mkF m 12 #[.val (.ref o0), .val (.ref sv_QUARTER_id_value), .val (.int (4 : Int32))] [(.int (7 : Int32)), (.int (4 : Int32))])
 refine Home.go (fun _ => XS.icmpNo X0.here hx rfl (hb hby d18_12) rfl (tlt (by decide)).2.1) ?_
 refine Home.run X0 hx hby sg18_15_2 (pc' := 17) (L' := #[.val (.ref o0), .val (.ref sv_QUARTER_id_value), .val (.int (4 : Int32))]) (S' := [(.int (4 : Int32)), (.ref o0)]) rfl ?_
 obtain ⟨cl16, Ar16, q16, S16, M16, H16, G16⟩ := id V_o0
 have ib16 : ¬ ((4 : Int32) < 0 ∨ cl16.slots.size ≤ ((4 : Int32)).toNatClampNeg) := inb_of S16 ⟨by decide, by decide⟩
 refine Home.go (X0.baloadBytes hx (j := (4 : Int32)) (v := (.int (116 : Int32))) (by rw [e0]; exact Ar16.1) (State.isArrayOf_alike hZ.alike Ar16.2.1) Ar16.2.2 ib16 (Has.at H16 ib16 rfl) rfl rfl (hb hby d18_17)) ?_
 refine Home.run X0 hx hby sg18_18_2 (pc' := 20) (L' := #[.val (.ref o0), .val (.ref sv_QUARTER_id_value), .val (.int (4 : Int32))]) (S' := [(.int (4 : Int32)), (.ref sv_QUARTER_id_value), (.int (116 : Int32))]) rfl ?_
 obtain ⟨cl17, Ar17, q17, S17, M17, H17, G17⟩ := id (V_sv_QUARTER_id_value.ext O0.2)
 have ib17 : ¬ ((4 : Int32) < 0 ∨ cl17.slots.size ≤ ((4 : Int32)).toNatClampNeg) := inb_of S17 ⟨by decide, by decide⟩
 refine Home.go (X0.baloadBytes hx (j := (4 : Int32)) (v := (.int (116 : Int32))) (by rw [e0]; exact Ar17.1) (State.isArrayOf_alike hZ.alike Ar17.2.1) Ar17.2.2 ib17 (Has.at H17 ib17 rfl) rfl rfl (hb hby d18_20)) ?_
 show Home s₁ (mkF m 21 #[.val (.ref o0), .val (.ref sv_QUARTER_id_value), .val (.int (4 : Int32))] [(.int (116 : Int32)), (.int (116 : Int32))])
 refine Home.go (fun _ => XS.icmpYes X0.here hx rfl (pc0 := 21) (pc' := 26) rfl (hb hby d18_21) rfl (teq (by decide)).1 (by decide) (by decide)) ?_
 refine Home.run X0 hx hby sg18_26_4 (pc' := 11) (L' := #[.val (.ref o0), .val (.ref sv_QUARTER_id_value), .val (.int (5 : Int32))]) (S' := [(.ref o0), (.int (5 : Int32))]) rfl ?_
 obtain ⟨cl18, Ar18, q18, S18, M18, H18, G18⟩ := id V_o0
 refine Home.go (own_alen X0 hx hZ e0 Ar18 S18 M18 rfl rfl (hb hby d18_11)) ?_
 refine Home.go (fun _ => XS.icmpNo X0.here hx rfl (hb hby d18_12) rfl (tlt (by decide)).2.1) ?_
 refine Home.run X0 hx hby sg18_15_2 (pc' := 17) (L' := #[.val (.ref o0), .val (.ref sv_QUARTER_id_value), .val (.int (5 : Int32))]) (S' := [(.int (5 : Int32)), (.ref o0)]) rfl ?_
 obtain ⟨cl19, Ar19, q19, S19, M19, H19, G19⟩ := id V_o0
 have ib19 : ¬ ((5 : Int32) < 0 ∨ cl19.slots.size ≤ ((5 : Int32)).toNatClampNeg) := inb_of S19 ⟨by decide, by decide⟩
 refine Home.go (X0.baloadBytes hx (j := (5 : Int32)) (v := (.int (101 : Int32))) (by rw [e0]; exact Ar19.1) (State.isArrayOf_alike hZ.alike Ar19.2.1) Ar19.2.2 ib19 (Has.at H19 ib19 rfl) rfl rfl (hb hby d18_17)) ?_
 show Home s₁ (mkF m 18 #[.val (.ref o0), .val (.ref sv_QUARTER_id_value), .val (.int (5 : Int32))] [(.int (101 : Int32))])
 refine Home.run X0 hx hby sg18_18_2 (pc' := 20) (L' := #[.val (.ref o0), .val (.ref sv_QUARTER_id_value), .val (.int (5 : Int32))]) (S' := [(.int (5 : Int32)), (.ref sv_QUARTER_id_value), (.int (101 : Int32))]) rfl ?_
 obtain ⟨cl20, Ar20, q20, S20, M20, H20, G20⟩ := id (V_sv_QUARTER_id_value.ext O0.2)
 have ib20 : ¬ ((5 : Int32) < 0 ∨ cl20.slots.size ≤ ((5 : Int32)).toNatClampNeg) := inb_of S20 ⟨by decide, by decide⟩
 refine Home.go (X0.baloadBytes hx (j := (5 : Int32)) (v := (.int (101 : Int32))) (by rw [e0]; exact Ar20.1) (State.isArrayOf_alike hZ.alike Ar20.2.1) Ar20.2.2 ib20 (Has.at H20 ib20 rfl) rfl rfl (hb hby d18_20)) ?_
 refine Home.go (fun _ => XS.icmpYes X0.here hx rfl (pc0 := 21) (pc' := 26) rfl (hb hby d18_21) rfl (teq (by decide)).1 (by decide) (by decide)) ?_
 refine Home.run X0 hx hby sg18_26_4 (pc' := 11) (L' := #[.val (.ref o0), .val (.ref sv_QUARTER_id_value), .val (.int (6 : Int32))]) (S' := [(.ref o0), (.int (6 : Int32))]) rfl ?_
 obtain ⟨cl21, Ar21, q21, S21, M21, H21, G21⟩ := id V_o0
 refine Home.go (own_alen X0 hx hZ e0 Ar21 S21 M21 rfl rfl (hb hby d18_11)) ?_
 show Home s₁ (mkF m 12 #[.val (.ref o0), .val (.ref sv_QUARTER_id_value), .val (.int (6 : Int32))] [(.int (7 : Int32)), (.int (6 : Int32))])
 refine Home.go (fun _ => XS.icmpNo X0.here hx rfl (hb hby d18_12) rfl (tlt (by decide)).2.1) ?_
 refine Home.run X0 hx hby sg18_15_2 (pc' := 17) (L' := #[.val (.ref o0), .val (.ref sv_QUARTER_id_value), .val (.int (6 : Int32))]) (S' := [(.int (6 : Int32)), (.ref o0)]) rfl ?_
 obtain ⟨cl22, Ar22, q22, S22, M22, H22, G22⟩ := id V_o0
 have ib22 : ¬ ((6 : Int32) < 0 ∨ cl22.slots.size ≤ ((6 : Int32)).toNatClampNeg) := inb_of S22 ⟨by decide, by decide⟩
 refine Home.go (X0.baloadBytes hx (j := (6 : Int32)) (v := (.int (114 : Int32))) (by rw [e0]; exact Ar22.1) (State.isArrayOf_alike hZ.alike Ar22.2.1) Ar22.2.2 ib22 (Has.at H22 ib22 rfl) rfl rfl (hb hby d18_17)) ?_
 refine Home.run X0 hx hby sg18_18_2 (pc' := 20) (L' := #[.val (.ref o0), .val (.ref sv_QUARTER_id_value), .val (.int (6 : Int32))]) (S' := [(.int (6 : Int32)), (.ref sv_QUARTER_id_value), (.int (114 : Int32))]) rfl ?_
 obtain ⟨cl23, Ar23, q23, S23, M23, H23, G23⟩ := id (V_sv_QUARTER_id_value.ext O0.2)
 have ib23 : ¬ ((6 : Int32) < 0 ∨ cl23.slots.size ≤ ((6 : Int32)).toNatClampNeg) := inb_of S23 ⟨by decide, by decide⟩
 refine Home.go (X0.baloadBytes hx (j := (6 : Int32)) (v := (.int (114 : Int32))) (by rw [e0]; exact Ar23.1) (State.isArrayOf_alike hZ.alike Ar23.2.1) Ar23.2.2 ib23 (Has.at H23 ib23 rfl) rfl rfl (hb hby d18_20)) ?_
 show Home s₁ (mkF m 21 #[.val (.ref o0), .val (.ref sv_QUARTER_id_value), .val (.int (6 : Int32))] [(.int (114 : Int32)), (.int (114 : Int32))])
 refine Home.go (fun _ => XS.icmpYes X0.here hx rfl (pc0 := 21) (pc' := 26) rfl (hb hby d18_21) rfl (teq (by decide)).1 (by decide) (by decide)) ?_
 refine Home.run X0 hx hby sg18_26_4 (pc' := 11) (L' := #[.val (.ref o0), .val (.ref sv_QUARTER_id_value), .val (.int (7 : Int32))]) (S' := [(.ref o0), (.int (7 : Int32))]) rfl ?_
 obtain ⟨cl24, Ar24, q24, S24, M24, H24, G24⟩ := id V_o0
 refine Home.go (own_alen X0 hx hZ e0 Ar24 S24 M24 rfl rfl (hb hby d18_11)) ?_
 refine Home.go (fun _ => XS.icmpYes X0.here hx rfl (pc0 := 12) (pc' := 32) rfl (hb hby d18_12) rfl (flt (by decide)).2.1 (by decide) (by decide)) ?_
 refine Home.run X0 hx hby sg18_32_1 (pc' := 33) (L' := #[.val (.ref o0), .val (.ref sv_QUARTER_id_value), .val (.int (7 : Int32))]) (S' := [(.int (1 : Int32))]) rfl ?_
 exact Home.retN X0 hx hlk (t := .boolean) hret (by simp) (hb hby d18_33) ⟨congrArg some (congrArg Value.int (by first | rfl | exact nar_i2c _ | exact nar_i2b _)), rfl, e0⟩ (by decide) (by decide)
theorem rm17_2 (l : Launch) (Z : State) (a0 : Array Value) (hw : HW a0 Z) (ws : List Jvm.Cond) (o0 sv_QUARTER_id : Addr) (sv_COMPACT_STRINGS : Int32) (p3 sv_QUARTER_id_value : Addr) (k_p3 k_sv_QUARTER_id_value : ClassId) (h0 : Heap) (n0 : Nat) (O0 : Old Z n0 h0) (E_sv_QUARTER_id : Exa Z Z.heap sv_QUARTER_id "java/lang/String") (S_COMPACT_STRINGS : Sta Z Z.heap "java/lang/String" "COMPACT_STRINGS" "Z" (.int sv_COMPACT_STRINGS)) (hCS : ¬ (sv_COMPACT_STRINGS = (0 : Int32))) (F_coder_o0 : Fld Z h0 o0 "java/lang/String" "coder" "B" (.int (0 : Int32))) (F_coder_sv_QUARTER_id : Fld Z Z.heap sv_QUARTER_id "java/lang/String" "coder" "B" (.int (0 : Int32))) (F_value_o0 : Fld Z h0 o0 "java/lang/String" "value" "[B" (.ref p3)) (F_value_sv_QUARTER_id : Fld Z Z.heap sv_QUARTER_id "java/lang/String" "value" "[B" (.ref sv_QUARTER_id_value)) (V_p3 : Arv Z h0 p3 k_p3 .byte (7 : Int32) [(.int (113 : Int32)), (.int (117 : Int32)), (.int (97 : Int32)), (.int (114 : Int32)), (.int (116 : Int32)), (.int (101 : Int32)), (.int (114 : Int32))] (.int (0 : Int32))) (V_sv_QUARTER_id_value : Arv Z Z.heap sv_QUARTER_id_value k_sv_QUARTER_id_value .byte (7 : Int32) [(.int (113 : Int32)), (.int (117 : Int32)), (.int (97 : Int32)), (.int (114 : Int32)), (.int (116 : Int32)), (.int (101 : Int32)), (.int (114 : Int32))] (.int (0 : Int32))) :
    Con l Z (⟨"java/lang/String", "equals", "(Ljava/lang/Object;)Z"⟩ : MethodName) jdk_42_method_66_code 3 (some .boolean) ws ({ frames := 1, cells := 0, slots := 0, locals := 14 } : Room) #[(.ref o0), (.ref sv_QUARTER_id)] h0 (Pur (some (.int (1 : Int32))) h0) := by
 refine own_body (plainFor_of_name own_pn7) (fun m => ef_rm17_2 m o0 sv_QUARTER_id) ?_
 intro p e s m below meth c s₁ hx hby hlk hml hret hZ hown hnm X0 e0
 have N0 := Fr.nil n0
 refine Home.run X0 hx hby sg17_0_2 (pc' := 2) (L' := #[.val (.ref o0), .val (.ref sv_QUARTER_id), .unset]) (S' := [(.ref sv_QUARTER_id), (.ref o0)]) rfl ?_
 by_cases ha1 : o0 = sv_QUARTER_id
 ·
  refine Home.go (fun _ => Jvm.RoadKit.acmp X0 hx rfl rfl rfl (pc0 := 2) (pc' := 5) (same := true) rfl (hb hby d17_2) rfl (decide_eq_true (congrArg Value.ref ha1)) (by decide) (by decide)) ?_
  show Home s₁ (mkF m 5 #[.val (.ref o0), .val (.ref sv_QUARTER_id), .unset] [])
  refine Home.run X0 hx hby sg17_5_1 (pc' := 6) (L' := #[.val (.ref o0), .val (.ref sv_QUARTER_id), .unset]) (S' := [(.int (1 : Int32))]) rfl ?_
  exact Home.retN X0 hx hlk (t := .boolean) hret (by simp) (hb hby d17_6) ⟨congrArg some (congrArg Value.int (by first | rfl | exact nar_i2c _ | exact nar_i2b _)), rfl, e0⟩ (by decide) (by decide)
 ·
  refine Home.go (fun _ => Jvm.RoadKit.acmp X0 hx rfl rfl rfl (pc0 := 2) (pc' := 7) (same := false) rfl (hb hby d17_2) rfl (decide_eq_false fun q => ha1 (Value.ref.inj q)) (by decide) (by decide)) ?_
  show Home s₁ (mkF m 7 #[.val (.ref o0), .val (.ref sv_QUARTER_id), .unset] [])
  refine Home.run X0 hx hby sg17_7_1 (pc' := 8) (L' := #[.val (.ref o0), .val (.ref sv_QUARTER_id), .unset]) (S' := [(.ref sv_QUARTER_id)]) rfl ?_
  refine Home.st (instY X0 hx hZ hown (own_w129 hw) e0 (Ins.self (E_sv_QUARTER_id.ext O0.2)) rfl rfl (hb hby d17_8)) fun T2 X2 e2 => ?_
  refine Home.go (fun _ => XS.ifNo X2.here hx rfl (hb hby d17_11) rfl ((if0 _ _).trans (feq (by decide)).1)) ?_
  refine Home.run X2 hx hby sg17_14_1 (pc' := 15) (L' := #[.val (.ref o0), .val (.ref sv_QUARTER_id), .unset]) (S' := [(.ref sv_QUARTER_id)]) rfl ?_
  refine Home.st (castY X2 hx hZ hown (own_w129 hw) e2 (Ins.self (E_sv_QUARTER_id.ext O0.2)) rfl rfl (hb hby d17_15)) fun T3 X3 e3 => ?_
  refine Home.run X3 hx hby sg17_18_1 (pc' := 19) (L' := #[.val (.ref o0), .val (.ref sv_QUARTER_id), .val (.ref sv_QUARTER_id)]) (S' := []) rfl ?_
  refine Home.st (getS2 X3 hx hZ hown (host := "") (Or.inl (own_w130 hw)) Via.refl e3 (S_COMPACT_STRINGS.ext O0.2) rfl (hb hby d17_19)) fun T4 X4 e4 => ?_
  refine Home.go (fun _ => XS.ifNo X4.here hx rfl (hb hby d17_22) rfl ((if0 _ _).trans (feq hCS).1)) ?_
  refine Home.run X4 hx hby sg17_25_1 (pc' := 26) (L' := #[.val (.ref o0), .val (.ref sv_QUARTER_id), .val (.ref sv_QUARTER_id)]) (S' := [(.ref o0)]) rfl ?_
  refine Home.st (getF X4 hx hZ hown (host := "") (Or.inl (own_w131 hw)) Via.refl e4 F_coder_o0 rfl rfl (hb hby d17_26)) fun T5 X5 e5 => ?_
  show Home T5 (mkF m 29 #[.val (.ref o0), .val (.ref sv_QUARTER_id), .val (.ref sv_QUARTER_id)] [(.int (0 : Int32))])
  refine Home.run X5 hx hby sg17_29_1 (pc' := 30) (L' := #[.val (.ref o0), .val (.ref sv_QUARTER_id), .val (.ref sv_QUARTER_id)]) (S' := [(.ref sv_QUARTER_id), (.int (0 : Int32))]) rfl ?_
  refine Home.st (getF X5 hx hZ hown (host := "") (Or.inl (own_w131 hw)) Via.refl e5 (F_coder_sv_QUARTER_id.ext O0.2) rfl rfl (hb hby d17_30)) fun T6 X6 e6 => ?_
  refine Home.go (fun _ => XS.icmpNo X6.here hx rfl (hb hby d17_33) rfl (teq (by decide)).2) ?_
  refine Home.run X6 hx hby sg17_36_1 (pc' := 37) (L' := #[.val (.ref o0), .val (.ref sv_QUARTER_id), .val (.ref sv_QUARTER_id)]) (S' := [(.ref o0)]) rfl ?_
  refine Home.st (getF X6 hx hZ hown (host := "") (Or.inl (own_w132 hw)) Via.refl e6 F_value_o0 rfl rfl (hb hby d17_37)) fun T7 X7 e7 => ?_
  refine Home.run X7 hx hby sg17_40_1 (pc' := 41) (L' := #[.val (.ref o0), .val (.ref sv_QUARTER_id), .val (.ref sv_QUARTER_id)]) (S' := [(.ref sv_QUARTER_id), (.ref p3)]) rfl ?_
  refine Home.st (getF X7 hx hZ hown (host := "") (Or.inl (own_w132 hw)) Via.refl e7 (F_value_sv_QUARTER_id.ext O0.2) rfl rfl (hb hby d17_41)) fun T8 X8 e8 => ?_
  refine Home.st (own_pure (own_static X8 hx hZ hown (own_w133 hw) (own_w134 hw) (own_w135 hw) (own_w136 hw) (by decide) (rm18_2 l Z a0 hw [] p3 sv_QUARTER_id_value k_p3 k_sv_QUARTER_id_value h0 n0 O0 V_p3 V_sv_QUARTER_id_value) e8 rfl (by rw [hml]; rfl) (argsL := [(.ref p3), (.ref sv_QUARTER_id_value)]) (rest := []) (lenOf own_pd11 rfl) rfl rfl (W := 0) (by exact hW0) (by decide) (by decide) (hb hby d17_44) (by decide) (by decide))) fun T9 X9 e9 => ?_
  show Home T9 (mkF m 47 #[.val (.ref o0), .val (.ref sv_QUARTER_id), .val (.ref sv_QUARTER_id)] [(.int (1 : Int32))])
  refine Home.go (fun _ => XS.ifNo X9.here hx rfl (hb hby d17_47) rfl ((if0 _ _).trans (feq (by decide)).1)) ?_
  refine Home.run X9 hx hby sg17_50_2 (pc' := 55) (L' := #[.val (.ref o0), .val (.ref sv_QUARTER_id), .val (.ref sv_QUARTER_id)]) (S' := [(.int (1 : Int32))]) rfl ?_
  exact Home.retN X9 hx hlk (t := .boolean) hret (by simp) (hb hby d17_55) ⟨congrArg some (congrArg Value.int (by first | rfl | exact nar_i2c _ | exact nar_i2b _)), rfl, e9⟩ (by decide) (by decide)
theorem rm19_1 (l : Launch) (Z : State) (a0 : Array Value) (hw : HW a0 Z) (ws : List Jvm.Cond) (sv_QUARTER sv_QUARTER_id : Addr) (h0 : Heap) (n0 : Nat) (O0 : Old Z n0 h0) (F_id_sv_QUARTER : Fld Z Z.heap sv_QUARTER "com/example/tapline/tapline/rules/ReturnPeriod" "id" "Ljava/lang/String;" (.ref sv_QUARTER_id)) :
    Con l Z (⟨"com/example/tapline/tapline/rules/ReturnPeriod", "id", "()Ljava/lang/String;"⟩ : MethodName) prog_74_method_4_code 1 (some (.object "java/lang/String")) ws ({ frames := 0, cells := 0, slots := 0, locals := 0 } : Room) #[(.ref sv_QUARTER)] h0 (Pur (some (.ref sv_QUARTER_id)) h0) := by
 refine own_body (plainFor_of_name own_pn3) (fun m => ef_rm19_1 m sv_QUARTER) ?_
 intro p e s m below meth c s₁ hx hby hlk hml hret hZ hown hnm X0 e0
 have N0 := Fr.nil n0
 refine Home.run X0 hx hby sg19_0_1 (pc' := 1) (L' := #[.val (.ref sv_QUARTER)]) (S' := [(.ref sv_QUARTER)]) rfl ?_
 refine Home.st (getF X0 hx hZ hown (host := "") (Or.inl (own_w47 hw)) Via.refl e0 (F_id_sv_QUARTER.ext O0.2) rfl rfl (hb hby d19_1)) fun T1 X1 e1 => ?_
 exact Home.retR X1 hx hlk hret rfl rfl (hb hby d19_4) ⟨rfl, rfl, e1⟩ (by decide) (by decide)
theorem rm18_3 (l : Launch) (Z : State) (a0 : Array Value) (hw : HW a0 Z) (ws : List Jvm.Cond) (sv_MONTH_id_value sv_QUARTER_id_value : Addr) (k_sv_MONTH_id_value k_sv_QUARTER_id_value : ClassId) (h0 : Heap) (n0 : Nat) (O0 : Old Z n0 h0) (V_sv_MONTH_id_value : Arv Z Z.heap sv_MONTH_id_value k_sv_MONTH_id_value .byte (5 : Int32) [(.int (109 : Int32)), (.int (111 : Int32)), (.int (110 : Int32)), (.int (116 : Int32)), (.int (104 : Int32))] (.int (0 : Int32))) (V_sv_QUARTER_id_value : Arv Z Z.heap sv_QUARTER_id_value k_sv_QUARTER_id_value .byte (7 : Int32) [(.int (113 : Int32)), (.int (117 : Int32)), (.int (97 : Int32)), (.int (114 : Int32)), (.int (116 : Int32)), (.int (101 : Int32)), (.int (114 : Int32))] (.int (0 : Int32))) :
    Con l Z (⟨"java/lang/StringLatin1", "equals", "([B[B)Z"⟩ : MethodName) jdk_43_method_13_code 3 (some .boolean) ws ({ frames := 0, cells := 0, slots := 0, locals := 0 } : Room) #[(.ref sv_MONTH_id_value), (.ref sv_QUARTER_id_value)] h0 (Pur (some (.int (0 : Int32))) h0) := by
 refine own_body (plainFor_of_name own_pn6) (fun m => ef_rm18_3 m sv_MONTH_id_value sv_QUARTER_id_value) ?_
 intro p e s m below meth c s₁ hx hby hlk hml hret hZ hown hnm X0 e0
 have N0 := Fr.nil n0
 refine Home.run X0 hx hby sg18_0_1 (pc' := 1) (L' := #[.val (.ref sv_MONTH_id_value), .val (.ref sv_QUARTER_id_value), .unset]) (S' := [(.ref sv_MONTH_id_value)]) rfl ?_
 obtain ⟨cl1, Ar1, q1, S1, M1, H1, G1⟩ := id (V_sv_MONTH_id_value.ext O0.2)
 refine Home.go (own_alen X0 hx hZ e0 Ar1 S1 M1 rfl rfl (hb hby d18_1)) ?_
 refine Home.run X0 hx hby sg18_2_1 (pc' := 3) (L' := #[.val (.ref sv_MONTH_id_value), .val (.ref sv_QUARTER_id_value), .unset]) (S' := [(.ref sv_QUARTER_id_value), (.int (5 : Int32))]) rfl ?_
 obtain ⟨cl2, Ar2, q2, S2, M2, H2, G2⟩ := id (V_sv_QUARTER_id_value.ext O0.2)
 refine Home.go (own_alen X0 hx hZ e0 Ar2 S2 M2 rfl rfl (hb hby d18_3)) ?_
 refine Home.go (fun _ => XS.icmpYes X0.here hx rfl (pc0 := 4) (pc' := 34) rfl (hb hby d18_4) rfl (feq (by decide)).2 (by decide) (by decide)) ?_
 refine Home.run X0 hx hby sg18_34_1 (pc' := 35) (L' := #[.val (.ref sv_MONTH_id_value), .val (.ref sv_QUARTER_id_value), .unset]) (S' := [(.int (0 : Int32))]) rfl ?_
 exact Home.retN X0 hx hlk (t := .boolean) hret (by simp) (hb hby d18_35) ⟨congrArg some (congrArg Value.int (by first | rfl | exact nar_i2c _ | exact nar_i2b _)), rfl, e0⟩ (by decide) (by decide)
theorem rm17_3 (l : Launch) (Z : State) (a0 : Array Value) (hw : HW a0 Z) (ws : List Jvm.Cond) (sv_MONTH_id sv_QUARTER_id : Addr) (sv_COMPACT_STRINGS : Int32) (sv_MONTH_id_value sv_QUARTER_id_value : Addr) (k_sv_MONTH_id_value k_sv_QUARTER_id_value : ClassId) (h0 : Heap) (n0 : Nat) (O0 : Old Z n0 h0) (ne_sv_MONTH_id_sv_QUARTER_id : sv_MONTH_id ≠ sv_QUARTER_id) (E_sv_QUARTER_id : Exa Z Z.heap sv_QUARTER_id "java/lang/String") (S_COMPACT_STRINGS : Sta Z Z.heap "java/lang/String" "COMPACT_STRINGS" "Z" (.int sv_COMPACT_STRINGS)) (hCS : ¬ (sv_COMPACT_STRINGS = (0 : Int32))) (F_coder_sv_MONTH_id : Fld Z Z.heap sv_MONTH_id "java/lang/String" "coder" "B" (.int (0 : Int32))) (F_coder_sv_QUARTER_id : Fld Z Z.heap sv_QUARTER_id "java/lang/String" "coder" "B" (.int (0 : Int32))) (F_value_sv_MONTH_id : Fld Z Z.heap sv_MONTH_id "java/lang/String" "value" "[B" (.ref sv_MONTH_id_value)) (F_value_sv_QUARTER_id : Fld Z Z.heap sv_QUARTER_id "java/lang/String" "value" "[B" (.ref sv_QUARTER_id_value)) (V_sv_MONTH_id_value : Arv Z Z.heap sv_MONTH_id_value k_sv_MONTH_id_value .byte (5 : Int32) [(.int (109 : Int32)), (.int (111 : Int32)), (.int (110 : Int32)), (.int (116 : Int32)), (.int (104 : Int32))] (.int (0 : Int32))) (V_sv_QUARTER_id_value : Arv Z Z.heap sv_QUARTER_id_value k_sv_QUARTER_id_value .byte (7 : Int32) [(.int (113 : Int32)), (.int (117 : Int32)), (.int (97 : Int32)), (.int (114 : Int32)), (.int (116 : Int32)), (.int (101 : Int32)), (.int (114 : Int32))] (.int (0 : Int32))) :
    Con l Z (⟨"java/lang/String", "equals", "(Ljava/lang/Object;)Z"⟩ : MethodName) jdk_42_method_66_code 3 (some .boolean) ws ({ frames := 1, cells := 0, slots := 0, locals := 14 } : Room) #[(.ref sv_MONTH_id), (.ref sv_QUARTER_id)] h0 (Pur (some (.int (0 : Int32))) h0) := by
 refine own_body (plainFor_of_name own_pn7) (fun m => ef_rm17_3 m sv_MONTH_id sv_QUARTER_id) ?_
 intro p e s m below meth c s₁ hx hby hlk hml hret hZ hown hnm X0 e0
 have N0 := Fr.nil n0
 refine Home.run X0 hx hby sg17_0_2 (pc' := 2) (L' := #[.val (.ref sv_MONTH_id), .val (.ref sv_QUARTER_id), .unset]) (S' := [(.ref sv_QUARTER_id), (.ref sv_MONTH_id)]) rfl ?_
 refine Home.go (fun _ => Jvm.RoadKit.acmp X0 hx rfl rfl rfl (pc0 := 2) (pc' := 7) (same := false) rfl (hb hby d17_2) rfl (decide_eq_false fun q => ne_sv_MONTH_id_sv_QUARTER_id (Value.ref.inj q)) (by decide) (by decide)) ?_
 show Home s₁ (mkF m 7 #[.val (.ref sv_MONTH_id), .val (.ref sv_QUARTER_id), .unset] [])
 refine Home.run X0 hx hby sg17_7_1 (pc' := 8) (L' := #[.val (.ref sv_MONTH_id), .val (.ref sv_QUARTER_id), .unset]) (S' := [(.ref sv_QUARTER_id)]) rfl ?_
 refine Home.st (instY X0 hx hZ hown (own_w129 hw) e0 (Ins.self (E_sv_QUARTER_id.ext O0.2)) rfl rfl (hb hby d17_8)) fun T1 X1 e1 => ?_
 refine Home.go (fun _ => XS.ifNo X1.here hx rfl (hb hby d17_11) rfl ((if0 _ _).trans (feq (by decide)).1)) ?_
 refine Home.run X1 hx hby sg17_14_1 (pc' := 15) (L' := #[.val (.ref sv_MONTH_id), .val (.ref sv_QUARTER_id), .unset]) (S' := [(.ref sv_QUARTER_id)]) rfl ?_
 refine Home.st (castY X1 hx hZ hown (own_w129 hw) e1 (Ins.self (E_sv_QUARTER_id.ext O0.2)) rfl rfl (hb hby d17_15)) fun T2 X2 e2 => ?_
 refine Home.run X2 hx hby sg17_18_1 (pc' := 19) (L' := #[.val (.ref sv_MONTH_id), .val (.ref sv_QUARTER_id), .val (.ref sv_QUARTER_id)]) (S' := []) rfl ?_
 refine Home.st (getS2 X2 hx hZ hown (host := "") (Or.inl (own_w130 hw)) Via.refl e2 (S_COMPACT_STRINGS.ext O0.2) rfl (hb hby d17_19)) fun T3 X3 e3 => ?_
 refine Home.go (fun _ => XS.ifNo X3.here hx rfl (hb hby d17_22) rfl ((if0 _ _).trans (feq hCS).1)) ?_
 refine Home.run X3 hx hby sg17_25_1 (pc' := 26) (L' := #[.val (.ref sv_MONTH_id), .val (.ref sv_QUARTER_id), .val (.ref sv_QUARTER_id)]) (S' := [(.ref sv_MONTH_id)]) rfl ?_
 refine Home.st (getF X3 hx hZ hown (host := "") (Or.inl (own_w131 hw)) Via.refl e3 (F_coder_sv_MONTH_id.ext O0.2) rfl rfl (hb hby d17_26)) fun T4 X4 e4 => ?_
 show Home T4 (mkF m 29 #[.val (.ref sv_MONTH_id), .val (.ref sv_QUARTER_id), .val (.ref sv_QUARTER_id)] [(.int (0 : Int32))])
 refine Home.run X4 hx hby sg17_29_1 (pc' := 30) (L' := #[.val (.ref sv_MONTH_id), .val (.ref sv_QUARTER_id), .val (.ref sv_QUARTER_id)]) (S' := [(.ref sv_QUARTER_id), (.int (0 : Int32))]) rfl ?_
 refine Home.st (getF X4 hx hZ hown (host := "") (Or.inl (own_w131 hw)) Via.refl e4 (F_coder_sv_QUARTER_id.ext O0.2) rfl rfl (hb hby d17_30)) fun T5 X5 e5 => ?_
 refine Home.go (fun _ => XS.icmpNo X5.here hx rfl (hb hby d17_33) rfl (teq (by decide)).2) ?_
 refine Home.run X5 hx hby sg17_36_1 (pc' := 37) (L' := #[.val (.ref sv_MONTH_id), .val (.ref sv_QUARTER_id), .val (.ref sv_QUARTER_id)]) (S' := [(.ref sv_MONTH_id)]) rfl ?_
 refine Home.st (getF X5 hx hZ hown (host := "") (Or.inl (own_w132 hw)) Via.refl e5 (F_value_sv_MONTH_id.ext O0.2) rfl rfl (hb hby d17_37)) fun T6 X6 e6 => ?_
 refine Home.run X6 hx hby sg17_40_1 (pc' := 41) (L' := #[.val (.ref sv_MONTH_id), .val (.ref sv_QUARTER_id), .val (.ref sv_QUARTER_id)]) (S' := [(.ref sv_QUARTER_id), (.ref sv_MONTH_id_value)]) rfl ?_
 refine Home.st (getF X6 hx hZ hown (host := "") (Or.inl (own_w132 hw)) Via.refl e6 (F_value_sv_QUARTER_id.ext O0.2) rfl rfl (hb hby d17_41)) fun T7 X7 e7 => ?_
 refine Home.st (own_pure (own_static X7 hx hZ hown (own_w133 hw) (own_w134 hw) (own_w135 hw) (own_w136 hw) (by decide) (rm18_3 l Z a0 hw [] sv_MONTH_id_value sv_QUARTER_id_value k_sv_MONTH_id_value k_sv_QUARTER_id_value h0 n0 O0 V_sv_MONTH_id_value V_sv_QUARTER_id_value) e7 rfl (by rw [hml]; rfl) (argsL := [(.ref sv_MONTH_id_value), (.ref sv_QUARTER_id_value)]) (rest := []) (lenOf own_pd11 rfl) rfl rfl (W := 0) (by exact hW0) (by decide) (by decide) (hb hby d17_44) (by decide) (by decide))) fun T8 X8 e8 => ?_
 show Home T8 (mkF m 47 #[.val (.ref sv_MONTH_id), .val (.ref sv_QUARTER_id), .val (.ref sv_QUARTER_id)] [(.int (0 : Int32))])
 refine Home.go (fun _ => XS.ifYes X8.here hx rfl (pc0 := 47) (pc' := 54) rfl (hb hby d17_47) rfl ((if0 _ _).trans (teq (by decide)).1) (by decide) (by decide)) ?_
 refine Home.run X8 hx hby sg17_54_1 (pc' := 55) (L' := #[.val (.ref sv_MONTH_id), .val (.ref sv_QUARTER_id), .val (.ref sv_QUARTER_id)]) (S' := [(.int (0 : Int32))]) rfl ?_
 exact Home.retN X8 hx hlk (t := .boolean) hret (by simp) (hb hby d17_55) ⟨congrArg some (congrArg Value.int (by first | rfl | exact nar_i2c _ | exact nar_i2b _)), rfl, e8⟩ (by decide) (by decide)
theorem rm20_1 (l : Launch) (Z : State) (a0 : Array Value) (hw : HW a0 Z) (ws : List Jvm.Cond) (sv_QUARTER_id sv__VALUES : Addr) (k_sv__VALUES : ClassId) (sv_MONTH sv_QUARTER sv_MONTH_id : Addr) (sv_COMPACT_STRINGS : Int32) (sv_MONTH_id_value sv_QUARTER_id_value : Addr) (k_sv_MONTH_id_value k_sv_QUARTER_id_value : ClassId) (h0 : Heap) (n0 : Nat) (O0 : Old Z n0 h0) (S__VALUES : Sta Z Z.heap "com/example/tapline/tapline/rules/ReturnPeriod" "$VALUES" "[Lcom/example/tapline/tapline/rules/ReturnPeriod;" (.ref sv__VALUES)) (V_sv__VALUES : Arv Z Z.heap sv__VALUES k_sv__VALUES (.object "com/example/tapline/tapline/rules/ReturnPeriod") (2 : Int32) [(.ref sv_MONTH), (.ref sv_QUARTER)] .null) (E_sv__VALUES : Exa Z Z.heap sv__VALUES "[Lcom/example/tapline/tapline/rules/ReturnPeriod;") (F_id_sv_MONTH : Fld Z Z.heap sv_MONTH "com/example/tapline/tapline/rules/ReturnPeriod" "id" "Ljava/lang/String;" (.ref sv_MONTH_id)) (E_sv_MONTH_id : Exa Z Z.heap sv_MONTH_id "java/lang/String") (E_sv_QUARTER_id : Exa Z Z.heap sv_QUARTER_id "java/lang/String") (S_COMPACT_STRINGS : Sta Z Z.heap "java/lang/String" "COMPACT_STRINGS" "Z" (.int sv_COMPACT_STRINGS)) (F_coder_sv_MONTH_id : Fld Z Z.heap sv_MONTH_id "java/lang/String" "coder" "B" (.int (0 : Int32))) (F_coder_sv_QUARTER_id : Fld Z Z.heap sv_QUARTER_id "java/lang/String" "coder" "B" (.int (0 : Int32))) (F_value_sv_MONTH_id : Fld Z Z.heap sv_MONTH_id "java/lang/String" "value" "[B" (.ref sv_MONTH_id_value)) (F_value_sv_QUARTER_id : Fld Z Z.heap sv_QUARTER_id "java/lang/String" "value" "[B" (.ref sv_QUARTER_id_value)) (V_sv_MONTH_id_value : Arv Z Z.heap sv_MONTH_id_value k_sv_MONTH_id_value .byte (5 : Int32) [(.int (109 : Int32)), (.int (111 : Int32)), (.int (110 : Int32)), (.int (116 : Int32)), (.int (104 : Int32))] (.int (0 : Int32))) (V_sv_QUARTER_id_value : Arv Z Z.heap sv_QUARTER_id_value k_sv_QUARTER_id_value .byte (7 : Int32) [(.int (113 : Int32)), (.int (117 : Int32)), (.int (97 : Int32)), (.int (114 : Int32)), (.int (116 : Int32)), (.int (101 : Int32)), (.int (114 : Int32))] (.int (0 : Int32))) (ne_sv_MONTH_id_sv_QUARTER_id : sv_MONTH_id ≠ sv_QUARTER_id) (hCS : ¬ (sv_COMPACT_STRINGS = (0 : Int32))) (F_id_sv_QUARTER : Fld Z Z.heap sv_QUARTER "com/example/tapline/tapline/rules/ReturnPeriod" "id" "Ljava/lang/String;" (.ref sv_QUARTER_id)) :
    Con l Z (⟨"com/example/tapline/tapline/rules/ReturnPeriod", "byId", "(Ljava/lang/String;)Lcom/example/tapline/tapline/rules/ReturnPeriod;"⟩ : MethodName) prog_74_method_7_code 6 (some (.object "com/example/tapline/tapline/rules/ReturnPeriod")) ws ({ frames := 2, cells := 1, slots := 2, locals := 28 } : Room) #[(.ref sv_QUARTER_id)] h0 (fun v h L => v = some (.ref sv_QUARTER) ∧ Fr n0 L ∧ Keep h0 h []) := by
 refine own_body (plainFor_of_name own_pn3) (fun m => ef_rm20_1 m sv_QUARTER_id) ?_
 intro p e s m below meth c s₁ hx hby hlk hml hret hZ hown hnm X0 e0
 have N0 := Fr.nil n0
 refine Home.run X0 hx hby sg20_0_2 (pc' := 2) (L' := #[.val (.ref sv_QUARTER_id), .val .null, .unset, .unset, .unset, .unset]) (S' := []) rfl ?_
 refine Home.call (own_static X0 hx hZ hown (own_w30 hw) (own_w31 hw) (own_w2 hw) (own_w32 hw) (by decide) (rm6_0 l Z a0 hw [] sv__VALUES k_sv__VALUES sv_MONTH sv_QUARTER h0 n0 O0 S__VALUES V_sv__VALUES E_sv__VALUES) e0 rfl (by rw [hml]; rfl) (argsL := []) (rest := []) (lenOf own_pd1 rfl) rfl rfl (W := 0) (by exact hW0) (by decide) (by decide) (hb hby d20_2) (by decide) (by decide)) ?_
 rintro _ T1 L1 X1 ⟨b2_1, rfl, N1q, sz_b2_1, K1q, P1_0, P1_1⟩
 have g_b2_1 : n0 ≤ b2_1 := Nat.le_trans (Old.le O0) sz_b2_1
 have O1 := Old.keep O0 K1q all0
 have K1 : Keep h0 T1.heap ([] : List Addr) := Keep.trans (Keep.refl h0 ([] : List Addr)) K1q all0
 have N1 := Fr.app N0 N1q
 refine Home.run X1 hx hby sg20_5_2 (pc' := 7) (L' := #[.val (.ref sv_QUARTER_id), .val .null, .val (.ref b2_1), .unset, .unset, .unset]) (S' := [(.ref b2_1)]) rfl ?_
 obtain ⟨cl2, Ar2, q2, S2, M2, H2, G2⟩ := id P1_0
 refine Home.go (own_alen X1 hx hZ rfl Ar2 S2 M2 rfl rfl (hb hby d20_7)) ?_
 show Home T1 (mkF m 8 #[.val (.ref sv_QUARTER_id), .val .null, .val (.ref b2_1), .unset, .unset, .unset] [(.int (2 : Int32))])
 refine Home.run X1 hx hby sg20_8_5 (pc' := 15) (L' := #[.val (.ref sv_QUARTER_id), .val .null, .val (.ref b2_1), .val (.int (2 : Int32)), .val (.int (0 : Int32)), .unset]) (S' := [(.int (2 : Int32)), (.int (0 : Int32))]) rfl ?_
 refine Home.go (fun _ => XS.icmpNo X1.here hx rfl (hb hby d20_15) rfl (tlt (by decide)).2.1) ?_
 refine Home.run X1 hx hby sg20_18_2 (pc' := 21) (L' := #[.val (.ref sv_QUARTER_id), .val .null, .val (.ref b2_1), .val (.int (2 : Int32)), .val (.int (0 : Int32)), .unset]) (S' := [(.int (0 : Int32)), (.ref b2_1)]) rfl ?_
 obtain ⟨cl3, Ar3, q3, S3, M3, H3, G3⟩ := id P1_0
 have ib3 : ¬ ((0 : Int32) < 0 ∨ cl3.slots.size ≤ ((0 : Int32)).toNatClampNeg) := inb_of S3 ⟨by decide, by decide⟩
 refine Home.go (X1.aaload hx (j := (0 : Int32)) (v := (.ref sv_MONTH)) Ar3.1 (State.isArrayOf_alike hZ.alike Ar3.2.1) rfl Ar3.2.2 ib3 (Has.at H3 ib3 rfl) rfl rfl (hb hby d20_21)) ?_
 refine Home.run X1 hx hby sg20_22_2 (pc' := 26) (L' := #[.val (.ref sv_QUARTER_id), .val .null, .val (.ref b2_1), .val (.int (2 : Int32)), .val (.int (0 : Int32)), .val (.ref sv_MONTH)]) (S' := [(.ref sv_MONTH)]) rfl ?_
 refine Home.st (getF X1 hx hZ hown (host := "") (Or.inl (own_w47 hw)) Via.refl rfl (F_id_sv_MONTH.ext O1.2) rfl rfl (hb hby d20_26)) fun T4 X4 e4 => ?_
 show Home T4 (mkF m 29 #[.val (.ref sv_QUARTER_id), .val .null, .val (.ref b2_1), .val (.int (2 : Int32)), .val (.int (0 : Int32)), .val (.ref sv_MONTH)] [(.ref sv_MONTH_id)])
 refine Home.run X4 hx hby sg20_29_1 (pc' := 30) (L' := #[.val (.ref sv_QUARTER_id), .val .null, .val (.ref b2_1), .val (.int (2 : Int32)), .val (.int (0 : Int32)), .val (.ref sv_MONTH)]) (S' := [(.ref sv_QUARTER_id), (.ref sv_MONTH_id)]) rfl ?_
 refine Home.st (own_pure (own_virtual X4 hx hZ hown (own_w145 hw) (own_w125 hw) (notFace_of_selects (args := #[]) (mvT hZ (own_w127 hw))) (own_w127 hw) (own_w126 hw) (own_w116 hw) (own_w128 hw) (by decide) (rm17_3 l Z a0 hw [] sv_MONTH_id sv_QUARTER_id sv_COMPACT_STRINGS sv_MONTH_id_value sv_QUARTER_id_value k_sv_MONTH_id_value k_sv_QUARTER_id_value T1.heap n0 O1 ne_sv_MONTH_id_sv_QUARTER_id E_sv_QUARTER_id S_COMPACT_STRINGS hCS F_coder_sv_MONTH_id F_coder_sv_QUARTER_id F_value_sv_MONTH_id F_value_sv_QUARTER_id V_sv_MONTH_id_value V_sv_QUARTER_id_value) e4 (E_sv_MONTH_id.ext O1.2) rfl (by rw [hml]; rfl) (argsL := [(.ref sv_QUARTER_id)]) (rest := []) (lenOf own_pd6 rfl) rfl rfl (W := 0) (by exact hW0) (by decide) (by decide) (hb hby d20_30) (by decide) (by decide))) fun T5 X5 e5 => ?_
 refine Home.go (fun _ => XS.ifYes X5.here hx rfl (pc0 := 33) (pc' := 39) rfl (hb hby d20_33) rfl ((if0 _ _).trans (teq (by decide)).1) (by decide) (by decide)) ?_
 refine Home.run X5 hx hby sg20_39_4 (pc' := 15) (L' := #[.val (.ref sv_QUARTER_id), .val .null, .val (.ref b2_1), .val (.int (2 : Int32)), .val (.int (1 : Int32)), .val (.ref sv_MONTH)]) (S' := [(.int (2 : Int32)), (.int (1 : Int32))]) rfl ?_
 refine Home.go (fun _ => XS.icmpNo X5.here hx rfl (hb hby d20_15) rfl (tlt (by decide)).2.1) ?_
 refine Home.run X5 hx hby sg20_18_2 (pc' := 21) (L' := #[.val (.ref sv_QUARTER_id), .val .null, .val (.ref b2_1), .val (.int (2 : Int32)), .val (.int (1 : Int32)), .val (.ref sv_MONTH)]) (S' := [(.int (1 : Int32)), (.ref b2_1)]) rfl ?_
 obtain ⟨cl6, Ar6, q6, S6, M6, H6, G6⟩ := id P1_0
 have ib6 : ¬ ((1 : Int32) < 0 ∨ cl6.slots.size ≤ ((1 : Int32)).toNatClampNeg) := inb_of S6 ⟨by decide, by decide⟩
 refine Home.go (X5.aaload hx (j := (1 : Int32)) (v := (.ref sv_QUARTER)) (by rw [e5]; exact Ar6.1) (State.isArrayOf_alike hZ.alike Ar6.2.1) rfl Ar6.2.2 ib6 (Has.at H6 ib6 rfl) rfl rfl (hb hby d20_21)) ?_
 show Home T5 (mkF m 22 #[.val (.ref sv_QUARTER_id), .val .null, .val (.ref b2_1), .val (.int (2 : Int32)), .val (.int (1 : Int32)), .val (.ref sv_MONTH)] [(.ref sv_QUARTER)])
 refine Home.run X5 hx hby sg20_22_2 (pc' := 26) (L' := #[.val (.ref sv_QUARTER_id), .val .null, .val (.ref b2_1), .val (.int (2 : Int32)), .val (.int (1 : Int32)), .val (.ref sv_QUARTER)]) (S' := [(.ref sv_QUARTER)]) rfl ?_
 refine Home.st (getF X5 hx hZ hown (host := "") (Or.inl (own_w47 hw)) Via.refl e5 (F_id_sv_QUARTER.ext O1.2) rfl rfl (hb hby d20_26)) fun T7 X7 e7 => ?_
 refine Home.run X7 hx hby sg20_29_1 (pc' := 30) (L' := #[.val (.ref sv_QUARTER_id), .val .null, .val (.ref b2_1), .val (.int (2 : Int32)), .val (.int (1 : Int32)), .val (.ref sv_QUARTER)]) (S' := [(.ref sv_QUARTER_id), (.ref sv_QUARTER_id)]) rfl ?_
 refine Home.st (own_pure (own_virtual X7 hx hZ hown (own_w145 hw) (own_w125 hw) (notFace_of_selects (args := #[]) (mvT hZ (own_w127 hw))) (own_w127 hw) (own_w126 hw) (own_w116 hw) (own_w128 hw) (by decide) (rm17_2 l Z a0 hw [] sv_QUARTER_id sv_QUARTER_id sv_COMPACT_STRINGS sv_QUARTER_id_value sv_QUARTER_id_value k_sv_QUARTER_id_value k_sv_QUARTER_id_value T1.heap n0 O1 E_sv_QUARTER_id S_COMPACT_STRINGS hCS (F_coder_sv_QUARTER_id.ext O1.2) F_coder_sv_QUARTER_id (F_value_sv_QUARTER_id.ext O1.2) F_value_sv_QUARTER_id (V_sv_QUARTER_id_value.ext O1.2) V_sv_QUARTER_id_value) e7 (E_sv_QUARTER_id.ext O1.2) rfl (by rw [hml]; rfl) (argsL := [(.ref sv_QUARTER_id)]) (rest := []) (lenOf own_pd6 rfl) rfl rfl (W := 0) (by exact hW0) (by decide) (by decide) (hb hby d20_30) (by decide) (by decide))) fun T8 X8 e8 => ?_
 refine Home.go (fun _ => XS.ifNo X8.here hx rfl (hb hby d20_33) rfl ((if0 _ _).trans (feq (by decide)).1)) ?_
 refine Home.run X8 hx hby sg20_36_6 (pc' := 15) (L' := #[.val (.ref sv_QUARTER_id), .val (.ref sv_QUARTER), .val (.ref b2_1), .val (.int (2 : Int32)), .val (.int (2 : Int32)), .val (.ref sv_QUARTER)]) (S' := [(.int (2 : Int32)), (.int (2 : Int32))]) rfl ?_
 refine Home.go (fun _ => XS.icmpYes X8.here hx rfl (pc0 := 15) (pc' := 45) rfl (hb hby d20_15) rfl (flt (by decide)).2.1 (by decide) (by decide)) ?_
 refine Home.run X8 hx hby sg20_45_1 (pc' := 46) (L' := #[.val (.ref sv_QUARTER_id), .val (.ref sv_QUARTER), .val (.ref b2_1), .val (.int (2 : Int32)), .val (.int (2 : Int32)), .val (.ref sv_QUARTER)]) (S' := [(.ref sv_QUARTER)]) rfl ?_
 exact Home.retR X8 hx hlk hret rfl rfl (hb hby d20_46) (by rw [show T8.heap = T1.heap from e8]; exact ⟨rfl, N1, K1⟩) (by decide) (by decide)

theorem rm0 (l : Launch) (Z : State) (a0 : Array Value) (hw : HW a0 Z) (ws : List Jvm.Cond) (i0 : Int32) (sv_DEFAULTCAPACITY_EMPTY_ELEMENTDATA sv__VALUES : Addr) (k_sv__VALUES : ClassId) (sv_MONTH sv_QUARTER sv_MONTH_id : Addr) (kde : ClassId) (sv_QUARTER_id : Addr) (sv_COMPACT_STRINGS : Int32) (sv_MONTH_id_value : Addr) (k_sv_MONTH_id_value : ClassId) (sv_QUARTER_id_value : Addr) (k_sv_QUARTER_id_value : ClassId) (h0 : Heap) (n0 : Nat) (O0 : Old Z n0 h0) (S_DEFAULTCAPACITY_EMPTY_ELEMENTDATA : Sta Z Z.heap "java/util/ArrayList" "DEFAULTCAPACITY_EMPTY_ELEMENTDATA" "[Ljava/lang/Object;" (.ref sv_DEFAULTCAPACITY_EMPTY_ELEMENTDATA)) (S__VALUES : Sta Z Z.heap "com/example/tapline/tapline/rules/ReturnPeriod" "$VALUES" "[Lcom/example/tapline/tapline/rules/ReturnPeriod;" (.ref sv__VALUES)) (V_sv__VALUES : Arv Z Z.heap sv__VALUES k_sv__VALUES (.object "com/example/tapline/tapline/rules/ReturnPeriod") (2 : Int32) [(.ref sv_MONTH), (.ref sv_QUARTER)] .null) (E_sv__VALUES : Exa Z Z.heap sv__VALUES "[Lcom/example/tapline/tapline/rules/ReturnPeriod;") (F_id_sv_MONTH : Fld Z Z.heap sv_MONTH "com/example/tapline/tapline/rules/ReturnPeriod" "id" "Ljava/lang/String;" (.ref sv_MONTH_id)) (V_de : Arv Z Z.heap sv_DEFAULTCAPACITY_EMPTY_ELEMENTDATA kde (.object "java/lang/Object") (0 : Int32) [] .null) (E_sv_MONTH_id : Exa Z Z.heap sv_MONTH_id "java/lang/String") (F_id_sv_QUARTER : Fld Z Z.heap sv_QUARTER "com/example/tapline/tapline/rules/ReturnPeriod" "id" "Ljava/lang/String;" (.ref sv_QUARTER_id)) (E_sv_QUARTER_id : Exa Z Z.heap sv_QUARTER_id "java/lang/String") (S_MONTH : Sta Z Z.heap "com/example/tapline/tapline/rules/ReturnPeriod" "MONTH" "Lcom/example/tapline/tapline/rules/ReturnPeriod;" (.ref sv_MONTH)) (S_COMPACT_STRINGS : Sta Z Z.heap "java/lang/String" "COMPACT_STRINGS" "Z" (.int sv_COMPACT_STRINGS)) (F_coder_sv_MONTH_id : Fld Z Z.heap sv_MONTH_id "java/lang/String" "coder" "B" (.int (0 : Int32))) (F_value_sv_MONTH_id : Fld Z Z.heap sv_MONTH_id "java/lang/String" "value" "[B" (.ref sv_MONTH_id_value)) (V_sv_MONTH_id_value : Arv Z Z.heap sv_MONTH_id_value k_sv_MONTH_id_value .byte (5 : Int32) [(.int (109 : Int32)), (.int (111 : Int32)), (.int (110 : Int32)), (.int (116 : Int32)), (.int (104 : Int32))] (.int (0 : Int32))) (hCS : ¬ (sv_COMPACT_STRINGS = (0 : Int32))) (E_sv_MONTH : Exa Z Z.heap sv_MONTH "com/example/tapline/tapline/rules/ReturnPeriod") (F_coder_sv_QUARTER_id : Fld Z Z.heap sv_QUARTER_id "java/lang/String" "coder" "B" (.int (0 : Int32))) (F_value_sv_QUARTER_id : Fld Z Z.heap sv_QUARTER_id "java/lang/String" "value" "[B" (.ref sv_QUARTER_id_value)) (V_sv_QUARTER_id_value : Arv Z Z.heap sv_QUARTER_id_value k_sv_QUARTER_id_value .byte (7 : Int32) [(.int (113 : Int32)), (.int (117 : Int32)), (.int (97 : Int32)), (.int (114 : Int32)), (.int (116 : Int32)), (.int (101 : Int32)), (.int (114 : Int32))] (.int (0 : Int32))) (ne_sv_MONTH_id_sv_QUARTER_id : sv_MONTH_id ≠ sv_QUARTER_id) (S_QUARTER : Sta Z Z.heap "com/example/tapline/tapline/rules/ReturnPeriod" "QUARTER" "Lcom/example/tapline/tapline/rules/ReturnPeriod;" (.ref sv_QUARTER)) (E_sv_QUARTER : Exa Z Z.heap sv_QUARTER "com/example/tapline/tapline/rules/ReturnPeriod") :
    ConW l Z own_EL ([] : List Addr) false x code maxLocals ret ws room_1 #[(.int i0)] h0 (fun v h L => v = some (.int (1 : Int32)) ∧ Fr n0 L) := by
 refine own_bodyW (plainFor_of_name own_pn8) (fun m => ef_rm0 m i0) ?_
 intro p e s m below meth c s₁ hx hby hlk hml hret hZ hown hnm X0 e0 Cd0
 have N0 := Fr.nil n0
 refine Home.call (own_static X0 hx hZ hown (own_w0 hw) (own_w1 hw) (own_w2 hw) (own_w3 hw) (by decide) (rm1_0 l Z a0 hw [] sv_DEFAULTCAPACITY_EMPTY_ELEMENTDATA sv__VALUES k_sv__VALUES sv_MONTH sv_QUARTER sv_MONTH_id kde sv_QUARTER_id h0 n0 O0 S_DEFAULTCAPACITY_EMPTY_ELEMENTDATA S__VALUES V_sv__VALUES E_sv__VALUES F_id_sv_MONTH V_de E_sv_MONTH_id F_id_sv_QUARTER E_sv_QUARTER_id) e0 rfl (by rw [hml]; rfl) (argsL := []) (rest := []) (lenOf own_pd7 rfl) rfl rfl (W := 0) (by exact hW0) (by decide) (by decide) (hb hby at_0) (by decide) (by decide)) ?_
 rintro _ T1 L1 X1 ⟨b1_1, b6_2_2_7_11_1, k6_2_2_7_11_1, rfl, N1q, sz_b1_1, sz_b6_2_2_7_11_1, K1q, P1_0, P1_1, P1_2, P1_3, P1_4, P1_5⟩
 have Cd1 := Cold.keep Cd0 K1q all0
 have g_b1_1 : n0 ≤ b1_1 := Nat.le_trans (Old.le O0) sz_b1_1
 have g_b6_2_2_7_11_1 : n0 ≤ b6_2_2_7_11_1 := Nat.le_trans (Old.le O0) sz_b6_2_2_7_11_1
 have O1 := Old.keep O0 K1q all0
 have K1 : Keep h0 T1.heap ([] : List Addr) := Keep.trans (Keep.refl h0 ([] : List Addr)) K1q all0
 have N1 := Fr.app N0 N1q
 show Home T1 (mkF m 3 #[.val (.int i0), .unset, .unset, .unset, .unset, .unset] [(.ref b1_1)])
 refine Home.run X1 hx hby sg0_3_2 (pc' := 5) (L' := #[.val (.int i0), .val (.ref b1_1), .unset, .unset, .unset, .unset]) (S' := [(.ref b1_1)]) rfl ?_
 refine Home.st (own_pure (own_face X1 hx hZ hown (own_w84 hw) (own_w85 hw) (mvT hZ (own_w86 hw)) (own_w87 hw) (own_w88 hw) (own_w89 hw) (own_w90 hw) (own_w56 hw) (own_w6 hw) (own_w91 hw) (by decide) (rm12_0 l Z a0 hw [] b1_1 T1.heap n0 O1 P1_3) rfl P1_0 rfl (by rw [hml]; rfl) (argsL := []) (rest := []) (lenOf own_pd8 rfl) rfl rfl (W := 0) (by exact hW0) (by decide) (by decide) (hb hby at_5) (by decide) (by decide))) fun T2 X2 e2 => ?_
 refine Home.run X2 hx hby sg0_10_1 (pc' := 11) (L' := #[.val (.int i0), .val (.ref b1_1), .unset, .unset, .unset, .unset]) (S' := [(.int (2 : Int32)), (.int (2 : Int32))]) rfl ?_
 refine Home.go (fun _ => XS.icmpYes X2.here hx rfl (pc0 := 11) (pc' := 16) rfl (hb hby at_11) rfl (teq (by decide)).1 (by decide) (by decide)) ?_
 refine Home.run X2 hx hby sg0_16_4 (pc' := 20) (L' := #[.val (.int i0), .val (.ref b1_1), .val (.int (i0 &&& (1 : Int32))), .unset, .unset, .unset]) (S' := []) rfl ?_
 obtain ⟨v3, hv3⟩ : ∃ z, z = (i0 &&& (1 : Int32)) := ⟨_, rfl⟩
 rw [← hv3]
 have bv3 : ¬ v3 < (0 : Int32) ∧ ¬ (1 : Int32) < v3 := by rw [hv3]; exact (bnd_and i0 (1 : Int32) (by decide))
 by_cases c4 : v3 = (0 : Int32)
 ·
  have bd5 : ¬ v3 < (0 : Int32) ∧ ¬ (0 : Int32) < v3 := ⟨(bnd_eql c4), (bnd_eqr c4)⟩
  have fx6 : v3 = (0 : Int32) := bnd_fix bd5
  try rw [fx6]
  show Home T2 (mkF m 20 #[.val (.int i0), .val (.ref b1_1), .val (.int (0 : Int32)), .unset, .unset, .unset] [])
  refine Home.run X2 hx hby sg0_20_2 (pc' := 22) (L' := #[.val (.int i0), .val (.ref b1_1), .val (.int (0 : Int32)), .unset, .unset, .unset]) (S' := [(.int (0 : Int32)), (.ref b1_1)]) rfl ?_
  refine Home.st (own_pure (own_face X2 hx hZ hown (own_w92 hw) (own_w93 hw) (mvT hZ (own_w94 hw)) (own_w95 hw) (own_w96 hw) (own_w97 hw) (own_w98 hw) (own_w56 hw) (own_w6 hw) (own_w99 hw) (by decide) (rm13_0 l Z a0 hw [] b1_1 b6_2_2_7_11_1 k6_2_2_7_11_1 sv_MONTH_id sv_QUARTER_id T1.heap n0 O1 P1_3 P1_0 P1_2 P1_4) e2 P1_0 rfl (by rw [hml]; rfl) (argsL := [(.int (0 : Int32))]) (rest := []) (lenOf own_pd10 rfl) rfl rfl (W := 0) (by exact hW0) (by decide) (by decide) (hb hby at_22) (by decide) (by decide))) fun T9 X9 e9 => ?_
  refine Home.st (castY X9 hx hZ hown (own_w113 hw) e9 (Ins.self (E_sv_MONTH_id.ext O1.2)) rfl rfl (hb hby at_27)) fun T10 X10 e10 => ?_
  refine Home.run X10 hx hby sg0_30_2 (pc' := 32) (L' := #[.val (.int i0), .val (.ref b1_1), .val (.int (0 : Int32)), .val (.ref sv_MONTH_id), .unset, .unset]) (S' := [(.int (0 : Int32))]) rfl ?_
  refine Home.go (fun _ => XS.ifNo X10.here hx rfl (hb hby at_32) rfl ((if0 _ _).trans (teq (by decide)).2)) ?_
  obtain ⟨ad11, b11, k11, T11, h11, X11, e11, E11, hZ, hown, Cd11, Ea11, Fc11, Fv11, V11, la11, lb11, hne11, st11⟩ := own_ldcW X10 hx hZ hown (own_hEL hw) Cd1 (own_w115 hw) (own_wS hw) e10 (List.mem_of_getElem? (i := 0) rfl) (vs := [(.int (109 : Int32)), (.int (111 : Int32)), (.int (110 : Int32)), (.int (116 : Int32)), (.int (104 : Int32))]) (z := (5 : Int32)) ⟨by decide, by rfl⟩ (by decide) (by decide) (g := (mkF m 35 #[.val (.int i0), .val (.ref b1_1), .val (.int (0 : Int32)), .val (.ref sv_MONTH_id), .unset, .unset] [])) rfl (hb hby at_35) (n := 20) (by decide) (by decide) (by decide) (by decide)
  refine Home.go st11 ?_
  have O11 := O1.ext E11
  have K11 : Keep h0 h11 ([] : List Addr) := Keep.ext K1 E11
  show Home T11 (mkF m 37 #[.val (.int i0), .val (.ref b1_1), .val (.int (0 : Int32)), .val (.ref sv_MONTH_id), .unset, .unset] [(.ref ad11)])
  refine Home.run X11 hx hby sg0_37_3 (pc' := 45) (L' := #[.val (.int i0), .val (.ref b1_1), .val (.int (0 : Int32)), .val (.ref sv_MONTH_id), .val (.ref ad11), .unset]) (S' := [(.int (0 : Int32))]) rfl ?_
  refine Home.go (fun _ => XS.ifNo X11.here hx rfl (hb hby at_45) rfl ((if0 _ _).trans (teq (by decide)).2)) ?_
  refine Home.st (getS2 X11 hx hZ hown (host := "") (Or.inl (own_w123 hw)) Via.refl e11 (S_MONTH.ext O11.2) rfl (hb hby at_48)) fun T12 X12 e12 => ?_
  refine Home.run X12 hx hby sg0_51_4 (pc' := 62) (L' := #[.val (.int i0), .val (.ref b1_1), .val (.int (0 : Int32)), .val (.ref sv_MONTH_id), .val (.ref ad11), .val (.ref sv_MONTH)]) (S' := [(.ref sv_MONTH_id), (.ref ad11)]) rfl ?_
  refine Home.st (own_pure (own_virtual X12 hx hZ hown (own_w124 hw) (own_w125 hw) (notFace_of_selects (args := #[]) (mvT hZ (own_w127 hw))) (own_w127 hw) (own_w126 hw) (own_w116 hw) (own_w128 hw) (by decide) (rm17_0 l Z a0 hw [] ad11 sv_MONTH_id sv_COMPACT_STRINGS b11 sv_MONTH_id_value k11 k_sv_MONTH_id_value h11 n0 O11 E_sv_MONTH_id S_COMPACT_STRINGS hCS Fc11 F_coder_sv_MONTH_id Fv11 F_value_sv_MONTH_id V11 V_sv_MONTH_id_value) e12 Ea11 rfl (by rw [hml]; rfl) (argsL := [(.ref sv_MONTH_id)]) (rest := []) (lenOf own_pd6 rfl) rfl rfl (W := 0) (by exact hW0) (by decide) (by decide) (hb hby at_62) (by decide) (by decide))) fun T13 X13 e13 => ?_
  refine Home.go (fun _ => XS.ifNo X13.here hx rfl (hb hby at_65) rfl ((if0 _ _).trans (feq (by decide)).1)) ?_
  refine Home.run X13 hx hby sg0_68_2 (pc' := 72) (L' := #[.val (.int i0), .val (.ref b1_1), .val (.int (0 : Int32)), .val (.ref sv_MONTH_id), .val (.ref ad11), .val (.ref sv_MONTH)]) (S' := [(.ref sv_MONTH), (.ref ad11)]) rfl ?_
  refine Home.st (own_pure (own_virtual X13 hx hZ hown (own_w137 hw) (own_w138 hw) (notFace_of_selects (args := #[]) (mvT hZ (own_w140 hw))) (own_w140 hw) (own_w139 hw) (own_w2 hw) (own_w141 hw) (by decide) (rm19_0 l Z a0 hw [] sv_MONTH sv_MONTH_id h11 n0 O11 F_id_sv_MONTH) e13 (E_sv_MONTH.ext O11.2) rfl (by rw [hml]; rfl) (argsL := []) (rest := [(.ref ad11)]) (lenOf own_pd12 rfl) rfl rfl (W := 1) (by exact hW0) (by decide) (by decide) (hb hby at_72) (by decide) (by decide))) fun T14 X14 e14 => ?_
  show Home T14 (mkF m 75 #[.val (.int i0), .val (.ref b1_1), .val (.int (0 : Int32)), .val (.ref sv_MONTH_id), .val (.ref ad11), .val (.ref sv_MONTH)] [(.ref sv_MONTH_id), (.ref ad11)])
  refine Home.st (own_pure (own_virtual X14 hx hZ hown (own_w124 hw) (own_w125 hw) (notFace_of_selects (args := #[]) (mvT hZ (own_w127 hw))) (own_w127 hw) (own_w126 hw) (own_w116 hw) (own_w128 hw) (by decide) (rm17_0 l Z a0 hw [] ad11 sv_MONTH_id sv_COMPACT_STRINGS b11 sv_MONTH_id_value k11 k_sv_MONTH_id_value h11 n0 O11 E_sv_MONTH_id S_COMPACT_STRINGS hCS Fc11 F_coder_sv_MONTH_id Fv11 F_value_sv_MONTH_id V11 V_sv_MONTH_id_value) e14 Ea11 rfl (by rw [hml]; rfl) (argsL := [(.ref sv_MONTH_id)]) (rest := []) (lenOf own_pd6 rfl) rfl rfl (W := 0) (by exact hW0) (by decide) (by decide) (hb hby at_75) (by decide) (by decide))) fun T15 X15 e15 => ?_
  refine Home.go (fun _ => XS.ifNo X15.here hx rfl (hb hby at_78) rfl ((if0 _ _).trans (feq (by decide)).1)) ?_
  refine Home.run X15 hx hby sg0_81_1 (pc' := 82) (L' := #[.val (.int i0), .val (.ref b1_1), .val (.int (0 : Int32)), .val (.ref sv_MONTH_id), .val (.ref ad11), .val (.ref sv_MONTH)]) (S' := [(.ref sv_MONTH_id)]) rfl ?_
  refine Home.call (own_static X15 hx hZ hown (own_w142 hw) (own_w143 hw) (own_w2 hw) (own_w144 hw) (by decide) (rm20_0 l Z a0 hw [] sv_MONTH_id sv__VALUES k_sv__VALUES sv_MONTH sv_QUARTER sv_COMPACT_STRINGS sv_MONTH_id_value k_sv_MONTH_id_value sv_QUARTER_id sv_QUARTER_id_value k_sv_QUARTER_id_value h11 n0 O11 S__VALUES V_sv__VALUES E_sv__VALUES F_id_sv_MONTH E_sv_MONTH_id S_COMPACT_STRINGS F_coder_sv_MONTH_id F_value_sv_MONTH_id V_sv_MONTH_id_value hCS F_id_sv_QUARTER E_sv_QUARTER_id F_coder_sv_QUARTER_id F_value_sv_QUARTER_id V_sv_QUARTER_id_value ne_sv_MONTH_id_sv_QUARTER_id) e15 rfl (by rw [hml]; rfl) (argsL := [(.ref sv_MONTH_id)]) (rest := []) (lenOf own_pd13 rfl) rfl rfl (W := 0) (by exact hW0) (by decide) (by decide) (hb hby at_82) (by decide) (by decide)) ?_
  rintro _ T16 L16 X16 ⟨rfl, N16q, K16q⟩
  have Cd16 := Cold.keep Cd11 K16q all0
  have O16 := Old.keep O11 K16q all0
  have K16 : Keep h0 T16.heap ([] : List Addr) := Keep.trans K11 K16q all0
  have N16 := Fr.app N1 N16q
  show Home T16 (mkF m 85 #[.val (.int i0), .val (.ref b1_1), .val (.int (0 : Int32)), .val (.ref sv_MONTH_id), .val (.ref ad11), .val (.ref sv_MONTH)] [(.ref sv_MONTH)])
  refine Home.run X16 hx hby sg0_85_1 (pc' := 87) (L' := #[.val (.int i0), .val (.ref b1_1), .val (.int (0 : Int32)), .val (.ref sv_MONTH_id), .val (.ref ad11), .val (.ref sv_MONTH)]) (S' := [(.ref sv_MONTH), (.ref sv_MONTH)]) rfl ?_
  refine Home.go (fun _ => Jvm.RoadKit.acmp X16 hx rfl rfl rfl (pc0 := 87) (pc' := 90) (same := true) rfl (hb hby at_87) rfl (decide_eq_true rfl) (by decide) (by decide)) ?_
  show Home T16 (mkF m 90 #[.val (.int i0), .val (.ref b1_1), .val (.int (0 : Int32)), .val (.ref sv_MONTH_id), .val (.ref ad11), .val (.ref sv_MONTH)] [])
  refine Home.run X16 hx hby sg0_90_2 (pc' := 95) (L' := #[.val (.int i0), .val (.ref b1_1), .val (.int (0 : Int32)), .val (.ref sv_MONTH_id), .val (.ref ad11), .val (.ref sv_MONTH)]) (S' := [(.int (1 : Int32))]) rfl ?_
  exact HomeW.retN X16 hx hlk hZ (own_hEL hw) rfl Cd16 (t := .boolean) hret (by simp) (hb hby at_95) ⟨rfl, N16⟩ (by decide) (by decide)
 ·
  have bd7 : ¬ v3 < (1 : Int32) ∧ ¬ (1 : Int32) < v3 := ⟨(bnd_nel bv3.1 c4 (by decide +kernel)), bv3.2⟩
  have fx8 : v3 = (1 : Int32) := bnd_fix bd7
  try rw [fx8]
  show Home T2 (mkF m 20 #[.val (.int i0), .val (.ref b1_1), .val (.int (1 : Int32)), .unset, .unset, .unset] [])
  refine Home.run X2 hx hby sg0_20_2 (pc' := 22) (L' := #[.val (.int i0), .val (.ref b1_1), .val (.int (1 : Int32)), .unset, .unset, .unset]) (S' := [(.int (1 : Int32)), (.ref b1_1)]) rfl ?_
  refine Home.st (own_pure (own_face X2 hx hZ hown (own_w92 hw) (own_w93 hw) (mvT hZ (own_w94 hw)) (own_w95 hw) (own_w96 hw) (own_w97 hw) (own_w98 hw) (own_w56 hw) (own_w6 hw) (own_w99 hw) (by decide) (rm13_1 l Z a0 hw [] b1_1 b6_2_2_7_11_1 k6_2_2_7_11_1 sv_MONTH_id sv_QUARTER_id T1.heap n0 O1 P1_3 P1_0 P1_2 P1_4) e2 P1_0 rfl (by rw [hml]; rfl) (argsL := [(.int (1 : Int32))]) (rest := []) (lenOf own_pd10 rfl) rfl rfl (W := 0) (by exact hW0) (by decide) (by decide) (hb hby at_22) (by decide) (by decide))) fun T17 X17 e17 => ?_
  refine Home.st (castY X17 hx hZ hown (own_w113 hw) e17 (Ins.self (E_sv_QUARTER_id.ext O1.2)) rfl rfl (hb hby at_27)) fun T18 X18 e18 => ?_
  refine Home.run X18 hx hby sg0_30_2 (pc' := 32) (L' := #[.val (.int i0), .val (.ref b1_1), .val (.int (1 : Int32)), .val (.ref sv_QUARTER_id), .unset, .unset]) (S' := [(.int (1 : Int32))]) rfl ?_
  refine Home.go (fun _ => XS.ifYes X18.here hx rfl (pc0 := 32) (pc' := 40) rfl (hb hby at_32) rfl ((if0 _ _).trans (feq (by decide)).2) (by decide) (by decide)) ?_
  obtain ⟨ad19, b19, k19, T19, h19, X19, e19, E19, hZ, hown, Cd19, Ea19, Fc19, Fv19, V19, la19, lb19, hne19, st19⟩ := own_ldcW X18 hx hZ hown (own_hEL hw) Cd1 (own_w146 hw) (own_wS hw) e18 (List.mem_of_getElem? (i := 1) rfl) (vs := [(.int (113 : Int32)), (.int (117 : Int32)), (.int (97 : Int32)), (.int (114 : Int32)), (.int (116 : Int32)), (.int (101 : Int32)), (.int (114 : Int32))]) (z := (7 : Int32)) ⟨by decide, by rfl⟩ (by decide) (by decide) (g := (mkF m 40 #[.val (.int i0), .val (.ref b1_1), .val (.int (1 : Int32)), .val (.ref sv_QUARTER_id), .unset, .unset] [])) rfl (hb hby at_40) (n := 28) (by decide) (by decide) (by decide) (by decide)
  refine Home.go st19 ?_
  have O19 := O1.ext E19
  have K19 : Keep h0 h19 ([] : List Addr) := Keep.ext K1 E19
  show Home T19 (mkF m 42 #[.val (.int i0), .val (.ref b1_1), .val (.int (1 : Int32)), .val (.ref sv_QUARTER_id), .unset, .unset] [(.ref ad19)])
  refine Home.run X19 hx hby sg0_42_2 (pc' := 45) (L' := #[.val (.int i0), .val (.ref b1_1), .val (.int (1 : Int32)), .val (.ref sv_QUARTER_id), .val (.ref ad19), .unset]) (S' := [(.int (1 : Int32))]) rfl ?_
  refine Home.go (fun _ => XS.ifYes X19.here hx rfl (pc0 := 45) (pc' := 54) rfl (hb hby at_45) rfl ((if0 _ _).trans (feq (by decide)).2) (by decide) (by decide)) ?_
  refine Home.st (getS2 X19 hx hZ hown (host := "") (Or.inl (own_w147 hw)) Via.refl e19 (S_QUARTER.ext O19.2) rfl (hb hby at_54)) fun T20 X20 e20 => ?_
  refine Home.run X20 hx hby sg0_57_3 (pc' := 62) (L' := #[.val (.int i0), .val (.ref b1_1), .val (.int (1 : Int32)), .val (.ref sv_QUARTER_id), .val (.ref ad19), .val (.ref sv_QUARTER)]) (S' := [(.ref sv_QUARTER_id), (.ref ad19)]) rfl ?_
  refine Home.st (own_pure (own_virtual X20 hx hZ hown (own_w124 hw) (own_w125 hw) (notFace_of_selects (args := #[]) (mvT hZ (own_w127 hw))) (own_w127 hw) (own_w126 hw) (own_w116 hw) (own_w128 hw) (by decide) (rm17_2 l Z a0 hw [] ad19 sv_QUARTER_id sv_COMPACT_STRINGS b19 sv_QUARTER_id_value k19 k_sv_QUARTER_id_value h19 n0 O19 E_sv_QUARTER_id S_COMPACT_STRINGS hCS Fc19 F_coder_sv_QUARTER_id Fv19 F_value_sv_QUARTER_id V19 V_sv_QUARTER_id_value) e20 Ea19 rfl (by rw [hml]; rfl) (argsL := [(.ref sv_QUARTER_id)]) (rest := []) (lenOf own_pd6 rfl) rfl rfl (W := 0) (by exact hW0) (by decide) (by decide) (hb hby at_62) (by decide) (by decide))) fun T21 X21 e21 => ?_
  refine Home.go (fun _ => XS.ifNo X21.here hx rfl (hb hby at_65) rfl ((if0 _ _).trans (feq (by decide)).1)) ?_
  refine Home.run X21 hx hby sg0_68_2 (pc' := 72) (L' := #[.val (.int i0), .val (.ref b1_1), .val (.int (1 : Int32)), .val (.ref sv_QUARTER_id), .val (.ref ad19), .val (.ref sv_QUARTER)]) (S' := [(.ref sv_QUARTER), (.ref ad19)]) rfl ?_
  refine Home.st (own_pure (own_virtual X21 hx hZ hown (own_w137 hw) (own_w138 hw) (notFace_of_selects (args := #[]) (mvT hZ (own_w140 hw))) (own_w140 hw) (own_w139 hw) (own_w2 hw) (own_w141 hw) (by decide) (rm19_1 l Z a0 hw [] sv_QUARTER sv_QUARTER_id h19 n0 O19 F_id_sv_QUARTER) e21 (E_sv_QUARTER.ext O19.2) rfl (by rw [hml]; rfl) (argsL := []) (rest := [(.ref ad19)]) (lenOf own_pd12 rfl) rfl rfl (W := 1) (by exact hW0) (by decide) (by decide) (hb hby at_72) (by decide) (by decide))) fun T22 X22 e22 => ?_
  show Home T22 (mkF m 75 #[.val (.int i0), .val (.ref b1_1), .val (.int (1 : Int32)), .val (.ref sv_QUARTER_id), .val (.ref ad19), .val (.ref sv_QUARTER)] [(.ref sv_QUARTER_id), (.ref ad19)])
  refine Home.st (own_pure (own_virtual X22 hx hZ hown (own_w124 hw) (own_w125 hw) (notFace_of_selects (args := #[]) (mvT hZ (own_w127 hw))) (own_w127 hw) (own_w126 hw) (own_w116 hw) (own_w128 hw) (by decide) (rm17_2 l Z a0 hw [] ad19 sv_QUARTER_id sv_COMPACT_STRINGS b19 sv_QUARTER_id_value k19 k_sv_QUARTER_id_value h19 n0 O19 E_sv_QUARTER_id S_COMPACT_STRINGS hCS Fc19 F_coder_sv_QUARTER_id Fv19 F_value_sv_QUARTER_id V19 V_sv_QUARTER_id_value) e22 Ea19 rfl (by rw [hml]; rfl) (argsL := [(.ref sv_QUARTER_id)]) (rest := []) (lenOf own_pd6 rfl) rfl rfl (W := 0) (by exact hW0) (by decide) (by decide) (hb hby at_75) (by decide) (by decide))) fun T23 X23 e23 => ?_
  refine Home.go (fun _ => XS.ifNo X23.here hx rfl (hb hby at_78) rfl ((if0 _ _).trans (feq (by decide)).1)) ?_
  refine Home.run X23 hx hby sg0_81_1 (pc' := 82) (L' := #[.val (.int i0), .val (.ref b1_1), .val (.int (1 : Int32)), .val (.ref sv_QUARTER_id), .val (.ref ad19), .val (.ref sv_QUARTER)]) (S' := [(.ref sv_QUARTER_id)]) rfl ?_
  refine Home.call (own_static X23 hx hZ hown (own_w142 hw) (own_w143 hw) (own_w2 hw) (own_w144 hw) (by decide) (rm20_1 l Z a0 hw [] sv_QUARTER_id sv__VALUES k_sv__VALUES sv_MONTH sv_QUARTER sv_MONTH_id sv_COMPACT_STRINGS sv_MONTH_id_value sv_QUARTER_id_value k_sv_MONTH_id_value k_sv_QUARTER_id_value h19 n0 O19 S__VALUES V_sv__VALUES E_sv__VALUES F_id_sv_MONTH E_sv_MONTH_id E_sv_QUARTER_id S_COMPACT_STRINGS F_coder_sv_MONTH_id F_coder_sv_QUARTER_id F_value_sv_MONTH_id F_value_sv_QUARTER_id V_sv_MONTH_id_value V_sv_QUARTER_id_value ne_sv_MONTH_id_sv_QUARTER_id hCS F_id_sv_QUARTER) e23 rfl (by rw [hml]; rfl) (argsL := [(.ref sv_QUARTER_id)]) (rest := []) (lenOf own_pd13 rfl) rfl rfl (W := 0) (by exact hW0) (by decide) (by decide) (hb hby at_82) (by decide) (by decide)) ?_
  rintro _ T24 L24 X24 ⟨rfl, N24q, K24q⟩
  have Cd24 := Cold.keep Cd19 K24q all0
  have O24 := Old.keep O19 K24q all0
  have K24 : Keep h0 T24.heap ([] : List Addr) := Keep.trans K19 K24q all0
  have N24 := Fr.app N1 N24q
  show Home T24 (mkF m 85 #[.val (.int i0), .val (.ref b1_1), .val (.int (1 : Int32)), .val (.ref sv_QUARTER_id), .val (.ref ad19), .val (.ref sv_QUARTER)] [(.ref sv_QUARTER)])
  refine Home.run X24 hx hby sg0_85_1 (pc' := 87) (L' := #[.val (.int i0), .val (.ref b1_1), .val (.int (1 : Int32)), .val (.ref sv_QUARTER_id), .val (.ref ad19), .val (.ref sv_QUARTER)]) (S' := [(.ref sv_QUARTER), (.ref sv_QUARTER)]) rfl ?_
  refine Home.go (fun _ => Jvm.RoadKit.acmp X24 hx rfl rfl rfl (pc0 := 87) (pc' := 90) (same := true) rfl (hb hby at_87) rfl (decide_eq_true rfl) (by decide) (by decide)) ?_
  show Home T24 (mkF m 90 #[.val (.int i0), .val (.ref b1_1), .val (.int (1 : Int32)), .val (.ref sv_QUARTER_id), .val (.ref ad19), .val (.ref sv_QUARTER)] [])
  refine Home.run X24 hx hby sg0_90_2 (pc' := 95) (L' := #[.val (.int i0), .val (.ref b1_1), .val (.int (1 : Int32)), .val (.ref sv_QUARTER_id), .val (.ref ad19), .val (.ref sv_QUARTER)]) (S' := [(.int (1 : Int32))]) rfl ?_
  exact HomeW.retN X24 hx hlk hZ (own_hEL hw) rfl Cd24 (t := .boolean) hret (by simp) (hb hby at_95) ⟨rfl, N24⟩ (by decide) (by decide)
theorem comes_1 {Post : Tables → Env → Array Value → State → Outcome → State → Prop} (hpost : ∀ tb e args s v u, (limb_1_1.after args s (.returned v) u = true ∧ limb_1_2.after args s (.returned v) u = true ∧ True) → ReturnedEndW s (.returned v) u (Jvm.fieldLocs frame_1_writes args s ++ Jvm.arrayLocs frame_1_arrays args s ++ Jvm.staticLocs frame_1_statics s) 24 2176 → Post tb e args s (.returned v) u) :
    ArmFor flags0 classFile x code maxLocals ret World_1 tables_1 room_1 Calls_1 rest_1 Pre_1 Post := by
  intro l hfl _ _ p e ha hc hk s m args below hf hA hF happ hP
  obtain ⟨hcalls, hrest, hpre⟩ := hP
  obtain ⟨-, -, -, hnamed, -, -, -, hat⟩ := (Spec.applies_iff hf).mp happ
  obtain ⟨hg, hn⟩ := and_e (Cond.before_iff.mp (show (Jvm.Cond.and given_1 narrow_1).before args s = true from hpre))
  obtain ⟨gg1, gg2⟩ := and_e hg
  obtain ⟨w0, rfl⟩ : ∃ w0 : Value, args = #[w0] := by
    have hs : args.size = 1 := by simpa [Cond.value, given_1] using gg1
    obtain ⟨L⟩ := args
    match L, hs with
    | [w0], _ => exact ⟨w0, rfl⟩
  have hw := fun d (hd : d ∈ tables_1) => atoms_spec (ws := Jvm.Cond.code x code maxLocals ret :: tables_1) hat d (List.mem_cons_of_mem _ hd)
  have hfit : Fit s := fun {y c} hc i hi => by
    obtain ⟨ha, rfl⟩ := Array.getElem?_eq_some_iff.mp hc
    have q := List.all_eq_true.mp ((Array.all_eq_true_iff_forall_mem.mp hF) _ (Array.getElem_mem ha)) i (List.mem_range.mpr hi)
    simpa [Array.getElem?_eq_getElem hi] using q
  obtain ⟨hsets, hown0⟩ := atoms_of _ (rest_1_c_eq ▸ (show rest_1_c.before _ s = true from hrest))
  have hr0 := Cond.before_iff.mp hown0
  obtain ⟨i0, ei0⟩ := is_v gg2
  obtain rfl : w0 = (.int i0) := Option.some.inj ei0
  obtain ⟨nn0, hn0⟩ := and_e hn
  obtain ⟨nn1, hn1⟩ := and_e hn0
  obtain ⟨nn2, hn2⟩ := and_e hn1
  obtain ⟨nn3, hn3⟩ := and_e hn2
  obtain ⟨nn4, hn4⟩ := and_e hn3
  obtain ⟨nn5, hn5⟩ := and_e hn4
  obtain ⟨nn6, hn6⟩ := and_e hn5
  obtain ⟨nn7, hn7⟩ := and_e hn6
  obtain ⟨nn8, hn8⟩ := and_e hn7
  obtain ⟨nn9, hn9⟩ := and_e hn8
  obtain ⟨nn10, hn10⟩ := and_e hn9
  obtain ⟨nn11, hn11⟩ := and_e hn10
  obtain ⟨nn12, hn12⟩ := and_e hn11
  obtain ⟨nn13, hn13⟩ := and_e hn12
  obtain ⟨nn14, hn14⟩ := and_e hn13
  obtain ⟨nn15, hn15⟩ := and_e hn14
  obtain ⟨nn16, hn16⟩ := and_e hn15
  obtain ⟨nn17, hn17⟩ := and_e hn16
  obtain ⟨nn18, hn18⟩ := and_e hn17
  obtain ⟨nn19, hn19⟩ := and_e hn18
  obtain ⟨nn20, hn20⟩ := and_e hn19
  obtain ⟨nn21, hn21⟩ := and_e hn20
  obtain ⟨nn22, hn22⟩ := and_e hn21
  obtain ⟨nn23, hn23⟩ := and_e hn22
  obtain ⟨nn24, hn24⟩ := and_e hn23
  obtain ⟨nn25, hn25⟩ := and_e hn24
  obtain ⟨nn26, hn26⟩ := and_e hn25
  obtain ⟨sv__VALUES, ev_sv__VALUES⟩ := arr_v nn0
  have S__VALUES := Sta.start ev_sv__VALUES (Or.inl (own_w44 hw))
  obtain ⟨c_sv__VALUES, A_sv__VALUES⟩ := Arr.start ev_sv__VALUES nn0
  have E_sv__VALUES := Exa.start ev_sv__VALUES nn1
  obtain ⟨l1_sv__VALUES, l2_sv__VALUES⟩ := own_lenk ev_sv__VALUES A_sv__VALUES nn2
  obtain ⟨sv_MONTH, ev_sv_MONTH⟩ := exa_v nn3
  have S_MONTH := Sta.start ev_sv_MONTH (Or.inr ⟨(own_w2 hw), (own_w42 hw)⟩)
  have E_sv_MONTH := Exa.start ev_sv_MONTH nn3
  have el_sv__VALUES_0 : c_sv__VALUES.slots[0]? = some (.ref sv_MONTH) := (elem_in (own_eqr ev_sv_MONTH nn4) ev_sv__VALUES (Term.int_eval (0 : Int32)) A_sv__VALUES.1).2
  obtain ⟨sv_QUARTER, ev_sv_QUARTER⟩ := exa_v nn5
  have S_QUARTER := Sta.start ev_sv_QUARTER (Or.inr ⟨(own_w2 hw), (own_w43 hw)⟩)
  have E_sv_QUARTER := Exa.start ev_sv_QUARTER nn5
  have el_sv__VALUES_1 : c_sv__VALUES.slots[1]? = some (.ref sv_QUARTER) := (elem_in (own_eqr ev_sv_QUARTER nn6) ev_sv__VALUES (Term.int_eval (1 : Int32)) A_sv__VALUES.1).2
  obtain ⟨sv_MONTH_id, ev_sv_MONTH_id⟩ := exa_v nn7
  have F_id_sv_MONTH := Fld.start ((fld_at ev_sv_MONTH).symm.trans ev_sv_MONTH_id)
  have E_sv_MONTH_id := Exa.start ev_sv_MONTH_id nn7
  obtain ⟨sv_QUARTER_id, ev_sv_QUARTER_id⟩ := exa_v nn8
  have F_id_sv_QUARTER := Fld.start ((fld_at ev_sv_QUARTER).symm.trans ev_sv_QUARTER_id)
  have E_sv_QUARTER_id := Exa.start ev_sv_QUARTER_id nn8
  have F_coder_sv_MONTH_id := Fld.start ((fld_at ev_sv_MONTH_id).symm.trans (eqv_i (Term.int_eval (0)) nn9))
  obtain ⟨sv_MONTH_id_value, ev_sv_MONTH_id_value⟩ := arr_v nn10
  have F_value_sv_MONTH_id := Fld.start ((fld_at ev_sv_MONTH_id).symm.trans ev_sv_MONTH_id_value)
  obtain ⟨c_sv_MONTH_id_value, A_sv_MONTH_id_value⟩ := Arr.start ev_sv_MONTH_id_value nn10
  obtain ⟨l1_sv_MONTH_id_value, l2_sv_MONTH_id_value⟩ := own_lenk ev_sv_MONTH_id_value A_sv_MONTH_id_value nn11
  have F_coder_sv_QUARTER_id := Fld.start ((fld_at ev_sv_QUARTER_id).symm.trans (eqv_i (Term.int_eval (0)) nn13))
  obtain ⟨sv_QUARTER_id_value, ev_sv_QUARTER_id_value⟩ := arr_v nn14
  have F_value_sv_QUARTER_id := Fld.start ((fld_at ev_sv_QUARTER_id).symm.trans ev_sv_QUARTER_id_value)
  obtain ⟨c_sv_QUARTER_id_value, A_sv_QUARTER_id_value⟩ := Arr.start ev_sv_QUARTER_id_value nn14
  obtain ⟨l1_sv_QUARTER_id_value, l2_sv_QUARTER_id_value⟩ := own_lenk ev_sv_QUARTER_id_value A_sv_QUARTER_id_value nn15
  have el_sv_MONTH_id_value_0 : c_sv_MONTH_id_value.slots[0]? = some (.int (109 : Int32)) := (elem_in (eqv_i (Term.int_eval (109)) nn16) ev_sv_MONTH_id_value (Term.int_eval (0 : Int32)) A_sv_MONTH_id_value.1).2
  have el_sv_MONTH_id_value_1 : c_sv_MONTH_id_value.slots[1]? = some (.int (111 : Int32)) := (elem_in (eqv_i (Term.int_eval (111)) nn17) ev_sv_MONTH_id_value (Term.int_eval (1 : Int32)) A_sv_MONTH_id_value.1).2
  have el_sv_MONTH_id_value_2 : c_sv_MONTH_id_value.slots[2]? = some (.int (110 : Int32)) := (elem_in (eqv_i (Term.int_eval (110)) nn18) ev_sv_MONTH_id_value (Term.int_eval (2 : Int32)) A_sv_MONTH_id_value.1).2
  have el_sv_MONTH_id_value_3 : c_sv_MONTH_id_value.slots[3]? = some (.int (116 : Int32)) := (elem_in (eqv_i (Term.int_eval (116)) nn19) ev_sv_MONTH_id_value (Term.int_eval (3 : Int32)) A_sv_MONTH_id_value.1).2
  have el_sv_MONTH_id_value_4 : c_sv_MONTH_id_value.slots[4]? = some (.int (104 : Int32)) := (elem_in (eqv_i (Term.int_eval (104)) nn20) ev_sv_MONTH_id_value (Term.int_eval (4 : Int32)) A_sv_MONTH_id_value.1).2
  have el_sv_QUARTER_id_value_0 : c_sv_QUARTER_id_value.slots[0]? = some (.int (113 : Int32)) := (elem_in (eqv_i (Term.int_eval (113)) nn21) ev_sv_QUARTER_id_value (Term.int_eval (0 : Int32)) A_sv_QUARTER_id_value.1).2
  have el_sv_QUARTER_id_value_1 : c_sv_QUARTER_id_value.slots[1]? = some (.int (117 : Int32)) := (elem_in (eqv_i (Term.int_eval (117)) nn22) ev_sv_QUARTER_id_value (Term.int_eval (1 : Int32)) A_sv_QUARTER_id_value.1).2
  have el_sv_QUARTER_id_value_2 : c_sv_QUARTER_id_value.slots[2]? = some (.int (97 : Int32)) := (elem_in (eqv_i (Term.int_eval (97)) nn23) ev_sv_QUARTER_id_value (Term.int_eval (2 : Int32)) A_sv_QUARTER_id_value.1).2
  have el_sv_QUARTER_id_value_3 : c_sv_QUARTER_id_value.slots[3]? = some (.int (114 : Int32)) := (elem_in (eqv_i (Term.int_eval (114)) nn24) ev_sv_QUARTER_id_value (Term.int_eval (3 : Int32)) A_sv_QUARTER_id_value.1).2
  have el_sv_QUARTER_id_value_4 : c_sv_QUARTER_id_value.slots[4]? = some (.int (116 : Int32)) := (elem_in (eqv_i (Term.int_eval (116)) nn25) ev_sv_QUARTER_id_value (Term.int_eval (4 : Int32)) A_sv_QUARTER_id_value.1).2
  have el_sv_QUARTER_id_value_5 : c_sv_QUARTER_id_value.slots[5]? = some (.int (101 : Int32)) := (elem_in (eqv_i (Term.int_eval (101)) nn26) ev_sv_QUARTER_id_value (Term.int_eval (5 : Int32)) A_sv_QUARTER_id_value.1).2
  have el_sv_QUARTER_id_value_6 : c_sv_QUARTER_id_value.slots[6]? = some (.int (114 : Int32)) := (elem_in (eqv_i (Term.int_eval (114)) hn26) ev_sv_QUARTER_id_value (Term.int_eval (6 : Int32)) A_sv_QUARTER_id_value.1).2
  have V_sv__VALUES := Arv.start (vs := [(.ref sv_MONTH), (.ref sv_QUARTER)]) (dv := .null) hfit A_sv__VALUES l1_sv__VALUES l2_sv__VALUES (by decide) rfl ⟨el_sv__VALUES_0, el_sv__VALUES_1, trivial⟩
  have V_sv_MONTH_id_value := Arv.start (vs := [(.int (109 : Int32)), (.int (111 : Int32)), (.int (110 : Int32)), (.int (116 : Int32)), (.int (104 : Int32))]) (dv := (.int (0 : Int32))) hfit A_sv_MONTH_id_value l1_sv_MONTH_id_value l2_sv_MONTH_id_value (by decide) rfl ⟨el_sv_MONTH_id_value_0, el_sv_MONTH_id_value_1, el_sv_MONTH_id_value_2, el_sv_MONTH_id_value_3, el_sv_MONTH_id_value_4, trivial⟩
  have V_sv_QUARTER_id_value := Arv.start (vs := [(.int (113 : Int32)), (.int (117 : Int32)), (.int (97 : Int32)), (.int (114 : Int32)), (.int (116 : Int32)), (.int (101 : Int32)), (.int (114 : Int32))]) (dv := (.int (0 : Int32))) hfit A_sv_QUARTER_id_value l1_sv_QUARTER_id_value l2_sv_QUARTER_id_value (by decide) rfl ⟨el_sv_QUARTER_id_value_0, el_sv_QUARTER_id_value_1, el_sv_QUARTER_id_value_2, el_sv_QUARTER_id_value_3, el_sv_QUARTER_id_value_4, el_sv_QUARTER_id_value_5, el_sv_QUARTER_id_value_6, trivial⟩
  have ne_sv_MONTH_id_value_sv_QUARTER_id_value : sv_MONTH_id_value ≠ sv_QUARTER_id_value := own_nearv V_sv_MONTH_id_value V_sv_QUARTER_id_value (by decide)
  have ne_sv_MONTH_id_sv_QUARTER_id : sv_MONTH_id ≠ sv_QUARTER_id := Fld.ne F_value_sv_MONTH_id F_value_sv_QUARTER_id (fun q => ne_sv_MONTH_id_value_sv_QUARTER_id_value (Value.ref.inj q))
  have ne_sv_MONTH_sv_QUARTER : sv_MONTH ≠ sv_QUARTER := Fld.ne F_id_sv_MONTH F_id_sv_QUARTER (fun q => ne_sv_MONTH_id_sv_QUARTER_id (Value.ref.inj q))
  obtain ⟨sv_COMPACT_STRINGS, v_cs⟩ := is_v (Cond.before_iff.mp (hsets _ (List.mem_of_getElem? (i := 10) rfl)))
  have S_COMPACT_STRINGS := Sta.start v_cs (Or.inl (hsets _ (List.mem_of_getElem? (i := 9) rfl)))
  have hCS : ¬ (sv_COMPACT_STRINGS = (0 : Int32)) := gotF (Cond.eq_ints v_cs (Term.int_eval 0)) (not_v (Cond.before_iff.mp (hsets _ (List.mem_of_getElem? (i := 11) rfl))))
  obtain ⟨sv_DEFAULTCAPACITY_EMPTY_ELEMENTDATA, v_de⟩ := arr_v (Cond.before_iff.mp (hsets _ (List.mem_of_getElem? (i := 6) rfl)))
  have S_DEFAULTCAPACITY_EMPTY_ELEMENTDATA := Sta.start v_de (Or.inr ⟨(own_w6 hw), (hsets _ (List.mem_of_getElem? (i := 2) rfl))⟩)
  obtain ⟨cde, A_de⟩ := Arr.start v_de (Cond.before_iff.mp (hsets _ (List.mem_of_getElem? (i := 6) rfl)))
  obtain ⟨de1, de2⟩ := own_lenk v_de A_de (Cond.before_iff.mp (hsets _ (List.mem_of_getElem? (i := 8) rfl)))
  have V_de := Arv.start (vs := []) (dv := .null) hfit A_de de1 de2 (by decide) rfl trivial
  have hCH : CHv s own_EL s.vm s.heap := CHv.start (own_hEL hw) (fun p hp => hcalls.1 p hp) (hsets _ (List.mem_of_getElem? (i := 11) rfl)) (own_w118 hw) (own_w117 hw)
  obtain ⟨n, o, h1, h2, h3, _, L, rfl, ⟨rfl, N⟩, -, -, hq⟩ := rm0 l s _ hw tables_1 i0 sv_DEFAULTCAPACITY_EMPTY_ELEMENTDATA sv__VALUES c_sv__VALUES.cls sv_MONTH sv_QUARTER sv_MONTH_id cde.cls sv_QUARTER_id sv_COMPACT_STRINGS sv_MONTH_id_value c_sv_MONTH_id_value.cls sv_QUARTER_id_value c_sv_QUARTER_id_value.cls s.heap s.heap.size (Old.start s) S_DEFAULTCAPACITY_EMPTY_ELEMENTDATA S__VALUES V_sv__VALUES E_sv__VALUES F_id_sv_MONTH V_de E_sv_MONTH_id F_id_sv_QUARTER E_sv_QUARTER_id S_MONTH S_COMPACT_STRINGS F_coder_sv_MONTH_id F_value_sv_MONTH_id V_sv_MONTH_id_value hCS E_sv_MONTH F_coder_sv_QUARTER_id F_value_sv_QUARTER_id V_sv_QUARTER_id_value ne_sv_MONTH_id_sv_QUARTER_id S_QUARTER E_sv_QUARTER p e ha hc hk s m _ below hf ((Spec.applies_iff_loose hf).mp happ).1 ⟨rfl, State.Warmed39.refl s, rfl, hCH, fun _ hx => nomatch hx⟩ trivial
  refine ⟨n, _, h1, h2, h3, hpost _ _ _ _ _ _ ⟨Cond.after_iff.mpr rfl, Cond.after_iff.mpr (eq_i res_at (Term.int_eval (1)) rfl), trivial⟩ ⟨hq.1, hq.2.1, hq.2.2.1, (hq.2.2.2.sift fun y hy => Or.inr (N y hy)).mono (by decide) (by decide)⟩⟩
theorem main_1_1 : Claimed_1_1 := comes_1 fun _ _ _ _ _ _ h hF => ⟨h.1, hF⟩
theorem main_1_2 : Claimed_1_2 := comes_1 fun _ _ _ _ _ _ h hF => ⟨h.2.1, hF⟩
end Jvm.Pilot.@@N@@
namespace Jvm.Pilot.@@N@@
open Jvm Jvm.ClassFile Sem Op Lib Jvm.Free Jvm.Stand Jvm.Pilot.@@N@@.Jvm.D
/-! MADE BY PROGRAM (witnessworld.py) out of the Statement's table words and the real class files: 30 classes; the members and pool entries that the words name. The judged class is class 1, her method 1. -/
namespace start1
open Jvm.ClassFile
def u (s : String) : CpInfo := .utf8 (stringToUtf16 s)
/-- a pool by its gaps: so many unusable entries, then the entry; so many at the end -/
def gap : Nat → List CpInfo → List CpInfo
  | 0, r => r
  | n + 1, r => .unusable :: gap n r
def poolList (es : List (Nat × CpInfo)) (last : Nat) : List CpInfo := es.foldr (fun e r => gap e.1 (e.2 :: r)) (gap last [])
def pool (es : List (Nat × CpInfo)) (last : Nat) : Array CpInfo := ⟨poolList es last⟩
def fileOf (pool : Array CpInfo) (this : Nat) (attrs : Array Attribute := #[]) (ms : Array MethodInfo := #[]) (fl : Nat := 33) (sup : Nat := 0) (ifs : Array Nat := #[]) (fds : Array FieldInfo := #[]) : ClassFile where
  minorVersion := 0
  majorVersion := 65
  constantPool := pool
  accessFlags := fl
  thisClass := this
  superClass := sup
  interfaces := ifs
  fields := fds
  methods := ms
  attributes := attrs
def plain (name : String) (sup : Option ClassId) : Class where
  name := name
  kind := .ordinary
  loader := none
  accessFlags := 33
  super := sup
  interfaces := #[]
  cf := none
  fields := #[]
  methods := #[]
  instanceTypes := #[]
  staticTypes := #[]
  resolved := #[]
  callSites := []
  init := .initialized
  statics := none
  mirror := none

def pool0 : Array CpInfo := pool [(5, u "<init>"), (0, u "()V"), (1, .class_ 10), (1, u "java/lang/Object"), (85, u "clone"), (0, u "()Ljava/lang/Object;")] 26

def k0c0 : Code := { maxStack := 0, maxLocals := 1, code := object_method_1_code, exceptionTable := #[], attributes := #[] }
def k0m0 : Method := { name := "<init>", desc := "()V", sig := { parameters := [], returnType := none }, accessFlags := 1, code := some k0c0 }
def k0m1 : Method := { name := "clone", desc := "()Ljava/lang/Object;", sig := { parameters := [], returnType := some (.object "java/lang/Object") }, accessFlags := 260, code := none }
/-- java/lang/Object -/
def k0 : Class := { plain "java/lang/Object" none with
  accessFlags := 33
  interfaces := #[]
  cf := some (fileOf pool0 8 #[] #[{ accessFlags := 1, nameIndex := 5, descriptorIndex := 6, attributes := #[] }, { accessFlags := 260, nameIndex := 96, descriptorIndex := 97, attributes := #[] }] 33 0 #[] #[])
  fields := #[]
  methods := #[k0m0, k0m1]
  instanceTypes := #[]
  staticTypes := #[]
  resolved := Array.replicate 124 none
  statics := none }

def pool1 : Array CpInfo := pool [(2, .class_ 4), (1, u "java/lang/Object"), (0, u "<init>"), (0, u "()V"), (0, .methodref 8 9), (0, .class_ 10), (0, .nameAndType 11 12), (0, u "com/example/tapline/tapline/rules/ReturnPeriod"), (0, u "ids"), (0, u "()Ljava/util/List;"), (0, .interfaceMethodref 14 15), (0, .class_ 16), (0, .nameAndType 17 18), (0, u "java/util/List"), (0, u "size"), (0, u "()I"), (0, .interfaceMethodref 14 20), (0, .nameAndType 21 22), (0, u "get"), (0, u "(I)Ljava/lang/Object;"), (0, .class_ 24), (0, u "java/lang/String"), (0, .string 26), (0, u "month"), (0, .string 28), (0, u "quarter"), (0, .fieldref 8 30), (0, .nameAndType 31 32), (0, u "MONTH"), (0, u "Lcom/example/tapline/tapline/rules/ReturnPeriod;"), (0, .fieldref 8 34), (0, .nameAndType 35 32), (0, u "QUARTER"), (0, .methodref 23 37), (0, .nameAndType 38 39), (0, u "equals"), (0, u "(Ljava/lang/Object;)Z"), (0, .methodref 8 41), (0, .nameAndType 42 43), (0, u "id"), (0, u "()Ljava/lang/String;"), (0, .methodref 8 45), (0, .nameAndType 46 47), (0, u "byId"), (0, u "(Ljava/lang/String;)Lcom/example/tapline/tapline/rules/ReturnPeriod;"), (0, .class_ 49), (0, u "com/example/tapline/tapline/rules/ReturnPeriodIdsPinLaw"), (2, u "law"), (0, u "(I)Z")] 3

def k1m0 : Method := { name := "<init>", desc := "()V", sig := { parameters := [], returnType := none }, accessFlags := 1, code := none }
def k1c1 : Code := { maxStack := 2, maxLocals := 6, code := code, exceptionTable := #[], attributes := #[] }
def k1m1 : Method := { name := "law", desc := "(I)Z", sig := { parameters := [.int], returnType := some .boolean }, accessFlags := 9, code := some k1c1 }
/-- com/example/tapline/tapline/rules/ReturnPeriodIdsPinLaw -/
def k1 : Class := { plain "com/example/tapline/tapline/rules/ReturnPeriodIdsPinLaw" (some 0) with
  accessFlags := 49
  interfaces := #[]
  cf := some (fileOf pool1 48 #[] #[{ accessFlags := 1, nameIndex := 5, descriptorIndex := 6, attributes := #[] }, { accessFlags := 9, nameIndex := 52, descriptorIndex := 53, attributes := #[] }] 49 2 #[] #[])
  fields := #[]
  methods := #[k1m0, k1m1]
  instanceTypes := #[]
  staticTypes := #[]
  resolved := Array.replicate 57 none
  statics := none }

def pool2 : Array CpInfo := pool [(1, .class_ 2), (0, u "java/lang/constant/Constable"), (0, .class_ 4), (0, u "java/lang/Object")] 6

/-- java/lang/constant/Constable -/
def k2 : Class := { plain "java/lang/constant/Constable" (some 0) with
  accessFlags := 1537
  interfaces := #[]
  cf := some (fileOf pool2 1 #[] #[] 1537 3 #[] #[])
  fields := #[]
  methods := #[]
  instanceTypes := #[]
  staticTypes := #[]
  resolved := Array.replicate 11 none
  statics := none }

def pool3 : Array CpInfo := pool [(1, .class_ 2), (0, u "java/lang/Comparable"), (0, .class_ 4), (0, u "java/lang/Object")] 7

/-- java/lang/Comparable -/
def k3 : Class := { plain "java/lang/Comparable" (some 0) with
  accessFlags := 1537
  interfaces := #[]
  cf := some (fileOf pool3 1 #[] #[] 1537 3 #[] #[])
  fields := #[]
  methods := #[]
  instanceTypes := #[]
  staticTypes := #[]
  resolved := Array.replicate 12 none
  statics := none }

def pool4 : Array CpInfo := pool [(1, .class_ 2), (0, u "java/io/Serializable"), (0, .class_ 4), (0, u "java/lang/Object")] 2

/-- java/io/Serializable -/
def k4 : Class := { plain "java/io/Serializable" (some 0) with
  accessFlags := 1537
  interfaces := #[]
  cf := some (fileOf pool4 1 #[] #[] 1537 3 #[] #[])
  fields := #[]
  methods := #[]
  instanceTypes := #[]
  staticTypes := #[]
  resolved := Array.replicate 7 none
  statics := none }

def pool5 : Array CpInfo := pool [(2, .class_ 4), (1, u "java/lang/Enum"), (0, u "name"), (0, u "Ljava/lang/String;"), (2, u "ordinal"), (0, u "I"), (1, .class_ 14), (1, u "java/lang/Object"), (4, u "hash"), (86, .class_ 108), (1, u "java/lang/Enum$EnumDesc"), (2, .class_ 112), (0, u "java/lang/constant/Constable"), (0, .class_ 114), (0, u "java/lang/Comparable"), (0, .class_ 116), (0, u "java/io/Serializable")] 87

/-- java/lang/Enum -/
def k5 : Class := { plain "java/lang/Enum" (some 0) with
  accessFlags := 1057
  interfaces := #[2, 3, 4]
  cf := some (fileOf pool5 2 #[.nestMembers #[106]] #[] 1057 12 #[111, 113, 115] #[{ accessFlags := 18, nameIndex := 5, descriptorIndex := 6, attributes := #[] }, { accessFlags := 18, nameIndex := 9, descriptorIndex := 10, attributes := #[] }, { accessFlags := 2, nameIndex := 19, descriptorIndex := 10, attributes := #[] }])
  fields := #[{ name := "name", type := (.object "java/lang/String"), accessFlags := 18, slot := 0, constantValue := 0 }, { name := "ordinal", type := .int, accessFlags := 18, slot := 1, constantValue := 0 }, { name := "hash", type := .int, accessFlags := 2, slot := 2, constantValue := 0 }]
  methods := #[]
  instanceTypes := #[(.object "java/lang/String"), .int, .int]
  staticTypes := #[]
  resolved := Array.replicate 204 none
  statics := none }

def pool6 : Array CpInfo := pool [(1, .class_ 2), (0, u "com/example/tapline/tapline/rules/ReturnPeriod"), (2, u "MONTH"), (0, u "Lcom/example/tapline/tapline/rules/ReturnPeriod;"), (2, u "QUARTER"), (0, .fieldref 1 11), (0, .nameAndType 12 13), (0, u "$VALUES"), (0, u "[Lcom/example/tapline/tapline/rules/ReturnPeriod;"), (0, .methodref 15 16), (0, .class_ 13), (0, .nameAndType 17 18), (0, u "clone"), (0, u "()Ljava/lang/Object;"), (1, .class_ 22), (1, u "java/lang/Enum"), (4, u "<init>"), (1, .fieldref 1 30), (0, .nameAndType 31 32), (0, u "id"), (0, u "Ljava/lang/String;"), (2, u "months"), (0, u "I"), (17, .methodref 1 55), (0, .nameAndType 56 57), (0, u "values"), (0, u "()[Lcom/example/tapline/tapline/rules/ReturnPeriod;"), (0, .methodref 59 60), (0, .class_ 61), (0, .nameAndType 62 63), (0, u "java/lang/String"), (0, u "equals"), (0, u "(Ljava/lang/Object;)Z"), (0, .class_ 65), (0, u "java/util/ArrayList"), (0, .methodref 64 67), (0, .nameAndType 27 68), (0, u "()V"), (0, .interfaceMethodref 70 71), (0, .class_ 72), (0, .nameAndType 73 63), (0, u "java/util/List"), (0, u "add"), (14, u "(Ljava/lang/String;)Lcom/example/tapline/tapline/rules/ReturnPeriod;"), (2, u "()Ljava/lang/String;"), (1, u "byId"), (1, u "ids"), (0, u "()Ljava/util/List;")] 5

def k6c0 : Code := { maxStack := 1, maxLocals := 0, code := prog_74_method_1_code, exceptionTable := #[], attributes := #[] }
def k6m0 : Method := { name := "values", desc := "()[Lcom/example/tapline/tapline/rules/ReturnPeriod;", sig := { parameters := [], returnType := some (.array (.object "com/example/tapline/tapline/rules/ReturnPeriod")) }, accessFlags := 9, code := some k6c0 }
def k6c1 : Code := { maxStack := 1, maxLocals := 1, code := prog_74_method_4_code, exceptionTable := #[], attributes := #[] }
def k6m1 : Method := { name := "id", desc := "()Ljava/lang/String;", sig := { parameters := [], returnType := some (.object "java/lang/String") }, accessFlags := 1, code := some k6c1 }
def k6c2 : Code := { maxStack := 2, maxLocals := 6, code := prog_74_method_7_code, exceptionTable := #[], attributes := #[] }
def k6m2 : Method := { name := "byId", desc := "(Ljava/lang/String;)Lcom/example/tapline/tapline/rules/ReturnPeriod;", sig := { parameters := [(.object "java/lang/String")], returnType := some (.object "com/example/tapline/tapline/rules/ReturnPeriod") }, accessFlags := 9, code := some k6c2 }
def k6c3 : Code := { maxStack := 2, maxLocals := 5, code := prog_74_method_8_code, exceptionTable := #[], attributes := #[] }
def k6m3 : Method := { name := "ids", desc := "()Ljava/util/List;", sig := { parameters := [], returnType := some (.object "java/util/List") }, accessFlags := 9, code := some k6c3 }
/-- com/example/tapline/tapline/rules/ReturnPeriod -/
def k6 : Class := { plain "com/example/tapline/tapline/rules/ReturnPeriod" (some 5) with
  accessFlags := 16433
  interfaces := #[]
  cf := some (fileOf pool6 1 #[] #[{ accessFlags := 9, nameIndex := 56, descriptorIndex := 57, attributes := #[] }, { accessFlags := 1, nameIndex := 31, descriptorIndex := 91, attributes := #[] }, { accessFlags := 9, nameIndex := 93, descriptorIndex := 88, attributes := #[] }, { accessFlags := 9, nameIndex := 95, descriptorIndex := 96, attributes := #[] }] 16433 20 #[] #[{ accessFlags := 16409, nameIndex := 5, descriptorIndex := 6, attributes := #[] }, { accessFlags := 16409, nameIndex := 9, descriptorIndex := 6, attributes := #[] }, { accessFlags := 18, nameIndex := 31, descriptorIndex := 32, attributes := #[] }, { accessFlags := 18, nameIndex := 35, descriptorIndex := 36, attributes := #[] }, { accessFlags := 4122, nameIndex := 12, descriptorIndex := 13, attributes := #[] }])
  fields := #[{ name := "MONTH", type := (.object "com/example/tapline/tapline/rules/ReturnPeriod"), accessFlags := 16409, slot := 0, constantValue := 0 }, { name := "QUARTER", type := (.object "com/example/tapline/tapline/rules/ReturnPeriod"), accessFlags := 16409, slot := 1, constantValue := 0 }, { name := "id", type := (.object "java/lang/String"), accessFlags := 18, slot := 3, constantValue := 0 }, { name := "months", type := .int, accessFlags := 18, slot := 4, constantValue := 0 }, { name := "$VALUES", type := (.array (.object "com/example/tapline/tapline/rules/ReturnPeriod")), accessFlags := 4122, slot := 2, constantValue := 0 }]
  methods := #[k6m0, k6m1, k6m2, k6m3]
  instanceTypes := #[(.object "java/lang/String"), .int, .int, (.object "java/lang/String"), .int]
  staticTypes := #[(.object "com/example/tapline/tapline/rules/ReturnPeriod"), (.object "com/example/tapline/tapline/rules/ReturnPeriod"), (.array (.object "com/example/tapline/tapline/rules/ReturnPeriod"))]
  resolved := Array.replicate 102 none
  statics := some 0 }

def pool7 : Array CpInfo := pool [(8, .class_ 10), (1, u "java/lang/Iterable"), (24, .class_ 36), (0, u "java/lang/Object")] 25

/-- java/lang/Iterable -/
def k7 : Class := { plain "java/lang/Iterable" (some 0) with
  accessFlags := 1537
  interfaces := #[]
  cf := some (fileOf pool7 8 #[] #[] 1537 35 #[] #[])
  fields := #[]
  methods := #[]
  instanceTypes := #[]
  staticTypes := #[]
  resolved := Array.replicate 62 none
  statics := none }

def pool8 : Array CpInfo := pool [(10, .class_ 12), (1, u "java/util/Collection"), (47, .class_ 61), (0, u "java/lang/Object"), (0, .class_ 63), (0, u "java/lang/Iterable")] 51

/-- java/util/Collection -/
def k8 : Class := { plain "java/util/Collection" (some 0) with
  accessFlags := 1537
  interfaces := #[7]
  cf := some (fileOf pool8 10 #[] #[] 1537 60 #[62] #[])
  fields := #[]
  methods := #[]
  instanceTypes := #[]
  staticTypes := #[]
  resolved := Array.replicate 115 none
  statics := none }

def pool9 : Array CpInfo := pool [(1, .methodref 2 3), (0, .class_ 4), (0, .nameAndType 5 6), (0, u "java/lang/Object"), (0, u "<init>"), (0, u "()V"), (1, .class_ 10), (1, u "java/util/AbstractCollection"), (66, .class_ 78), (0, u "java/util/Collection")] 81

def k9c0 : Code := { maxStack := 1, maxLocals := 1, code := jdk_22_method_1_code, exceptionTable := #[], attributes := #[] }
def k9m0 : Method := { name := "<init>", desc := "()V", sig := { parameters := [], returnType := none }, accessFlags := 4, code := some k9c0 }
/-- java/util/AbstractCollection -/
def k9 : Class := { plain "java/util/AbstractCollection" (some 0) with
  accessFlags := 1057
  interfaces := #[8]
  cf := some (fileOf pool9 8 #[] #[{ accessFlags := 4, nameIndex := 5, descriptorIndex := 6, attributes := #[] }] 1057 2 #[77] #[])
  fields := #[]
  methods := #[k9m0]
  instanceTypes := #[]
  staticTypes := #[]
  resolved := Array.replicate 160 none
  statics := none }

def pool10 : Array CpInfo := pool [(8, .class_ 10), (1, u "java/util/SequencedCollection"), (15, .class_ 27), (0, u "java/lang/Object"), (0, .class_ 29), (0, u "java/util/Collection")] 27

/-- java/util/SequencedCollection -/
def k10 : Class := { plain "java/util/SequencedCollection" (some 0) with
  accessFlags := 1537
  interfaces := #[8]
  cf := some (fileOf pool10 8 #[] #[] 1537 26 #[28] #[])
  fields := #[]
  methods := #[]
  instanceTypes := #[]
  staticTypes := #[]
  resolved := Array.replicate 57 none
  statics := none }

def pool11 : Array CpInfo := pool [(8, .class_ 10), (1, u "java/util/List"), (49, u "add"), (3, u "(Ljava/lang/Object;)Z"), (10, u "get"), (0, u "(I)Ljava/lang/Object;"), (2, u "size"), (0, u "()I"), (22, .class_ 104), (0, u "java/lang/Object"), (15, .class_ 121), (0, u "java/util/SequencedCollection")] 129

def k11m0 : Method := { name := "size", desc := "()I", sig := { parameters := [], returnType := some .int }, accessFlags := 1025, code := none }
def k11m1 : Method := { name := "add", desc := "(Ljava/lang/Object;)Z", sig := { parameters := [(.object "java/lang/Object")], returnType := some .boolean }, accessFlags := 1025, code := none }
def k11m2 : Method := { name := "get", desc := "(I)Ljava/lang/Object;", sig := { parameters := [.int], returnType := some (.object "java/lang/Object") }, accessFlags := 1025, code := none }
/-- java/util/List -/
def k11 : Class := { plain "java/util/List" (some 0) with
  accessFlags := 1537
  interfaces := #[10]
  cf := some (fileOf pool11 8 #[] #[{ accessFlags := 1025, nameIndex := 79, descriptorIndex := 80, attributes := #[] }, { accessFlags := 1025, nameIndex := 60, descriptorIndex := 64, attributes := #[] }, { accessFlags := 1025, nameIndex := 75, descriptorIndex := 76, attributes := #[] }] 1537 103 #[120] #[])
  fields := #[]
  methods := #[k11m0, k11m1, k11m2]
  instanceTypes := #[]
  staticTypes := #[]
  resolved := Array.replicate 251 none
  statics := none }

def pool12 : Array CpInfo := pool [(1, .methodref 2 3), (0, .class_ 4), (0, .nameAndType 5 6), (0, u "java/util/AbstractCollection"), (0, u "<init>"), (0, u "()V"), (0, .fieldref 8 9), (0, .class_ 10), (0, .nameAndType 11 12), (0, u "java/util/AbstractList"), (0, u "modCount"), (0, u "I"), (64, .class_ 78), (0, u "java/util/AbstractList$Itr"), (3, .class_ 83), (0, u "java/util/AbstractList$ListItr"), (9, .class_ 94), (0, u "java/util/AbstractList$RandomAccessSubList"), (3, .class_ 99), (0, u "java/util/AbstractList$SubList"), (33, .class_ 134), (0, u "java/util/List"), (73, .class_ 209), (0, u "java/util/AbstractList$SubList$1"), (0, .class_ 211), (0, u "java/util/AbstractList$RandomAccessSpliterator")] 6

def k12c0 : Code := { maxStack := 2, maxLocals := 1, code := jdk_39_method_1_code, exceptionTable := #[], attributes := #[] }
def k12m0 : Method := { name := "<init>", desc := "()V", sig := { parameters := [], returnType := none }, accessFlags := 4, code := some k12c0 }
/-- java/util/AbstractList -/
def k12 : Class := { plain "java/util/AbstractList" (some 9) with
  accessFlags := 1057
  interfaces := #[11]
  cf := some (fileOf pool12 8 #[.nestMembers #[93, 98, 208, 210, 82, 77]] #[{ accessFlags := 4, nameIndex := 5, descriptorIndex := 6, attributes := #[] }] 1057 2 #[133] #[{ accessFlags := 132, nameIndex := 11, descriptorIndex := 12, attributes := #[] }])
  fields := #[{ name := "modCount", type := .int, accessFlags := 132, slot := 0, constantValue := 0 }]
  methods := #[k12m0]
  instanceTypes := #[.int]
  staticTypes := #[]
  resolved := Array.replicate 218 none
  statics := none }

def pool13 : Array CpInfo := pool [(1, .class_ 2), (0, u "java/util/RandomAccess"), (0, .class_ 4), (0, u "java/lang/Object")] 2

/-- java/util/RandomAccess -/
def k13 : Class := { plain "java/util/RandomAccess" (some 0) with
  accessFlags := 1537
  interfaces := #[]
  cf := some (fileOf pool13 1 #[] #[] 1537 3 #[] #[])
  fields := #[]
  methods := #[]
  instanceTypes := #[]
  staticTypes := #[]
  resolved := Array.replicate 7 none
  statics := none }

def pool14 : Array CpInfo := pool [(1, .class_ 2), (0, u "java/lang/Cloneable"), (0, .class_ 4), (0, u "java/lang/Object")] 2

/-- java/lang/Cloneable -/
def k14 : Class := { plain "java/lang/Cloneable" (some 0) with
  accessFlags := 1537
  interfaces := #[]
  cf := some (fileOf pool14 1 #[] #[] 1537 3 #[] #[])
  fields := #[]
  methods := #[]
  instanceTypes := #[]
  staticTypes := #[]
  resolved := Array.replicate 7 none
  statics := none }

def pool15 : Array CpInfo := pool [(1, .methodref 2 3), (0, .class_ 4), (0, .nameAndType 5 6), (0, u "java/util/AbstractList"), (0, u "<init>"), (0, u "()V"), (0, .class_ 8), (0, u "java/lang/Object"), (0, .fieldref 10 11), (0, .class_ 12), (0, .nameAndType 13 14), (0, u "java/util/ArrayList"), (0, u "elementData"), (0, u "[Ljava/lang/Object;"), (2, u "EMPTY_ELEMENTDATA"), (21, .fieldref 10 40), (0, .nameAndType 41 14), (0, u "DEFAULTCAPACITY_EMPTY_ELEMENTDATA"), (5, u "()[Ljava/lang/Object;"), (0, .fieldref 10 49), (0, .nameAndType 50 51), (0, u "size"), (0, u "I"), (11, .fieldref 10 64), (0, .nameAndType 65 51), (0, u "modCount"), (3, .methodref 10 70), (0, .nameAndType 71 72), (0, u "grow"), (0, u "(I)[Ljava/lang/Object;"), (6, .methodref 80 81), (0, .class_ 82), (0, .nameAndType 83 84), (0, u "java/lang/Math"), (0, u "max"), (0, u "(II)I"), (11, u "(Ljava/lang/Object;)Z"), (21, .methodref 119 120), (0, .class_ 121), (0, .nameAndType 122 84), (0, u "java/util/Objects"), (0, u "checkIndex"), (0, .methodref 10 124), (0, .nameAndType 13 125), (0, u "(I)Ljava/lang/Object;"), (3, .methodref 10 130), (0, .nameAndType 71 47), (0, .methodref 10 132), (0, .nameAndType 133 134), (0, u "add"), (0, u "(Ljava/lang/Object;[Ljava/lang/Object;I)V"), (13, .class_ 149), (0, u "java/util/List"), (36, u "()I"), (75, .class_ 263), (0, u "java/util/ArrayList$ListItr"), (3, .class_ 268), (0, u "java/util/ArrayList$Itr"), (7, .class_ 277), (0, u "java/util/ArrayList$SubList"), (12, .class_ 291), (0, u "java/util/ArrayList$ArrayListSpliterator"), (37, .class_ 330), (0, u "java/util/RandomAccess"), (0, .class_ 332), (0, u "java/lang/Cloneable"), (0, .class_ 334), (0, u "java/io/Serializable"), (0, u "serialVersionUID"), (0, u "J"), (3, u "DEFAULT_CAPACITY"), (40, u "get"), (118, .class_ 501), (0, u "java/util/ArrayList$SubList$2"), (0, .class_ 503), (0, u "java/util/ArrayList$SubList$1")] 5

def k15c0 : Code := { maxStack := 2, maxLocals := 1, code := jdk_38_method_2_code, exceptionTable := #[], attributes := #[] }
def k15m0 : Method := { name := "<init>", desc := "()V", sig := { parameters := [], returnType := none }, accessFlags := 1, code := some k15c0 }
def k15c1 : Code := { maxStack := 4, maxLocals := 4, code := jdk_38_method_6_code, exceptionTable := #[], attributes := #[] }
def k15m1 : Method := { name := "grow", desc := "(I)[Ljava/lang/Object;", sig := { parameters := [.int], returnType := some (.array (.object "java/lang/Object")) }, accessFlags := 2, code := some k15c1 }
def k15c2 : Code := { maxStack := 3, maxLocals := 1, code := jdk_38_method_7_code, exceptionTable := #[], attributes := #[] }
def k15m2 : Method := { name := "grow", desc := "()[Ljava/lang/Object;", sig := { parameters := [], returnType := some (.array (.object "java/lang/Object")) }, accessFlags := 2, code := some k15c2 }
def k15c3 : Code := { maxStack := 1, maxLocals := 1, code := jdk_38_method_8_code, exceptionTable := #[], attributes := #[] }
def k15m3 : Method := { name := "size", desc := "()I", sig := { parameters := [], returnType := some .int }, accessFlags := 1, code := some k15c3 }
def k15c4 : Code := { maxStack := 2, maxLocals := 2, code := jdk_38_method_18_code, exceptionTable := #[], attributes := #[] }
def k15m4 : Method := { name := "elementData", desc := "(I)Ljava/lang/Object;", sig := { parameters := [.int], returnType := some (.object "java/lang/Object") }, accessFlags := 0, code := some k15c4 }
def k15c5 : Code := { maxStack := 2, maxLocals := 2, code := jdk_38_method_20_code, exceptionTable := #[], attributes := #[] }
def k15m5 : Method := { name := "get", desc := "(I)Ljava/lang/Object;", sig := { parameters := [.int], returnType := some (.object "java/lang/Object") }, accessFlags := 1, code := some k15c5 }
def k15c6 : Code := { maxStack := 3, maxLocals := 4, code := jdk_38_method_24_code, exceptionTable := #[], attributes := #[] }
def k15m6 : Method := { name := "add", desc := "(Ljava/lang/Object;[Ljava/lang/Object;I)V", sig := { parameters := [(.object "java/lang/Object"), (.array (.object "java/lang/Object")), .int], returnType := none }, accessFlags := 2, code := some k15c6 }
def k15c7 : Code := { maxStack := 4, maxLocals := 2, code := jdk_38_method_25_code, exceptionTable := #[], attributes := #[] }
def k15m7 : Method := { name := "add", desc := "(Ljava/lang/Object;)Z", sig := { parameters := [(.object "java/lang/Object")], returnType := some .boolean }, accessFlags := 1, code := some k15c7 }
/-- java/util/ArrayList -/
def k15 : Class := { plain "java/util/ArrayList" (some 12) with
  accessFlags := 33
  interfaces := #[11, 13, 14, 4]
  cf := some (fileOf pool15 10 #[.nestMembers #[290, 276, 500, 502, 262, 267]] #[{ accessFlags := 1, nameIndex := 5, descriptorIndex := 6, attributes := #[] }, { accessFlags := 2, nameIndex := 71, descriptorIndex := 72, attributes := #[] }, { accessFlags := 2, nameIndex := 71, descriptorIndex := 47, attributes := #[] }, { accessFlags := 1, nameIndex := 50, descriptorIndex := 186, attributes := #[] }, { accessFlags := 0, nameIndex := 13, descriptorIndex := 125, attributes := #[] }, { accessFlags := 1, nameIndex := 381, descriptorIndex := 125, attributes := #[] }, { accessFlags := 2, nameIndex := 133, descriptorIndex := 134, attributes := #[] }, { accessFlags := 1, nameIndex := 133, descriptorIndex := 96, attributes := #[] }] 33 2 #[148, 329, 331, 333] #[{ accessFlags := 26, nameIndex := 335, descriptorIndex := 336, attributes := #[] }, { accessFlags := 26, nameIndex := 340, descriptorIndex := 51, attributes := #[] }, { accessFlags := 26, nameIndex := 17, descriptorIndex := 14, attributes := #[] }, { accessFlags := 26, nameIndex := 41, descriptorIndex := 14, attributes := #[] }, { accessFlags := 128, nameIndex := 13, descriptorIndex := 14, attributes := #[] }, { accessFlags := 2, nameIndex := 50, descriptorIndex := 51, attributes := #[] }])
  fields := #[{ name := "serialVersionUID", type := .long, accessFlags := 26, slot := 0, constantValue := 0 }, { name := "DEFAULT_CAPACITY", type := .int, accessFlags := 26, slot := 1, constantValue := 0 }, { name := "EMPTY_ELEMENTDATA", type := (.array (.object "java/lang/Object")), accessFlags := 26, slot := 2, constantValue := 0 }, { name := "DEFAULTCAPACITY_EMPTY_ELEMENTDATA", type := (.array (.object "java/lang/Object")), accessFlags := 26, slot := 3, constantValue := 0 }, { name := "elementData", type := (.array (.object "java/lang/Object")), accessFlags := 128, slot := 1, constantValue := 0 }, { name := "size", type := .int, accessFlags := 2, slot := 2, constantValue := 0 }]
  methods := #[k15m0, k15m1, k15m2, k15m3, k15m4, k15m5, k15m6, k15m7]
  instanceTypes := #[.int, (.array (.object "java/lang/Object")), .int]
  staticTypes := #[.long, .int, (.array (.object "java/lang/Object")), (.array (.object "java/lang/Object"))]
  resolved := Array.replicate 509 none
  statics := some 1 }

def pool16 : Array CpInfo := pool [(1, .class_ 2), (0, u "java/lang/Math"), (1, .class_ 6), (1, u "java/lang/Object"), (0, u "<init>"), (0, u "()V"), (89, .class_ 100), (1, u "java/lang/Math$RandomNumberGeneratorHolder"), (71, u "negativeZeroFloatBits"), (0, u "J"), (2, u "negativeZeroDoubleBits"), (21, u "max"), (46, u "$assertionsDisabled"), (0, u "Z"), (88, u "(II)I"), (2, u "twoToTheDoubleScaleDown"), (0, u "D"), (4, u "twoToTheDoubleScaleUp"), (9, u "E"), (3, u "PI"), (2, u "TAU"), (2, u "DEGREES_TO_RADIANS"), (0, u "RADIANS_TO_DEGREES")] 94

def k16m0 : Method := { name := "<init>", desc := "()V", sig := { parameters := [], returnType := none }, accessFlags := 2, code := none }
def k16c1 : Code := { maxStack := 2, maxLocals := 2, code := jdk_29_method_65_code, exceptionTable := #[], attributes := #[] }
def k16m1 : Method := { name := "max", desc := "(II)I", sig := { parameters := [.int, .int], returnType := some .int }, accessFlags := 9, code := some k16c1 }
/-- java/lang/Math -/
def k16 : Class := { plain "java/lang/Math" (some 0) with
  accessFlags := 49
  interfaces := #[]
  cf := some (fileOf pool16 1 #[.nestMembers #[98]] #[{ accessFlags := 2, nameIndex := 7, descriptorIndex := 8, attributes := #[] }, { accessFlags := 9, nameIndex := 198, descriptorIndex := 335, attributes := #[] }] 49 4 #[] #[{ accessFlags := 25, nameIndex := 354, descriptorIndex := 339, attributes := #[] }, { accessFlags := 25, nameIndex := 358, descriptorIndex := 339, attributes := #[] }, { accessFlags := 25, nameIndex := 361, descriptorIndex := 339, attributes := #[] }, { accessFlags := 26, nameIndex := 364, descriptorIndex := 339, attributes := #[] }, { accessFlags := 26, nameIndex := 365, descriptorIndex := 339, attributes := #[] }, { accessFlags := 26, nameIndex := 172, descriptorIndex := 173, attributes := #[] }, { accessFlags := 26, nameIndex := 176, descriptorIndex := 173, attributes := #[] }, { accessFlags := 8, nameIndex := 344, descriptorIndex := 339, attributes := #[] }, { accessFlags := 8, nameIndex := 338, descriptorIndex := 339, attributes := #[] }, { accessFlags := 4120, nameIndex := 245, descriptorIndex := 246, attributes := #[] }])
  fields := #[{ name := "E", type := .double, accessFlags := 25, slot := 0, constantValue := 0 }, { name := "PI", type := .double, accessFlags := 25, slot := 1, constantValue := 0 }, { name := "TAU", type := .double, accessFlags := 25, slot := 2, constantValue := 0 }, { name := "DEGREES_TO_RADIANS", type := .double, accessFlags := 26, slot := 3, constantValue := 0 }, { name := "RADIANS_TO_DEGREES", type := .double, accessFlags := 26, slot := 4, constantValue := 0 }, { name := "negativeZeroFloatBits", type := .long, accessFlags := 26, slot := 5, constantValue := 0 }, { name := "negativeZeroDoubleBits", type := .long, accessFlags := 26, slot := 6, constantValue := 0 }, { name := "twoToTheDoubleScaleUp", type := .double, accessFlags := 8, slot := 7, constantValue := 0 }, { name := "twoToTheDoubleScaleDown", type := .double, accessFlags := 8, slot := 8, constantValue := 0 }, { name := "$assertionsDisabled", type := .boolean, accessFlags := 4120, slot := 9, constantValue := 0 }]
  methods := #[k16m0, k16m1]
  instanceTypes := #[]
  staticTypes := #[.double, .double, .double, .double, .double, .long, .long, .double, .double, .boolean]
  resolved := Array.replicate 460 none
  statics := none }

def pool17 : Array CpInfo := pool [(2, .class_ 4), (1, u "java/lang/CharSequence"), (42, .class_ 48), (0, u "java/lang/CharSequence$1CodePointIterator"), (10, .class_ 60), (0, u "java/lang/CharSequence$1CharIterator"), (5, .class_ 67), (0, u "java/lang/Object")] 63

/-- java/lang/CharSequence -/
def k17 : Class := { plain "java/lang/CharSequence" (some 0) with
  accessFlags := 1537
  interfaces := #[]
  cf := some (fileOf pool17 2 #[.nestMembers #[47, 59]] #[] 1537 66 #[] #[])
  fields := #[]
  methods := #[]
  instanceTypes := #[]
  staticTypes := #[]
  resolved := Array.replicate 131 none
  statics := none }

def pool18 : Array CpInfo := pool [(1, .class_ 2), (0, u "java/lang/constant/ConstantDesc"), (0, .class_ 4), (0, u "java/lang/Object")] 32

/-- java/lang/constant/ConstantDesc -/
def k18 : Class := { plain "java/lang/constant/ConstantDesc" (some 0) with
  accessFlags := 1537
  interfaces := #[]
  cf := some (fileOf pool18 1 #[] #[] 1537 3 #[] #[])
  fields := #[]
  methods := #[]
  instanceTypes := #[]
  staticTypes := #[]
  resolved := Array.replicate 37 none
  statics := none }

def pool19 : Array CpInfo := pool [(2, .class_ 4), (1, u "java/lang/Object"), (0, u "<init>"), (0, u "()V"), (2, .fieldref 10 11), (0, .class_ 12), (0, .nameAndType 13 14), (0, u "java/lang/String"), (0, u "value"), (0, u "[B"), (0, .fieldref 10 16), (0, .nameAndType 17 18), (0, u "coder"), (0, u "B"), (2, u "hash"), (0, u "I"), (2, u "hashIsZero"), (0, u "Z"), (11, .fieldref 10 39), (0, .nameAndType 40 26), (0, u "COMPACT_STRINGS"), (66, .class_ 109), (1, u "java/lang/StringLatin1"), (431, .methodref 107 542), (0, .nameAndType 543 544), (0, u "equals"), (0, u "([B[B)Z"), (28, u "(Ljava/lang/Object;)Z"), (1, .class_ 576), (0, u "java/lang/CharSequence"), (22, u "CASE_INSENSITIVE_ORDER"), (0, u "Ljava/util/Comparator;"), (500, u "serialPersistentFields"), (0, u "[Ljava/io/ObjectStreamField;"), (0, .class_ 1104), (0, u "java/lang/String$CaseInsensitiveComparator"), (1, .class_ 1107), (0, u "java/io/Serializable"), (0, .class_ 1109), (0, u "java/lang/Comparable"), (0, .class_ 1111), (0, u "java/lang/constant/Constable"), (0, .class_ 1113), (0, u "java/lang/constant/ConstantDesc"), (2, u "serialVersionUID"), (0, u "J"), (3, u "REPL"), (0, u "C"), (2, u "LATIN1"), (1, u "UTF16")] 323

def k19m0 : Method := { name := "<init>", desc := "()V", sig := { parameters := [], returnType := none }, accessFlags := 1, code := none }
def k19c1 : Code := { maxStack := 2, maxLocals := 3, code := jdk_42_method_66_code, exceptionTable := #[], attributes := #[] }
def k19m1 : Method := { name := "equals", desc := "(Ljava/lang/Object;)Z", sig := { parameters := [(.object "java/lang/Object")], returnType := some .boolean }, accessFlags := 1, code := some k19c1 }
/-- java/lang/String -/
def k19 : Class := { plain "java/lang/String" (some 0) with
  accessFlags := 49
  interfaces := #[4, 3, 17, 2, 18]
  cf := some (fileOf pool19 10 #[.nestMembers #[1103]] #[{ accessFlags := 1, nameIndex := 5, descriptorIndex := 6, attributes := #[] }, { accessFlags := 1, nameIndex := 543, descriptorIndex := 573, attributes := #[] }] 49 2 #[1106, 1108, 575, 1110, 1112] #[{ accessFlags := 18, nameIndex := 13, descriptorIndex := 14, attributes := #[] }, { accessFlags := 18, nameIndex := 17, descriptorIndex := 18, attributes := #[] }, { accessFlags := 2, nameIndex := 21, descriptorIndex := 22, attributes := #[] }, { accessFlags := 2, nameIndex := 25, descriptorIndex := 26, attributes := #[] }, { accessFlags := 26, nameIndex := 1116, descriptorIndex := 1117, attributes := #[] }, { accessFlags := 24, nameIndex := 40, descriptorIndex := 26, attributes := #[] }, { accessFlags := 26, nameIndex := 1101, descriptorIndex := 1102, attributes := #[] }, { accessFlags := 26, nameIndex := 1121, descriptorIndex := 1122, attributes := #[] }, { accessFlags := 25, nameIndex := 599, descriptorIndex := 600, attributes := #[] }, { accessFlags := 24, nameIndex := 1125, descriptorIndex := 18, attributes := #[] }, { accessFlags := 24, nameIndex := 1127, descriptorIndex := 18, attributes := #[] }])
  fields := #[{ name := "value", type := (.array .byte), accessFlags := 18, slot := 0, constantValue := 0 }, { name := "coder", type := .byte, accessFlags := 18, slot := 1, constantValue := 0 }, { name := "hash", type := .int, accessFlags := 2, slot := 2, constantValue := 0 }, { name := "hashIsZero", type := .boolean, accessFlags := 2, slot := 3, constantValue := 0 }, { name := "serialVersionUID", type := .long, accessFlags := 26, slot := 0, constantValue := 0 }, { name := "COMPACT_STRINGS", type := .boolean, accessFlags := 24, slot := 1, constantValue := 0 }, { name := "serialPersistentFields", type := (.array (.object "java/io/ObjectStreamField")), accessFlags := 26, slot := 2, constantValue := 0 }, { name := "REPL", type := .char, accessFlags := 26, slot := 3, constantValue := 0 }, { name := "CASE_INSENSITIVE_ORDER", type := (.object "java/util/Comparator"), accessFlags := 25, slot := 4, constantValue := 0 }, { name := "LATIN1", type := .byte, accessFlags := 24, slot := 5, constantValue := 0 }, { name := "UTF16", type := .byte, accessFlags := 24, slot := 6, constantValue := 0 }]
  methods := #[k19m0, k19m1]
  instanceTypes := #[(.array .byte), .byte, .int, .boolean]
  staticTypes := #[.long, .boolean, (.array (.object "java/io/ObjectStreamField")), .char, (.object "java/util/Comparator"), .byte, .byte]
  resolved := Array.replicate 1451 none
  statics := some 2 }

def pool20 : Array CpInfo := pool [(2, .class_ 4), (1, u "java/lang/Object"), (0, u "<init>"), (0, u "()V"), (35, .class_ 44), (1, u "java/util/Objects"), (60, .methodref 106 107), (0, .class_ 108), (0, .nameAndType 109 110), (0, u "jdk/internal/util/Preconditions"), (0, u "checkIndex"), (0, u "(IILjava/util/function/BiFunction;)I"), (60, u "(II)I")] 12

def k20m0 : Method := { name := "<init>", desc := "()V", sig := { parameters := [], returnType := none }, accessFlags := 2, code := none }
def k20c1 : Code := { maxStack := 3, maxLocals := 2, code := jdk_31_method_17_code, exceptionTable := #[], attributes := #[] }
def k20m1 : Method := { name := "checkIndex", desc := "(II)I", sig := { parameters := [.int, .int], returnType := some .int }, accessFlags := 9, code := some k20c1 }
/-- java/util/Objects -/
def k20 : Class := { plain "java/util/Objects" (some 0) with
  accessFlags := 49
  interfaces := #[]
  cf := some (fileOf pool20 42 #[] #[{ accessFlags := 2, nameIndex := 5, descriptorIndex := 6, attributes := #[] }, { accessFlags := 9, nameIndex := 109, descriptorIndex := 171, attributes := #[] }] 49 2 #[] #[])
  fields := #[]
  methods := #[k20m0, k20m1]
  instanceTypes := #[]
  staticTypes := #[]
  resolved := Array.replicate 184 none
  statics := none }

def pool21 : Array CpInfo := pool [(2, .class_ 4), (1, u "java/lang/Object"), (0, u "<init>"), (0, u "()V"), (17, .class_ 26), (1, u "jdk/internal/util/Preconditions"), (6, u "checkIndex"), (21, .class_ 56), (0, u "jdk/internal/util/Preconditions$4"), (57, .class_ 115), (0, u "jdk/internal/util/Preconditions$1"), (7, u "SIOOBE_FORMATTER"), (0, u "Ljava/util/function/BiFunction;"), (0, .class_ 126), (0, u "jdk/internal/util/Preconditions$2"), (3, u "AIOOBE_FORMATTER"), (0, .class_ 132), (0, u "jdk/internal/util/Preconditions$3"), (3, u "IOOBE_FORMATTER"), (41, u "(IILjava/util/function/BiFunction;)I")] 15

def k21m0 : Method := { name := "<init>", desc := "()V", sig := { parameters := [], returnType := none }, accessFlags := 1, code := none }
def k21c1 : Code := { maxStack := 3, maxLocals := 3, code := jdk_41_method_11_code, exceptionTable := #[], attributes := #[] }
def k21m1 : Method := { name := "checkIndex", desc := "(IILjava/util/function/BiFunction;)I", sig := { parameters := [.int, .int, (.object "java/util/function/BiFunction")], returnType := some .int }, accessFlags := 9, code := some k21c1 }
/-- jdk/internal/util/Preconditions -/
def k21 : Class := { plain "jdk/internal/util/Preconditions" (some 0) with
  accessFlags := 33
  interfaces := #[]
  cf := some (fileOf pool21 24 #[.nestMembers #[55, 131, 125, 114]] #[{ accessFlags := 1, nameIndex := 5, descriptorIndex := 6, attributes := #[] }, { accessFlags := 9, nameIndex := 33, descriptorIndex := 178, attributes := #[] }] 33 2 #[] #[{ accessFlags := 25, nameIndex := 123, descriptorIndex := 124, attributes := #[] }, { accessFlags := 25, nameIndex := 130, descriptorIndex := 124, attributes := #[] }, { accessFlags := 25, nameIndex := 136, descriptorIndex := 124, attributes := #[] }])
  fields := #[{ name := "SIOOBE_FORMATTER", type := (.object "java/util/function/BiFunction"), accessFlags := 25, slot := 0, constantValue := 0 }, { name := "AIOOBE_FORMATTER", type := (.object "java/util/function/BiFunction"), accessFlags := 25, slot := 1, constantValue := 0 }, { name := "IOOBE_FORMATTER", type := (.object "java/util/function/BiFunction"), accessFlags := 25, slot := 2, constantValue := 0 }]
  methods := #[k21m0, k21m1]
  instanceTypes := #[]
  staticTypes := #[(.object "java/util/function/BiFunction"), (.object "java/util/function/BiFunction"), (.object "java/util/function/BiFunction")]
  resolved := Array.replicate 194 none
  statics := some 3 }

def pool22 : Array CpInfo := pool [(4, .class_ 6), (1, u "java/lang/Object"), (0, u "<init>"), (0, u "()V"), (5, .class_ 16), (1, u "java/lang/StringLatin1"), (104, u "$assertionsDisabled"), (0, u "Z"), (98, .class_ 223), (1, u "java/lang/StringLatin1$LinesSpliterator"), (57, u "equals"), (0, u "([B[B)Z"), (107, .class_ 391), (0, u "java/lang/StringLatin1$CharsSpliterator")] 3

def k22m0 : Method := { name := "<init>", desc := "()V", sig := { parameters := [], returnType := none }, accessFlags := 0, code := none }
def k22c1 : Code := { maxStack := 3, maxLocals := 3, code := jdk_43_method_13_code, exceptionTable := #[], attributes := #[] }
def k22m1 : Method := { name := "equals", desc := "([B[B)Z", sig := { parameters := [(.array .byte), (.array .byte)], returnType := some .boolean }, accessFlags := 9, code := some k22c1 }
/-- java/lang/StringLatin1 -/
def k22 : Class := { plain "java/lang/StringLatin1" (some 0) with
  accessFlags := 48
  interfaces := #[]
  cf := some (fileOf pool22 14 #[.nestMembers #[390, 221]] #[{ accessFlags := 0, nameIndex := 7, descriptorIndex := 8, attributes := #[] }, { accessFlags := 9, nameIndex := 281, descriptorIndex := 282, attributes := #[] }] 48 4 #[] #[{ accessFlags := 4120, nameIndex := 121, descriptorIndex := 122, attributes := #[] }])
  fields := #[{ name := "$assertionsDisabled", type := .boolean, accessFlags := 4120, slot := 0, constantValue := 0 }]
  methods := #[k22m0, k22m1]
  instanceTypes := #[]
  staticTypes := #[.boolean]
  resolved := Array.replicate 395 none
  statics := none }

def pool23 : Array CpInfo := pool [(9, u "<init>"), (6, .class_ 18), (1, u "java/lang/Object"), (0, u "()V"), (1, .class_ 23), (1, u "jdk/internal/util/ArraysSupport"), (0, u "LOG2_ARRAY_LONG_INDEX_SCALE"), (0, u "I"), (2, u "U"), (0, u "Ljdk/internal/misc/Unsafe;"), (8, u "BIG_ENDIAN"), (0, u "Z"), (8, u "LOG2_BYTE_BIT_SIZE"), (4, u "LOG2_ARRAY_INT_INDEX_SCALE"), (54, u "JLA"), (0, u "Ljdk/internal/access/JavaLangAccess;"), (11, u "LOG2_ARRAY_BOOLEAN_INDEX_SCALE"), (9, u "LOG2_ARRAY_BYTE_INDEX_SCALE"), (5, u "LOG2_ARRAY_CHAR_INDEX_SCALE"), (5, u "LOG2_ARRAY_SHORT_INDEX_SCALE"), (18, u "LOG2_ARRAY_FLOAT_INDEX_SCALE"), (24, u "LOG2_ARRAY_DOUBLE_INDEX_SCALE"), (89, u "T_BOOLEAN"), (2, u "T_CHAR"), (1, u "T_FLOAT"), (1, u "T_DOUBLE"), (1, u "T_BYTE"), (1, u "T_SHORT"), (1, u "T_INT"), (1, u "T_LONG"), (1, u "SOFT_MAX_ARRAY_LENGTH")] 83

def k23m0 : Method := { name := "<init>", desc := "()V", sig := { parameters := [], returnType := none }, accessFlags := 2, code := none }
/-- jdk/internal/util/ArraysSupport -/
def k23 : Class := { plain "jdk/internal/util/ArraysSupport" (some 0) with
  accessFlags := 33
  interfaces := #[]
  cf := some (fileOf pool23 21 #[] #[{ accessFlags := 2, nameIndex := 9, descriptorIndex := 19, attributes := #[] }] 33 16 #[] #[{ accessFlags := 24, nameIndex := 28, descriptorIndex := 29, attributes := #[] }, { accessFlags := 26, nameIndex := 38, descriptorIndex := 39, attributes := #[] }, { accessFlags := 25, nameIndex := 121, descriptorIndex := 25, attributes := #[] }, { accessFlags := 25, nameIndex := 131, descriptorIndex := 25, attributes := #[] }, { accessFlags := 25, nameIndex := 137, descriptorIndex := 25, attributes := #[] }, { accessFlags := 25, nameIndex := 143, descriptorIndex := 25, attributes := #[] }, { accessFlags := 25, nameIndex := 53, descriptorIndex := 25, attributes := #[] }, { accessFlags := 25, nameIndex := 24, descriptorIndex := 25, attributes := #[] }, { accessFlags := 25, nameIndex := 162, descriptorIndex := 25, attributes := #[] }, { accessFlags := 25, nameIndex := 187, descriptorIndex := 25, attributes := #[] }, { accessFlags := 26, nameIndex := 48, descriptorIndex := 25, attributes := #[] }, { accessFlags := 25, nameIndex := 277, descriptorIndex := 25, attributes := #[] }, { accessFlags := 25, nameIndex := 280, descriptorIndex := 25, attributes := #[] }, { accessFlags := 25, nameIndex := 282, descriptorIndex := 25, attributes := #[] }, { accessFlags := 25, nameIndex := 284, descriptorIndex := 25, attributes := #[] }, { accessFlags := 25, nameIndex := 286, descriptorIndex := 25, attributes := #[] }, { accessFlags := 25, nameIndex := 288, descriptorIndex := 25, attributes := #[] }, { accessFlags := 25, nameIndex := 290, descriptorIndex := 25, attributes := #[] }, { accessFlags := 25, nameIndex := 292, descriptorIndex := 25, attributes := #[] }, { accessFlags := 26, nameIndex := 108, descriptorIndex := 109, attributes := #[] }, { accessFlags := 25, nameIndex := 294, descriptorIndex := 25, attributes := #[] }])
  fields := #[{ name := "U", type := (.object "jdk/internal/misc/Unsafe"), accessFlags := 24, slot := 0, constantValue := 0 }, { name := "BIG_ENDIAN", type := .boolean, accessFlags := 26, slot := 1, constantValue := 0 }, { name := "LOG2_ARRAY_BOOLEAN_INDEX_SCALE", type := .int, accessFlags := 25, slot := 2, constantValue := 0 }, { name := "LOG2_ARRAY_BYTE_INDEX_SCALE", type := .int, accessFlags := 25, slot := 3, constantValue := 0 }, { name := "LOG2_ARRAY_CHAR_INDEX_SCALE", type := .int, accessFlags := 25, slot := 4, constantValue := 0 }, { name := "LOG2_ARRAY_SHORT_INDEX_SCALE", type := .int, accessFlags := 25, slot := 5, constantValue := 0 }, { name := "LOG2_ARRAY_INT_INDEX_SCALE", type := .int, accessFlags := 25, slot := 6, constantValue := 0 }, { name := "LOG2_ARRAY_LONG_INDEX_SCALE", type := .int, accessFlags := 25, slot := 7, constantValue := 0 }, { name := "LOG2_ARRAY_FLOAT_INDEX_SCALE", type := .int, accessFlags := 25, slot := 8, constantValue := 0 }, { name := "LOG2_ARRAY_DOUBLE_INDEX_SCALE", type := .int, accessFlags := 25, slot := 9, constantValue := 0 }, { name := "LOG2_BYTE_BIT_SIZE", type := .int, accessFlags := 26, slot := 10, constantValue := 0 }, { name := "T_BOOLEAN", type := .int, accessFlags := 25, slot := 11, constantValue := 0 }, { name := "T_CHAR", type := .int, accessFlags := 25, slot := 12, constantValue := 0 }, { name := "T_FLOAT", type := .int, accessFlags := 25, slot := 13, constantValue := 0 }, { name := "T_DOUBLE", type := .int, accessFlags := 25, slot := 14, constantValue := 0 }, { name := "T_BYTE", type := .int, accessFlags := 25, slot := 15, constantValue := 0 }, { name := "T_SHORT", type := .int, accessFlags := 25, slot := 16, constantValue := 0 }, { name := "T_INT", type := .int, accessFlags := 25, slot := 17, constantValue := 0 }, { name := "T_LONG", type := .int, accessFlags := 25, slot := 18, constantValue := 0 }, { name := "JLA", type := (.object "jdk/internal/access/JavaLangAccess"), accessFlags := 26, slot := 19, constantValue := 0 }, { name := "SOFT_MAX_ARRAY_LENGTH", type := .int, accessFlags := 25, slot := 20, constantValue := 0 }]
  methods := #[k23m0]
  instanceTypes := #[]
  staticTypes := #[(.object "jdk/internal/misc/Unsafe"), .boolean, .int, .int, .int, .int, .int, .int, .int, .int, .int, .int, .int, .int, .int, .int, .int, .int, .int, (.object "jdk/internal/access/JavaLangAccess"), .int]
  resolved := Array.replicate 378 none
  statics := none }

/-- the primitive byte -/
def k24 : Class := { plain "byte" none with kind := .primitive 'B', accessFlags := 0x411 }
/-- [B -/
def k25 : Class := { plain "[B" (some 0) with kind := .array 24 .byte, interfaces := #[14, 4], accessFlags := 1041 }

/-- the primitive int -/
def k26 : Class := { plain "int" none with kind := .primitive 'I', accessFlags := 0x411 }
/-- [I -/
def k27 : Class := { plain "[I" (some 0) with kind := .array 26 .int, interfaces := #[14, 4], accessFlags := 1041 }

/-- [Lcom/example/tapline/tapline/rules/ReturnPeriod; -/
def k28 : Class := { plain "[Lcom/example/tapline/tapline/rules/ReturnPeriod;" (some 0) with kind := .array 6 (.object "com/example/tapline/tapline/rules/ReturnPeriod"), interfaces := #[14, 4], accessFlags := 1041 }

/-- [Ljava/lang/Object; -/
def k29 : Class := { plain "[Ljava/lang/Object;" (some 0) with kind := .array 0 (.object "java/lang/Object"), interfaces := #[14, 4], accessFlags := 1041 }

def heap : Heap := #[{ cls := 6, slots := #[.ref 5, .ref 6, .ref 4], vm := .statics 6 },
  { cls := 15, slots := #[.long 0, .int 0, .ref 11, .ref 12], vm := .statics 15 },
  { cls := 19, slots := #[.long 0, .int 1, .null, .int 0, .null, .int 0, .int 0], vm := .statics 19 },
  { cls := 21, slots := #[.null, .null, .null], vm := .statics 21 },
  { cls := 28, slots := #[.ref 5, .ref 6], vm := .none },
  { cls := 6, slots := #[.null, .int 0, .int 0, .ref 7, .int 1], vm := .none },
  { cls := 6, slots := #[.null, .int 1, .int 0, .ref 8, .int 3], vm := .none },
  { cls := 19, slots := #[.ref 9, .int 0, .int 0, .int 0], vm := .none },
  { cls := 19, slots := #[.ref 10, .int 0, .int 0, .int 0], vm := .none },
  { cls := 25, slots := #[.int 109, .int 111, .int 110, .int 116, .int 104], vm := .none },
  { cls := 25, slots := #[.int 113, .int 117, .int 97, .int 114, .int 116, .int 101, .int 114], vm := .none },
  { cls := 29, slots := #[], vm := .none },
  { cls := 29, slots := #[], vm := .none }]
def classes : Array Class := #[k0, k1, k2, k3, k4, k5, k6, k7, k8, k9, k10, k11, k12, k13, k14, k15, k16, k17, k18, k19, k20, k21, k22, k23, k24, k25, k26, k27, k28, k29]
def interned : List (Array UInt16 × Addr) := []
def slotsUsed : Nat := 49
def theMethod : MethodId := ⟨1, 1⟩
def args0 : Array Value := #[.int 5]
def aboutOver (below : List Frame) : State where
  vm := { classes := classes, interned := interned.toArray }
  heap := heap
  slotsUsed := slotsUsed
  threads := #[{ frames := .invoking theMethod args0 :: below }]
def below0 : List Frame := [.native { method := ⟨0, 0⟩, args := #[] }]
def about1 : State := aboutOver below0
def p0 : Program := .bare "" "" ""
def e0 : Env := launch0.env 0 0 0
theorem w_frames : about1.frames = Frame.invoking theMethod args0 :: below0 := rfl
set_option maxRecDepth 65536 in
theorem w_args : argsFit about1.vm theMethod args0 = true := by decide +kernel
set_option maxRecDepth 65536 in
theorem w_heap : heapFits about1 = true := by decide +kernel
set_option maxRecDepth 65536 in
theorem w_runnable : about1.curStatus? = some .runnable := by decide +kernel
set_option maxRecDepth 65536 in
theorem w_alone : about1.alone = true := by decide +kernel
set_option maxRecDepth 65536 in
theorem w_named : about1.methodNamed? x = some theMethod := by decide +kernel
set_option maxRecDepth 65536 in
theorem w_hears : about1.hears theMethod below0 = true := by decide +kernel
set_option maxRecDepth 65536 in
theorem w_ripe : about1.ripe theMethod args0 below0 = true := by decide +kernel
theorem w_running : about1.status = .running := rfl
set_option maxRecDepth 65536 in
theorem w_room : about1.hasRoom e0.platform room_1 = true :=
  launch0.hasRoom_least _ room_1 (by decide +kernel) (by decide +kernel) (by decide +kernel) (by decide +kernel) (by decide +kernel) (by decide +kernel)
theorem allAtoms_all (ts : List Jvm.Cond) (a : Array Jvm.Value) (st : Jvm.State) : (allAtoms ts).before a st = ts.all (fun c => c.before a st) := by
  induction ts with
  | nil => rfl
  | cons c t ih =>
    show (Jvm.Cond.and c (allAtoms t)).before a st = _
    rw [Jvm.Cond.before_and, ih, List.all_cons]
def words1 : List Jvm.Cond := Jvm.Cond.code x code maxLocals ret :: tables_1
/-- a 'code' word, met by the world's own term for the bytes: nothing is compared byte by byte -/
theorem code_word {y : MethodName} {bytes : ByteArray} {mx : Nat} {rt : Option FieldType} {a : Array Value} {s : State} {m : MethodId} {meth : Method} {c : Code} (h1 : s.methodNamed? y = some m) (h2 : s.vm.method? m = some meth) (h3 : meth.code = some c) (h4 : c.code = bytes)
    (h5 : (c.maxLocals == mx && c.exceptionTable.isEmpty && decide (c.maxStack ≤ mostOperands) && decide (meth.sig.returnType = rt) && !meth.locks && decide (parseMethodDescriptor y.desc = some meth.sig)) = true) : (Jvm.Cond.code y bytes mx rt).before a s = true := by
  simp only [Bool.and_eq_true, beq_iff_eq, Bool.not_eq_true', decide_eq_true_eq] at h5
  obtain ⟨⟨⟨⟨⟨g1, g2⟩, g3⟩, g4⟩, g5⟩, g6⟩ := h5
  simp [Cond.before, Cond.holds, Cond.value, h1, h2, h3, h4, g1, g2, g3, g4, g5, g6]
def isCode : Jvm.Cond → Bool
  | .code _ _ _ _ => true
  | _ => false
theorem all_split {L : List Jvm.Cond} {P : Jvm.Cond → Bool} (h1 : L.all (fun c => isCode c || P c) = true) (h2 : ∀ c ∈ L.filter isCode, P c = true) : L.all P = true := by
  refine List.all_eq_true.mpr fun c hc => ?_
  have h := List.all_eq_true.mp h1 c hc
  rcases Bool.eq_false_or_eq_true (isCode c) with hi | hi
  · exact h2 c (List.mem_filter.mpr ⟨hc, hi⟩)
  · simpa [hi] using h
set_option maxRecDepth 65536 in
theorem w_c0 : (Jvm.Cond.code x code maxLocals ret).before args0 about1 = true := code_word (m := ⟨1, 1⟩) (meth := k1m1) (c := k1c1) (by decide +kernel) rfl rfl rfl (by decide +kernel)
set_option maxRecDepth 65536 in
theorem w_c1 : (Jvm.Cond.code ({ cls := "com/example/tapline/tapline/rules/ReturnPeriod", name := "ids", desc := "()Ljava/util/List;" } : Jvm.MethodName) prog_74_method_8_code (5 : Nat) (Option.some (Jvm.ClassFile.FieldType.object "java/util/List"))).before args0 about1 = true := code_word (m := ⟨6, 3⟩) (meth := k6m3) (c := k6c3) (by decide +kernel) rfl rfl rfl (by decide +kernel)
set_option maxRecDepth 65536 in
theorem w_c2 : (Jvm.Cond.code ({ cls := "java/util/ArrayList", name := "<init>", desc := "()V" } : Jvm.MethodName) jdk_38_method_2_code (1 : Nat) (Option.none : Option Jvm.ClassFile.FieldType)).before args0 about1 = true := code_word (m := ⟨15, 0⟩) (meth := k15m0) (c := k15c0) (by decide +kernel) rfl rfl rfl (by decide +kernel)
set_option maxRecDepth 65536 in
theorem w_c3 : (Jvm.Cond.code ({ cls := "java/util/AbstractList", name := "<init>", desc := "()V" } : Jvm.MethodName) jdk_39_method_1_code (1 : Nat) (Option.none : Option Jvm.ClassFile.FieldType)).before args0 about1 = true := code_word (m := ⟨12, 0⟩) (meth := k12m0) (c := k12c0) (by decide +kernel) rfl rfl rfl (by decide +kernel)
set_option maxRecDepth 65536 in
theorem w_c4 : (Jvm.Cond.code ({ cls := "java/util/AbstractCollection", name := "<init>", desc := "()V" } : Jvm.MethodName) jdk_22_method_1_code (1 : Nat) (Option.none : Option Jvm.ClassFile.FieldType)).before args0 about1 = true := code_word (m := ⟨9, 0⟩) (meth := k9m0) (c := k9c0) (by decide +kernel) rfl rfl rfl (by decide +kernel)
set_option maxRecDepth 65536 in
theorem w_c5 : (Jvm.Cond.code ({ cls := "java/lang/Object", name := "<init>", desc := "()V" } : Jvm.MethodName) object_method_1_code (1 : Nat) (Option.none : Option Jvm.ClassFile.FieldType)).before args0 about1 = true := code_word (m := ⟨0, 0⟩) (meth := k0m0) (c := k0c0) (by decide +kernel) rfl rfl rfl (by decide +kernel)
set_option maxRecDepth 65536 in
theorem w_c6 : (Jvm.Cond.code ({ cls := "com/example/tapline/tapline/rules/ReturnPeriod", name := "values", desc := "()[Lcom/example/tapline/tapline/rules/ReturnPeriod;" } : Jvm.MethodName) prog_74_method_1_code (0 : Nat) (Option.some (Jvm.ClassFile.FieldType.array (Jvm.ClassFile.FieldType.object "com/example/tapline/tapline/rules/ReturnPeriod")))).before args0 about1 = true := code_word (m := ⟨6, 0⟩) (meth := k6m0) (c := k6c0) (by decide +kernel) rfl rfl rfl (by decide +kernel)
set_option maxRecDepth 65536 in
theorem w_c7 : (Jvm.Cond.code ({ cls := "java/util/ArrayList", name := "add", desc := "(Ljava/lang/Object;)Z" } : Jvm.MethodName) jdk_38_method_25_code (2 : Nat) (Option.some Jvm.ClassFile.FieldType.boolean)).before args0 about1 = true := code_word (m := ⟨15, 7⟩) (meth := k15m7) (c := k15c7) (by decide +kernel) rfl rfl rfl (by decide +kernel)
set_option maxRecDepth 65536 in
theorem w_c8 : (Jvm.Cond.code ({ cls := "java/util/ArrayList", name := "add", desc := "(Ljava/lang/Object;[Ljava/lang/Object;I)V" } : Jvm.MethodName) jdk_38_method_24_code (4 : Nat) (Option.none : Option Jvm.ClassFile.FieldType)).before args0 about1 = true := code_word (m := ⟨15, 6⟩) (meth := k15m6) (c := k15c6) (by decide +kernel) rfl rfl rfl (by decide +kernel)
set_option maxRecDepth 65536 in
theorem w_c9 : (Jvm.Cond.code ({ cls := "java/util/ArrayList", name := "grow", desc := "()[Ljava/lang/Object;" } : Jvm.MethodName) jdk_38_method_7_code (1 : Nat) (Option.some (Jvm.ClassFile.FieldType.array (Jvm.ClassFile.FieldType.object "java/lang/Object")))).before args0 about1 = true := code_word (m := ⟨15, 2⟩) (meth := k15m2) (c := k15c2) (by decide +kernel) rfl rfl rfl (by decide +kernel)
set_option maxRecDepth 65536 in
theorem w_c10 : (Jvm.Cond.code ({ cls := "java/util/ArrayList", name := "grow", desc := "(I)[Ljava/lang/Object;" } : Jvm.MethodName) jdk_38_method_6_code (4 : Nat) (Option.some (Jvm.ClassFile.FieldType.array (Jvm.ClassFile.FieldType.object "java/lang/Object")))).before args0 about1 = true := code_word (m := ⟨15, 1⟩) (meth := k15m1) (c := k15c1) (by decide +kernel) rfl rfl rfl (by decide +kernel)
set_option maxRecDepth 65536 in
theorem w_c11 : (Jvm.Cond.code ({ cls := "java/lang/Math", name := "max", desc := "(II)I" } : Jvm.MethodName) jdk_29_method_65_code (2 : Nat) (Option.some Jvm.ClassFile.FieldType.int)).before args0 about1 = true := code_word (m := ⟨16, 1⟩) (meth := k16m1) (c := k16c1) (by decide +kernel) rfl rfl rfl (by decide +kernel)
set_option maxRecDepth 65536 in
theorem w_c12 : (Jvm.Cond.code ({ cls := "java/util/ArrayList", name := "size", desc := "()I" } : Jvm.MethodName) jdk_38_method_8_code (1 : Nat) (Option.some Jvm.ClassFile.FieldType.int)).before args0 about1 = true := code_word (m := ⟨15, 3⟩) (meth := k15m3) (c := k15c3) (by decide +kernel) rfl rfl rfl (by decide +kernel)
set_option maxRecDepth 65536 in
theorem w_c13 : (Jvm.Cond.code ({ cls := "java/util/ArrayList", name := "get", desc := "(I)Ljava/lang/Object;" } : Jvm.MethodName) jdk_38_method_20_code (2 : Nat) (Option.some (Jvm.ClassFile.FieldType.object "java/lang/Object"))).before args0 about1 = true := code_word (m := ⟨15, 5⟩) (meth := k15m5) (c := k15c5) (by decide +kernel) rfl rfl rfl (by decide +kernel)
set_option maxRecDepth 65536 in
theorem w_c14 : (Jvm.Cond.code ({ cls := "java/util/Objects", name := "checkIndex", desc := "(II)I" } : Jvm.MethodName) jdk_31_method_17_code (2 : Nat) (Option.some Jvm.ClassFile.FieldType.int)).before args0 about1 = true := code_word (m := ⟨20, 1⟩) (meth := k20m1) (c := k20c1) (by decide +kernel) rfl rfl rfl (by decide +kernel)
set_option maxRecDepth 65536 in
theorem w_c15 : (Jvm.Cond.code ({ cls := "jdk/internal/util/Preconditions", name := "checkIndex", desc := "(IILjava/util/function/BiFunction;)I" } : Jvm.MethodName) jdk_41_method_11_code (3 : Nat) (Option.some Jvm.ClassFile.FieldType.int)).before args0 about1 = true := code_word (m := ⟨21, 1⟩) (meth := k21m1) (c := k21c1) (by decide +kernel) rfl rfl rfl (by decide +kernel)
set_option maxRecDepth 65536 in
theorem w_c16 : (Jvm.Cond.code ({ cls := "java/util/ArrayList", name := "elementData", desc := "(I)Ljava/lang/Object;" } : Jvm.MethodName) jdk_38_method_18_code (2 : Nat) (Option.some (Jvm.ClassFile.FieldType.object "java/lang/Object"))).before args0 about1 = true := code_word (m := ⟨15, 4⟩) (meth := k15m4) (c := k15c4) (by decide +kernel) rfl rfl rfl (by decide +kernel)
set_option maxRecDepth 65536 in
theorem w_c17 : (Jvm.Cond.code ({ cls := "java/lang/String", name := "equals", desc := "(Ljava/lang/Object;)Z" } : Jvm.MethodName) jdk_42_method_66_code (3 : Nat) (Option.some Jvm.ClassFile.FieldType.boolean)).before args0 about1 = true := code_word (m := ⟨19, 1⟩) (meth := k19m1) (c := k19c1) (by decide +kernel) rfl rfl rfl (by decide +kernel)
set_option maxRecDepth 65536 in
theorem w_c18 : (Jvm.Cond.code ({ cls := "java/lang/StringLatin1", name := "equals", desc := "([B[B)Z" } : Jvm.MethodName) jdk_43_method_13_code (3 : Nat) (Option.some Jvm.ClassFile.FieldType.boolean)).before args0 about1 = true := code_word (m := ⟨22, 1⟩) (meth := k22m1) (c := k22c1) (by decide +kernel) rfl rfl rfl (by decide +kernel)
set_option maxRecDepth 65536 in
theorem w_c19 : (Jvm.Cond.code ({ cls := "com/example/tapline/tapline/rules/ReturnPeriod", name := "id", desc := "()Ljava/lang/String;" } : Jvm.MethodName) prog_74_method_4_code (1 : Nat) (Option.some (Jvm.ClassFile.FieldType.object "java/lang/String"))).before args0 about1 = true := code_word (m := ⟨6, 1⟩) (meth := k6m1) (c := k6c1) (by decide +kernel) rfl rfl rfl (by decide +kernel)
set_option maxRecDepth 65536 in
theorem w_c20 : (Jvm.Cond.code ({ cls := "com/example/tapline/tapline/rules/ReturnPeriod", name := "byId", desc := "(Ljava/lang/String;)Lcom/example/tapline/tapline/rules/ReturnPeriod;" } : Jvm.MethodName) prog_74_method_7_code (6 : Nat) (Option.some (Jvm.ClassFile.FieldType.object "com/example/tapline/tapline/rules/ReturnPeriod"))).before args0 about1 = true := code_word (m := ⟨6, 2⟩) (meth := k6m2) (c := k6c2) (by decide +kernel) rfl rfl rfl (by decide +kernel)
def codes1 : List Jvm.Cond := [Jvm.Cond.code x code maxLocals ret, Jvm.Cond.code ({ cls := "com/example/tapline/tapline/rules/ReturnPeriod", name := "ids", desc := "()Ljava/util/List;" } : Jvm.MethodName) prog_74_method_8_code (5 : Nat) (Option.some (Jvm.ClassFile.FieldType.object "java/util/List")), Jvm.Cond.code ({ cls := "java/util/ArrayList", name := "<init>", desc := "()V" } : Jvm.MethodName) jdk_38_method_2_code (1 : Nat) (Option.none : Option Jvm.ClassFile.FieldType), Jvm.Cond.code ({ cls := "java/util/AbstractList", name := "<init>", desc := "()V" } : Jvm.MethodName) jdk_39_method_1_code (1 : Nat) (Option.none : Option Jvm.ClassFile.FieldType), Jvm.Cond.code ({ cls := "java/util/AbstractCollection", name := "<init>", desc := "()V" } : Jvm.MethodName) jdk_22_method_1_code (1 : Nat) (Option.none : Option Jvm.ClassFile.FieldType), Jvm.Cond.code ({ cls := "java/lang/Object", name := "<init>", desc := "()V" } : Jvm.MethodName) object_method_1_code (1 : Nat) (Option.none : Option Jvm.ClassFile.FieldType), Jvm.Cond.code ({ cls := "com/example/tapline/tapline/rules/ReturnPeriod", name := "values", desc := "()[Lcom/example/tapline/tapline/rules/ReturnPeriod;" } : Jvm.MethodName) prog_74_method_1_code (0 : Nat) (Option.some (Jvm.ClassFile.FieldType.array (Jvm.ClassFile.FieldType.object "com/example/tapline/tapline/rules/ReturnPeriod"))), Jvm.Cond.code ({ cls := "java/util/ArrayList", name := "add", desc := "(Ljava/lang/Object;)Z" } : Jvm.MethodName) jdk_38_method_25_code (2 : Nat) (Option.some Jvm.ClassFile.FieldType.boolean), Jvm.Cond.code ({ cls := "java/util/ArrayList", name := "add", desc := "(Ljava/lang/Object;[Ljava/lang/Object;I)V" } : Jvm.MethodName) jdk_38_method_24_code (4 : Nat) (Option.none : Option Jvm.ClassFile.FieldType), Jvm.Cond.code ({ cls := "java/util/ArrayList", name := "grow", desc := "()[Ljava/lang/Object;" } : Jvm.MethodName) jdk_38_method_7_code (1 : Nat) (Option.some (Jvm.ClassFile.FieldType.array (Jvm.ClassFile.FieldType.object "java/lang/Object"))), Jvm.Cond.code ({ cls := "java/util/ArrayList", name := "grow", desc := "(I)[Ljava/lang/Object;" } : Jvm.MethodName) jdk_38_method_6_code (4 : Nat) (Option.some (Jvm.ClassFile.FieldType.array (Jvm.ClassFile.FieldType.object "java/lang/Object"))), Jvm.Cond.code ({ cls := "java/lang/Math", name := "max", desc := "(II)I" } : Jvm.MethodName) jdk_29_method_65_code (2 : Nat) (Option.some Jvm.ClassFile.FieldType.int), Jvm.Cond.code ({ cls := "java/util/ArrayList", name := "size", desc := "()I" } : Jvm.MethodName) jdk_38_method_8_code (1 : Nat) (Option.some Jvm.ClassFile.FieldType.int), Jvm.Cond.code ({ cls := "java/util/ArrayList", name := "get", desc := "(I)Ljava/lang/Object;" } : Jvm.MethodName) jdk_38_method_20_code (2 : Nat) (Option.some (Jvm.ClassFile.FieldType.object "java/lang/Object")), Jvm.Cond.code ({ cls := "java/util/Objects", name := "checkIndex", desc := "(II)I" } : Jvm.MethodName) jdk_31_method_17_code (2 : Nat) (Option.some Jvm.ClassFile.FieldType.int), Jvm.Cond.code ({ cls := "jdk/internal/util/Preconditions", name := "checkIndex", desc := "(IILjava/util/function/BiFunction;)I" } : Jvm.MethodName) jdk_41_method_11_code (3 : Nat) (Option.some Jvm.ClassFile.FieldType.int), Jvm.Cond.code ({ cls := "java/util/ArrayList", name := "elementData", desc := "(I)Ljava/lang/Object;" } : Jvm.MethodName) jdk_38_method_18_code (2 : Nat) (Option.some (Jvm.ClassFile.FieldType.object "java/lang/Object")), Jvm.Cond.code ({ cls := "java/lang/String", name := "equals", desc := "(Ljava/lang/Object;)Z" } : Jvm.MethodName) jdk_42_method_66_code (3 : Nat) (Option.some Jvm.ClassFile.FieldType.boolean), Jvm.Cond.code ({ cls := "java/lang/StringLatin1", name := "equals", desc := "([B[B)Z" } : Jvm.MethodName) jdk_43_method_13_code (3 : Nat) (Option.some Jvm.ClassFile.FieldType.boolean), Jvm.Cond.code ({ cls := "com/example/tapline/tapline/rules/ReturnPeriod", name := "id", desc := "()Ljava/lang/String;" } : Jvm.MethodName) prog_74_method_4_code (1 : Nat) (Option.some (Jvm.ClassFile.FieldType.object "java/lang/String")), Jvm.Cond.code ({ cls := "com/example/tapline/tapline/rules/ReturnPeriod", name := "byId", desc := "(Ljava/lang/String;)Lcom/example/tapline/tapline/rules/ReturnPeriod;" } : Jvm.MethodName) prog_74_method_7_code (6 : Nat) (Option.some (Jvm.ClassFile.FieldType.object "com/example/tapline/tapline/rules/ReturnPeriod"))]
set_option maxRecDepth 65536 in
theorem codes_eq : words1.filter isCode = codes1 := rfl
theorem w_codes : ∀ c ∈ words1.filter isCode, c.before args0 about1 = true := by
  rw [codes_eq]
  intro c hc
  simp only [codes1, List.mem_cons, List.not_mem_nil, or_false] at hc
  rcases hc with rfl | rfl | rfl | rfl | rfl | rfl | rfl | rfl | rfl | rfl | rfl | rfl | rfl | rfl | rfl | rfl | rfl | rfl | rfl | rfl | rfl
  · exact w_c0
  · exact w_c1
  · exact w_c2
  · exact w_c3
  · exact w_c4
  · exact w_c5
  · exact w_c6
  · exact w_c7
  · exact w_c8
  · exact w_c9
  · exact w_c10
  · exact w_c11
  · exact w_c12
  · exact w_c13
  · exact w_c14
  · exact w_c15
  · exact w_c16
  · exact w_c17
  · exact w_c18
  · exact w_c19
  · exact w_c20
set_option maxRecDepth 65536 in
theorem w_t1 : (words1.take 24).all (fun c => isCode c || c.before args0 about1) = true := by decide +kernel
set_option maxRecDepth 65536 in
theorem w_t2 : ((words1.drop 24).take 24).all (fun c => isCode c || c.before args0 about1) = true := by decide +kernel
set_option maxRecDepth 65536 in
theorem w_t3 : (((words1.drop 24).drop 24).take 24).all (fun c => isCode c || c.before args0 about1) = true := by decide +kernel
set_option maxRecDepth 65536 in
theorem w_t4 : ((((words1.drop 24).drop 24).drop 24).take 24).all (fun c => isCode c || c.before args0 about1) = true := by decide +kernel
set_option maxRecDepth 65536 in
theorem w_t5 : (((((words1.drop 24).drop 24).drop 24).drop 24).take 24).all (fun c => isCode c || c.before args0 about1) = true := by decide +kernel
set_option maxRecDepth 65536 in
theorem w_t6 : ((((((words1.drop 24).drop 24).drop 24).drop 24).drop 24).take 24).all (fun c => isCode c || c.before args0 about1) = true := by decide +kernel
set_option maxRecDepth 65536 in
theorem w_t7 : ((((((words1.drop 24).drop 24).drop 24).drop 24).drop 24).drop 24).all (fun c => isCode c || c.before args0 about1) = true := by decide +kernel
theorem w_tables : (allAtoms (Jvm.Cond.code x code maxLocals ret :: tables_1)).before args0 about1 = true := by
  rw [allAtoms_all]
  show words1.all (fun c => c.before args0 about1) = true
  refine all_split ?_ w_codes
  rw [← List.take_append_drop 24 words1, List.all_append, w_t1, ← List.take_append_drop 24 (words1.drop 24), List.all_append, w_t2, ← List.take_append_drop 24 ((words1.drop 24).drop 24), List.all_append, w_t3, ← List.take_append_drop 24 (((words1.drop 24).drop 24).drop 24), List.all_append, w_t4, ← List.take_append_drop 24 ((((words1.drop 24).drop 24).drop 24).drop 24), List.all_append, w_t5, ← List.take_append_drop 24 (((((words1.drop 24).drop 24).drop 24).drop 24).drop 24), List.all_append, w_t6, w_t7]
  rfl
set_option maxRecDepth 65536 in
theorem w_rest : rest_1_c.before args0 about1 = true := by decide +kernel
set_option maxRecDepth 65536 in
theorem w_case : (Jvm.Cond.and given_1 narrow_1).before args0 about1 = true := by decide +kernel
set_option maxRecDepth 65536 in
theorem w_consts : constsHeld consts_1 about1 := Jvm.Lit.constsHeldB_iff.mp (by decide +kernel)
theorem w_applies : (headSpec (Jvm.Cond.code x code maxLocals ret :: tables_1) room_1).applies x e0.platform about1 = true :=
  (Spec.applies_iff w_frames).mpr ⟨w_running, w_runnable, w_alone, w_named, w_hears, w_ripe, w_room, w_tables⟩
theorem atStart : AtStart classFile x code maxLocals ret World_1 tables_1 room_1 Calls_1 rest_1 Pre_1 launch0 p0 e0 about1 theMethod args0 below0 :=
  ⟨lists_1, trivial, launch0.admits_env _ _ _, launch0.least_env, fairChoices_fair.cas, fairChoices_fair.clock, w_frames, w_args, w_heap, w_applies, ⟨w_consts, trivial⟩, w_rest, w_case⟩
end start1
theorem witness_1 : WitnessClaimed_1 := ⟨start1.p0, start1.e0, start1.about1, start1.theMethod, start1.args0, start1.below0, start1.atStart⟩
end Jvm.Pilot.@@N@@
