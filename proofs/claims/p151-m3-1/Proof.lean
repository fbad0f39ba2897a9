import JvmDerived
import JvmDerived.Pilot.@@N@@Statement
import JvmDerived.Pilot.@@N@@Code
set_option linter.unusedVariables false
set_option linter.unusedSimpArgs false
namespace Jvm.OwnKit
open Jvm Jvm.ClassFile Sem Op Lib Jvm.Free Jvm.Stand Jvm.LawKit Jvm.RoadKit
section Walk
variable {p : Program} {l : Launch} {e : Env} {R : Room} {s : State} {m : MethodId} {args : Array Value} {below : List Frame} {meth : Method} {c : Code} {T T' : State} {locs : List Loc} {cells slots k n : Nat} {Q : Option Value → Heap → List Loc → Prop} {P : Option Value → State → List Loc → Prop} {g g' : JFrame}
/-- from T with the frame g on top the run comes home: it returns, and Q says of what it returned, the heap and the places written -/
def Home {p : Program} {e : Env} {below : List Frame} {P : Option Value → State → List Loc → Prop} (T : State) (g : JFrame) : Prop :=
  ∃ U o, Steps p.tables e below (T.setTop g) U ∧ U.status = .running ∧ Ended U below o ∧ ∃ v L, o = .returned v ∧ P v U L
/-- the end of a walk that has booked no text -/
abbrev End (s : State) (Q : Option Value → Heap → List Loc → Prop) (k n : Nat) : Option Value → State → List Loc → Prop := fun v U L => Q v U.heap L ∧ FrameEnd s (.returned v) U L k n
theorem Home.go (st : ∀ t, Steps p.tables e below (T'.setTop g') t → Steps p.tables e below (T.setTop g) t) (H : @Home p e below P T' g') : @Home p e below P T g := by
  obtain ⟨U, o, h1, h2⟩ := H
  exact ⟨U, o, st _ h1, h2⟩
section Cps
variable {S : State → Prop} {S2 : State → Heap → Prop} {W E A D M : Heap → Prop} {A2 : Heap → ClassId → Prop} {O : ClassId → Prop} {h : Heap}
theorem Home.st (q : ∃ T', S T' ∧ T'.heap = h ∧ ∀ t, Steps p.tables e below (T'.setTop g') t → Steps p.tables e below (T.setTop g) t) (H : ∀ T', S T' → T'.heap = h → @Home p e below P T' g') : @Home p e below P T g := by
  obtain ⟨T', x, y, st⟩ := q
  exact Home.go st (H T' x y)
theorem Home.wr (q : ∃ T' h', S T' ∧ T'.heap = h' ∧ W h' ∧ ∀ t, Steps p.tables e below (T'.setTop g') t → Steps p.tables e below (T.setTop g) t) (H : ∀ T' h', S T' → T'.heap = h' → W h' → @Home p e below P T' g') : @Home p e below P T g := by
  obtain ⟨T', h', x, y, z, st⟩ := q
  exact Home.go st (H T' h' x y z)
theorem Home.nw {B : Addr → Prop} {A3 D3 : Heap → Addr → Prop} {ga : Addr → JFrame} (q : ∃ T' h' b, B b ∧ S T' ∧ T'.heap = h' ∧ E h' ∧ A3 h' b ∧ D3 h' b ∧ ∀ t, Steps p.tables e below (T'.setTop (ga b)) t → Steps p.tables e below (T.setTop g) t) (H : ∀ T' h' b, B b → S T' → T'.heap = h' → E h' → A3 h' b → D3 h' b → @Home p e below P T' (ga b)) : @Home p e below P T g := by
  obtain ⟨T', h', b, i, x, y, z, u, v, st⟩ := q
  exact Home.go st (H T' h' b i x y z u v)
theorem Home.na {B : Addr → Prop} {A3 : Heap → ClassId → Addr → Prop} {ga : Addr → JFrame} (q : ∃ T' h' c' b, B b ∧ S T' ∧ T'.heap = h' ∧ E h' ∧ A3 h' c' b ∧ ∀ t, Steps p.tables e below (T'.setTop (ga b)) t → Steps p.tables e below (T.setTop g) t) (H : ∀ T' h' c' b, B b → S T' → T'.heap = h' → E h' → A3 h' c' b → @Home p e below P T' (ga b)) : @Home p e below P T g := by
  obtain ⟨T', h', c', b, i, x, y, z, u, st⟩ := q
  exact Home.go st (H T' h' c' b i x y z u)
theorem Home.call {S3 : State → List Loc → Prop} {Q3 : Option Value → State → List Loc → Prop} {gv : Option Value → JFrame} (q : ∃ v T' L, S3 T' L ∧ Q3 v T' L ∧ ∀ t, Steps p.tables e below (T'.setTop (gv v)) t → Steps p.tables e below (T.setTop g) t) (H : ∀ v T' L, S3 T' L → Q3 v T' L → @Home p e below P T' (gv v)) : @Home p e below P T g := by
  obtain ⟨v, T', L, x, y, st⟩ := q
  exact Home.go st (H v T' L x y)
end Cps
theorem hW0 {m : MethodId} {pc n : Nat} {L : Array Slot} {S : List Value} : 2 * (mkF m pc L S).monitorRoom + n ≤ n := by show 2 * 0 + n ≤ n; omega
theorem Home.enter (q : g = g') (H : @Home p e below P T g') : @Home p e below P T g := by
  subst q; exact H
theorem Home.retN (X : Stand p l e R s m args below meth c T locs cells slots) (hx : p.tables.exec = Jvm.exec) (hlk : meth.locks = false) {pc : Nat} {Ls : Array Slot} {z : Int32} {t : FieldType} {rest : List Value} (hret : meth.sig.returnType = some t) (ht : t = .boolean ∨ t = .byte ∨ t = .char ∨ t = .short)
    (hd : decode c.code pc = .ok (.ireturn, 1)) (hQ : Q (some (.int (nar t z))) T.heap locs) (hk : cells ≤ k) (hn : slots ≤ n) : @Home p e below (End s Q k n) T (mkF m pc Ls (.int z :: rest)) := by
  obtain ⟨fs, hr, hrun, hended, hW, hsame⟩ := X.leave (v := some (.int (nar t z))) (fun h => by rw [hret] at h; cases h) hlk
  exact ⟨_, _, Jvm.RoadKit.retN X hx hret ht hd hr, hrun, hended, _, _, rfl, hQ, ⟨_, rfl⟩, hW, hsame.mono hk hn⟩
theorem Home.ret (X : Stand p l e R s m args below meth c T locs cells slots) (hx : p.tables.exec = Jvm.exec) (hlk : meth.locks = false) {pc : Nat} {Ls : Array Slot} {w : Value} {t : FieldType} {i : Instr} {rest : List Value} (hret : meth.sig.returnType = some t) (hnn : narrow t w = w)
    (hi : (i = .ireturn ∧ (t = .int ∨ t = .boolean ∨ t = .byte ∨ t = .char ∨ t = .short) ∧ ∃ z, w = .int z) ∨ (i = .lreturn ∧ t = .long ∧ ∃ z, w = .long z) ∨ (i = .dreturn ∧ t = .double ∧ ∃ z, w = .double z) ∨ (i = .freturn ∧ t = .float ∧ ∃ z, w = .float z) ∨ (i = .areturn ∧ t.isReference = true ∧ w.isRef = true))
    (hd : decode c.code pc = .ok (i, 1)) (hQ : Q (some w) T.heap locs) (hk : cells ≤ k) (hn : slots ≤ n) : @Home p e below (End s Q k n) T (mkF m pc Ls (w :: rest)) := by
  obtain ⟨fs, hr, hrun, hended, hW, hsame⟩ := X.leave (v := some w) (fun h => by rw [hret] at h; cases h) hlk
  exact ⟨_, _, retOut X hx hret hnn hi hd hr, hrun, hended, _, _, rfl, hQ, ⟨_, rfl⟩, hW, hsame.mono hk hn⟩
theorem Home.retI (X : Stand p l e R s m args below meth c T locs cells slots) (hx : p.tables.exec = Jvm.exec) (hlk : meth.locks = false) {pc : Nat} {Ls : Array Slot} {z : Int32} {rest : List Value} (hret : meth.sig.returnType = some .int)
    (hd : decode c.code pc = .ok (.ireturn, 1)) (hQ : Q (some (.int z)) T.heap locs) (hk : cells ≤ k) (hn : slots ≤ n) : @Home p e below (End s Q k n) T (mkF m pc Ls (.int z :: rest)) :=
  Home.ret X hx hlk hret rfl (Or.inl ⟨rfl, Or.inl rfl, z, rfl⟩) hd hQ hk hn
theorem own_narrow_ref {t : FieldType} {w : Value} (hw : w.isRef = true) : narrow t w = w := by
  rcases ref_cases hw with rfl | ⟨a, rfl⟩ <;> cases t <;> rfl
theorem Home.retR (X : Stand p l e R s m args below meth c T locs cells slots) (hx : p.tables.exec = Jvm.exec) (hlk : meth.locks = false) {pc : Nat} {Ls : Array Slot} {w : Value} {t : FieldType} {rest : List Value} (hret : meth.sig.returnType = some t) (ht : t.isReference = true) (hw : w.isRef = true)
    (hd : decode c.code pc = .ok (.areturn, 1)) (hQ : Q (some w) T.heap locs) (hk : cells ≤ k) (hn : slots ≤ n) : @Home p e below (End s Q k n) T (mkF m pc Ls (w :: rest)) :=
  Home.ret X hx hlk hret (own_narrow_ref hw) (Or.inr (Or.inr (Or.inr (Or.inr ⟨rfl, ht, hw⟩)))) hd hQ hk hn
theorem Home.ret0 (X : Stand p l e R s m args below meth c T locs cells slots) (hx : p.tables.exec = Jvm.exec) (hlk : meth.locks = false) {pc : Nat} {Ls : Array Slot} (hret : meth.sig.returnType = none)
    (hd : decode c.code pc = .ok (.return_, 1)) (hQ : Q none T.heap locs) (hk : cells ≤ k) (hn : slots ≤ n) : @Home p e below (End s Q k n) T (mkF m pc Ls []) := by
  obtain ⟨fs, hr, hrun, hended, hW, hsame⟩ := X.leave (v := none) (fun _ => rfl) hlk
  exact ⟨_, _, X.returnOut hx hret hd hr, hrun, hended, _, _, rfl, hQ, ⟨_, rfl⟩, hW, hsame.mono hk hn⟩
end Walk
section New
variable {p : Program} {l : Launch} {e : Env} {R : Room} {s : State} {m : MethodId} {args : Array Value} {below : List Frame} {meth : Method} {c : Code} {T : State} {locs : List Loc} {cells slots : Nat} {Z : State} {a0 : Array Value} {h : Heap}
theorem own_newO (X : Stand p l e R s m args below meth c T locs cells slots) (hx : p.tables.exec = Jvm.exec) (hZ : Z.Warmed39 s.vm) {own C : String} {index n : Nat} (hown : s.vm.findClass own = some m.cls) (w : (Cond.classLink own index C).before a0 Z = true) (wi : (Cond.instantiable C n).before a0 Z = true) (wz : (Cond.initialized C).before a0 Z = true) (eT : T.heap = h)
    {g : JFrame} (hg : g.method = m) (hd : decode c.code g.pc = .ok (.new index, 3)) (hc : cells + 1 ≤ R.cells) (hl : slots + n ≤ R.slots) :
    ∃ T' h' b, b = h.size ∧ Stand p l e R s m args below meth c T' locs (cells + 1) (slots + n) ∧ T'.heap = h' ∧ Ext h h' ∧ Exa Z h' b C ∧ (∀ {O nm d : String} {ty : FieldType}, Laid Z a0 C O nm d → parseFieldDescriptor d = some ty → Fld Z h' b O nm d (defaultValue ty)) ∧
      ∀ target, Steps p.tables e below (T'.setTop { g with pc := g.pc + 3, stack := .ref b :: g.stack }) target → Steps p.tables e below (T.setTop g) target := by
  obtain ⟨T', h', X', e', E', A', D', -, st⟩ := newO X hx hZ hown w wi wz eT hg hd hc hl
  exact ⟨T', h', _, rfl, X', e', E', A', D', st⟩
theorem own_newP (X : Stand p l e R s m args below meth c T locs cells slots) (hx : p.tables.exec = Jvm.exec) (hZ : Z.Warmed39 s.vm) {aty : ArrayType} (w : (Cond.arrayClass (newarray.typeOf aty)).before a0 Z = true) (eT : T.heap = h) {g : JFrame} (hg : g.method = m) (hd : decode c.code g.pc = .ok (.newarray aty, 2)) {n : Int32} {rest : List Value} (hs : g.stack = .int n :: rest)
    (hn : ¬ n < 0) {cap : Nat} (hcap : n.toNatClampNeg ≤ cap) (hb : cap * 8 ≤ 536870912) (hc : cells + 1 ≤ R.cells) (hl : slots + cap ≤ R.slots) :
    ∃ T' h' cA b, b = h.size ∧ Stand p l e R s m args below meth c T' locs (cells + 1) (slots + cap) ∧ T'.heap = h' ∧ Ext h h' ∧ Arr Z h' b (newA cA (newarray.typeOf aty) n) (newarray.typeOf aty) ∧
      ∀ target, Steps p.tables e below (T'.setTop { g with pc := g.pc + 2, stack := .ref b :: rest }) target → Steps p.tables e below (T.setTop g) target := by
  obtain ⟨T', h', cA, X', e', E', A', st⟩ := newP X hx hZ w eT hg hd hs hn hcap hb hc hl
  exact ⟨T', h', cA, _, rfl, X', e', E', A', st⟩
end New
section Run
variable {p : Program} {l : Launch} {e : Env} {R : Room} {s : State} {m : MethodId} {args : Array Value} {below : List Frame} {meth : Method} {c : Code} {T : State} {locs : List Loc} {cells slots : Nat} {target : State}
def un32 (f : Int32 → Value) (S : List Value) : Option (List Value) := match S with | .int x :: r => some (f x :: r) | _ => none
def un64 (f : Int64 → Value) (S : List Value) : Option (List Value) := match S with | .long x :: r => some (f x :: r) | _ => none
def bi32 (f : Int32 → Int32 → Int32) (S : List Value) : Option (List Value) := match S with | .int y :: .int x :: r => some (.int (f x y) :: r) | _ => none
def bi64 (f : Int64 → Int64 → Value) (S : List Value) : Option (List Value) := match S with | .long y :: .long x :: r => some (f x y :: r) | _ => none
def sh64 (f : Int64 → Int32 → Int64) (S : List Value) : Option (List Value) := match S with | .int y :: .long x :: r => some (.long (f x y) :: r) | _ => none
/-- the stack behind an instruction that reads and writes the stack alone -/
def stk (i : Instr) (S : List Value) : Option (List Value) := match i with
  | .iconst k => some (.int (Int32.ofInt k) :: S)
  | .bipush k => some (.int (Int8.ofInt k).toInt32 :: S)
  | .sipush k => some (.int (Int16.ofInt k).toInt32 :: S)
  | .lconst k => some (.long (Int64.ofNat k) :: S)
  | .aconst_null => some (.null :: S)
  | .iadd => bi32 (· + ·) S
  | .isub => bi32 (· - ·) S
  | .imul => bi32 (· * ·) S
  | .iand => bi32 (· &&& ·) S
  | .ior => bi32 (· ||| ·) S
  | .ixor => bi32 (· ^^^ ·) S
  | .ishl => bi32 (fun x y => x <<< (y &&& 31)) S
  | .ishr => bi32 (fun x y => x >>> (y &&& 31)) S
  | .iushr => bi32 (fun x y => (x.toUInt32 >>> (y &&& 31).toUInt32).toInt32) S
  | .ladd => bi64 (fun x y => .long (x + y)) S
  | .lsub => bi64 (fun x y => .long (x - y)) S
  | .lmul => bi64 (fun x y => .long (x * y)) S
  | .land => bi64 (fun x y => .long (x &&& y)) S
  | .lor => bi64 (fun x y => .long (x ||| y)) S
  | .lxor => bi64 (fun x y => .long (x ^^^ y)) S
  | .lcmp => bi64 (fun x y => .int (if x > y then 1 else if x = y then 0 else -1)) S
  | .lshl => sh64 (fun x y => x <<< (y &&& 0x3f).toInt64) S
  | .lshr => sh64 (fun x y => x >>> (y &&& 0x3f).toInt64) S
  | .lushr => sh64 (fun x y => (x.toUInt64 >>> (y &&& 0x3f).toInt64.toUInt64).toInt64) S
  | .ineg => un32 (fun x => .int (-x)) S
  | .lneg => un64 (fun x => .long (-x)) S
  | .i2l => un32 (fun x => .long x.toInt64) S
  | .l2i => un64 (fun x => .int x.toInt32) S
  | .i2b => un32 (fun x => .int x.toInt8.toInt32) S
  | .i2c => un32 (fun x => .int x.toUInt32.toUInt16.toUInt32.toInt32) S
  | .i2s => un32 (fun x => .int x.toInt16.toInt32) S
  | .dup => match S with | x :: r => if x.category = 1 then some (x :: x :: r) else none | _ => none
  | .pop => match S with | x :: r => if x.category = 1 then some r else none | _ => none
  | .dup_x1 => match S with | x :: y :: r => if x.category = 1 ∧ y.category = 1 then some (x :: y :: x :: r) else none | _ => none
  | _ => none
theorem un32_s {f : Int32 → Value} {S S' : List Value} (h : un32 f S = some S') : ∃ x r, S = .int x :: r ∧ S' = f x :: r := by
  unfold un32 at h; split at h
  · cases h; exact ⟨_, _, rfl, rfl⟩
  · cases h
theorem un64_s {f : Int64 → Value} {S S' : List Value} (h : un64 f S = some S') : ∃ x r, S = .long x :: r ∧ S' = f x :: r := by
  unfold un64 at h; split at h
  · cases h; exact ⟨_, _, rfl, rfl⟩
  · cases h
theorem bi32_s {f : Int32 → Int32 → Int32} {S S' : List Value} (h : bi32 f S = some S') : ∃ x y r, S = .int y :: .int x :: r ∧ S' = .int (f x y) :: r := by
  unfold bi32 at h; split at h
  · cases h; exact ⟨_, _, _, rfl, rfl⟩
  · cases h
theorem bi64_s {f : Int64 → Int64 → Value} {S S' : List Value} (h : bi64 f S = some S') : ∃ x y r, S = .long y :: .long x :: r ∧ S' = f x y :: r := by
  unfold bi64 at h; split at h
  · cases h; exact ⟨_, _, _, rfl, rfl⟩
  · cases h
theorem sh64_s {f : Int64 → Int32 → Int64} {S S' : List Value} (h : sh64 f S = some S') : ∃ x y r, S = .int y :: .long x :: r ∧ S' = .long (f x y) :: r := by
  unfold sh64 at h; split at h
  · cases h; exact ⟨_, _, _, rfl, rfl⟩
  · cases h
def len1 (i : Instr) : Nat := match i with | .bipush _ => 2 | .sipush _ => 3 | _ => 1
theorem stk_s (X : Stand p l e R s m args below meth c T locs cells slots) (hx : p.tables.exec = Jvm.exec) {i : Instr} {n pc : Nat} {L : Array Slot} {S S' : List Value} (hd : decode c.code pc = .ok (i, n)) (hn : n = len1 i) (h : stk i S = some S')
    (H : Steps p.tables e below (T.setTop (mkF m (pc + n) L S')) target) : Steps p.tables e below (T.setTop (mkF m pc L S)) target := by
  subst hn
  unfold stk at h
  split at h <;> first
    | (cases h; first | exact XS.iconst X.here hx rfl hd H | exact XS.bipush X.here hx rfl hd H | exact XS.sipush X.here hx rfl hd H | exact XS.lconst X.here hx rfl hd H | exact XS.aconstNull X.here hx rfl hd H)
    | (obtain ⟨x, y, r, rfl, rfl⟩ := bi32_s h; first | exact XS.iadd X.here hx rfl hd rfl H | exact XS.isub X.here hx rfl hd rfl H | exact XS.imul X.here hx rfl hd rfl H | exact XS.iand X.here hx rfl hd rfl H | exact XS.ior X.here hx rfl hd rfl H | exact XS.ixor X.here hx rfl hd rfl H | exact XS.ishl X.here hx rfl hd rfl H | exact XS.ishr X.here hx rfl hd rfl H | exact XS.iushr X.here hx rfl hd rfl H)
    | (obtain ⟨x, y, r, rfl, rfl⟩ := bi64_s h; first | exact XS.ladd X.here hx rfl hd rfl H | exact XS.lsub X.here hx rfl hd rfl H | exact XS.lmul X.here hx rfl hd rfl H | exact XS.land X.here hx rfl hd rfl H | exact XS.lor X.here hx rfl hd rfl H | exact XS.lxor X.here hx rfl hd rfl H | exact XS.lcmp X.here hx rfl hd rfl H)
    | (obtain ⟨x, y, r, rfl, rfl⟩ := sh64_s h; first | exact XS.lshl X.here hx rfl hd rfl H | exact XS.lshr X.here hx rfl hd rfl H | exact XS.lushr X.here hx rfl hd rfl H)
    | (obtain ⟨x, r, rfl, rfl⟩ := un32_s h; first | exact XS.ineg X.here hx rfl hd rfl H | exact XS.i2l X.here hx rfl hd rfl H | exact XS.i2b X.here hx rfl hd rfl H | exact XS.i2c X.here hx rfl hd rfl H | exact XS.i2s X.here hx rfl hd rfl H)
    | (obtain ⟨x, r, rfl, rfl⟩ := un64_s h; first | exact XS.lneg X.here hx rfl hd rfl H | exact XS.l2i X.here hx rfl hd rfl H)
    | (split at h <;> (try split at h) <;> first | (cases h; done) | (rename_i q; cases h; first | exact XS.dup X.here hx rfl hd rfl q H | exact XS.pop X.here hx rfl hd rfl q H | exact XS.dupX1 X.here hx rfl hd rfl q.1 q.2 H))
    | cases h
def ldI (L : Array Slot) (S : List Value) (k : Nat) : Option (Array Slot × List Value) := match L[k]? with | some (.val (.int v)) => some (L, .int v :: S) | _ => none
def ldJ (L : Array Slot) (S : List Value) (k : Nat) : Option (Array Slot × List Value) := match L[k]? with | some (.val (.long v)) => some (L, .long v :: S) | _ => none
def ldA (L : Array Slot) (S : List Value) (k : Nat) : Option (Array Slot × List Value) := match L[k]? with | some (.val v) => if v.isRef = true then some (L, v :: S) else none | _ => none
def stI1 (L : Array Slot) (S : List Value) (k : Nat) : Option (Array Slot × List Value) := match S with | .int x :: r => (storeLocals L k (.int x)).map fun l' => (l', r) | _ => none
def stJ1 (L : Array Slot) (S : List Value) (k : Nat) : Option (Array Slot × List Value) := match S with | .long x :: r => (storeLocals L k (.long x)).map fun l' => (l', r) | _ => none
def stA1 (L : Array Slot) (S : List Value) (k : Nat) : Option (Array Slot × List Value) := match S with | x :: r => if x.isRef = true then (storeLocals L k x).map fun l' => (l', r) else none | _ => none
/-- what an instruction does to pc, locals and stack; nothing else is touched -/
def run1 (i : Instr) (n pc : Nat) (L : Array Slot) (S : List Value) : Option (Nat × Array Slot × List Value) := match i with
  | .iload_n k => if n = 1 then (ldI L S k.val).map (pc + n, ·) else none
  | .iload k => if n = 2 then (ldI L S k).map (pc + n, ·) else none
  | .lload_n k => if n = 1 then (ldJ L S k.val).map (pc + n, ·) else none
  | .lload k => if n = 2 then (ldJ L S k).map (pc + n, ·) else none
  | .aload_n k => if n = 1 then (ldA L S k.val).map (pc + n, ·) else none
  | .aload k => if n = 2 then (ldA L S k).map (pc + n, ·) else none
  | .istore_n k => if n = 1 then (stI1 L S k.val).map (pc + n, ·) else none
  | .istore k => if n = 2 then (stI1 L S k).map (pc + n, ·) else none
  | .lstore_n k => if n = 1 then (stJ1 L S k.val).map (pc + n, ·) else none
  | .lstore k => if n = 2 then (stJ1 L S k).map (pc + n, ·) else none
  | .astore_n k => if n = 1 then (stA1 L S k.val).map (pc + n, ·) else none
  | .astore k => if n = 2 then (stA1 L S k).map (pc + n, ·) else none
  | .iinc k cst => if n = 3 then (match L[k]? with | some (.val (.int x)) => (storeLocals L k (.int (x + Int32.ofInt cst))).map fun l' => (pc + n, l', S) | _ => none) else none
  | .goto o => if n = 3 then (if 0 ≤ (pc : Int) + o then some (((pc : Int) + o).toNat, L, S) else none) else none
  | i => if n = len1 i then (stk i S).map fun S' => (pc + n, L, S') else none
theorem ldI_s {L L' : Array Slot} {S S' : List Value} {k : Nat} (h : ldI L S k = some (L', S')) : ∃ v, L[k]? = some (.val (.int v)) ∧ L' = L ∧ S' = .int v :: S := by
  unfold ldI at h; split at h
  · cases h; exact ⟨_, by assumption, rfl, rfl⟩
  · cases h
theorem ldJ_s {L L' : Array Slot} {S S' : List Value} {k : Nat} (h : ldJ L S k = some (L', S')) : ∃ v, L[k]? = some (.val (.long v)) ∧ L' = L ∧ S' = .long v :: S := by
  unfold ldJ at h; split at h
  · cases h; exact ⟨_, by assumption, rfl, rfl⟩
  · cases h
theorem ldA_s {L L' : Array Slot} {S S' : List Value} {k : Nat} (h : ldA L S k = some (L', S')) : ∃ v, L[k]? = some (.val v) ∧ v.isRef = true ∧ L' = L ∧ S' = v :: S := by
  unfold ldA at h; split at h
  · split at h
    · cases h; exact ⟨_, by assumption, by assumption, rfl, rfl⟩
    · cases h
  · cases h
theorem stI1_s {L L' : Array Slot} {S S' : List Value} {k : Nat} (h : stI1 L S k = some (L', S')) : ∃ x, S = .int x :: S' ∧ storeLocals L k (.int x) = some L' := by
  unfold stI1 at h; split at h
  · rw [Option.map_eq_some_iff] at h; obtain ⟨l', h1, h2⟩ := h; cases h2; exact ⟨_, rfl, h1⟩
  · cases h
theorem stJ1_s {L L' : Array Slot} {S S' : List Value} {k : Nat} (h : stJ1 L S k = some (L', S')) : ∃ x, S = .long x :: S' ∧ storeLocals L k (.long x) = some L' := by
  unfold stJ1 at h; split at h
  · rw [Option.map_eq_some_iff] at h; obtain ⟨l', h1, h2⟩ := h; cases h2; exact ⟨_, rfl, h1⟩
  · cases h
theorem stA1_s {L L' : Array Slot} {S S' : List Value} {k : Nat} (h : stA1 L S k = some (L', S')) : ∃ x, S = x :: S' ∧ x.isRef = true ∧ storeLocals L k x = some L' := by
  unfold stA1 at h; split at h
  · split at h
    · rw [Option.map_eq_some_iff] at h; obtain ⟨l', h1, h2⟩ := h; cases h2; exact ⟨_, rfl, by assumption, h1⟩
    · cases h
  · cases h
theorem map_s {α β : Type} {o : Option α} {f : α → β} {y : β} (h : o.map f = some y) : ∃ x, o = some x ∧ f x = y := Option.map_eq_some_iff.mp h
theorem run1_s (X : Stand p l e R s m args below meth c T locs cells slots) (hx : p.tables.exec = Jvm.exec) {i : Instr} {n pc pc' : Nat} {L L' : Array Slot} {S S' : List Value} (hd : decode c.code pc = .ok (i, n)) (h : run1 i n pc L S = some (pc', L', S'))
    (H : Steps p.tables e below (T.setTop (mkF m pc' L' S')) target) : Steps p.tables e below (T.setTop (mkF m pc L S)) target := by
  unfold run1 at h
  split at h <;> split at h <;> first
    | (cases h; done)
    | (rename_i hn; subst hn; obtain ⟨⟨L1, S1⟩, h1, h2⟩ := map_s h; cases h2; first
        | (obtain ⟨v, q1, rfl, rfl⟩ := ldI_s h1; first | exact XS.iloadN X.here hx rfl hd q1 H | exact XS.iload X.here hx rfl hd q1 H)
        | (obtain ⟨v, q1, rfl, rfl⟩ := ldJ_s h1; first | exact XS.lloadN X.here hx rfl hd q1 H | exact XS.lload X.here hx rfl hd q1 H)
        | (obtain ⟨v, q1, q2, rfl, rfl⟩ := ldA_s h1; first | exact XS.aloadN X.here hx rfl hd q1 q2 H | exact XS.aload X.here hx rfl hd q1 q2 H)
        | (obtain ⟨x, rfl, q⟩ := stI1_s h1; first | exact XS.istoreN X.here hx rfl hd rfl q H | exact XS.istore X.here hx rfl hd rfl q H)
        | (obtain ⟨x, rfl, q⟩ := stJ1_s h1; first | exact XS.lstoreN X.here hx rfl hd rfl q H | exact XS.lstore X.here hx rfl hd rfl q H)
        | (obtain ⟨x, rfl, q1, q⟩ := stA1_s h1; first | exact XS.astoreN X.here hx rfl hd rfl q1 q H | exact XS.astore X.here hx rfl hd rfl q1 q H))
    | (rename_i hn; subst hn; split at h <;> first
        | (cases h; done)
        | (rename_i q; obtain ⟨l', h1, h2⟩ := map_s h; cases h2; exact XS.iinc X.here hx rfl hd q h1 H)
        | (rename_i q; cases h; exact XS.goto X.here hx rfl (pc0 := pc) rfl hd q rfl H))
    | (rename_i hn; obtain ⟨S1, h1, h2⟩ := map_s h; cases h2; exact stk_s X hx hd hn h1 H)
def runs : List (Nat × Instr × Nat) → Nat → Array Slot → List Value → Option (Nat × Array Slot × List Value)
  | [], pc, L, S => some (pc, L, S)
  | (q, i, n) :: is, pc, L, S => if q = pc then (match run1 i n pc L S with | some (pc', L', S') => runs is pc' L' S' | none => none) else none
def decs (code : ByteArray) : List (Nat × Instr × Nat) → Prop
  | [] => True
  | (q, i, n) :: is => decode code q = .ok (i, n) ∧ decs code is
theorem runs_s (X : Stand p l e R s m args below meth c T locs cells slots) (hx : p.tables.exec = Jvm.exec) {pc' : Nat} {L' : Array Slot} {S' : List Value} (H : Steps p.tables e below (T.setTop (mkF m pc' L' S')) target) :
    ∀ (is : List (Nat × Instr × Nat)) (pc : Nat) (L : Array Slot) (S : List Value), decs c.code is → runs is pc L S = some (pc', L', S') → Steps p.tables e below (T.setTop (mkF m pc L S)) target
  | [], pc, L, S, _, h => by cases h; exact H
  | (q, i, n) :: is, pc, L, S, hd, h => by
    unfold runs at h
    split at h
    · rename_i e1; subst e1
      split at h
      · rename_i pc1 L1 S1 h1
        exact run1_s X hx hd.1 h1 (runs_s X hx H is pc1 L1 S1 hd.2 h)
      · cases h
    · cases h
variable {P : Option Value → State → List Loc → Prop}
theorem Home.run (X : Stand p l e R s m args below meth c T locs cells slots) (hx : p.tables.exec = Jvm.exec) {bytes : ByteArray} (hby : c.code = bytes) {is : List (Nat × Instr × Nat)} (hd : decs bytes is) {pc pc' : Nat} {L L' : Array Slot} {S S' : List Value} (h : runs is pc L S = some (pc', L', S'))
    (H : @Home p e below P T (mkF m pc' L' S')) : @Home p e below P T (mkF m pc L S) :=
  Home.go (fun _ kt => runs_s X hx kt is pc L S (by rw [hby]; exact hd) h) H
end Run
section Calls
variable {p : Program} {l : Launch} {e : Env} {R : Room} {s : State} {m : MethodId} {args : Array Value} {below : List Frame} {meth : Method} {c : Code} {T : State} {locs : List Loc} {cells slots : Nat} {Z : State} {a0 : Array Value} {h : Heap} {y z : MethodName} {bytes : ByteArray} {maxL : Nat} {ret : Option FieldType} {rm : Room} {W : Nat} {as' : Array Value} {Q : Option Value → Heap → List Loc → Prop} {own C : String} {index : Nat}
/-- a body's contract, at one heap and one list of arguments -/
abbrev Con (l : Launch) (Z : State) (y : MethodName) (bytes : ByteArray) (maxL : Nat) (ret : Option FieldType) (ws : List Jvm.Cond) (rm : Room) (as' : Array Value) (h : Heap) (Q : Option Value → Heap → List Loc → Prop) : Prop :=
  MetFree l y (head1 (Jvm.Cond.code y bytes maxL ret :: ws) rm) (fun a U => a = as' ∧ Z.Warmed39 U.vm ∧ U.heap = h) (fun _ _ _ _ _ => True) (fun _ U o U' => ∃ v L, o = .returned v ∧ Q v U'.heap L ∧ FrameEnd U o U' L rm.cells rm.slots)
/-- it leaves the heap as it was -/
abbrev Pur (w : Option Value) (h0 : Heap) : Option Value → Heap → List Loc → Prop := fun v h L => v = w ∧ L = [] ∧ h = h0
/-- from a walk that comes home to the contract -/
theorem own_body {ws : List Jvm.Cond} {L0 : Array Slot} (pn : plainFor y = true) (ef : ∀ m, entryFrame m as' maxL = mkF m 0 L0 [])
    (body : ∀ (p : Program) (e : Env) (s : State) (m : MethodId) (below : List Frame) (meth : Method) (c : Code) (s₁ : State), p.tables.exec = Jvm.exec → c.code = bytes → meth.locks = false → c.maxLocals = maxL → meth.sig.returnType = ret → Z.Warmed39 s.vm → s.vm.findClass y.cls = some m.cls → meth.name = y.name →
      Stand p l e rm s m as' below meth c s₁ [] 0 0 → s₁.heap = h → @Home p e below (End s Q rm.cells rm.slots) s₁ (mkF m 0 L0 [])) : Con l Z y bytes maxL ret ws rm as' h Q := by
  refine MetFree.of_bodySF pn hisR ?_
  intro p e s m args below meth c s₁ Bd hml0 hP hK
  obtain ⟨rfl, hZ, hh⟩ := hP
  have H : @Home p e below (End s Q rm.cells rm.slots) s₁ (entryFrame m args maxL) := Home.enter (ef m) (body p e s m below meth c s₁ Bd.exec Bd.bytes (BodyLoose.notSynchronized Bd) hml0 Bd.returns hZ (findClass_of_methodNamed Bd.named) (name_of_methodNamed Bd.named Bd.method).1 (Stand.of_body Bd) (by rw [← hh, Bd.state]; rfl))
  obtain ⟨U, o, h1, h2, h3, v, L, rfl, h4, h5⟩ := H
  exact ⟨U, _, h1, h2, h3, v, L, rfl, h4, h5⟩
theorem own_static (X : Stand p l e R s m args below meth c T locs cells slots) (hx : p.tables.exec = Jvm.exec) (hZ : Z.Warmed39 s.vm) (hown : s.vm.findClass own = some m.cls)
    (w1 : (Cond.methodLink own index y).before a0 Z = true) (w2 : (Cond.static y).before a0 Z = true) (w3 : (Cond.initialized y.cls).before a0 Z = true) (w4 : (Cond.code y bytes maxL ret).before a0 Z = true)
    (hy : y.cls ≠ "java/lang/invoke/MethodHandle" ∧ y.cls ≠ "java/lang/invoke/VarHandle") (hM : Con l Z y bytes maxL ret [] rm as' h Q) (eT : T.heap = h)
    {g : JFrame} (hg : g.method = m) (hsize : g.locals.size = c.maxLocals) {argsL rest : List Value} (hlen : ∀ sig, parseMethodDescriptor y.desc = some sig → argsL.length = sig.parameters.length) (hstack : g.stack = argsL.reverse ++ rest) (ha : argsL.toArray = as')
    (hW : 2 * g.monitorRoom + (rest.map fun v => v.category).sum ≤ W) (hf : rm.frames + 1 ≤ R.frames) (hl : W + (maxL + 11) + rm.locals ≤ R.locals)
    (hdg : decode c.code g.pc = .ok (.invokestatic index, 3)) (hc : cells + rm.cells ≤ R.cells) (hs : slots + rm.slots ≤ R.slots) :
    ∃ v T' L, Stand p l e R s m args below meth c T' (locs ++ L) (cells + rm.cells) (slots + rm.slots) ∧ Q v T'.heap L ∧
      ∀ t, Steps p.tables e below (T'.setTop { g with pc := g.pc + 3, stack := v.toList ++ rest }) t → Steps p.tables e below (T.setTop g) t := by
  obtain ⟨v, _, ⟨T', L', k', n'⟩, -, X', ⟨L, hQ, l', y', z'⟩, st⟩ := Jvm.LawKit.callS X hx (y := y) hown (mvT hZ w1) (mvT hZ w2) (mvT hZ w3) (mvT hZ w4) hy (backOf (W := W) hM hZ w4 w3 hf hl) hg hsize hlen hstack hW hdg (fun _ _ => ⟨ha, eT, hc, hs⟩)
  dsimp only [Pt.U, Pt.locs, Pt.cells, Pt.slots] at X' l' y' z' st hQ
  subst l' y' z'
  exact ⟨v, T', L, X', hQ, st⟩
theorem own_special (X : Stand p l e R s m args below meth c T locs cells slots) (hx : p.tables.exec = Jvm.exec) (hZ : Z.Warmed39 s.vm) (hown : s.vm.findClass own = some m.cls) (hy1 : y.name = "<init>")
    (w1 : (Cond.methodLink own index y).before a0 Z = true) (w2 : (Cond.instanceMethod y).before a0 Z = true) (w3 : (Cond.initialized y.cls).before a0 Z = true) (w4 : (Cond.code y bytes maxL none).before a0 Z = true)
    (hy : y.cls ≠ "java/lang/invoke/MethodHandle" ∧ y.cls ≠ "java/lang/invoke/VarHandle") (hM : Con l Z y bytes maxL none [] rm as' h Q) (eT : T.heap = h)
    {g : JFrame} (hg : g.method = m) (hsize : g.locals.size = c.maxLocals) {a : Addr} {argsL rest : List Value} (hlen : ∀ sig, parseMethodDescriptor y.desc = some sig → argsL.length = sig.parameters.length) (hstack : g.stack = argsL.reverse ++ .ref a :: rest) (ha : (.ref a :: argsL).toArray = as')
    (hW : 2 * g.monitorRoom + (rest.map fun v => v.category).sum ≤ W) (hf : rm.frames + 1 ≤ R.frames) (hl : W + (maxL + 11) + rm.locals ≤ R.locals)
    (hdg : decode c.code g.pc = .ok (.invokespecial index, 3)) (hc : cells + rm.cells ≤ R.cells) (hs : slots + rm.slots ≤ R.slots) :
    ∃ v T' L, Stand p l e R s m args below meth c T' (locs ++ L) (cells + rm.cells) (slots + rm.slots) ∧ Q v T'.heap L ∧
      ∀ t, Steps p.tables e below (T'.setTop { g with pc := g.pc + 3, stack := v.toList ++ rest }) t → Steps p.tables e below (T.setTop g) t := by
  obtain ⟨v, _, ⟨T', L', k', n'⟩, -, X', ⟨L, hQ, l', y', z'⟩, st⟩ := X.specialBack hx (y := y) hy1 hown (mvT hZ w1) (mvT hZ w2) (mvT hZ w4) hy (backOf (W := W) hM hZ w4 w3 hf hl) hg hsize (Steps.refl _) (a := a) hlen hstack hW hdg (fun _ _ => ⟨ha, eT, hc, hs⟩)
  dsimp only [Pt.U, Pt.locs, Pt.cells, Pt.slots] at X' l' y' z' st hQ
  subst l' y' z'
  exact ⟨v, T', L, X', hQ, fun t k => st.trans k⟩
theorem own_virtual (X : Stand p l e R s m args below meth c T locs cells slots) (hx : p.tables.exec = Jvm.exec) (hZ : Z.Warmed39 s.vm) (hown : s.vm.findClass own = some m.cls)
    (w1 : (Cond.methodLink own index y).before a0 Z = true) (w2 : (Cond.declares y).before a0 Z = true) (hnf : NotFace s y) (w3 : (Cond.selects C y z).before a0 Z = true) (w4 : (Cond.instanceMethod z).before a0 Z = true) (w5 : (Cond.initialized z.cls).before a0 Z = true) (w6 : (Cond.code z bytes maxL ret).before a0 Z = true)
    (hy : y.cls ≠ "java/lang/invoke/MethodHandle" ∧ y.cls ≠ "java/lang/invoke/VarHandle") (hM : Con l Z z bytes maxL ret [] rm as' h Q) (eT : T.heap = h) {a : Addr} (E : Exa Z h a C)
    {g : JFrame} (hg : g.method = m) (hsize : g.locals.size = c.maxLocals) {argsL rest : List Value} (hlen : ∀ sig, parseMethodDescriptor y.desc = some sig → argsL.length = sig.parameters.length) (hstack : g.stack = argsL.reverse ++ .ref a :: rest) (ha : (.ref a :: argsL).toArray = as')
    (hW : 2 * g.monitorRoom + (rest.map fun v => v.category).sum ≤ W) (hf : rm.frames + 1 ≤ R.frames) (hl : W + (maxL + 11) + rm.locals ≤ R.locals)
    (hdg : decode c.code g.pc = .ok (.invokevirtual index, 3)) (hc : cells + rm.cells ≤ R.cells) (hs : slots + rm.slots ≤ R.slots) :
    ∃ v T' L, Stand p l e R s m args below meth c T' (locs ++ L) (cells + rm.cells) (slots + rm.slots) ∧ Q v T'.heap L ∧
      ∀ t, Steps p.tables e below (T'.setTop { g with pc := g.pc + 3, stack := v.toList ++ rest }) t → Steps p.tables e below (T.setTop g) t := by
  obtain ⟨cB, kB, q1, q2, q3⟩ := isOf hZ eT E
  obtain ⟨v, _, ⟨T', L', k', n'⟩, -, X', ⟨L, hQ, l', y', z'⟩, st⟩ := X.virtualBack hx (y := y) (z := z) hown (mvT hZ w1) (mvT hZ w2) hnf (mvT hZ w3) (mvT hZ w4) hy (backOf (W := W) hM hZ w6 w5 hf hl) q1 q3 hg hsize (Steps.refl _) hlen hstack hW hdg (fun _ _ => ⟨ha, eT, hc, hs⟩)
  dsimp only [Pt.U, Pt.locs, Pt.cells, Pt.slots] at X' l' y' z' st hQ
  subst l' y' z'
  exact ⟨v, T', L, X', hQ, fun t k => st.trans k⟩
/-- a call that left the heap as it was -/
theorem own_pure {w : Option Value} {g : JFrame} {g' : Option Value → JFrame} (q : ∃ v T' L, Stand p l e R s m args below meth c T' (locs ++ L) (cells + rm.cells) (slots + rm.slots) ∧ Pur w h v T'.heap L ∧ ∀ t, Steps p.tables e below (T'.setTop (g' v)) t → Steps p.tables e below (T.setTop g) t)
    (hc : rm.cells = 0 := by rfl) (hs : rm.slots = 0 := by rfl) : ∃ T', Stand p l e R s m args below meth c T' locs cells slots ∧ T'.heap = h ∧ ∀ t, Steps p.tables e below (T'.setTop (g' w)) t → Steps p.tables e below (T.setTop g) t := by
  obtain ⟨v, T', L, X', ⟨rfl, rfl, hh⟩, st⟩ := q
  rw [List.append_nil, hc, hs] at X'
  exact ⟨T', X', hh, st⟩
end Calls
section Facts
variable {Z : State} {h h' : Heap} {a b : Addr} {C n d : String} {v : Value} {n0 : Nat}
theorem Old.le (O : Old Z n0 h) : n0 ≤ h.size := O.1 ▸ O.2.1
end Facts
end Jvm.OwnKit
namespace Jvm.OwnKit
open Jvm Jvm.ClassFile Sem Op Lib Jvm.Free Jvm.Stand Jvm.LawKit Jvm.RoadKit
section Arrays
variable {p : Program} {l : Launch} {e : Env} {R : Room} {s : State} {m : MethodId} {args : Array Value} {below : List Frame} {meth : Method} {c : Code} {T : State} {locs : List Loc} {cells slots : Nat} {Z : State} {h : Heap}
theorem own_alen (X : Stand p l e R s m args below meth c T locs cells slots) (hx : p.tables.exec = Jvm.exec) (hZ : Z.Warmed39 s.vm) (eT : T.heap = h) {a : Addr} {cl : Cell} {ty : FieldType} {z : Int32} (A : Arr Z h a cl ty) (S : cl.slots.size = z.toNatClampNeg) (M : ¬ z < 0)
    {g : JFrame} (hg : g.method = m) {rest : List Value} (hs : g.stack = .ref a :: rest) (hd : decode c.code g.pc = .ok (.arraylength, 1)) :
    ∀ t, Steps p.tables e below (T.setTop { g with pc := g.pc + 1, stack := .int z :: rest }) t → Steps p.tables e below (T.setTop g) t := fun t k =>
  X.arraylength hx (by rw [eT]; exact A.1) (State.isArrayOf_alike hZ.alike A.2.1) hg hs hd _ (by rw [len_of S M]; exact k)
/-- what stands at a place that is a number -/
def own_at (vs : List Int32) (j : Int32) : Int32 := vs.getD j.toNatClampNeg 0
theorem own_getD (vs : List Int32) (i : Nat) : (vs.map Value.int).getD i (.int 0) = .int (vs.getD i 0) := by
  simp only [List.getD_eq_getElem?_getD, List.getElem?_map]
  cases vs[i]? <;> rfl
end Arrays
end Jvm.OwnKit
namespace Jvm.OwnKit
open Jvm Jvm.ClassFile Sem Op Lib Jvm.Free Jvm.Stand Jvm.LawKit Jvm.RoadKit
theorem Ins.keep {Z : State} {h h' : Heap} {a : Addr} {C : String} {b : Bool} {ws : List Addr} (F : Ins Z h a C b) (K : Keep h h' ws) : Ins Z h' a C b := by
  obtain ⟨cell, cT, h1, h2, h3⟩ := F
  obtain ⟨c', e1, e2, e3, -⟩ := K.2.2 _ _ h1
  exact ⟨c', cT, e1, h2, by rw [e2, e3]; exact h3⟩
section Bounds
variable {x y a b c d : Int32}
theorem bnd_ite {c : Prop} [Decidable c] {a b lo hi : Int32} (ha : ¬ a < lo ∧ ¬ hi < a) (hb : ¬ b < lo ∧ ¬ hi < b) : ¬ (if c then a else b) < lo ∧ ¬ hi < (if c then a else b) := by
  split
  · exact ha
  · exact hb
theorem bnd_dite {c : Prop} [Decidable c] {a b lo hi : Int32} (ha : c → ¬ a < lo ∧ ¬ hi < a) (hb : ¬ c → ¬ b < lo ∧ ¬ hi < b) : ¬ (if c then a else b) < lo ∧ ¬ hi < (if c then a else b) := by
  by_cases q : c
  · rw [if_pos q]; exact ha q
  · rw [if_neg q]; exact hb q
theorem bnd_and (x m : Int32) (h : 0 ≤ m.toInt) : ¬ (x &&& m) < (0 : Int32) ∧ ¬ m < (x &&& m) := by
  have q := c_and x m h
  have e : (0 : Int32).toInt = 0 := rfl
  rw [Int32.lt_iff_toInt_lt, Int32.lt_iff_toInt_lt, e]; omega
theorem bnd_mono (h : ¬ x < a ∧ ¬ b < x) (h1 : c.toInt ≤ a.toInt) (h2 : b.toInt ≤ d.toInt) : ¬ x < c ∧ ¬ d < x := by
  simp only [Int32.lt_iff_toInt_lt] at *; omega
theorem bnd_lt (h : ¬ x < a ∧ ¬ b < x) (k : ¬ y < c ∧ ¬ d < y) (q : b.toInt < c.toInt) : x < y := by
  simp only [Int32.lt_iff_toInt_lt] at *; omega
theorem bnd_nlt (h : ¬ x < a ∧ ¬ b < x) (k : ¬ y < c ∧ ¬ d < y) (q : d.toInt ≤ a.toInt) : ¬ x < y := by
  simp only [Int32.lt_iff_toInt_lt] at *; omega
theorem bnd_rem (h : ¬ x < a ∧ ¬ b < x) (h1 : 0 ≤ a.toInt) (h2 : 0 < y.toInt) : ¬ (x % y) < (0 : Int32) ∧ ¬ (y - 1) < (x % y) := by
  have q := (c_iremV x y).1
  have e : (0 : Int32).toInt = 0 := rfl
  have e1 := c_isub y 1
  have e2 : (1 : Int32).toInt = 1 := rfl
  have r := rng32 y
  have r2 := rng32 (y - 1)
  simp only [Int32.lt_iff_toInt_lt, e] at *
  have h0 : 0 ≤ x.toInt := by omega
  have q := q h0 h2
  omega
theorem bnd_l2i (x : Int64) {k : Int64} {m : Int32} (h : 0 ≤ k.toInt ∧ k.toInt < 2147483648) (e : m.toInt = k.toInt) : ¬ ((x &&& k).toInt32) < (0 : Int32) ∧ ¬ m < ((x &&& k).toInt32) := by
  have hk : (k.toBitVec.toNat : Int) = k.toInt := by
    have q : k.toInt = k.toBitVec.toInt := rfl
    rw [q] at h ⊢
    rw [BitVec.toInt_eq_toNat_cond] at h ⊢
    have l := k.toBitVec.isLt
    split at h <;> split <;> omega
  have h1 : (x &&& k).toBitVec.toNat ≤ k.toBitVec.toNat := by
    simp only [Int64.toBitVec_and, BitVec.toNat_and]; exact Nat.and_le_right
  have h3 : (x &&& k).toInt = ((x &&& k).toBitVec.toNat : Int) := by
    have q : (x &&& k).toInt = (x &&& k).toBitVec.toInt := rfl
    rw [q, BitVec.toInt_eq_toNat_cond]
    split <;> omega
  have h2 : ((x &&& k).toInt32).toInt = ((x &&& k).toBitVec.toNat : Int) := by
    rw [Int64.toInt_toInt32, h3]
    simp only [Int.bmod]
    split <;> omega
  have e0 : (0 : Int32).toInt = 0 := rfl
  rw [Int32.lt_iff_toInt_lt, Int32.lt_iff_toInt_lt, h2, e0]
  omega
theorem bnd_add {lo hi : Int32} (h : ¬ x < a ∧ ¬ b < x) (k : ¬ y < c ∧ ¬ d < y) (q1 : lo.toInt = a.toInt + c.toInt) (q2 : hi.toInt = b.toInt + d.toInt) (q3 : -2147483648 ≤ a.toInt + c.toInt) (q4 : b.toInt + d.toInt < 2147483648) : ¬ (x + y) < lo ∧ ¬ hi < (x + y) := by
  have e := c_iadd x y
  have r := rng32 (x + y)
  simp only [Int32.lt_iff_toInt_lt] at *
  omega
theorem bnd_sub {lo hi : Int32} (h : ¬ x < a ∧ ¬ b < x) (k : ¬ y < c ∧ ¬ d < y) (q1 : lo.toInt = a.toInt - d.toInt) (q2 : hi.toInt = b.toInt - c.toInt) (q3 : -2147483648 ≤ a.toInt - d.toInt) (q4 : b.toInt - c.toInt < 2147483648) : ¬ (x - y) < lo ∧ ¬ hi < (x - y) := by
  have e := c_isub x y
  have r := rng32 (x - y)
  simp only [Int32.lt_iff_toInt_lt] at *
  omega
theorem bnd_i2c (x : Int32) : ¬ (x.toUInt32.toUInt16.toUInt32.toInt32) < (0 : Int32) ∧ ¬ (65535 : Int32) < (x.toUInt32.toUInt16.toUInt32.toInt32) := by
  have q := c_i2c x
  have e : (0 : Int32).toInt = 0 := rfl
  have e1 : (65535 : Int32).toInt = 65535 := rfl
  simp only [Int32.lt_iff_toInt_lt, e, e1]; omega
theorem bnd_i2b (x : Int32) : ¬ (x.toInt8.toInt32) < (-128 : Int32) ∧ ¬ (127 : Int32) < (x.toInt8.toInt32) := by
  have q := c_i2b x
  have e : (-128 : Int32).toInt = -128 := rfl
  have e1 : (127 : Int32).toInt = 127 := rfl
  simp only [Int32.lt_iff_toInt_lt, e, e1]; omega
theorem i2c_id (h : ¬ x < a ∧ ¬ b < x) (h1 : 0 ≤ a.toInt) (h2 : b.toInt ≤ 65535) : x.toUInt32.toUInt16.toUInt32.toInt32 = x := by
  have q := c_i2c x
  simp only [Int32.lt_iff_toInt_lt] at h
  apply Int32.toInt_inj.mp; omega
theorem i2b_id (h : ¬ x < a ∧ ¬ b < x) (h1 : -128 ≤ a.toInt) (h2 : b.toInt ≤ 127) : x.toInt8.toInt32 = x := by
  have q := c_i2b x
  simp only [Int32.lt_iff_toInt_lt] at h
  apply Int32.toInt_inj.mp; omega
theorem bnd_lit (k : Int32) : ¬ k < k ∧ ¬ k < k := by
  simp only [Int32.lt_iff_toInt_lt]; omega
theorem bnd_dn (h : x < c) (q : d.toInt = c.toInt - 1) : ¬ d < x := by
  simp only [Int32.lt_iff_toInt_lt] at *; omega
theorem bnd_eql (h : x = c) : ¬ x < c := by
  subst h; simp only [Int32.lt_iff_toInt_lt]; omega
theorem bnd_eqr (h : x = c) : ¬ c < x := by
  subst h; simp only [Int32.lt_iff_toInt_lt]; omega
theorem bnd_nel (h : ¬ x < c) (k : ¬ x = c) (q : d.toInt = c.toInt + 1) : ¬ x < d := by
  rw [← Int32.toInt_inj] at k; simp only [Int32.lt_iff_toInt_lt] at *; omega
theorem bnd_fix (h : ¬ x < c ∧ ¬ c < x) : x = c := by
  rw [← Int32.toInt_inj]; simp only [Int32.lt_iff_toInt_lt] at *; omega
theorem nar_char_id (h : ¬ x < a ∧ ¬ b < x) (h1 : 0 ≤ a.toInt) (h2 : b.toInt ≤ 65535) : nar .char x = x := i2c_id h h1 h2
theorem nar_byte_id (h : ¬ x < a ∧ ¬ b < x) (h1 : -128 ≤ a.toInt) (h2 : b.toInt ≤ 127) : nar .byte x = x := i2b_id h h1 h2
theorem nar_i2c (x : Int32) : nar .char (x.toUInt32.toUInt16.toUInt32.toInt32) = x.toUInt32.toUInt16.toUInt32.toInt32 := nar_char_id (bnd_i2c x) (by decide) (by decide)
theorem nar_i2b (x : Int32) : nar .byte (x.toInt8.toInt32) = x.toInt8.toInt32 := nar_byte_id (bnd_i2b x) (by decide) (by decide)
theorem nar_bool_id (h : ¬ x < a ∧ ¬ b < x) (h1 : 0 ≤ a.toInt) (h2 : b.toInt ≤ 1) : nar .boolean x = x := by
  simp only [Int32.lt_iff_toInt_lt] at h
  have hx : x.toInt = 0 ∨ x.toInt = 1 := by omega
  rcases hx with q | q
  · have : x = 0 := Int32.toInt_inj.mp q
    subst this; rfl
  · have : x = 1 := Int32.toInt_inj.mp q
    subst this; rfl
end Bounds
theorem Wr.to {h h' : Heap} {a : Addr} {sl : Nat} {v w : Value} (W : Wr h h' a sl v) (q : v = w) : Wr h h' a sl w := q ▸ W
theorem fits_char_b {x a b : Int32} (h : ¬ x < a ∧ ¬ b < x) (h1 : 0 ≤ a.toInt) (h2 : b.toInt ≤ 65535) : fits .char (.int x) = true := by
  have q := fits_nar_char x
  rw [nar_char_id h h1 h2] at q; exact q
theorem fits_byte_b {x a b : Int32} (h : ¬ x < a ∧ ¬ b < x) (h1 : -128 ≤ a.toInt) (h2 : b.toInt ≤ 127) : fits .byte (.int x) = true := by
  have q := fits_nar_byte x
  rw [i2b_id h h1 h2] at q; exact q
/-- null, or an object of exactly that class -/
def Nul (Z : State) (h : Heap) (x : Value) (C : String) : Prop := x = .null ∨ ∃ a, x = .ref a ∧ Exa Z h a C
section Nulls
variable {Z : State} {h h' : Heap} {x : Value} {C : String}
theorem Nul.null (Z : State) (h : Heap) (C : String) : Nul Z h .null C := Or.inl rfl
theorem Nul.of {a : Addr} (E : Exa Z h a C) : Nul Z h (.ref a) C := Or.inr ⟨a, rfl, E⟩
theorem Nul.ext (N : Nul Z h x C) (E : Ext h h') : Nul Z h' x C := N.imp id fun ⟨a, e, F⟩ => ⟨a, e, F.ext E⟩
theorem Nul.wr {a : Addr} {sl : Nat} {v : Value} (N : Nul Z h x C) (W : Wr h h' a sl v) : Nul Z h' x C := N.imp id fun ⟨a, e, F⟩ => ⟨a, e, F.wr W⟩
theorem Nul.keep {ws : List Addr} (N : Nul Z h x C) (K : Keep h h' ws) : Nul Z h' x C := N.imp id fun ⟨a, e, F⟩ => ⟨a, e, F.keep K⟩
theorem Nul.isRef (N : Nul Z h x C) : x.isRef = true := by rcases N with rfl | ⟨a, rfl, -⟩ <;> rfl
end Nulls
section NotSub
variable {Z : State} {a0 : Array Value} {C S O K : String} {nn : Nat}
end NotSub
theorem Fld.to {Z : State} {h : Heap} {a : Addr} {C n d : String} {v w : Value} (F : Fld Z h a C n d v) (q : v = w) : Fld Z h a C n d w := q ▸ F
end Jvm.OwnKit
namespace Jvm.OwnKit
open Jvm Jvm.ClassFile Sem Op Lib Jvm.Free Jvm.Stand Jvm.LawKit Jvm.RoadKit
section Lists
variable {p : Program} {l : Launch} {e : Env} {R : Room} {s : State} {m : MethodId} {args : Array Value} {below : List Frame} {meth : Method} {c : Code} {T : State} {locs : List Loc} {cells slots : Nat} {Z : State} {h : Heap}
end Lists
end Jvm.OwnKit
namespace Jvm.OwnKit
open Jvm Jvm.ClassFile Sem Op Lib Bundle Jvm.Free Jvm.Stand Jvm.LawKit Jvm.RoadKit
section Cold
variable {p : Program} {l : Launch} {e : Env} {R : Room} {s : State} {m : MethodId} {args : Array Value} {below : List Frame} {meth : Method} {c : Code} {T : State} {locs : List Loc} {cells slots k n : Nat} {Z : State} {a0 : Array Value} {h h' : Heap} {y z : MethodName} {bytes : ByteArray} {maxL : Nat} {rt : Option FieldType} {rm : Room} {W : Nat} {as' : Array Value} {Q : Option Value → Heap → List Loc → Prop} {own C : String} {index : Nat} {EL : List (String × Nat)} {vm0 vm1 : Vm} {xs : List Addr} {sf : Bool}
/-- what a walk that may book texts knows of its tables: they came of the start's, what is booked of EL is read, xs are none of the booked cells -/
def Cold (Z : State) (EL : List (String × Nat)) (s : State) (xs : List Addr) (vm0 : Vm) (h : Heap) : Prop := (∃ k0, s.Since vm0 k0 ∧ k0 ≤ h.size) ∧ CHr Z EL s.vm s.heap vm0 h ∧ ∀ x ∈ xs, Safe Z EL vm0 h x ∧ x < h.size
theorem Cold.go (H : Cold Z EL s xs vm0 h) (hs : ∃ k0, s.Since vm1 k0 ∧ k0 ≤ h'.size) (q : CHr Z EL vm0 h vm1 h') : Cold Z EL s xs vm1 h' :=
  ⟨hs, H.2.1.trans q, fun x hx => ⟨q.safe (H.2.2 x hx).2 (H.2.2 x hx).1, Nat.lt_of_lt_of_le (H.2.2 x hx).2 q.2.1⟩⟩
theorem Cold.same (H : Cold Z EL s xs vm0 h) (q : CHr Z EL vm0 h vm0 h') : Cold Z EL s xs vm0 h' := H.go (by obtain ⟨⟨k0, a, b⟩, -⟩ := H; exact ⟨k0, a, Nat.le_trans b q.2.1⟩) q
theorem Cold.ext (H : Cold Z EL s xs vm0 h) (E : Ext h h') : Cold Z EL s xs vm0 h' := H.same (CHr.ext E H.2.1.1)
theorem Cold.keep {ws : List Addr} (H : Cold Z EL s xs vm0 h) (K : Keep h h' ws) (hs : ∀ x ∈ ws, Safe Z EL vm0 h x) : Cold Z EL s xs vm0 h' := H.same (CHr.keep K hs H.2.1.1)
theorem Cold.wr {a : Addr} {sl : Nat} {v : Value} (H : Cold Z EL s xs vm0 h) (w : Wr h h' a sl v) (S : Safe Z EL vm0 h a) : Cold Z EL s xs vm0 h' := H.same (CHr.wr w S H.2.1.1)
theorem Cold.add {b : Addr} (H : Cold Z EL s xs vm0 h) (E : Ext h h') (hb : h.size ≤ b) (hb' : b < h'.size) : Cold Z EL s (b :: xs) vm0 h' := by
  have H' := H.ext E
  refine ⟨H'.1, H'.2.1, fun x hx => ?_⟩
  rcases List.mem_cons.mp hx with rfl | hx
  · exact ⟨Safe.ext E H.2.1.1 (Safe.new hb), hb'⟩
  · exact H'.2.2 x hx
theorem Cold.safe {x : Addr} (H : Cold Z EL s xs vm0 h) (hx : x ∈ xs) : Safe Z EL vm0 h x := (H.2.2 x hx).1
theorem Cold.start (H : CHv Z EL s.vm s.heap) : Cold Z EL s [] s.vm s.heap := ⟨⟨_, (State.WarmedH.refl s).since _, Nat.le_refl _⟩, CHr.refl H, fun _ hx => nomatch hx⟩
theorem Cold.put {b : Addr} (H : Cold Z EL s xs vm0 h) (q : Safe Z EL vm0 h b ∧ b < h.size) : Cold Z EL s (b :: xs) vm0 h := ⟨H.1, H.2.1, fun x hx => (List.mem_cons.mp hx).elim (fun e => e ▸ q) (H.2.2 x)⟩
/-- what is returned is none of the booked cells -/
def SafeR (sf : Bool) (Z : State) (EL : List (String × Nat)) (vm : Vm) (h : Heap) (v : Option Value) : Prop := sf = true → ∀ a, v = some (.ref a) → Safe Z EL vm h a ∧ a < h.size
/-- the contract of a body that may book texts -/
abbrev ConW (l : Launch) (Z : State) (EL : List (String × Nat)) (xs : List Addr) (sf : Bool) (y : MethodName) (bytes : ByteArray) (maxL : Nat) (rt : Option FieldType) (ws : List Jvm.Cond) (rm : Room) (as' : Array Value) (h : Heap) (Q : Option Value → Heap → List Loc → Prop) : Prop :=
  MetFree l y (head1 (Jvm.Cond.code y bytes maxL rt :: ws) rm) (fun a U => a = as' ∧ Z.Warmed39 U.vm ∧ U.heap = h ∧ CHv Z EL U.vm h ∧ ∀ x ∈ xs, Safe Z EL U.vm h x ∧ x < h.size) (fun _ _ _ _ _ => True) (fun _ U o U' => ∃ v L, o = .returned v ∧ Q v U'.heap L ∧ CHr Z EL U.vm U.heap U'.vm U'.heap ∧ SafeR sf Z EL U'.vm U'.heap v ∧ ReturnedEndW U o U' L rm.cells rm.slots)
abbrev EndW (s : State) (Z : State) (EL : List (String × Nat)) (sf : Bool) (Q : Option Value → Heap → List Loc → Prop) (k n : Nat) : Option Value → State → List Loc → Prop := fun v U L => Q v U.heap L ∧ CHr Z EL s.vm s.heap U.vm U.heap ∧ SafeR sf Z EL U.vm U.heap v ∧ ReturnedEndW s (.returned v) U L k n
theorem retW_mono {o : Outcome} {t : State} {L : List Loc} {k n k' n' : Nat} (h : ReturnedEndW s o t L k n) (hk : k ≤ k') (hn : n ≤ n') : ReturnedEndW s o t L k' n' := ⟨h.1, h.2.1, h.2.2.1, h.2.2.2.mono hk hn⟩
theorem HomeW.retN (X : Stand p l e R (s.setVm vm0) m args below meth c T locs cells slots) (hx : p.tables.exec = Jvm.exec) (hlk : meth.locks = false) (hZ : Z.Warmed39 (s.setVm vm0).vm) (hEL : EW Z a0 EL) (eT : T.heap = h) (H : Cold Z EL s xs vm0 h)
    {pc : Nat} {Ls : Array Slot} {z : Int32} {t : FieldType} {rest : List Value} (hret : meth.sig.returnType = some t) (ht : t = .boolean ∨ t = .byte ∨ t = .char ∨ t = .short)
    (hd : decode c.code pc = .ok (.ireturn, 1)) (hQ : Q (some (.int (nar t z))) T.heap locs) (hk : cells ≤ k) (hn : slots ≤ n) : @Home p e below (EndW s Z EL sf Q k n) T (mkF m pc Ls (.int z :: rest)) := by
  subst eT
  obtain ⟨⟨k0, hS, hk0⟩, CR, -⟩ := H
  obtain ⟨fs, hr, hrun, hended, hW⟩ := X.leaveW hS hk0 (v := some (.int (nar t z))) (fun h => by rw [hret] at h; cases h) hlk
  have q : CHr Z EL s.vm s.heap T.vm T.heap := CR.trans (CHv.at X hZ hEL CR.1)
  exact ⟨_, _, Jvm.RoadKit.retN X hx hret ht hd hr, hrun, hended, _, _, rfl, hQ, q, (fun _ _ z => by cases z), retW_mono hW hk hn⟩
theorem HomeW.ret (X : Stand p l e R (s.setVm vm0) m args below meth c T locs cells slots) (hx : p.tables.exec = Jvm.exec) (hlk : meth.locks = false) (hZ : Z.Warmed39 (s.setVm vm0).vm) (hEL : EW Z a0 EL) (eT : T.heap = h) (H : Cold Z EL s xs vm0 h) {w : Value} (hsr : sf = true → ∀ a, w = .ref a → a ∈ xs)
    {pc : Nat} {Ls : Array Slot} {t : FieldType} {i : Instr} {rest : List Value} (hret : meth.sig.returnType = some t) (hnn : narrow t w = w)
    (hi : (i = .ireturn ∧ (t = .int ∨ t = .boolean ∨ t = .byte ∨ t = .char ∨ t = .short) ∧ ∃ z, w = .int z) ∨ (i = .lreturn ∧ t = .long ∧ ∃ z, w = .long z) ∨ (i = .dreturn ∧ t = .double ∧ ∃ z, w = .double z) ∨ (i = .freturn ∧ t = .float ∧ ∃ z, w = .float z) ∨ (i = .areturn ∧ t.isReference = true ∧ w.isRef = true))
    (hd : decode c.code pc = .ok (i, 1)) (hQ : Q (some w) T.heap locs) (hk : cells ≤ k) (hn : slots ≤ n) : @Home p e below (EndW s Z EL sf Q k n) T (mkF m pc Ls (w :: rest)) := by
  subst eT
  obtain ⟨⟨k0, hS, hk0⟩, CR, hxs⟩ := H
  obtain ⟨fs, hr, hrun, hended, hW⟩ := X.leaveW hS hk0 (v := some w) (fun h => by rw [hret] at h; cases h) hlk
  have q : CHr Z EL s.vm s.heap T.vm T.heap := CR.trans (CHv.at X hZ hEL CR.1)
  exact ⟨_, _, retOut X hx hret hnn hi hd hr, hrun, hended, _, _, rfl, hQ, q, (fun z a ha => ⟨(CHv.at X hZ hEL CR.1).safe (hxs a (hsr z a (Option.some.inj ha))).2 (hxs a (hsr z a (Option.some.inj ha))).1, (hxs a (hsr z a (Option.some.inj ha))).2⟩), retW_mono hW hk hn⟩
theorem HomeW.retI (X : Stand p l e R (s.setVm vm0) m args below meth c T locs cells slots) (hx : p.tables.exec = Jvm.exec) (hlk : meth.locks = false) (hZ : Z.Warmed39 (s.setVm vm0).vm) (hEL : EW Z a0 EL) (eT : T.heap = h) (H : Cold Z EL s xs vm0 h)
    {pc : Nat} {Ls : Array Slot} {z : Int32} {rest : List Value} (hret : meth.sig.returnType = some .int)
    (hd : decode c.code pc = .ok (.ireturn, 1)) (hQ : Q (some (.int z)) T.heap locs) (hk : cells ≤ k) (hn : slots ≤ n) : @Home p e below (EndW s Z EL sf Q k n) T (mkF m pc Ls (.int z :: rest)) := HomeW.ret X hx hlk hZ hEL eT H (fun _ _ z => by cases z) hret rfl (Or.inl ⟨rfl, Or.inl rfl, _, rfl⟩) hd hQ hk hn
theorem HomeW.retR (X : Stand p l e R (s.setVm vm0) m args below meth c T locs cells slots) (hx : p.tables.exec = Jvm.exec) (hlk : meth.locks = false) (hZ : Z.Warmed39 (s.setVm vm0).vm) (hEL : EW Z a0 EL) (eT : T.heap = h) (H : Cold Z EL s xs vm0 h) {w : Value} (hsr : sf = true → ∀ a, w = .ref a → a ∈ xs)
    {pc : Nat} {Ls : Array Slot} {t : FieldType} {rest : List Value} (hret : meth.sig.returnType = some t) (ht : t.isReference = true) (hw : w.isRef = true)
    (hd : decode c.code pc = .ok (.areturn, 1)) (hQ : Q (some w) T.heap locs) (hk : cells ≤ k) (hn : slots ≤ n) : @Home p e below (EndW s Z EL sf Q k n) T (mkF m pc Ls (w :: rest)) := HomeW.ret X hx hlk hZ hEL eT H hsr hret (own_narrow_ref hw) (Or.inr (Or.inr (Or.inr (Or.inr ⟨rfl, ht, hw⟩)))) hd hQ hk hn
theorem HomeW.ret0 (X : Stand p l e R (s.setVm vm0) m args below meth c T locs cells slots) (hx : p.tables.exec = Jvm.exec) (hlk : meth.locks = false) (hZ : Z.Warmed39 (s.setVm vm0).vm) (hEL : EW Z a0 EL) (eT : T.heap = h) (H : Cold Z EL s xs vm0 h)
    {pc : Nat} {Ls : Array Slot} (hret : meth.sig.returnType = none)
    (hd : decode c.code pc = .ok (.return_, 1)) (hQ : Q none T.heap locs) (hk : cells ≤ k) (hn : slots ≤ n) : @Home p e below (EndW s Z EL sf Q k n) T (mkF m pc Ls []) := by
  subst eT
  obtain ⟨⟨k0, hS, hk0⟩, CR, -⟩ := H
  obtain ⟨fs, hr, hrun, hended, hW⟩ := X.leaveW hS hk0 (v := none) (fun _ => rfl) hlk
  have q : CHr Z EL s.vm s.heap T.vm T.heap := CR.trans (CHv.at X hZ hEL CR.1)
  exact ⟨_, _, X.returnOut hx hret hd hr, hrun, hended, _, _, rfl, hQ, q, (fun _ _ z => by cases z), retW_mono hW hk hn⟩
theorem own_bodyW {ws : List Jvm.Cond} {L0 : Array Slot} (pn : plainFor y = true) (ef : ∀ m, entryFrame m as' maxL = mkF m 0 L0 [])
    (body : ∀ (p : Program) (e : Env) (s : State) (m : MethodId) (below : List Frame) (meth : Method) (c : Code) (s₁ : State), p.tables.exec = Jvm.exec → c.code = bytes → meth.locks = false → c.maxLocals = maxL → meth.sig.returnType = rt → Z.Warmed39 (s.setVm s.vm).vm → (s.setVm s.vm).vm.findClass y.cls = some m.cls → meth.name = y.name →
      Stand p l e rm (s.setVm s.vm) m as' below meth c s₁ [] 0 0 → s₁.heap = h → Cold Z EL s xs s.vm h → @Home p e below (EndW s Z EL sf Q rm.cells rm.slots) s₁ (mkF m 0 L0 [])) : ConW l Z EL xs sf y bytes maxL rt ws rm as' h Q := by
  refine MetFree.of_bodySF pn hisR ?_
  intro p e s m args below meth c s₁ Bd hml0 hP hK
  obtain ⟨rfl, hZ, rfl, hH, hxs⟩ := hP
  have hc : Cold Z EL s xs s.vm s.heap := ⟨(Cold.start hH).1, CHr.refl hH, hxs⟩
  have H : @Home p e below (EndW s Z EL sf Q rm.cells rm.slots) s₁ (entryFrame m args maxL) := Home.enter (ef m) (body p e s m below meth c s₁ Bd.exec Bd.bytes (BodyLoose.notSynchronized Bd) hml0 Bd.returns hZ (findClass_of_methodNamed Bd.named) (name_of_methodNamed Bd.named Bd.method).1 (Stand.of_body Bd) (by rw [Bd.state]; rfl) hc)
  obtain ⟨U, o, h1, h2, h3, v, L, rfl, h4, h5, h6⟩ := H
  exact ⟨U, _, h1, h2, h3, v, L, rfl, h4, h5, h6⟩
theorem own_warmW {U : State} (hZ : Z.Warmed39 (s.setVm vm0).vm) (hS : (s.setVm vm0).Since U.vm n) : Z.Warmed39 (s.setVm U.vm).vm := State.Warmed39.trans (t := s.setVm vm0) hZ hS.1
theorem own_ownW {U : State} (hS : (s.setVm vm0).Since U.vm n) (hown : (s.setVm vm0).vm.findClass own = some m.cls) : (s.setVm U.vm).vm.findClass own = some m.cls := by rw [show (s.setVm U.vm).vm.findClass own = (s.setVm vm0).vm.findClass own from hS.1.alike.findClass _ _]; exact hown
theorem own_backW {len : Nat} (hM : ConW l Z EL xs sf y bytes maxL rt [] rm as' h Q) (hZ : Z.Warmed39 (s.setVm vm0).vm) (hEL : EW Z a0 EL) (wc : (Cond.code y bytes maxL rt).before a0 Z = true) (wz : (Cond.initialized y.cls).before a0 Z = true) (hf : rm.frames + 1 ≤ R.frames) (hl : W + (maxL + 11) + rm.locals ≤ R.locals) (H : CHv Z EL vm0 h) (hxs : ∀ x ∈ xs, Safe Z EL vm0 h x ∧ x < h.size) :
    BackS l R p e below (s.setVm vm0) args y len W (fun A a => a = as' ∧ A.U.heap = h ∧ A.cells + rm.cells ≤ R.cells ∧ A.slots + rm.slots ≤ R.slots) (fun A _ v B => ∃ L, Q v B.U.heap L ∧ B.locs = A.locs ++ L ∧ B.cells = A.cells + rm.cells ∧ B.slots = A.slots + rm.slots ∧ CHr Z EL vm0 h B.U.vm B.U.heap ∧ SafeR sf Z EL B.U.vm B.U.heap v) := by
  refine BackS.of_freeW (bytes := bytes) (maxL := maxL) (ret := rt) (E := fun _ first o t L k n => k = rm.cells ∧ n = rm.slots ∧ (∃ v, o = .returned v ∧ Q v t.heap L ∧ SafeR sf Z EL t.vm t.heap v) ∧ CHr Z EL first.vm first.heap t.vm t.heap) hM hf hl ?_ ?_ (fun _ _ _ _ _ _ _ _ _ => trivial) ?_ ?_
  · intro m meth c A a Y hp
    have hU : Z.Warmed39 A.U.vm := wtrans (s := s.setVm vm0) hZ Y.warmed
    exact ⟨by show (Cond.and _ .tt).before a A.U = true; rw [Cond.before_and, mv hU wc]; rfl, mv hU wc, mv hU wz, hp.2.2⟩
  · intro m meth c A a g mk Y hp
    have q := CHv.at Y hZ hEL H
    exact ⟨hp.1, wtrans (s := s.setVm vm0) hZ Y.warmed, hp.2.1, q.1, fun x hx => ⟨q.safe (hxs x hx).2 (hxs x hx).1, (hxs x hx).2⟩⟩
  · rintro _ _ _ _ ⟨v, L, h1, h2, h3, h5, h4⟩
    exact ⟨L, _, _, h4, rfl, rfl, ⟨v, h1, h2, h5⟩, h3⟩
  · intro m meth c A a g mk v t L k n Y hp _ _ hE
    obtain ⟨rfl, rfl, ⟨v', e3, e4, e7⟩, e5⟩ := hE
    cases e3
    have e6 : CHr Z EL A.U.vm h t.vm t.heap := hp.2.1 ▸ e5
    exact ⟨L, e4, rfl, rfl, rfl, (CHv.at Y hZ hEL H).trans e6, e7⟩
theorem own_staticW (X : Stand p l e R (s.setVm vm0) m args below meth c T locs cells slots) (hx : p.tables.exec = Jvm.exec) (hZ : Z.Warmed39 (s.setVm vm0).vm) (hown : (s.setVm vm0).vm.findClass own = some m.cls) (hEL : EW Z a0 EL) {xs0 : List Addr} (H : Cold Z EL s xs0 vm0 h) (hsub : ∀ x ∈ xs, x ∈ xs0)
    (w1 : (Cond.methodLink own index y).before a0 Z = true) (w2 : (Cond.static y).before a0 Z = true) (w3 : (Cond.initialized y.cls).before a0 Z = true) (w4 : (Cond.code y bytes maxL rt).before a0 Z = true)
    (hy : y.cls ≠ "java/lang/invoke/MethodHandle" ∧ y.cls ≠ "java/lang/invoke/VarHandle") (hM : ConW l Z EL xs sf y bytes maxL rt [] rm as' h Q) (eT : T.heap = h)
    {g : JFrame} (hg : g.method = m) (hsize : g.locals.size = c.maxLocals) {argsL rest : List Value} (hlen : ∀ sig, parseMethodDescriptor y.desc = some sig → argsL.length = sig.parameters.length) (hstack : g.stack = argsL.reverse ++ rest) (ha : argsL.toArray = as')
    (hW : 2 * g.monitorRoom + (rest.map fun v => v.category).sum ≤ W) (hf : rm.frames + 1 ≤ R.frames) (hl : W + (maxL + 11) + rm.locals ≤ R.locals)
    (hdg : decode c.code g.pc = .ok (.invokestatic index, 3)) (hc : cells + rm.cells ≤ R.cells) (hs : slots + rm.slots ≤ R.slots) :
    ∃ v T' L, Stand p l e R (s.setVm T'.vm) m args below meth c T' (locs ++ L) (cells + rm.cells) (slots + rm.slots) ∧ (Q v T'.heap L ∧ Z.Warmed39 (s.setVm T'.vm).vm ∧ (s.setVm T'.vm).vm.findClass own = some m.cls ∧ Cold Z EL s xs0 T'.vm T'.heap ∧ SafeR sf Z EL T'.vm T'.heap v) ∧
      ∀ t, Steps p.tables e below (T'.setTop { g with pc := g.pc + 3, stack := v.toList ++ rest }) t → Steps p.tables e below (T.setTop g) t := by
  obtain ⟨v, _, ⟨T', L', k', n'⟩, -, X', hS, hg', ⟨L, hQ, l', y', z', hC, hR⟩, st⟩ := Jvm.RoadKit.callSS X hx (y := y) hown (mvT hZ w1) (mvT hZ w2) (mvT hZ w3) (mvT hZ w4) hy (own_backW (W := W) hM hZ hEL w4 w3 hf hl H.2.1.1 (fun x hx => H.2.2 x (hsub x hx))) hg hsize hlen hstack hW hdg (fun _ _ => ⟨ha, eT, hc, hs⟩)
  dsimp only [Pt.U, Pt.locs, Pt.cells, Pt.slots] at X' l' y' z' st hQ hS hg' hC hR
  subst l' y' z'
  exact ⟨v, T', L, X', ⟨hQ, own_warmW hZ hS, own_ownW hS hown, H.go (by obtain ⟨⟨k0, a, b⟩, -⟩ := H; exact ⟨_, Jvm.RoadKit.foldS (T := T) a (by rw [eT]; exact b) hS hg', Nat.le_refl _⟩) hC, hR⟩, fun t k => st.trans k⟩
theorem own_specialW (X : Stand p l e R (s.setVm vm0) m args below meth c T locs cells slots) (hx : p.tables.exec = Jvm.exec) (hZ : Z.Warmed39 (s.setVm vm0).vm) (hown : (s.setVm vm0).vm.findClass own = some m.cls) (hEL : EW Z a0 EL) {xs0 : List Addr} (H : Cold Z EL s xs0 vm0 h) (hsub : ∀ x ∈ xs, x ∈ xs0) (hy1 : y.name = "<init>")
    (w1 : (Cond.methodLink own index y).before a0 Z = true) (w2 : (Cond.instanceMethod y).before a0 Z = true) (w3 : (Cond.initialized y.cls).before a0 Z = true) (w4 : (Cond.code y bytes maxL none).before a0 Z = true)
    (hy : y.cls ≠ "java/lang/invoke/MethodHandle" ∧ y.cls ≠ "java/lang/invoke/VarHandle") (hM : ConW l Z EL xs sf y bytes maxL none [] rm as' h Q) (eT : T.heap = h)
    {g : JFrame} (hg : g.method = m) (hsize : g.locals.size = c.maxLocals) {a : Addr} {argsL rest : List Value} (hlen : ∀ sig, parseMethodDescriptor y.desc = some sig → argsL.length = sig.parameters.length) (hstack : g.stack = argsL.reverse ++ .ref a :: rest) (ha : (.ref a :: argsL).toArray = as')
    (hW : 2 * g.monitorRoom + (rest.map fun v => v.category).sum ≤ W) (hf : rm.frames + 1 ≤ R.frames) (hl : W + (maxL + 11) + rm.locals ≤ R.locals)
    (hdg : decode c.code g.pc = .ok (.invokespecial index, 3)) (hc : cells + rm.cells ≤ R.cells) (hs : slots + rm.slots ≤ R.slots) :
    ∃ v T' L, Stand p l e R (s.setVm T'.vm) m args below meth c T' (locs ++ L) (cells + rm.cells) (slots + rm.slots) ∧ (Q v T'.heap L ∧ Z.Warmed39 (s.setVm T'.vm).vm ∧ (s.setVm T'.vm).vm.findClass own = some m.cls ∧ Cold Z EL s xs0 T'.vm T'.heap ∧ SafeR sf Z EL T'.vm T'.heap v) ∧
      ∀ t, Steps p.tables e below (T'.setTop { g with pc := g.pc + 3, stack := v.toList ++ rest }) t → Steps p.tables e below (T.setTop g) t := by
  obtain ⟨v, _, ⟨T', L', k', n'⟩, -, X', hS, hg', ⟨L, hQ, l', y', z', hC, hR⟩, st⟩ := X.specialBackS hx (y := y) hy1 hown (mvT hZ w1) (mvT hZ w2) (mvT hZ w4) hy (own_backW (W := W) hM hZ hEL w4 w3 hf hl H.2.1.1 (fun x hx => H.2.2 x (hsub x hx))) hg hsize (Steps.refl _) (a := a) hlen hstack hW hdg (fun _ _ => ⟨ha, eT, hc, hs⟩)
  dsimp only [Pt.U, Pt.locs, Pt.cells, Pt.slots] at X' l' y' z' st hQ hS hg' hC hR
  subst l' y' z'
  exact ⟨v, T', L, X', ⟨hQ, own_warmW hZ hS, own_ownW hS hown, H.go (by obtain ⟨⟨k0, a, b⟩, -⟩ := H; exact ⟨_, Jvm.RoadKit.foldS (T := T) a (by rw [eT]; exact b) hS hg', Nat.le_refl _⟩) hC, hR⟩, fun t k => st.trans k⟩
/-- ldc of a text of EL: its cells are there -/
theorem own_ldcW {text : String} (X : Stand p l e R (s.setVm vm0) m args below meth c T locs cells slots) (hx : p.tables.exec = Jvm.exec) (hZ : Z.Warmed39 (s.setVm vm0).vm) (hown : (s.setVm vm0).vm.findClass own = some m.cls) (hEL : EW Z a0 EL) (H : Cold Z EL s xs vm0 h) (w : (Cond.stringLink own index text).before a0 Z = true) (wS : ∀ a ∈ Bundle.stringAtoms, a.before a0 Z = true)
    (eT : T.heap = h) (hmem : (own, index) ∈ EL) {vs : List Value} {z : Int32} (ht : (∀ c ∈ text.toList, c.toNat < 256) ∧ text.toList.map (fun c => Value.int (Jvm.Lit.byteI c.toNat.toUInt16)) = vs) (hz : ¬ z < 0) (hl : z.toNatClampNeg = vs.length)
    {g : JFrame} (hg : g.method = m) (hd : decode c.code g.pc = .ok (.ldc index, 2)) {n : Nat} (hn : 4 * text.toList.length ≤ n) (hbig : n ≤ 536870912) (hc : cells + 2 ≤ R.cells) (hl' : slots + (n + 4) ≤ R.slots) :
    ∃ (a b : Addr) (k : ClassId) (T' : State) (h' : Heap), Stand p l e R (s.setVm T'.vm) m args below meth c T' locs (cells + 2) (slots + (n + 4)) ∧ T'.heap = h' ∧ Ext h h' ∧ Z.Warmed39 (s.setVm T'.vm).vm ∧ (s.setVm T'.vm).vm.findClass own = some m.cls ∧ Cold Z EL s xs T'.vm h' ∧
      Exa Z h' a "java/lang/String" ∧ Fld Z h' a "java/lang/String" "coder" "B" (.int 0) ∧ Fld Z h' a "java/lang/String" "value" "[B" (.ref b) ∧ Arv Z h' b k .byte z vs (.int 0) ∧ a < h'.size ∧ b < h'.size ∧ (∀ x ∈ xs, x ≠ a ∧ x ≠ b) ∧
      ∀ t, Steps p.tables e below (T'.setTop { g with pc := g.pc + 2, stack := .ref a :: g.stack }) t → Steps p.tables e below (T.setTop g) t := by
  obtain ⟨k0, hS, hk⟩ := H.1
  obtain ⟨a, T', h', k1, b, k, X', e1, E, hS', hk', hZ', ho', f1, f2, f3, f4, f5, f6, hC, -, hne, st⟩ := ldcCH X hx hZ hown w wS eT hS hk hEL hmem H.2.1.1 ht hz hl hg hd hn hbig hc hl'
  have H' := H.go ⟨k1, hS', hk'⟩ hC
  exact ⟨a, b, k, T', h', X', e1, E, hZ', ho', H', f1, f2, f3, f4, f5, f6, fun x hx => hne x (H'.safe hx), st⟩
end Cold
end Jvm.OwnKit
namespace Jvm.OwnKit
end Jvm.OwnKit
namespace Jvm.Pilot.@@N@@
open Jvm Jvm.ClassFile Sem Op Lib Jvm.Free Jvm.Stand Jvm.LawKit Jvm.RoadKit Jvm.OwnKit Bundle Jvm.Pilot.@@N@@.Jvm.D
set_option maxRecDepth 65536
set_option maxHeartbeats 40000000
abbrev HW (a0 : Array Value) (Z : State) : Prop := ∀ d ∈ tables_1, d.before a0 Z = true
theorem own_lenk {Z : State} {args : Array Value} {t : Term} {a : Addr} {c : Cell} {ty : FieldType} {k : Int32} (ev : t.eval args Z none [] Z = some (.ref a)) (A : Arr Z Z.heap a c ty) (h : (Jvm.Cond.eq (Jvm.Term.length t) (Jvm.Term.int k)).value args Z none Z [] = some true) : c.slots.size < 2 ^ 31 ∧ c.slots.size.toInt32 = k := by
  have e := eqv_i (Term.int_eval k) h
  have ha := A.fin (U := Z) (Vm.Alike.refl _)
  by_cases q : c.slots.size < 2 ^ 31
  · have e2 := len_f (first := Z) (o := none) (idx := []) (args := args) ev ha q
    rw [e] at e2
    exact ⟨q, by injection e2 with e3; injection e3 with e4; exact e4.symm⟩
  · exfalso
    simp [Term.eval, ev, ha, q] at e
def own_from (c : Int32) : List Int32 → Int32 → Int32
  | [], _ => (-1 : Int32)
  | a :: r, i => if a = c then i else own_from c r (i + (1 : Int32))
theorem own_at_pre {pre r : List Int32} {a ix : Int32} (h : pre.length < 2147483648) (e : ix = Int32.ofNat pre.length) : own_at (pre ++ a :: r) ix = a := by
  subst e
  have q : (Int32.ofNat pre.length).toNatClampNeg = pre.length := by
    simp only [Int32.toNatClampNeg, Int32.toInt_ofNat_small h]; omega
  unfold own_at
  rw [q]; simp [List.getD_eq_getElem?_getD]
theorem sg0_0_1 : decs code [(0, .iload_n 2, 1)] := ⟨at_0, trivial⟩
theorem own_w0 {Z : State} {a0 : Array Value} (hw : HW a0 Z) : (Cond.constant "com/example/tryst/tryst/encoding/Base32DecodePinLaw" 9 (2147483647 : Int32)).before a0 Z = true := hw _ (List.mem_of_getElem? (i := 0) rfl)
theorem sg0_3_2 : decs code [(3, .iand, 1), (4, .bipush 6, 2)] := ⟨at_3, at_4, trivial⟩
theorem sg0_7_1 : decs code [(7, .istore_n 3, 1)] := ⟨at_7, trivial⟩
theorem sg0_8_1 : decs code [(8, .iload_n 3, 1)] := ⟨at_8, trivial⟩
theorem sg0_12_2 : decs code [(12, .lconst 0, 1), (13, .goto 19, 3)] := ⟨at_12, at_13, trivial⟩
theorem sg0_16_13 : decs code [(16, .lconst 1, 1), (17, .bipush 8, 2), (19, .iload_n 3, 1), (20, .imul, 1), (21, .lshl, 1), (22, .lconst 1, 1), (23, .lsub, 1), (24, .bipush 40, 2), (26, .bipush 8, 2), (28, .iload_n 3, 1), (29, .imul, 1), (30, .isub, 1), (31, .lshl, 1)] := ⟨at_16, at_17, at_19, at_20, at_21, at_22, at_23, at_24, at_26, at_28, at_29, at_30, at_31, trivial⟩
theorem sg0_32_2 : decs code [(32, .lstore 4, 2), (34, .lload_n 0, 1)] := ⟨at_32, at_34, trivial⟩
theorem own_w1 {Z : State} {a0 : Array Value} (hw : HW a0 Z) : (Cond.constantLong "com/example/tryst/tryst/encoding/Base32DecodePinLaw" 10 (1099511627775 : Int64)).before a0 Z = true := hw _ (List.mem_of_getElem? (i := 1) rfl)
theorem sg0_38_4 : decs code [(38, .land, 1), (39, .lload 4, 2), (41, .land, 1), (42, .lstore 6, 2)] := ⟨at_38, at_39, at_41, at_42, trivial⟩
theorem own_w2 {Z : State} {a0 : Array Value} (hw : HW a0 Z) : (Cond.methodLink "com/example/tryst/tryst/encoding/Base32DecodePinLaw" 12 ⟨"com/example/tryst/tryst/encoding/Base32DecodePinLaw", "digit", "(JI)C"⟩).before a0 Z = true := hw _ (List.mem_of_getElem? (i := 2) rfl)
theorem sg0_44_2 : decs code [(44, .lload 6, 2), (46, .iconst 0, 1)] := ⟨at_44, at_46, trivial⟩
theorem d1_0 : decode method_2_code 0 = .ok (.lload_n 0, 1) := by decide +kernel
theorem d1_1 : decode method_2_code 1 = .ok (.bipush 35, 2) := by decide +kernel
theorem d1_3 : decode method_2_code 3 = .ok (.iconst 5, 1) := by decide +kernel
theorem d1_4 : decode method_2_code 4 = .ok (.iload_n 2, 1) := by decide +kernel
theorem d1_5 : decode method_2_code 5 = .ok (.imul, 1) := by decide +kernel
theorem d1_6 : decode method_2_code 6 = .ok (.isub, 1) := by decide +kernel
theorem d1_7 : decode method_2_code 7 = .ok (.lushr, 1) := by decide +kernel
theorem sg1_0_7 : decs method_2_code [(0, .lload_n 0, 1), (1, .bipush 35, 2), (3, .iconst 5, 1), (4, .iload_n 2, 1), (5, .imul, 1), (6, .isub, 1), (7, .lushr, 1)] := ⟨d1_0, d1_1, d1_3, d1_4, d1_5, d1_6, d1_7, trivial⟩
theorem d1_8 : decode method_2_code 8 = .ok (.ldc2_w 7, 3) := by decide +kernel
theorem own_w6 {Z : State} {a0 : Array Value} (hw : HW a0 Z) : (Cond.constantLong "com/example/tryst/tryst/encoding/Base32DecodePinLaw" 7 (31 : Int64)).before a0 Z = true := hw _ (List.mem_of_getElem? (i := 6) rfl)
theorem d1_11 : decode method_2_code 11 = .ok (.land, 1) := by decide +kernel
theorem d1_12 : decode method_2_code 12 = .ok (.l2i, 1) := by decide +kernel
theorem d1_13 : decode method_2_code 13 = .ok (.istore_n 3, 1) := by decide +kernel
theorem d1_14 : decode method_2_code 14 = .ok (.iload_n 3, 1) := by decide +kernel
theorem d1_15 : decode method_2_code 15 = .ok (.bipush 26, 2) := by decide +kernel
theorem sg1_11_5 : decs method_2_code [(11, .land, 1), (12, .l2i, 1), (13, .istore_n 3, 1), (14, .iload_n 3, 1), (15, .bipush 26, 2)] := ⟨d1_11, d1_12, d1_13, d1_14, d1_15, trivial⟩
theorem d1_17 : decode method_2_code 17 = .ok (.if_icmp .ge 9, 3) := by decide +kernel
theorem d1_20 : decode method_2_code 20 = .ok (.bipush 97, 2) := by decide +kernel
theorem d1_22 : decode method_2_code 22 = .ok (.iload_n 3, 1) := by decide +kernel
theorem d1_23 : decode method_2_code 23 = .ok (.iadd, 1) := by decide +kernel
theorem d1_24 : decode method_2_code 24 = .ok (.i2c, 1) := by decide +kernel
theorem sg1_20_4 : decs method_2_code [(20, .bipush 97, 2), (22, .iload_n 3, 1), (23, .iadd, 1), (24, .i2c, 1)] := ⟨d1_20, d1_22, d1_23, d1_24, trivial⟩
theorem d1_25 : decode method_2_code 25 = .ok (.ireturn, 1) := by decide +kernel
theorem d1_26 : decode method_2_code 26 = .ok (.bipush 50, 2) := by decide +kernel
theorem d1_28 : decode method_2_code 28 = .ok (.iload_n 3, 1) := by decide +kernel
theorem d1_29 : decode method_2_code 29 = .ok (.bipush 26, 2) := by decide +kernel
theorem d1_31 : decode method_2_code 31 = .ok (.isub, 1) := by decide +kernel
theorem d1_32 : decode method_2_code 32 = .ok (.iadd, 1) := by decide +kernel
theorem d1_33 : decode method_2_code 33 = .ok (.i2c, 1) := by decide +kernel
theorem sg1_26_6 : decs method_2_code [(26, .bipush 50, 2), (28, .iload_n 3, 1), (29, .bipush 26, 2), (31, .isub, 1), (32, .iadd, 1), (33, .i2c, 1)] := ⟨d1_26, d1_28, d1_29, d1_31, d1_32, d1_33, trivial⟩
theorem d1_34 : decode method_2_code 34 = .ok (.ireturn, 1) := by decide +kernel
def f_rm1_0 (j0 : Int64) (i1 : Int32) : Int32 := (if ((((j0.toUInt64 >>> (((35 : Int32) - ((5 : Int32) * i1)) &&& 0x3f).toInt64.toUInt64).toInt64) &&& (31 : Int64)).toInt32) < (26 : Int32) then ((97 : Int32) + ((((j0.toUInt64 >>> (((35 : Int32) - ((5 : Int32) * i1)) &&& 0x3f).toInt64.toUInt64).toInt64) &&& (31 : Int64)).toInt32)) else ((50 : Int32) + (((((j0.toUInt64 >>> (((35 : Int32) - ((5 : Int32) * i1)) &&& 0x3f).toInt64.toUInt64).toInt64) &&& (31 : Int64)).toInt32) - (26 : Int32))))
theorem ef_rm1_0 (m : MethodId) (x0 : Int64) (x1 : Int32) : entryFrame m #[(.long x0), (.int x1)] 4 = mkF m 0 #[.val (.long x0), .second, .val (.int x1), .unset] [] := by first | (simp [entryFrame, mkF, argsToLocals, Value.category]; done) | rfl
theorem own_pn0 : plainName "com/example/tryst/tryst/encoding/Base32DecodePinLaw" = true := by first | (simp [plainName, overriddenIn]; done) | decide +kernel
theorem own_w5 {Z : State} {a0 : Array Value} (hw : HW a0 Z) : (Cond.code ⟨"com/example/tryst/tryst/encoding/Base32DecodePinLaw", "digit", "(JI)C"⟩ method_2_code 4 (Option.some Jvm.ClassFile.FieldType.char)).before a0 Z = true := hw _ (List.mem_of_getElem? (i := 5) rfl)
theorem own_w4 {Z : State} {a0 : Array Value} (hw : HW a0 Z) : (Cond.initialized "com/example/tryst/tryst/encoding/Base32DecodePinLaw").before a0 Z = true := hw _ (List.mem_of_getElem? (i := 4) rfl)
theorem own_pd0 : parseMethodDescriptor "(JI)C" = some ⟨[.long, .int], some .char⟩ := by decide +kernel
theorem own_w3 {Z : State} {a0 : Array Value} (hw : HW a0 Z) : (Cond.static ⟨"com/example/tryst/tryst/encoding/Base32DecodePinLaw", "digit", "(JI)C"⟩).before a0 Z = true := hw _ (List.mem_of_getElem? (i := 3) rfl)
theorem sg0_50_3 : decs code [(50, .istore 8, 2), (52, .lload 6, 2), (54, .iconst 1, 1)] := ⟨at_50, at_52, at_54, trivial⟩
theorem sg0_58_3 : decs code [(58, .istore 9, 2), (60, .lload 6, 2), (62, .iconst 2, 1)] := ⟨at_58, at_60, at_62, trivial⟩
theorem sg0_66_3 : decs code [(66, .istore 10, 2), (68, .lload 6, 2), (70, .iconst 3, 1)] := ⟨at_66, at_68, at_70, trivial⟩
theorem sg0_74_3 : decs code [(74, .istore 11, 2), (76, .lload 6, 2), (78, .iconst 4, 1)] := ⟨at_74, at_76, at_78, trivial⟩
theorem sg0_82_3 : decs code [(82, .istore 12, 2), (84, .lload 6, 2), (86, .iconst 5, 1)] := ⟨at_82, at_84, at_86, trivial⟩
theorem sg0_90_3 : decs code [(90, .istore 13, 2), (92, .lload 6, 2), (94, .bipush 6, 2)] := ⟨at_90, at_92, at_94, trivial⟩
theorem sg0_99_3 : decs code [(99, .istore 14, 2), (101, .lload 6, 2), (103, .bipush 7, 2)] := ⟨at_99, at_101, at_103, trivial⟩
theorem sg0_108_2 : decs code [(108, .istore 15, 2), (110, .iload_n 3, 1)] := ⟨at_108, at_110, trivial⟩
theorem sg0_114_1 : decs code [(114, .iconst 0, 1)] := ⟨at_114, trivial⟩
theorem own_w7 {Z : State} {a0 : Array Value} (hw : HW a0 Z) : (Cond.arrayClass Jvm.ClassFile.FieldType.char).before a0 Z = true := hw _ (List.mem_of_getElem? (i := 7) rfl)
theorem sg0_117_2 : decs code [(117, .astore 16, 2), (119, .goto 195, 3)] := ⟨at_117, at_119, trivial⟩
theorem sg0_122_2 : decs code [(122, .iload_n 3, 1), (123, .iconst 1, 1)] := ⟨at_122, at_123, trivial⟩
theorem sg0_127_1 : decs code [(127, .iconst 2, 1)] := ⟨at_127, trivial⟩
theorem sg0_130_3 : decs code [(130, .dup, 1), (131, .iconst 0, 1), (132, .iload 8, 2)] := ⟨at_130, at_131, at_132, trivial⟩
theorem sg0_135_3 : decs code [(135, .dup, 1), (136, .iconst 1, 1), (137, .iload 9, 2)] := ⟨at_135, at_136, at_137, trivial⟩
theorem sg0_140_2 : decs code [(140, .astore 16, 2), (142, .goto 172, 3)] := ⟨at_140, at_142, trivial⟩
theorem sg0_145_2 : decs code [(145, .iload_n 3, 1), (146, .iconst 2, 1)] := ⟨at_145, at_146, trivial⟩
theorem sg0_150_1 : decs code [(150, .iconst 4, 1)] := ⟨at_150, trivial⟩
theorem sg0_153_3 : decs code [(153, .dup, 1), (154, .iconst 0, 1), (155, .iload 8, 2)] := ⟨at_153, at_154, at_155, trivial⟩
theorem sg0_158_3 : decs code [(158, .dup, 1), (159, .iconst 1, 1), (160, .iload 9, 2)] := ⟨at_158, at_159, at_160, trivial⟩
theorem sg0_163_3 : decs code [(163, .dup, 1), (164, .iconst 2, 1), (165, .iload 10, 2)] := ⟨at_163, at_164, at_165, trivial⟩
theorem sg0_168_3 : decs code [(168, .dup, 1), (169, .iconst 3, 1), (170, .iload 11, 2)] := ⟨at_168, at_169, at_170, trivial⟩
theorem sg0_173_2 : decs code [(173, .astore 16, 2), (175, .goto 139, 3)] := ⟨at_173, at_175, trivial⟩
theorem sg0_178_2 : decs code [(178, .iload_n 3, 1), (179, .iconst 3, 1)] := ⟨at_178, at_179, trivial⟩
theorem sg0_183_1 : decs code [(183, .iconst 5, 1)] := ⟨at_183, trivial⟩
theorem sg0_186_3 : decs code [(186, .dup, 1), (187, .iconst 0, 1), (188, .iload 8, 2)] := ⟨at_186, at_187, at_188, trivial⟩
theorem sg0_191_3 : decs code [(191, .dup, 1), (192, .iconst 1, 1), (193, .iload 9, 2)] := ⟨at_191, at_192, at_193, trivial⟩
theorem sg0_196_3 : decs code [(196, .dup, 1), (197, .iconst 2, 1), (198, .iload 10, 2)] := ⟨at_196, at_197, at_198, trivial⟩
theorem sg0_201_3 : decs code [(201, .dup, 1), (202, .iconst 3, 1), (203, .iload 11, 2)] := ⟨at_201, at_202, at_203, trivial⟩
theorem sg0_206_3 : decs code [(206, .dup, 1), (207, .iconst 4, 1), (208, .iload 12, 2)] := ⟨at_206, at_207, at_208, trivial⟩
theorem sg0_211_2 : decs code [(211, .astore 16, 2), (213, .goto 101, 3)] := ⟨at_211, at_213, trivial⟩
theorem sg0_216_2 : decs code [(216, .iload_n 3, 1), (217, .iconst 4, 1)] := ⟨at_216, at_217, trivial⟩
theorem sg0_221_1 : decs code [(221, .bipush 7, 2)] := ⟨at_221, trivial⟩
theorem sg0_225_3 : decs code [(225, .dup, 1), (226, .iconst 0, 1), (227, .iload 8, 2)] := ⟨at_225, at_226, at_227, trivial⟩
theorem sg0_230_3 : decs code [(230, .dup, 1), (231, .iconst 1, 1), (232, .iload 9, 2)] := ⟨at_230, at_231, at_232, trivial⟩
theorem sg0_235_3 : decs code [(235, .dup, 1), (236, .iconst 2, 1), (237, .iload 10, 2)] := ⟨at_235, at_236, at_237, trivial⟩
theorem sg0_240_3 : decs code [(240, .dup, 1), (241, .iconst 3, 1), (242, .iload 11, 2)] := ⟨at_240, at_241, at_242, trivial⟩
theorem sg0_245_3 : decs code [(245, .dup, 1), (246, .iconst 4, 1), (247, .iload 12, 2)] := ⟨at_245, at_246, at_247, trivial⟩
theorem sg0_250_3 : decs code [(250, .dup, 1), (251, .iconst 5, 1), (252, .iload 13, 2)] := ⟨at_250, at_251, at_252, trivial⟩
theorem sg0_255_3 : decs code [(255, .dup, 1), (256, .bipush 6, 2), (258, .iload 14, 2)] := ⟨at_255, at_256, at_258, trivial⟩
theorem sg0_261_2 : decs code [(261, .astore 16, 2), (263, .goto 51, 3)] := ⟨at_261, at_263, trivial⟩
theorem sg0_266_1 : decs code [(266, .bipush 8, 2)] := ⟨at_266, trivial⟩
theorem sg0_270_3 : decs code [(270, .dup, 1), (271, .iconst 0, 1), (272, .iload 8, 2)] := ⟨at_270, at_271, at_272, trivial⟩
theorem sg0_275_3 : decs code [(275, .dup, 1), (276, .iconst 1, 1), (277, .iload 9, 2)] := ⟨at_275, at_276, at_277, trivial⟩
theorem sg0_280_3 : decs code [(280, .dup, 1), (281, .iconst 2, 1), (282, .iload 10, 2)] := ⟨at_280, at_281, at_282, trivial⟩
theorem sg0_285_3 : decs code [(285, .dup, 1), (286, .iconst 3, 1), (287, .iload 11, 2)] := ⟨at_285, at_286, at_287, trivial⟩
theorem sg0_290_3 : decs code [(290, .dup, 1), (291, .iconst 4, 1), (292, .iload 12, 2)] := ⟨at_290, at_291, at_292, trivial⟩
theorem sg0_295_3 : decs code [(295, .dup, 1), (296, .iconst 5, 1), (297, .iload 13, 2)] := ⟨at_295, at_296, at_297, trivial⟩
theorem sg0_300_3 : decs code [(300, .dup, 1), (301, .bipush 6, 2), (303, .iload 14, 2)] := ⟨at_300, at_301, at_303, trivial⟩
theorem sg0_306_3 : decs code [(306, .dup, 1), (307, .bipush 7, 2), (309, .iload 15, 2)] := ⟨at_306, at_307, at_309, trivial⟩
theorem sg0_312_1 : decs code [(312, .astore 16, 2)] := ⟨at_312, trivial⟩
theorem own_w8 {Z : State} {a0 : Array Value} (hw : HW a0 Z) : (Cond.classLink "com/example/tryst/tryst/encoding/Base32DecodePinLaw" 18 "java/lang/String").before a0 Z = true := hw _ (List.mem_of_getElem? (i := 8) rfl)
theorem own_w9 {Z : State} {a0 : Array Value} (hw : HW a0 Z) : (Cond.instantiable "java/lang/String" 4).before a0 Z = true := hw _ (List.mem_of_getElem? (i := 9) rfl)
theorem own_w10 {Z : State} {a0 : Array Value} (hw : HW a0 Z) : (Cond.initialized "java/lang/String").before a0 Z = true := hw _ (List.mem_of_getElem? (i := 10) rfl)
theorem own_w34 {Z : State} {a0 : Array Value} (hw : HW a0 Z) : (Cond.laysFinal "java/lang/String" "java/lang/String" "coder" "B").before a0 Z = true := hw _ (List.mem_of_getElem? (i := 34) rfl)
theorem own_w36 {Z : State} {a0 : Array Value} (hw : HW a0 Z) : (Cond.laysFinal "java/lang/String" "java/lang/String" "value" "[B").before a0 Z = true := hw _ (List.mem_of_getElem? (i := 36) rfl)
theorem own_w11 {Z : State} {a0 : Array Value} (hw : HW a0 Z) : (Cond.methodLink "com/example/tryst/tryst/encoding/Base32DecodePinLaw" 20 ⟨"java/lang/String", "<init>", "([C)V"⟩).before a0 Z = true := hw _ (List.mem_of_getElem? (i := 11) rfl)
theorem sg0_317_2 : decs code [(317, .dup, 1), (318, .aload 16, 2)] := ⟨at_317, at_318, trivial⟩
theorem d2_0 : decode jdk_42_method_3_code 0 = .ok (.aload_n 0, 1) := by decide +kernel
theorem d2_1 : decode jdk_42_method_3_code 1 = .ok (.aload_n 1, 1) := by decide +kernel
theorem d2_2 : decode jdk_42_method_3_code 2 = .ok (.iconst 0, 1) := by decide +kernel
theorem d2_3 : decode jdk_42_method_3_code 3 = .ok (.aload_n 1, 1) := by decide +kernel
theorem sg2_0_4 : decs jdk_42_method_3_code [(0, .aload_n 0, 1), (1, .aload_n 1, 1), (2, .iconst 0, 1), (3, .aload_n 1, 1)] := ⟨d2_0, d2_1, d2_2, d2_3, trivial⟩
theorem d2_4 : decode jdk_42_method_3_code 4 = .ok (.arraylength, 1) := by decide +kernel
theorem d2_5 : decode jdk_42_method_3_code 5 = .ok (.aconst_null, 1) := by decide +kernel
theorem own_w14 {Z : State} {a0 : Array Value} (hw : HW a0 Z) : (Cond.methodLink "java/lang/String" 27 ⟨"java/lang/String", "<init>", "([CIILjava/lang/Void;)V"⟩).before a0 Z = true := hw _ (List.mem_of_getElem? (i := 14) rfl)
theorem sg2_5_1 : decs jdk_42_method_3_code [(5, .aconst_null, 1)] := ⟨d2_5, trivial⟩
theorem d2_6 : decode jdk_42_method_3_code 6 = .ok (.invokespecial 27, 3) := by decide +kernel
theorem d3_0 : decode jdk_42_method_149_code 0 = .ok (.aload_n 0, 1) := by decide +kernel
theorem own_w18 {Z : State} {a0 : Array Value} (hw : HW a0 Z) : (Cond.methodLink "java/lang/String" 1 ⟨"java/lang/Object", "<init>", "()V"⟩).before a0 Z = true := hw _ (List.mem_of_getElem? (i := 18) rfl)
theorem sg3_0_1 : decs jdk_42_method_149_code [(0, .aload_n 0, 1)] := ⟨d3_0, trivial⟩
theorem d3_1 : decode jdk_42_method_149_code 1 = .ok (.invokespecial 1, 3) := by decide +kernel
theorem own_w20 {Z : State} {a0 : Array Value} (hw : HW a0 Z) : (Cond.code ⟨"java/lang/Object", "<init>", "()V"⟩ object_method_1_code 1 (Option.none : Option Jvm.ClassFile.FieldType)).before a0 Z = true := hw _ (List.mem_of_getElem? (i := 20) rfl)
theorem own_w19 {Z : State} {a0 : Array Value} (hw : HW a0 Z) : (Cond.instanceMethod ⟨"java/lang/Object", "<init>", "()V"⟩).before a0 Z = true := hw _ (List.mem_of_getElem? (i := 19) rfl)
theorem d3_4 : decode jdk_42_method_149_code 4 = .ok (.iload_n 3, 1) := by decide +kernel
theorem sg3_4_1 : decs jdk_42_method_149_code [(4, .iload_n 3, 1)] := ⟨d3_4, trivial⟩
theorem d3_5 : decode jdk_42_method_149_code 5 = .ok (.ifCond .ne 22, 3) := by decide +kernel
theorem d3_8 : decode jdk_42_method_149_code 8 = .ok (.aload_n 0, 1) := by decide +kernel
theorem sg3_8_1 : decs jdk_42_method_149_code [(8, .aload_n 0, 1)] := ⟨d3_8, trivial⟩
theorem d3_9 : decode jdk_42_method_149_code 9 = .ok (.ldc 7, 2) := by decide +kernel
theorem own_w106 {Z : State} {a0 : Array Value} (hw : HW a0 Z) : (Cond.stringLink "java/lang/String" 7 "").before a0 Z = true := hw _ (List.mem_of_getElem? (i := 106) rfl)
theorem d3_11 : decode jdk_42_method_149_code 11 = .ok (.getfield 9, 3) := by decide +kernel
theorem own_w35 {Z : State} {a0 : Array Value} (hw : HW a0 Z) : (Cond.fieldLink "java/lang/String" 9 "java/lang/String" "value" "[B").before a0 Z = true := hw _ (List.mem_of_getElem? (i := 35) rfl)
theorem d3_14 : decode jdk_42_method_149_code 14 = .ok (.putfield 9, 3) := by decide +kernel
theorem d3_17 : decode jdk_42_method_149_code 17 = .ok (.aload_n 0, 1) := by decide +kernel
theorem sg3_17_1 : decs jdk_42_method_149_code [(17, .aload_n 0, 1)] := ⟨d3_17, trivial⟩
theorem d3_18 : decode jdk_42_method_149_code 18 = .ok (.ldc 7, 2) := by decide +kernel
theorem d3_20 : decode jdk_42_method_149_code 20 = .ok (.getfield 15, 3) := by decide +kernel
theorem own_w33 {Z : State} {a0 : Array Value} (hw : HW a0 Z) : (Cond.fieldLink "java/lang/String" 15 "java/lang/String" "coder" "B").before a0 Z = true := hw _ (List.mem_of_getElem? (i := 33) rfl)
theorem d3_23 : decode jdk_42_method_149_code 23 = .ok (.putfield 15, 3) := by decide +kernel
theorem d3_26 : decode jdk_42_method_149_code 26 = .ok (.return_, 1) := by decide +kernel
theorem ef_rm3_0 (m : MethodId) (x0 : Addr) (x1 : Addr) (x2 : Int32) : entryFrame m #[(.ref x0), (.ref x1), (.int x2), (.int x2), .null] 6 = mkF m 0 #[.val (.ref x0), .val (.ref x1), .val (.int x2), .val (.int x2), .val .null, .unset] [] := by first | (simp [entryFrame, mkF, argsToLocals, Value.category]; done) | rfl
theorem own_pn1 : plainName "java/lang/String" = true := by first | (simp [plainName, overriddenIn]; done) | decide +kernel
theorem own_w17 {Z : State} {a0 : Array Value} (hw : HW a0 Z) : (Cond.code ⟨"java/lang/String", "<init>", "([CIILjava/lang/Void;)V"⟩ jdk_42_method_149_code 6 (Option.none : Option Jvm.ClassFile.FieldType)).before a0 Z = true := hw _ (List.mem_of_getElem? (i := 17) rfl)
theorem own_pd1 : parseMethodDescriptor "([CIILjava/lang/Void;)V" = some ⟨[(.array .char), .int, .int, (.object "java/lang/Void")], none⟩ := by decide +kernel
theorem own_w15 {Z : State} {a0 : Array Value} (hw : HW a0 Z) : (Cond.instanceMethod ⟨"java/lang/String", "<init>", "([CIILjava/lang/Void;)V"⟩).before a0 Z = true := hw _ (List.mem_of_getElem? (i := 15) rfl)
theorem d2_9 : decode jdk_42_method_3_code 9 = .ok (.return_, 1) := by decide +kernel
theorem ef_rm2_0 (m : MethodId) (x0 : Addr) (x1 : Addr) : entryFrame m #[(.ref x0), (.ref x1)] 2 = mkF m 0 #[.val (.ref x0), .val (.ref x1)] [] := by first | (simp [entryFrame, mkF, argsToLocals, Value.category]; done) | rfl
theorem own_w13 {Z : State} {a0 : Array Value} (hw : HW a0 Z) : (Cond.code ⟨"java/lang/String", "<init>", "([C)V"⟩ jdk_42_method_3_code 2 (Option.none : Option Jvm.ClassFile.FieldType)).before a0 Z = true := hw _ (List.mem_of_getElem? (i := 13) rfl)
theorem own_pd2 : parseMethodDescriptor "([C)V" = some ⟨[(.array .char)], none⟩ := by decide +kernel
theorem own_w12 {Z : State} {a0 : Array Value} (hw : HW a0 Z) : (Cond.instanceMethod ⟨"java/lang/String", "<init>", "([C)V"⟩).before a0 Z = true := hw _ (List.mem_of_getElem? (i := 12) rfl)
theorem own_w37 {Z : State} {a0 : Array Value} (hw : HW a0 Z) : (Cond.methodLink "com/example/tryst/tryst/encoding/Base32DecodePinLaw" 23 ⟨"com/example/tryst/tryst/encoding/Base32", "decode", "(Ljava/lang/String;)[B"⟩).before a0 Z = true := hw _ (List.mem_of_getElem? (i := 37) rfl)
theorem d8_0 : decode prog_8_method_2_code 0 = .ok (.aload_n 0, 1) := by decide +kernel
theorem own_w41 {Z : State} {a0 : Array Value} (hw : HW a0 Z) : (Cond.methodLink "com/example/tryst/tryst/encoding/Base32" 7 ⟨"java/lang/String", "length", "()I"⟩).before a0 Z = true := hw _ (List.mem_of_getElem? (i := 41) rfl)
theorem sg8_0_1 : decs prog_8_method_2_code [(0, .aload_n 0, 1)] := ⟨d8_0, trivial⟩
theorem d8_1 : decode prog_8_method_2_code 1 = .ok (.invokevirtual 7, 3) := by decide +kernel
theorem d9_0 : decode jdk_42_method_54_code 0 = .ok (.aload_n 0, 1) := by decide +kernel
theorem sg9_0_1 : decs jdk_42_method_54_code [(0, .aload_n 0, 1)] := ⟨d9_0, trivial⟩
theorem d9_1 : decode jdk_42_method_54_code 1 = .ok (.getfield 9, 3) := by decide +kernel
theorem d9_4 : decode jdk_42_method_54_code 4 = .ok (.arraylength, 1) := by decide +kernel
theorem d9_5 : decode jdk_42_method_54_code 5 = .ok (.aload_n 0, 1) := by decide +kernel
theorem own_w46 {Z : State} {a0 : Array Value} (hw : HW a0 Z) : (Cond.methodLink "java/lang/String" 335 ⟨"java/lang/String", "coder", "()B"⟩).before a0 Z = true := hw _ (List.mem_of_getElem? (i := 46) rfl)
theorem sg9_5_1 : decs jdk_42_method_54_code [(5, .aload_n 0, 1)] := ⟨d9_5, trivial⟩
theorem d9_6 : decode jdk_42_method_54_code 6 = .ok (.invokevirtual 335, 3) := by decide +kernel
theorem d10_0 : decode jdk_42_method_152_code 0 = .ok (.getstatic 38, 3) := by decide +kernel
theorem own_w21 {Z : State} {a0 : Array Value} (hw : HW a0 Z) : (Cond.fieldLink "java/lang/String" 38 "java/lang/String" "COMPACT_STRINGS" "Z").before a0 Z = true := hw _ (List.mem_of_getElem? (i := 21) rfl)
theorem d10_3 : decode jdk_42_method_152_code 3 = .ok (.ifCond .eq 10, 3) := by decide +kernel
theorem d10_6 : decode jdk_42_method_152_code 6 = .ok (.aload_n 0, 1) := by decide +kernel
theorem sg10_6_1 : decs jdk_42_method_152_code [(6, .aload_n 0, 1)] := ⟨d10_6, trivial⟩
theorem d10_7 : decode jdk_42_method_152_code 7 = .ok (.getfield 15, 3) := by decide +kernel
theorem d10_10 : decode jdk_42_method_152_code 10 = .ok (.goto 4, 3) := by decide +kernel
theorem sg10_10_1 : decs jdk_42_method_152_code [(10, .goto 4, 3)] := ⟨d10_10, trivial⟩
theorem d10_14 : decode jdk_42_method_152_code 14 = .ok (.ireturn, 1) := by decide +kernel
theorem ef_rm10_0 (m : MethodId) (x0 : Addr) : entryFrame m #[(.ref x0)] 1 = mkF m 0 #[.val (.ref x0)] [] := by first | (simp [entryFrame, mkF, argsToLocals, Value.category]; done) | rfl
theorem own_w50 {Z : State} {a0 : Array Value} (hw : HW a0 Z) : (Cond.code ⟨"java/lang/String", "coder", "()B"⟩ jdk_42_method_152_code 1 (Option.some Jvm.ClassFile.FieldType.byte)).before a0 Z = true := hw _ (List.mem_of_getElem? (i := 50) rfl)
theorem own_pd3 : parseMethodDescriptor "()B" = some ⟨[], some .byte⟩ := by decide +kernel
theorem own_w49 {Z : State} {a0 : Array Value} (hw : HW a0 Z) : (Cond.selects "java/lang/String" ⟨"java/lang/String", "coder", "()B"⟩ ⟨"java/lang/String", "coder", "()B"⟩).before a0 Z = true := hw _ (List.mem_of_getElem? (i := 49) rfl)
theorem own_w47 {Z : State} {a0 : Array Value} (hw : HW a0 Z) : (Cond.declares ⟨"java/lang/String", "coder", "()B"⟩).before a0 Z = true := hw _ (List.mem_of_getElem? (i := 47) rfl)
theorem own_w48 {Z : State} {a0 : Array Value} (hw : HW a0 Z) : (Cond.instanceMethod ⟨"java/lang/String", "coder", "()B"⟩).before a0 Z = true := hw _ (List.mem_of_getElem? (i := 48) rfl)
theorem d9_9 : decode jdk_42_method_54_code 9 = .ok (.ishr, 1) := by decide +kernel
theorem sg9_9_1 : decs jdk_42_method_54_code [(9, .ishr, 1)] := ⟨d9_9, trivial⟩
theorem d9_10 : decode jdk_42_method_54_code 10 = .ok (.ireturn, 1) := by decide +kernel
theorem ef_rm9_0 (m : MethodId) (x0 : Addr) : entryFrame m #[(.ref x0)] 1 = mkF m 0 #[.val (.ref x0)] [] := by first | (simp [entryFrame, mkF, argsToLocals, Value.category]; done) | rfl
theorem own_w45 {Z : State} {a0 : Array Value} (hw : HW a0 Z) : (Cond.code ⟨"java/lang/String", "length", "()I"⟩ jdk_42_method_54_code 1 (Option.some Jvm.ClassFile.FieldType.int)).before a0 Z = true := hw _ (List.mem_of_getElem? (i := 45) rfl)
theorem own_pd4 : parseMethodDescriptor "()I" = some ⟨[], some .int⟩ := by decide +kernel
theorem own_w44 {Z : State} {a0 : Array Value} (hw : HW a0 Z) : (Cond.selects "java/lang/String" ⟨"java/lang/String", "length", "()I"⟩ ⟨"java/lang/String", "length", "()I"⟩).before a0 Z = true := hw _ (List.mem_of_getElem? (i := 44) rfl)
theorem own_w42 {Z : State} {a0 : Array Value} (hw : HW a0 Z) : (Cond.declares ⟨"java/lang/String", "length", "()I"⟩).before a0 Z = true := hw _ (List.mem_of_getElem? (i := 42) rfl)
theorem own_w43 {Z : State} {a0 : Array Value} (hw : HW a0 Z) : (Cond.instanceMethod ⟨"java/lang/String", "length", "()I"⟩).before a0 Z = true := hw _ (List.mem_of_getElem? (i := 43) rfl)
theorem d8_4 : decode prog_8_method_2_code 4 = .ok (.iconst 5, 1) := by decide +kernel
theorem d8_5 : decode prog_8_method_2_code 5 = .ok (.imul, 1) := by decide +kernel
theorem d8_6 : decode prog_8_method_2_code 6 = .ok (.bipush 8, 2) := by decide +kernel
theorem sg8_4_3 : decs prog_8_method_2_code [(4, .iconst 5, 1), (5, .imul, 1), (6, .bipush 8, 2)] := ⟨d8_4, d8_5, d8_6, trivial⟩
theorem d8_8 : decode prog_8_method_2_code 8 = .ok (.irem, 1) := by decide +kernel
theorem d8_9 : decode prog_8_method_2_code 9 = .ok (.iconst 5, 1) := by decide +kernel
theorem sg8_9_1 : decs prog_8_method_2_code [(9, .iconst 5, 1)] := ⟨d8_9, trivial⟩
theorem d8_10 : decode prog_8_method_2_code 10 = .ok (.if_icmp .lt 20, 3) := by decide +kernel
theorem d8_30 : decode prog_8_method_2_code 30 = .ok (.aload_n 0, 1) := by decide +kernel
theorem sg8_30_1 : decs prog_8_method_2_code [(30, .aload_n 0, 1)] := ⟨d8_30, trivial⟩
theorem d8_31 : decode prog_8_method_2_code 31 = .ok (.invokevirtual 7, 3) := by decide +kernel
theorem d8_34 : decode prog_8_method_2_code 34 = .ok (.iconst 5, 1) := by decide +kernel
theorem d8_35 : decode prog_8_method_2_code 35 = .ok (.imul, 1) := by decide +kernel
theorem d8_36 : decode prog_8_method_2_code 36 = .ok (.bipush 8, 2) := by decide +kernel
theorem sg8_34_3 : decs prog_8_method_2_code [(34, .iconst 5, 1), (35, .imul, 1), (36, .bipush 8, 2)] := ⟨d8_34, d8_35, d8_36, trivial⟩
theorem d8_38 : decode prog_8_method_2_code 38 = .ok (.idiv, 1) := by decide +kernel
theorem d8_39 : decode prog_8_method_2_code 39 = .ok (.newarray .byte, 2) := by decide +kernel
theorem own_w26 {Z : State} {a0 : Array Value} (hw : HW a0 Z) : (Cond.arrayClass Jvm.ClassFile.FieldType.byte).before a0 Z = true := hw _ (List.mem_of_getElem? (i := 26) rfl)
theorem d8_41 : decode prog_8_method_2_code 41 = .ok (.astore_n 1, 1) := by decide +kernel
theorem d8_42 : decode prog_8_method_2_code 42 = .ok (.iconst 0, 1) := by decide +kernel
theorem d8_43 : decode prog_8_method_2_code 43 = .ok (.istore_n 2, 1) := by decide +kernel
theorem d8_44 : decode prog_8_method_2_code 44 = .ok (.iconst 0, 1) := by decide +kernel
theorem d8_45 : decode prog_8_method_2_code 45 = .ok (.istore_n 3, 1) := by decide +kernel
theorem d8_46 : decode prog_8_method_2_code 46 = .ok (.iconst 0, 1) := by decide +kernel
theorem d8_47 : decode prog_8_method_2_code 47 = .ok (.istore 4, 2) := by decide +kernel
theorem d8_49 : decode prog_8_method_2_code 49 = .ok (.iconst 0, 1) := by decide +kernel
theorem d8_50 : decode prog_8_method_2_code 50 = .ok (.istore 5, 2) := by decide +kernel
theorem d8_52 : decode prog_8_method_2_code 52 = .ok (.iload 5, 2) := by decide +kernel
theorem d8_54 : decode prog_8_method_2_code 54 = .ok (.aload_n 0, 1) := by decide +kernel
theorem sg8_41_11 : decs prog_8_method_2_code [(41, .astore_n 1, 1), (42, .iconst 0, 1), (43, .istore_n 2, 1), (44, .iconst 0, 1), (45, .istore_n 3, 1), (46, .iconst 0, 1), (47, .istore 4, 2), (49, .iconst 0, 1), (50, .istore 5, 2), (52, .iload 5, 2), (54, .aload_n 0, 1)] := ⟨d8_41, d8_42, d8_43, d8_44, d8_45, d8_46, d8_47, d8_49, d8_50, d8_52, d8_54, trivial⟩
theorem d8_55 : decode prog_8_method_2_code 55 = .ok (.invokevirtual 7, 3) := by decide +kernel
theorem d8_58 : decode prog_8_method_2_code 58 = .ok (.if_icmp .ge 84, 3) := by decide +kernel
theorem d8_142 : decode prog_8_method_2_code 142 = .ok (.iload_n 3, 1) := by decide +kernel
theorem sg8_142_1 : decs prog_8_method_2_code [(142, .iload_n 3, 1)] := ⟨d8_142, trivial⟩
theorem d8_143 : decode prog_8_method_2_code 143 = .ok (.ifCond .eq 13, 3) := by decide +kernel
theorem d8_156 : decode prog_8_method_2_code 156 = .ok (.aload_n 1, 1) := by decide +kernel
theorem sg8_156_1 : decs prog_8_method_2_code [(156, .aload_n 1, 1)] := ⟨d8_156, trivial⟩
theorem d8_157 : decode prog_8_method_2_code 157 = .ok (.areturn, 1) := by decide +kernel
theorem ef_rm8_0 (m : MethodId) (x0 : Addr) : entryFrame m #[(.ref x0)] 7 = mkF m 0 #[.val (.ref x0), .unset, .unset, .unset, .unset, .unset, .unset] [] := by first | (simp [entryFrame, mkF, argsToLocals, Value.category]; done) | rfl
theorem own_pn2 : plainName "com/example/tryst/tryst/encoding/Base32" = true := by first | (simp [plainName, overriddenIn]; done) | decide +kernel
theorem own_w40 {Z : State} {a0 : Array Value} (hw : HW a0 Z) : (Cond.code ⟨"com/example/tryst/tryst/encoding/Base32", "decode", "(Ljava/lang/String;)[B"⟩ prog_8_method_2_code 7 (Option.some (Jvm.ClassFile.FieldType.array Jvm.ClassFile.FieldType.byte))).before a0 Z = true := hw _ (List.mem_of_getElem? (i := 40) rfl)
theorem own_w39 {Z : State} {a0 : Array Value} (hw : HW a0 Z) : (Cond.initialized "com/example/tryst/tryst/encoding/Base32").before a0 Z = true := hw _ (List.mem_of_getElem? (i := 39) rfl)
theorem own_pd5 : parseMethodDescriptor "(Ljava/lang/String;)[B" = some ⟨[(.object "java/lang/String")], some (.array .byte)⟩ := by decide +kernel
theorem own_w38 {Z : State} {a0 : Array Value} (hw : HW a0 Z) : (Cond.static ⟨"com/example/tryst/tryst/encoding/Base32", "decode", "(Ljava/lang/String;)[B"⟩).before a0 Z = true := hw _ (List.mem_of_getElem? (i := 38) rfl)
theorem sg0_326_2 : decs code [(326, .astore 17, 2), (328, .aload 17, 2)] := ⟨at_326, at_328, trivial⟩
theorem sg0_331_1 : decs code [(331, .iload_n 3, 1)] := ⟨at_331, trivial⟩
theorem own_w103 {Z : State} {a0 : Array Value} (hw : HW a0 Z) : (Cond.methodLink "com/example/tryst/tryst/encoding/Base32DecodePinLaw" 29 ⟨"com/example/tryst/tryst/encoding/Base32DecodePinLaw", "byteOk", "([BJII)Z"⟩).before a0 Z = true := hw _ (List.mem_of_getElem? (i := 103) rfl)
theorem sg0_337_4 : decs code [(337, .aload 17, 2), (339, .lload 6, 2), (341, .iload_n 3, 1), (342, .iconst 0, 1)] := ⟨at_337, at_339, at_341, at_342, trivial⟩
theorem d23_0 : decode method_3_code 0 = .ok (.iload 4, 2) := by decide +kernel
theorem d23_2 : decode method_3_code 2 = .ok (.iload_n 3, 1) := by decide +kernel
theorem sg23_0_2 : decs method_3_code [(0, .iload 4, 2), (2, .iload_n 3, 1)] := ⟨d23_0, d23_2, trivial⟩
theorem d23_3 : decode method_3_code 3 = .ok (.if_icmp .lt 5, 3) := by decide +kernel
theorem d23_6 : decode method_3_code 6 = .ok (.iconst 1, 1) := by decide +kernel
theorem sg23_6_1 : decs method_3_code [(6, .iconst 1, 1)] := ⟨d23_6, trivial⟩
theorem d23_7 : decode method_3_code 7 = .ok (.ireturn, 1) := by decide +kernel
theorem ef_rm23_0 (m : MethodId) (x0 : Addr) (x1 : Int64) (x2 : Int32) (x3 : Int32) : entryFrame m #[(.ref x0), (.long x1), (.int x2), (.int x3)] 5 = mkF m 0 #[.val (.ref x0), .val (.long x1), .second, .val (.int x2), .val (.int x3)] [] := by first | (simp [entryFrame, mkF, argsToLocals, Value.category]; done) | rfl
theorem own_w105 {Z : State} {a0 : Array Value} (hw : HW a0 Z) : (Cond.code ⟨"com/example/tryst/tryst/encoding/Base32DecodePinLaw", "byteOk", "([BJII)Z"⟩ method_3_code 5 (Option.some Jvm.ClassFile.FieldType.boolean)).before a0 Z = true := hw _ (List.mem_of_getElem? (i := 105) rfl)
theorem own_pd6 : parseMethodDescriptor "([BJII)Z" = some ⟨[(.array .byte), .long, .int, .int], some .boolean⟩ := by decide +kernel
theorem own_w104 {Z : State} {a0 : Array Value} (hw : HW a0 Z) : (Cond.static ⟨"com/example/tryst/tryst/encoding/Base32DecodePinLaw", "byteOk", "([BJII)Z"⟩).before a0 Z = true := hw _ (List.mem_of_getElem? (i := 104) rfl)
theorem sg0_349_4 : decs code [(349, .aload 17, 2), (351, .lload 6, 2), (353, .iload_n 3, 1), (354, .iconst 1, 1)] := ⟨at_349, at_351, at_353, at_354, trivial⟩
theorem sg0_361_4 : decs code [(361, .aload 17, 2), (363, .lload 6, 2), (365, .iload_n 3, 1), (366, .iconst 2, 1)] := ⟨at_361, at_363, at_365, at_366, trivial⟩
theorem sg0_373_4 : decs code [(373, .aload 17, 2), (375, .lload 6, 2), (377, .iload_n 3, 1), (378, .iconst 3, 1)] := ⟨at_373, at_375, at_377, at_378, trivial⟩
theorem sg0_385_4 : decs code [(385, .aload 17, 2), (387, .lload 6, 2), (389, .iload_n 3, 1), (390, .iconst 4, 1)] := ⟨at_385, at_387, at_389, at_390, trivial⟩
theorem sg0_397_2 : decs code [(397, .iconst 1, 1), (398, .goto 4, 3)] := ⟨at_397, at_398, trivial⟩
theorem d3_27 : decode jdk_42_method_149_code 27 = .ok (.getstatic 38, 3) := by decide +kernel
theorem d3_30 : decode jdk_42_method_149_code 30 = .ok (.ifCond .eq 28, 3) := by decide +kernel
theorem d3_33 : decode jdk_42_method_149_code 33 = .ok (.aload_n 1, 1) := by decide +kernel
theorem d3_34 : decode jdk_42_method_149_code 34 = .ok (.iload_n 2, 1) := by decide +kernel
theorem d3_35 : decode jdk_42_method_149_code 35 = .ok (.iload_n 3, 1) := by decide +kernel
theorem own_w22 {Z : State} {a0 : Array Value} (hw : HW a0 Z) : (Cond.methodLink "java/lang/String" 177 ⟨"java/lang/StringUTF16", "compress", "([CII)[B"⟩).before a0 Z = true := hw _ (List.mem_of_getElem? (i := 22) rfl)
theorem sg3_33_3 : decs jdk_42_method_149_code [(33, .aload_n 1, 1), (34, .iload_n 2, 1), (35, .iload_n 3, 1)] := ⟨d3_33, d3_34, d3_35, trivial⟩
theorem d3_36 : decode jdk_42_method_149_code 36 = .ok (.invokestatic 177, 3) := by decide +kernel
theorem d5_0 : decode jdk_52_method_16_code 0 = .ok (.iload_n 2, 1) := by decide +kernel
theorem sg5_0_1 : decs jdk_52_method_16_code [(0, .iload_n 2, 1)] := ⟨d5_0, trivial⟩
theorem d5_1 : decode jdk_52_method_16_code 1 = .ok (.newarray .byte, 2) := by decide +kernel
theorem d5_3 : decode jdk_52_method_16_code 3 = .ok (.astore_n 3, 1) := by decide +kernel
theorem d5_4 : decode jdk_52_method_16_code 4 = .ok (.aload_n 0, 1) := by decide +kernel
theorem d5_5 : decode jdk_52_method_16_code 5 = .ok (.iload_n 1, 1) := by decide +kernel
theorem d5_6 : decode jdk_52_method_16_code 6 = .ok (.aload_n 3, 1) := by decide +kernel
theorem d5_7 : decode jdk_52_method_16_code 7 = .ok (.iconst 0, 1) := by decide +kernel
theorem d5_8 : decode jdk_52_method_16_code 8 = .ok (.iload_n 2, 1) := by decide +kernel
theorem own_w27 {Z : State} {a0 : Array Value} (hw : HW a0 Z) : (Cond.methodLink "java/lang/StringUTF16" 115 ⟨"java/lang/StringUTF16", "compress", "([CI[BII)I"⟩).before a0 Z = true := hw _ (List.mem_of_getElem? (i := 27) rfl)
theorem sg5_3_6 : decs jdk_52_method_16_code [(3, .astore_n 3, 1), (4, .aload_n 0, 1), (5, .iload_n 1, 1), (6, .aload_n 3, 1), (7, .iconst 0, 1), (8, .iload_n 2, 1)] := ⟨d5_3, d5_4, d5_5, d5_6, d5_7, d5_8, trivial⟩
theorem d5_9 : decode jdk_52_method_16_code 9 = .ok (.invokestatic 115, 3) := by decide +kernel
theorem d6_0 : decode jdk_52_method_21_code 0 = .ok (.iconst 0, 1) := by decide +kernel
theorem d6_1 : decode jdk_52_method_21_code 1 = .ok (.istore 5, 2) := by decide +kernel
theorem d6_3 : decode jdk_52_method_21_code 3 = .ok (.iload 5, 2) := by decide +kernel
theorem d6_5 : decode jdk_52_method_21_code 5 = .ok (.iload 4, 2) := by decide +kernel
theorem sg6_0_4 : decs jdk_52_method_21_code [(0, .iconst 0, 1), (1, .istore 5, 2), (3, .iload 5, 2), (5, .iload 4, 2)] := ⟨d6_0, d6_1, d6_3, d6_5, trivial⟩
theorem d6_7 : decode jdk_52_method_21_code 7 = .ok (.if_icmp .ge 37, 3) := by decide +kernel
theorem d6_10 : decode jdk_52_method_21_code 10 = .ok (.aload_n 0, 1) := by decide +kernel
theorem d6_11 : decode jdk_52_method_21_code 11 = .ok (.iload_n 1, 1) := by decide +kernel
theorem sg6_10_2 : decs jdk_52_method_21_code [(10, .aload_n 0, 1), (11, .iload_n 1, 1)] := ⟨d6_10, d6_11, trivial⟩
theorem d6_12 : decode jdk_52_method_21_code 12 = .ok (.caload, 1) := by decide +kernel
theorem d6_13 : decode jdk_52_method_21_code 13 = .ok (.istore 6, 2) := by decide +kernel
theorem d6_15 : decode jdk_52_method_21_code 15 = .ok (.iload 6, 2) := by decide +kernel
theorem d6_17 : decode jdk_52_method_21_code 17 = .ok (.sipush 255, 3) := by decide +kernel
theorem sg6_13_3 : decs jdk_52_method_21_code [(13, .istore 6, 2), (15, .iload 6, 2), (17, .sipush 255, 3)] := ⟨d6_13, d6_15, d6_17, trivial⟩
theorem d6_20 : decode jdk_52_method_21_code 20 = .ok (.if_icmp .le 6, 3) := by decide +kernel
theorem d6_26 : decode jdk_52_method_21_code 26 = .ok (.aload_n 2, 1) := by decide +kernel
theorem d6_27 : decode jdk_52_method_21_code 27 = .ok (.iload_n 3, 1) := by decide +kernel
theorem d6_28 : decode jdk_52_method_21_code 28 = .ok (.iload 6, 2) := by decide +kernel
theorem d6_30 : decode jdk_52_method_21_code 30 = .ok (.i2b, 1) := by decide +kernel
theorem sg6_26_4 : decs jdk_52_method_21_code [(26, .aload_n 2, 1), (27, .iload_n 3, 1), (28, .iload 6, 2), (30, .i2b, 1)] := ⟨d6_26, d6_27, d6_28, d6_30, trivial⟩
theorem d6_31 : decode jdk_52_method_21_code 31 = .ok (.bastore, 1) := by decide +kernel
theorem d6_32 : decode jdk_52_method_21_code 32 = .ok (.iinc 1 1, 3) := by decide +kernel
theorem d6_35 : decode jdk_52_method_21_code 35 = .ok (.iinc 3 1, 3) := by decide +kernel
theorem d6_38 : decode jdk_52_method_21_code 38 = .ok (.iinc 5 1, 3) := by decide +kernel
theorem d6_41 : decode jdk_52_method_21_code 41 = .ok (.goto (-38), 3) := by decide +kernel
theorem sg6_32_6 : decs jdk_52_method_21_code [(32, .iinc 1 1, 3), (35, .iinc 3 1, 3), (38, .iinc 5 1, 3), (41, .goto (-38), 3), (3, .iload 5, 2), (5, .iload 4, 2)] := ⟨d6_32, d6_35, d6_38, d6_41, d6_3, d6_5, trivial⟩
theorem d6_44 : decode jdk_52_method_21_code 44 = .ok (.iload 4, 2) := by decide +kernel
theorem sg6_44_1 : decs jdk_52_method_21_code [(44, .iload 4, 2)] := ⟨d6_44, trivial⟩
theorem d6_46 : decode jdk_52_method_21_code 46 = .ok (.ireturn, 1) := by decide +kernel
theorem ef_rm6_0 (m : MethodId) (x0 : Addr) (x1 : Int32) (x2 : Addr) (x4 : Int32) : entryFrame m #[(.ref x0), (.int x1), (.ref x2), (.int x1), (.int x4)] 7 = mkF m 0 #[.val (.ref x0), .val (.int x1), .val (.ref x2), .val (.int x1), .val (.int x4), .unset, .unset] [] := by first | (simp [entryFrame, mkF, argsToLocals, Value.category]; done) | rfl
theorem own_pn3 : plainName "java/lang/StringUTF16" = true := by first | (simp [plainName, overriddenIn]; done) | decide +kernel
theorem own_w29 {Z : State} {a0 : Array Value} (hw : HW a0 Z) : (Cond.code ⟨"java/lang/StringUTF16", "compress", "([CI[BII)I"⟩ jdk_52_method_21_code 7 (Option.some Jvm.ClassFile.FieldType.int)).before a0 Z = true := hw _ (List.mem_of_getElem? (i := 29) rfl)
theorem own_w24 {Z : State} {a0 : Array Value} (hw : HW a0 Z) : (Cond.initialized "java/lang/StringUTF16").before a0 Z = true := hw _ (List.mem_of_getElem? (i := 24) rfl)
theorem own_pd7 : parseMethodDescriptor "([CI[BII)I" = some ⟨[(.array .char), .int, (.array .byte), .int, .int], some .int⟩ := by decide +kernel
theorem own_w28 {Z : State} {a0 : Array Value} (hw : HW a0 Z) : (Cond.static ⟨"java/lang/StringUTF16", "compress", "([CI[BII)I"⟩).before a0 Z = true := hw _ (List.mem_of_getElem? (i := 28) rfl)
theorem d5_12 : decode jdk_52_method_16_code 12 = .ok (.istore 4, 2) := by decide +kernel
theorem d5_14 : decode jdk_52_method_16_code 14 = .ok (.iload 4, 2) := by decide +kernel
theorem d5_16 : decode jdk_52_method_16_code 16 = .ok (.iload_n 2, 1) := by decide +kernel
theorem sg5_12_3 : decs jdk_52_method_16_code [(12, .istore 4, 2), (14, .iload 4, 2), (16, .iload_n 2, 1)] := ⟨d5_12, d5_14, d5_16, trivial⟩
theorem d5_17 : decode jdk_52_method_16_code 17 = .ok (.if_icmp .eq 40, 3) := by decide +kernel
theorem d5_57 : decode jdk_52_method_16_code 57 = .ok (.aload_n 3, 1) := by decide +kernel
theorem sg5_57_1 : decs jdk_52_method_16_code [(57, .aload_n 3, 1)] := ⟨d5_57, trivial⟩
theorem d5_58 : decode jdk_52_method_16_code 58 = .ok (.areturn, 1) := by decide +kernel
theorem ef_rm5_0 (m : MethodId) (x0 : Addr) (x1 : Int32) (x2 : Int32) : entryFrame m #[(.ref x0), (.int x1), (.int x2)] 6 = mkF m 0 #[.val (.ref x0), .val (.int x1), .val (.int x2), .unset, .unset, .unset] [] := by first | (simp [entryFrame, mkF, argsToLocals, Value.category]; done) | rfl
theorem own_w25 {Z : State} {a0 : Array Value} (hw : HW a0 Z) : (Cond.code ⟨"java/lang/StringUTF16", "compress", "([CII)[B"⟩ jdk_52_method_16_code 6 (Option.some (Jvm.ClassFile.FieldType.array Jvm.ClassFile.FieldType.byte))).before a0 Z = true := hw _ (List.mem_of_getElem? (i := 25) rfl)
theorem own_pd8 : parseMethodDescriptor "([CII)[B" = some ⟨[(.array .char), .int, .int], some (.array .byte)⟩ := by decide +kernel
theorem own_w23 {Z : State} {a0 : Array Value} (hw : HW a0 Z) : (Cond.static ⟨"java/lang/StringUTF16", "compress", "([CII)[B"⟩).before a0 Z = true := hw _ (List.mem_of_getElem? (i := 23) rfl)
theorem d3_39 : decode jdk_42_method_149_code 39 = .ok (.astore 5, 2) := by decide +kernel
theorem d3_41 : decode jdk_42_method_149_code 41 = .ok (.aload_n 0, 1) := by decide +kernel
theorem d3_42 : decode jdk_42_method_149_code 42 = .ok (.aload 5, 2) := by decide +kernel
theorem d3_44 : decode jdk_42_method_149_code 44 = .ok (.iload_n 3, 1) := by decide +kernel
theorem own_w30 {Z : State} {a0 : Array Value} (hw : HW a0 Z) : (Cond.methodLink "java/lang/String" 47 ⟨"java/lang/StringUTF16", "coderFromArrayLen", "([BI)B"⟩).before a0 Z = true := hw _ (List.mem_of_getElem? (i := 30) rfl)
theorem sg3_39_4 : decs jdk_42_method_149_code [(39, .astore 5, 2), (41, .aload_n 0, 1), (42, .aload 5, 2), (44, .iload_n 3, 1)] := ⟨d3_39, d3_41, d3_42, d3_44, trivial⟩
theorem d3_45 : decode jdk_42_method_149_code 45 = .ok (.invokestatic 47, 3) := by decide +kernel
theorem d7_0 : decode jdk_52_method_15_code 0 = .ok (.iload_n 1, 1) := by decide +kernel
theorem d7_1 : decode jdk_52_method_15_code 1 = .ok (.aload_n 0, 1) := by decide +kernel
theorem sg7_0_2 : decs jdk_52_method_15_code [(0, .iload_n 1, 1), (1, .aload_n 0, 1)] := ⟨d7_0, d7_1, trivial⟩
theorem d7_2 : decode jdk_52_method_15_code 2 = .ok (.arraylength, 1) := by decide +kernel
theorem d7_3 : decode jdk_52_method_15_code 3 = .ok (.isub, 1) := by decide +kernel
theorem d7_4 : decode jdk_52_method_15_code 4 = .ok (.bipush 31, 2) := by decide +kernel
theorem d7_6 : decode jdk_52_method_15_code 6 = .ok (.iushr, 1) := by decide +kernel
theorem d7_7 : decode jdk_52_method_15_code 7 = .ok (.i2b, 1) := by decide +kernel
theorem sg7_3_4 : decs jdk_52_method_15_code [(3, .isub, 1), (4, .bipush 31, 2), (6, .iushr, 1), (7, .i2b, 1)] := ⟨d7_3, d7_4, d7_6, d7_7, trivial⟩
theorem d7_8 : decode jdk_52_method_15_code 8 = .ok (.ireturn, 1) := by decide +kernel
theorem ef_rm7_0 (m : MethodId) (x0 : Addr) (x1 : Int32) : entryFrame m #[(.ref x0), (.int x1)] 2 = mkF m 0 #[.val (.ref x0), .val (.int x1)] [] := by first | (simp [entryFrame, mkF, argsToLocals, Value.category]; done) | rfl
theorem own_w32 {Z : State} {a0 : Array Value} (hw : HW a0 Z) : (Cond.code ⟨"java/lang/StringUTF16", "coderFromArrayLen", "([BI)B"⟩ jdk_52_method_15_code 2 (Option.some Jvm.ClassFile.FieldType.byte)).before a0 Z = true := hw _ (List.mem_of_getElem? (i := 32) rfl)
theorem own_pd9 : parseMethodDescriptor "([BI)B" = some ⟨[(.array .byte), .int], some .byte⟩ := by decide +kernel
theorem own_w31 {Z : State} {a0 : Array Value} (hw : HW a0 Z) : (Cond.static ⟨"java/lang/StringUTF16", "coderFromArrayLen", "([BI)B"⟩).before a0 Z = true := hw _ (List.mem_of_getElem? (i := 31) rfl)
theorem d3_48 : decode jdk_42_method_149_code 48 = .ok (.putfield 15, 3) := by decide +kernel
theorem d3_51 : decode jdk_42_method_149_code 51 = .ok (.aload_n 0, 1) := by decide +kernel
theorem d3_52 : decode jdk_42_method_149_code 52 = .ok (.aload 5, 2) := by decide +kernel
theorem sg3_51_2 : decs jdk_42_method_149_code [(51, .aload_n 0, 1), (52, .aload 5, 2)] := ⟨d3_51, d3_52, trivial⟩
theorem d3_54 : decode jdk_42_method_149_code 54 = .ok (.putfield 9, 3) := by decide +kernel
theorem d3_57 : decode jdk_42_method_149_code 57 = .ok (.return_, 1) := by decide +kernel
theorem ef_rm3_1 (m : MethodId) (x0 : Addr) (x1 : Addr) (x2 : Int32) (x3 : Int32) : entryFrame m #[(.ref x0), (.ref x1), (.int x2), (.int x3), .null] 6 = mkF m 0 #[.val (.ref x0), .val (.ref x1), .val (.int x2), .val (.int x3), .val .null, .unset] [] := by first | (simp [entryFrame, mkF, argsToLocals, Value.category]; done) | rfl
theorem ef_rm2_1 (m : MethodId) (x0 : Addr) (x1 : Addr) : entryFrame m #[(.ref x0), (.ref x1)] 2 = mkF m 0 #[.val (.ref x0), .val (.ref x1)] [] := by first | (simp [entryFrame, mkF, argsToLocals, Value.category]; done) | rfl
theorem ef_rm9_1 (m : MethodId) (x0 : Addr) : entryFrame m #[(.ref x0)] 1 = mkF m 0 #[.val (.ref x0)] [] := by first | (simp [entryFrame, mkF, argsToLocals, Value.category]; done) | rfl
theorem d8_61 : decode prog_8_method_2_code 61 = .ok (.ldc 24, 2) := by decide +kernel
abbrev own_T0 : List Value := [(.int (97 : Int32)), (.int (98 : Int32)), (.int (99 : Int32)), (.int (100 : Int32)), (.int (101 : Int32)), (.int (102 : Int32)), (.int (103 : Int32)), (.int (104 : Int32)), (.int (105 : Int32)), (.int (106 : Int32)), (.int (107 : Int32)), (.int (108 : Int32)), (.int (109 : Int32)), (.int (110 : Int32)), (.int (111 : Int32)), (.int (112 : Int32)), (.int (113 : Int32)), (.int (114 : Int32)), (.int (115 : Int32)), (.int (116 : Int32)), (.int (117 : Int32)), (.int (118 : Int32)), (.int (119 : Int32)), (.int (120 : Int32)), (.int (121 : Int32)), (.int (122 : Int32)), (.int (50 : Int32)), (.int (51 : Int32)), (.int (52 : Int32)), (.int (53 : Int32)), (.int (54 : Int32)), (.int (55 : Int32))]
theorem own_w51 {Z : State} {a0 : Array Value} (hw : HW a0 Z) : (Cond.stringLink "com/example/tryst/tryst/encoding/Base32" 24 "abcdefghijklmnopqrstuvwxyz234567").before a0 Z = true := hw _ (List.mem_of_getElem? (i := 51) rfl)
theorem d8_63 : decode prog_8_method_2_code 63 = .ok (.aload_n 0, 1) := by decide +kernel
theorem d8_64 : decode prog_8_method_2_code 64 = .ok (.iload 5, 2) := by decide +kernel
theorem own_w54 {Z : State} {a0 : Array Value} (hw : HW a0 Z) : (Cond.methodLink "com/example/tryst/tryst/encoding/Base32" 26 ⟨"java/lang/String", "charAt", "(I)C"⟩).before a0 Z = true := hw _ (List.mem_of_getElem? (i := 54) rfl)
theorem sg8_63_2 : decs prog_8_method_2_code [(63, .aload_n 0, 1), (64, .iload 5, 2)] := ⟨d8_63, d8_64, trivial⟩
theorem d8_66 : decode prog_8_method_2_code 66 = .ok (.invokevirtual 26, 3) := by decide +kernel
theorem d11_0 : decode jdk_42_method_56_code 0 = .ok (.aload_n 0, 1) := by decide +kernel
theorem own_w59 {Z : State} {a0 : Array Value} (hw : HW a0 Z) : (Cond.methodLink "java/lang/String" 492 ⟨"java/lang/String", "isLatin1", "()Z"⟩).before a0 Z = true := hw _ (List.mem_of_getElem? (i := 59) rfl)
theorem sg11_0_1 : decs jdk_42_method_56_code [(0, .aload_n 0, 1)] := ⟨d11_0, trivial⟩
theorem d11_1 : decode jdk_42_method_56_code 1 = .ok (.invokevirtual 492, 3) := by decide +kernel
theorem d12_0 : decode jdk_42_method_154_code 0 = .ok (.getstatic 38, 3) := by decide +kernel
theorem d12_3 : decode jdk_42_method_154_code 3 = .ok (.ifCond .eq 14, 3) := by decide +kernel
theorem d12_6 : decode jdk_42_method_154_code 6 = .ok (.aload_n 0, 1) := by decide +kernel
theorem sg12_6_1 : decs jdk_42_method_154_code [(6, .aload_n 0, 1)] := ⟨d12_6, trivial⟩
theorem d12_7 : decode jdk_42_method_154_code 7 = .ok (.getfield 15, 3) := by decide +kernel
theorem d12_10 : decode jdk_42_method_154_code 10 = .ok (.ifCond .ne 7, 3) := by decide +kernel
theorem d12_13 : decode jdk_42_method_154_code 13 = .ok (.iconst 1, 1) := by decide +kernel
theorem d12_14 : decode jdk_42_method_154_code 14 = .ok (.goto 4, 3) := by decide +kernel
theorem sg12_13_2 : decs jdk_42_method_154_code [(13, .iconst 1, 1), (14, .goto 4, 3)] := ⟨d12_13, d12_14, trivial⟩
theorem d12_18 : decode jdk_42_method_154_code 18 = .ok (.ireturn, 1) := by decide +kernel
theorem ef_rm12_0 (m : MethodId) (x0 : Addr) : entryFrame m #[(.ref x0)] 1 = mkF m 0 #[.val (.ref x0)] [] := by first | (simp [entryFrame, mkF, argsToLocals, Value.category]; done) | rfl
theorem own_w63 {Z : State} {a0 : Array Value} (hw : HW a0 Z) : (Cond.code ⟨"java/lang/String", "isLatin1", "()Z"⟩ jdk_42_method_154_code 1 (Option.some Jvm.ClassFile.FieldType.boolean)).before a0 Z = true := hw _ (List.mem_of_getElem? (i := 63) rfl)
theorem own_pd10 : parseMethodDescriptor "()Z" = some ⟨[], some .boolean⟩ := by decide +kernel
theorem own_w62 {Z : State} {a0 : Array Value} (hw : HW a0 Z) : (Cond.selects "java/lang/String" ⟨"java/lang/String", "isLatin1", "()Z"⟩ ⟨"java/lang/String", "isLatin1", "()Z"⟩).before a0 Z = true := hw _ (List.mem_of_getElem? (i := 62) rfl)
theorem own_w60 {Z : State} {a0 : Array Value} (hw : HW a0 Z) : (Cond.declares ⟨"java/lang/String", "isLatin1", "()Z"⟩).before a0 Z = true := hw _ (List.mem_of_getElem? (i := 60) rfl)
theorem own_w61 {Z : State} {a0 : Array Value} (hw : HW a0 Z) : (Cond.instanceMethod ⟨"java/lang/String", "isLatin1", "()Z"⟩).before a0 Z = true := hw _ (List.mem_of_getElem? (i := 61) rfl)
theorem d11_4 : decode jdk_42_method_56_code 4 = .ok (.ifCond .eq 12, 3) := by decide +kernel
theorem d11_7 : decode jdk_42_method_56_code 7 = .ok (.aload_n 0, 1) := by decide +kernel
theorem sg11_7_1 : decs jdk_42_method_56_code [(7, .aload_n 0, 1)] := ⟨d11_7, trivial⟩
theorem d11_8 : decode jdk_42_method_56_code 8 = .ok (.getfield 9, 3) := by decide +kernel
theorem d11_11 : decode jdk_42_method_56_code 11 = .ok (.iload_n 1, 1) := by decide +kernel
theorem own_w64 {Z : State} {a0 : Array Value} (hw : HW a0 Z) : (Cond.methodLink "java/lang/String" 495 ⟨"java/lang/StringLatin1", "charAt", "([BI)C"⟩).before a0 Z = true := hw _ (List.mem_of_getElem? (i := 64) rfl)
theorem sg11_11_1 : decs jdk_42_method_56_code [(11, .iload_n 1, 1)] := ⟨d11_11, trivial⟩
theorem d11_12 : decode jdk_42_method_56_code 12 = .ok (.invokestatic 495, 3) := by decide +kernel
theorem d13_0 : decode jdk_43_method_2_code 0 = .ok (.iload_n 1, 1) := by decide +kernel
theorem d13_1 : decode jdk_43_method_2_code 1 = .ok (.aload_n 0, 1) := by decide +kernel
theorem sg13_0_2 : decs jdk_43_method_2_code [(0, .iload_n 1, 1), (1, .aload_n 0, 1)] := ⟨d13_0, d13_1, trivial⟩
theorem d13_2 : decode jdk_43_method_2_code 2 = .ok (.arraylength, 1) := by decide +kernel
theorem own_w68 {Z : State} {a0 : Array Value} (hw : HW a0 Z) : (Cond.methodLink "java/lang/StringLatin1" 9 ⟨"java/lang/String", "checkIndex", "(II)V"⟩).before a0 Z = true := hw _ (List.mem_of_getElem? (i := 68) rfl)
theorem d13_3 : decode jdk_43_method_2_code 3 = .ok (.invokestatic 9, 3) := by decide +kernel
theorem d14_0 : decode jdk_42_method_155_code 0 = .ok (.iload_n 0, 1) := by decide +kernel
theorem d14_1 : decode jdk_42_method_155_code 1 = .ok (.iload_n 1, 1) := by decide +kernel
theorem sg14_0_2 : decs jdk_42_method_155_code [(0, .iload_n 0, 1), (1, .iload_n 1, 1)] := ⟨d14_0, d14_1, trivial⟩
theorem d14_2 : decode jdk_42_method_155_code 2 = .ok (.getstatic 1053, 3) := by decide +kernel
theorem own_w71 {Z : State} {a0 : Array Value} (hw : HW a0 Z) : (Cond.fieldLink "java/lang/String" 1053 "jdk/internal/util/Preconditions" "SIOOBE_FORMATTER" "Ljava/util/function/BiFunction;").before a0 Z = true := hw _ (List.mem_of_getElem? (i := 71) rfl)
theorem own_w73 {Z : State} {a0 : Array Value} (hw : HW a0 Z) : (Cond.methodLink "java/lang/String" 1059 ⟨"jdk/internal/util/Preconditions", "checkIndex", "(IILjava/util/function/BiFunction;)I"⟩).before a0 Z = true := hw _ (List.mem_of_getElem? (i := 73) rfl)
theorem d14_5 : decode jdk_42_method_155_code 5 = .ok (.invokestatic 1059, 3) := by decide +kernel
theorem d15_0 : decode jdk_41_method_11_code 0 = .ok (.iload_n 0, 1) := by decide +kernel
theorem sg15_0_1 : decs jdk_41_method_11_code [(0, .iload_n 0, 1)] := ⟨d15_0, trivial⟩
theorem d15_1 : decode jdk_41_method_11_code 1 = .ok (.ifCond .lt 8, 3) := by decide +kernel
theorem d15_4 : decode jdk_41_method_11_code 4 = .ok (.iload_n 0, 1) := by decide +kernel
theorem d15_5 : decode jdk_41_method_11_code 5 = .ok (.iload_n 1, 1) := by decide +kernel
theorem sg15_4_2 : decs jdk_41_method_11_code [(4, .iload_n 0, 1), (5, .iload_n 1, 1)] := ⟨d15_4, d15_5, trivial⟩
theorem d15_6 : decode jdk_41_method_11_code 6 = .ok (.if_icmp .lt 10, 3) := by decide +kernel
theorem d15_16 : decode jdk_41_method_11_code 16 = .ok (.iload_n 0, 1) := by decide +kernel
theorem sg15_16_1 : decs jdk_41_method_11_code [(16, .iload_n 0, 1)] := ⟨d15_16, trivial⟩
theorem d15_17 : decode jdk_41_method_11_code 17 = .ok (.ireturn, 1) := by decide +kernel
theorem ef_rm15_0 (m : MethodId) (x0 : Int32) (x1 : Int32) (x2 : Value) (hx2 : x2.isRef = true) : entryFrame m #[(.int x0), (.int x1), x2] 3 = mkF m 0 #[.val (.int x0), .val (.int x1), .val x2] [] := by rcases ref_cases hx2 with rfl | ⟨ax2, rfl⟩ <;> first | (simp [entryFrame, mkF, argsToLocals, Value.category]; done) | rfl
theorem own_pn4 : plainName "jdk/internal/util/Preconditions" = true := by first | (simp [plainName, overriddenIn]; done) | decide +kernel
theorem own_w75 {Z : State} {a0 : Array Value} (hw : HW a0 Z) : (Cond.code ⟨"jdk/internal/util/Preconditions", "checkIndex", "(IILjava/util/function/BiFunction;)I"⟩ jdk_41_method_11_code 3 (Option.some Jvm.ClassFile.FieldType.int)).before a0 Z = true := hw _ (List.mem_of_getElem? (i := 75) rfl)
theorem own_w72 {Z : State} {a0 : Array Value} (hw : HW a0 Z) : (Cond.initialized "jdk/internal/util/Preconditions").before a0 Z = true := hw _ (List.mem_of_getElem? (i := 72) rfl)
theorem own_pd11 : parseMethodDescriptor "(IILjava/util/function/BiFunction;)I" = some ⟨[.int, .int, (.object "java/util/function/BiFunction")], some .int⟩ := by decide +kernel
theorem own_w74 {Z : State} {a0 : Array Value} (hw : HW a0 Z) : (Cond.static ⟨"jdk/internal/util/Preconditions", "checkIndex", "(IILjava/util/function/BiFunction;)I"⟩).before a0 Z = true := hw _ (List.mem_of_getElem? (i := 74) rfl)
theorem d14_8 : decode jdk_42_method_155_code 8 = .ok (.pop, 1) := by decide +kernel
theorem sg14_8_1 : decs jdk_42_method_155_code [(8, .pop, 1)] := ⟨d14_8, trivial⟩
theorem d14_9 : decode jdk_42_method_155_code 9 = .ok (.return_, 1) := by decide +kernel
theorem ef_rm14_0 (m : MethodId) (x0 : Int32) (x1 : Int32) : entryFrame m #[(.int x0), (.int x1)] 2 = mkF m 0 #[.val (.int x0), .val (.int x1)] [] := by first | (simp [entryFrame, mkF, argsToLocals, Value.category]; done) | rfl
theorem own_w70 {Z : State} {a0 : Array Value} (hw : HW a0 Z) : (Cond.code ⟨"java/lang/String", "checkIndex", "(II)V"⟩ jdk_42_method_155_code 2 (Option.none : Option Jvm.ClassFile.FieldType)).before a0 Z = true := hw _ (List.mem_of_getElem? (i := 70) rfl)
theorem own_pd12 : parseMethodDescriptor "(II)V" = some ⟨[.int, .int], none⟩ := by decide +kernel
theorem own_w69 {Z : State} {a0 : Array Value} (hw : HW a0 Z) : (Cond.static ⟨"java/lang/String", "checkIndex", "(II)V"⟩).before a0 Z = true := hw _ (List.mem_of_getElem? (i := 69) rfl)
theorem d13_6 : decode jdk_43_method_2_code 6 = .ok (.aload_n 0, 1) := by decide +kernel
theorem d13_7 : decode jdk_43_method_2_code 7 = .ok (.iload_n 1, 1) := by decide +kernel
theorem sg13_6_2 : decs jdk_43_method_2_code [(6, .aload_n 0, 1), (7, .iload_n 1, 1)] := ⟨d13_6, d13_7, trivial⟩
theorem d13_8 : decode jdk_43_method_2_code 8 = .ok (.baload, 1) := by decide +kernel
theorem d13_9 : decode jdk_43_method_2_code 9 = .ok (.sipush 255, 3) := by decide +kernel
theorem d13_12 : decode jdk_43_method_2_code 12 = .ok (.iand, 1) := by decide +kernel
theorem d13_13 : decode jdk_43_method_2_code 13 = .ok (.i2c, 1) := by decide +kernel
theorem sg13_9_3 : decs jdk_43_method_2_code [(9, .sipush 255, 3), (12, .iand, 1), (13, .i2c, 1)] := ⟨d13_9, d13_12, d13_13, trivial⟩
theorem d13_14 : decode jdk_43_method_2_code 14 = .ok (.ireturn, 1) := by decide +kernel
theorem ef_rm13_0 (m : MethodId) (x0 : Addr) (x1 : Int32) : entryFrame m #[(.ref x0), (.int x1)] 2 = mkF m 0 #[.val (.ref x0), .val (.int x1)] [] := by first | (simp [entryFrame, mkF, argsToLocals, Value.category]; done) | rfl
theorem own_pn5 : plainName "java/lang/StringLatin1" = true := by first | (simp [plainName, overriddenIn]; done) | decide +kernel
theorem own_w67 {Z : State} {a0 : Array Value} (hw : HW a0 Z) : (Cond.code ⟨"java/lang/StringLatin1", "charAt", "([BI)C"⟩ jdk_43_method_2_code 2 (Option.some Jvm.ClassFile.FieldType.char)).before a0 Z = true := hw _ (List.mem_of_getElem? (i := 67) rfl)
theorem own_w66 {Z : State} {a0 : Array Value} (hw : HW a0 Z) : (Cond.initialized "java/lang/StringLatin1").before a0 Z = true := hw _ (List.mem_of_getElem? (i := 66) rfl)
theorem own_pd13 : parseMethodDescriptor "([BI)C" = some ⟨[(.array .byte), .int], some .char⟩ := by decide +kernel
theorem own_w65 {Z : State} {a0 : Array Value} (hw : HW a0 Z) : (Cond.static ⟨"java/lang/StringLatin1", "charAt", "([BI)C"⟩).before a0 Z = true := hw _ (List.mem_of_getElem? (i := 65) rfl)
theorem d11_15 : decode jdk_42_method_56_code 15 = .ok (.ireturn, 1) := by decide +kernel
theorem ef_rm11_0 (m : MethodId) (x0 : Addr) (x1 : Int32) : entryFrame m #[(.ref x0), (.int x1)] 2 = mkF m 0 #[.val (.ref x0), .val (.int x1)] [] := by first | (simp [entryFrame, mkF, argsToLocals, Value.category]; done) | rfl
theorem own_w58 {Z : State} {a0 : Array Value} (hw : HW a0 Z) : (Cond.code ⟨"java/lang/String", "charAt", "(I)C"⟩ jdk_42_method_56_code 2 (Option.some Jvm.ClassFile.FieldType.char)).before a0 Z = true := hw _ (List.mem_of_getElem? (i := 58) rfl)
theorem own_pd14 : parseMethodDescriptor "(I)C" = some ⟨[.int], some .char⟩ := by decide +kernel
theorem own_w57 {Z : State} {a0 : Array Value} (hw : HW a0 Z) : (Cond.selects "java/lang/String" ⟨"java/lang/String", "charAt", "(I)C"⟩ ⟨"java/lang/String", "charAt", "(I)C"⟩).before a0 Z = true := hw _ (List.mem_of_getElem? (i := 57) rfl)
theorem own_w55 {Z : State} {a0 : Array Value} (hw : HW a0 Z) : (Cond.declares ⟨"java/lang/String", "charAt", "(I)C"⟩).before a0 Z = true := hw _ (List.mem_of_getElem? (i := 55) rfl)
theorem own_w56 {Z : State} {a0 : Array Value} (hw : HW a0 Z) : (Cond.instanceMethod ⟨"java/lang/String", "charAt", "(I)C"⟩).before a0 Z = true := hw _ (List.mem_of_getElem? (i := 56) rfl)
theorem own_w76 {Z : State} {a0 : Array Value} (hw : HW a0 Z) : (Cond.methodLink "com/example/tryst/tryst/encoding/Base32" 30 ⟨"java/lang/String", "indexOf", "(I)I"⟩).before a0 Z = true := hw _ (List.mem_of_getElem? (i := 76) rfl)
theorem d8_69 : decode prog_8_method_2_code 69 = .ok (.invokevirtual 30, 3) := by decide +kernel
theorem d16_0 : decode jdk_42_method_79_code 0 = .ok (.aload_n 0, 1) := by decide +kernel
theorem d16_1 : decode jdk_42_method_79_code 1 = .ok (.iload_n 1, 1) := by decide +kernel
theorem d16_2 : decode jdk_42_method_79_code 2 = .ok (.iconst 0, 1) := by decide +kernel
theorem own_w81 {Z : State} {a0 : Array Value} (hw : HW a0 Z) : (Cond.methodLink "java/lang/String" 633 ⟨"java/lang/String", "indexOf", "(II)I"⟩).before a0 Z = true := hw _ (List.mem_of_getElem? (i := 81) rfl)
theorem sg16_0_3 : decs jdk_42_method_79_code [(0, .aload_n 0, 1), (1, .iload_n 1, 1), (2, .iconst 0, 1)] := ⟨d16_0, d16_1, d16_2, trivial⟩
theorem d16_3 : decode jdk_42_method_79_code 3 = .ok (.invokevirtual 633, 3) := by decide +kernel
theorem d17_0 : decode jdk_42_method_80_code 0 = .ok (.aload_n 0, 1) := by decide +kernel
theorem sg17_0_1 : decs jdk_42_method_80_code [(0, .aload_n 0, 1)] := ⟨d17_0, trivial⟩
theorem d17_1 : decode jdk_42_method_80_code 1 = .ok (.invokevirtual 492, 3) := by decide +kernel
theorem d17_4 : decode jdk_42_method_80_code 4 = .ok (.ifCond .eq 19, 3) := by decide +kernel
theorem d17_7 : decode jdk_42_method_80_code 7 = .ok (.aload_n 0, 1) := by decide +kernel
theorem sg17_7_1 : decs jdk_42_method_80_code [(7, .aload_n 0, 1)] := ⟨d17_7, trivial⟩
theorem d17_8 : decode jdk_42_method_80_code 8 = .ok (.getfield 9, 3) := by decide +kernel
theorem d17_11 : decode jdk_42_method_80_code 11 = .ok (.iload_n 1, 1) := by decide +kernel
theorem d17_12 : decode jdk_42_method_80_code 12 = .ok (.iload_n 2, 1) := by decide +kernel
theorem d17_13 : decode jdk_42_method_80_code 13 = .ok (.aload_n 0, 1) := by decide +kernel
theorem own_w86 {Z : State} {a0 : Array Value} (hw : HW a0 Z) : (Cond.methodLink "java/lang/String" 505 ⟨"java/lang/String", "length", "()I"⟩).before a0 Z = true := hw _ (List.mem_of_getElem? (i := 86) rfl)
theorem sg17_11_3 : decs jdk_42_method_80_code [(11, .iload_n 1, 1), (12, .iload_n 2, 1), (13, .aload_n 0, 1)] := ⟨d17_11, d17_12, d17_13, trivial⟩
theorem d17_14 : decode jdk_42_method_80_code 14 = .ok (.invokevirtual 505, 3) := by decide +kernel
theorem ef_rm9_2 (m : MethodId) (x0 : Addr) : entryFrame m #[(.ref x0)] 1 = mkF m 0 #[.val (.ref x0)] [] := by first | (simp [entryFrame, mkF, argsToLocals, Value.category]; done) | rfl
theorem own_w87 {Z : State} {a0 : Array Value} (hw : HW a0 Z) : (Cond.methodLink "java/lang/String" 637 ⟨"java/lang/StringLatin1", "indexOf", "([BIII)I"⟩).before a0 Z = true := hw _ (List.mem_of_getElem? (i := 87) rfl)
theorem d17_17 : decode jdk_42_method_80_code 17 = .ok (.invokestatic 637, 3) := by decide +kernel
theorem d18_0 : decode jdk_43_method_22_code 0 = .ok (.iload_n 1, 1) := by decide +kernel
theorem own_w90 {Z : State} {a0 : Array Value} (hw : HW a0 Z) : (Cond.methodLink "java/lang/StringLatin1" 88 ⟨"java/lang/StringLatin1", "canEncode", "(I)Z"⟩).before a0 Z = true := hw _ (List.mem_of_getElem? (i := 90) rfl)
theorem sg18_0_1 : decs jdk_43_method_22_code [(0, .iload_n 1, 1)] := ⟨d18_0, trivial⟩
theorem d18_1 : decode jdk_43_method_22_code 1 = .ok (.invokestatic 88, 3) := by decide +kernel
theorem d19_0 : decode jdk_43_method_4_code 0 = .ok (.iload_n 0, 1) := by decide +kernel
theorem sg19_0_1 : decs jdk_43_method_4_code [(0, .iload_n 0, 1)] := ⟨d19_0, trivial⟩
theorem d19_1 : decode jdk_43_method_4_code 1 = .ok (.ifCond .lt 14, 3) := by decide +kernel
theorem d19_4 : decode jdk_43_method_4_code 4 = .ok (.iload_n 0, 1) := by decide +kernel
theorem d19_5 : decode jdk_43_method_4_code 5 = .ok (.sipush 255, 3) := by decide +kernel
theorem sg19_4_2 : decs jdk_43_method_4_code [(4, .iload_n 0, 1), (5, .sipush 255, 3)] := ⟨d19_4, d19_5, trivial⟩
theorem d19_8 : decode jdk_43_method_4_code 8 = .ok (.if_icmp .gt 7, 3) := by decide +kernel
theorem d19_11 : decode jdk_43_method_4_code 11 = .ok (.iconst 1, 1) := by decide +kernel
theorem d19_12 : decode jdk_43_method_4_code 12 = .ok (.goto 4, 3) := by decide +kernel
theorem sg19_11_2 : decs jdk_43_method_4_code [(11, .iconst 1, 1), (12, .goto 4, 3)] := ⟨d19_11, d19_12, trivial⟩
theorem d19_16 : decode jdk_43_method_4_code 16 = .ok (.ireturn, 1) := by decide +kernel
theorem ef_rm19_0 (m : MethodId) (x0 : Int32) : entryFrame m #[(.int x0)] 1 = mkF m 0 #[.val (.int x0)] [] := by first | (simp [entryFrame, mkF, argsToLocals, Value.category]; done) | rfl
theorem own_w92 {Z : State} {a0 : Array Value} (hw : HW a0 Z) : (Cond.code ⟨"java/lang/StringLatin1", "canEncode", "(I)Z"⟩ jdk_43_method_4_code 1 (Option.some Jvm.ClassFile.FieldType.boolean)).before a0 Z = true := hw _ (List.mem_of_getElem? (i := 92) rfl)
theorem own_pd15 : parseMethodDescriptor "(I)Z" = some ⟨[.int], some .boolean⟩ := by decide +kernel
theorem own_w91 {Z : State} {a0 : Array Value} (hw : HW a0 Z) : (Cond.static ⟨"java/lang/StringLatin1", "canEncode", "(I)Z"⟩).before a0 Z = true := hw _ (List.mem_of_getElem? (i := 91) rfl)
theorem d18_4 : decode jdk_43_method_22_code 4 = .ok (.ifCond .ne 5, 3) := by decide +kernel
theorem d18_9 : decode jdk_43_method_22_code 9 = .ok (.iload_n 2, 1) := by decide +kernel
theorem d18_10 : decode jdk_43_method_22_code 10 = .ok (.iconst 0, 1) := by decide +kernel
theorem own_w93 {Z : State} {a0 : Array Value} (hw : HW a0 Z) : (Cond.methodLink "java/lang/StringLatin1" 92 ⟨"java/lang/Math", "max", "(II)I"⟩).before a0 Z = true := hw _ (List.mem_of_getElem? (i := 93) rfl)
theorem sg18_9_2 : decs jdk_43_method_22_code [(9, .iload_n 2, 1), (10, .iconst 0, 1)] := ⟨d18_9, d18_10, trivial⟩
theorem d18_11 : decode jdk_43_method_22_code 11 = .ok (.invokestatic 92, 3) := by decide +kernel
theorem d20_0 : decode jdk_29_method_65_code 0 = .ok (.iload_n 0, 1) := by decide +kernel
theorem d20_1 : decode jdk_29_method_65_code 1 = .ok (.iload_n 1, 1) := by decide +kernel
theorem sg20_0_2 : decs jdk_29_method_65_code [(0, .iload_n 0, 1), (1, .iload_n 1, 1)] := ⟨d20_0, d20_1, trivial⟩
theorem d20_2 : decode jdk_29_method_65_code 2 = .ok (.if_icmp .lt 7, 3) := by decide +kernel
theorem d20_5 : decode jdk_29_method_65_code 5 = .ok (.iload_n 0, 1) := by decide +kernel
theorem d20_6 : decode jdk_29_method_65_code 6 = .ok (.goto 4, 3) := by decide +kernel
theorem sg20_5_2 : decs jdk_29_method_65_code [(5, .iload_n 0, 1), (6, .goto 4, 3)] := ⟨d20_5, d20_6, trivial⟩
theorem d20_10 : decode jdk_29_method_65_code 10 = .ok (.ireturn, 1) := by decide +kernel
theorem ef_rm20_0 (m : MethodId) (x0 : Int32) : entryFrame m #[(.int x0), (.int x0)] 2 = mkF m 0 #[.val (.int x0), .val (.int x0)] [] := by first | (simp [entryFrame, mkF, argsToLocals, Value.category]; done) | rfl
theorem own_w96 {Z : State} {a0 : Array Value} (hw : HW a0 Z) : (Cond.code ⟨"java/lang/Math", "max", "(II)I"⟩ jdk_29_method_65_code 2 (Option.some Jvm.ClassFile.FieldType.int)).before a0 Z = true := hw _ (List.mem_of_getElem? (i := 96) rfl)
theorem own_w95 {Z : State} {a0 : Array Value} (hw : HW a0 Z) : (Cond.initialized "java/lang/Math").before a0 Z = true := hw _ (List.mem_of_getElem? (i := 95) rfl)
theorem own_pd16 : parseMethodDescriptor "(II)I" = some ⟨[.int, .int], some .int⟩ := by decide +kernel
theorem own_w94 {Z : State} {a0 : Array Value} (hw : HW a0 Z) : (Cond.static ⟨"java/lang/Math", "max", "(II)I"⟩).before a0 Z = true := hw _ (List.mem_of_getElem? (i := 94) rfl)
theorem d18_14 : decode jdk_43_method_22_code 14 = .ok (.istore_n 2, 1) := by decide +kernel
theorem d18_15 : decode jdk_43_method_22_code 15 = .ok (.iload_n 3, 1) := by decide +kernel
theorem d18_16 : decode jdk_43_method_22_code 16 = .ok (.aload_n 0, 1) := by decide +kernel
theorem sg18_14_3 : decs jdk_43_method_22_code [(14, .istore_n 2, 1), (15, .iload_n 3, 1), (16, .aload_n 0, 1)] := ⟨d18_14, d18_15, d18_16, trivial⟩
theorem d18_17 : decode jdk_43_method_22_code 17 = .ok (.arraylength, 1) := by decide +kernel
theorem own_w97 {Z : State} {a0 : Array Value} (hw : HW a0 Z) : (Cond.methodLink "java/lang/StringLatin1" 38 ⟨"java/lang/Math", "min", "(II)I"⟩).before a0 Z = true := hw _ (List.mem_of_getElem? (i := 97) rfl)
theorem d18_18 : decode jdk_43_method_22_code 18 = .ok (.invokestatic 38, 3) := by decide +kernel
theorem d21_0 : decode jdk_29_method_69_code 0 = .ok (.iload_n 0, 1) := by decide +kernel
theorem d21_1 : decode jdk_29_method_69_code 1 = .ok (.iload_n 1, 1) := by decide +kernel
theorem sg21_0_2 : decs jdk_29_method_69_code [(0, .iload_n 0, 1), (1, .iload_n 1, 1)] := ⟨d21_0, d21_1, trivial⟩
theorem d21_2 : decode jdk_29_method_69_code 2 = .ok (.if_icmp .gt 7, 3) := by decide +kernel
theorem d21_5 : decode jdk_29_method_69_code 5 = .ok (.iload_n 0, 1) := by decide +kernel
theorem d21_6 : decode jdk_29_method_69_code 6 = .ok (.goto 4, 3) := by decide +kernel
theorem sg21_5_2 : decs jdk_29_method_69_code [(5, .iload_n 0, 1), (6, .goto 4, 3)] := ⟨d21_5, d21_6, trivial⟩
theorem d21_10 : decode jdk_29_method_69_code 10 = .ok (.ireturn, 1) := by decide +kernel
theorem ef_rm21_0 (m : MethodId) (x0 : Int32) : entryFrame m #[(.int x0), (.int x0)] 2 = mkF m 0 #[.val (.int x0), .val (.int x0)] [] := by first | (simp [entryFrame, mkF, argsToLocals, Value.category]; done) | rfl
theorem own_w99 {Z : State} {a0 : Array Value} (hw : HW a0 Z) : (Cond.code ⟨"java/lang/Math", "min", "(II)I"⟩ jdk_29_method_69_code 2 (Option.some Jvm.ClassFile.FieldType.int)).before a0 Z = true := hw _ (List.mem_of_getElem? (i := 99) rfl)
theorem own_w98 {Z : State} {a0 : Array Value} (hw : HW a0 Z) : (Cond.static ⟨"java/lang/Math", "min", "(II)I"⟩).before a0 Z = true := hw _ (List.mem_of_getElem? (i := 98) rfl)
theorem d18_21 : decode jdk_43_method_22_code 21 = .ok (.istore_n 3, 1) := by decide +kernel
theorem d18_22 : decode jdk_43_method_22_code 22 = .ok (.iload_n 2, 1) := by decide +kernel
theorem d18_23 : decode jdk_43_method_22_code 23 = .ok (.iload_n 3, 1) := by decide +kernel
theorem sg18_21_3 : decs jdk_43_method_22_code [(21, .istore_n 3, 1), (22, .iload_n 2, 1), (23, .iload_n 3, 1)] := ⟨d18_21, d18_22, d18_23, trivial⟩
theorem d18_24 : decode jdk_43_method_22_code 24 = .ok (.if_icmp .lt 5, 3) := by decide +kernel
theorem d18_29 : decode jdk_43_method_22_code 29 = .ok (.aload_n 0, 1) := by decide +kernel
theorem d18_30 : decode jdk_43_method_22_code 30 = .ok (.iload_n 1, 1) := by decide +kernel
theorem d18_31 : decode jdk_43_method_22_code 31 = .ok (.iload_n 2, 1) := by decide +kernel
theorem d18_32 : decode jdk_43_method_22_code 32 = .ok (.iload_n 3, 1) := by decide +kernel
theorem own_w100 {Z : State} {a0 : Array Value} (hw : HW a0 Z) : (Cond.methodLink "java/lang/StringLatin1" 95 ⟨"java/lang/StringLatin1", "indexOfChar", "([BIII)I"⟩).before a0 Z = true := hw _ (List.mem_of_getElem? (i := 100) rfl)
theorem sg18_29_4 : decs jdk_43_method_22_code [(29, .aload_n 0, 1), (30, .iload_n 1, 1), (31, .iload_n 2, 1), (32, .iload_n 3, 1)] := ⟨d18_29, d18_30, d18_31, d18_32, trivial⟩
theorem d18_33 : decode jdk_43_method_22_code 33 = .ok (.invokestatic 95, 3) := by decide +kernel
abbrev own_TI0 : List Int32 := [(97 : Int32), (98 : Int32), (99 : Int32), (100 : Int32), (101 : Int32), (102 : Int32), (103 : Int32), (104 : Int32), (105 : Int32), (106 : Int32), (107 : Int32), (108 : Int32), (109 : Int32), (110 : Int32), (111 : Int32), (112 : Int32), (113 : Int32), (114 : Int32), (115 : Int32), (116 : Int32), (117 : Int32), (118 : Int32), (119 : Int32), (120 : Int32), (121 : Int32), (122 : Int32), (50 : Int32), (51 : Int32), (52 : Int32), (53 : Int32), (54 : Int32), (55 : Int32)]
def f_rm22_0 (i1 : Int32) : Int32 := own_from (i1.toInt8.toInt32) own_TI0 (0 : Int32)
theorem d22_0 : decode jdk_43_method_23_code 0 = .ok (.iload_n 1, 1) := by decide +kernel
theorem d22_1 : decode jdk_43_method_23_code 1 = .ok (.i2b, 1) := by decide +kernel
theorem d22_2 : decode jdk_43_method_23_code 2 = .ok (.istore 4, 2) := by decide +kernel
theorem d22_4 : decode jdk_43_method_23_code 4 = .ok (.iload_n 2, 1) := by decide +kernel
theorem d22_5 : decode jdk_43_method_23_code 5 = .ok (.istore 5, 2) := by decide +kernel
theorem sg22_0_5 : decs jdk_43_method_23_code [(0, .iload_n 1, 1), (1, .i2b, 1), (2, .istore 4, 2), (4, .iload_n 2, 1), (5, .istore 5, 2)] := ⟨d22_0, d22_1, d22_2, d22_4, d22_5, trivial⟩
theorem d22_7 : decode jdk_43_method_23_code 7 = .ok (.iload 5, 2) := by decide +kernel
theorem d22_9 : decode jdk_43_method_23_code 9 = .ok (.iload_n 3, 1) := by decide +kernel
theorem sg22_7_2 : decs jdk_43_method_23_code [(7, .iload 5, 2), (9, .iload_n 3, 1)] := ⟨d22_7, d22_9, trivial⟩
theorem d22_10 : decode jdk_43_method_23_code 10 = .ok (.if_icmp .ge 21, 3) := by decide +kernel
theorem d22_31 : decode jdk_43_method_23_code 31 = .ok (.iconst (-1), 1) := by decide +kernel
theorem sg22_31_1 : decs jdk_43_method_23_code [(31, .iconst (-1), 1)] := ⟨d22_31, trivial⟩
theorem d22_32 : decode jdk_43_method_23_code 32 = .ok (.ireturn, 1) := by decide +kernel
theorem d22_13 : decode jdk_43_method_23_code 13 = .ok (.aload_n 0, 1) := by decide +kernel
theorem d22_14 : decode jdk_43_method_23_code 14 = .ok (.iload 5, 2) := by decide +kernel
theorem sg22_13_2 : decs jdk_43_method_23_code [(13, .aload_n 0, 1), (14, .iload 5, 2)] := ⟨d22_13, d22_14, trivial⟩
theorem d22_16 : decode jdk_43_method_23_code 16 = .ok (.baload, 1) := by decide +kernel
theorem d22_17 : decode jdk_43_method_23_code 17 = .ok (.iload 4, 2) := by decide +kernel
theorem sg22_17_1 : decs jdk_43_method_23_code [(17, .iload 4, 2)] := ⟨d22_17, trivial⟩
theorem d22_19 : decode jdk_43_method_23_code 19 = .ok (.if_icmp .ne 6, 3) := by decide +kernel
theorem d22_22 : decode jdk_43_method_23_code 22 = .ok (.iload 5, 2) := by decide +kernel
theorem sg22_22_1 : decs jdk_43_method_23_code [(22, .iload 5, 2)] := ⟨d22_22, trivial⟩
theorem d22_24 : decode jdk_43_method_23_code 24 = .ok (.ireturn, 1) := by decide +kernel
theorem d22_25 : decode jdk_43_method_23_code 25 = .ok (.iinc 5 1, 3) := by decide +kernel
theorem d22_28 : decode jdk_43_method_23_code 28 = .ok (.goto (-21), 3) := by decide +kernel
theorem sg22_25_2 : decs jdk_43_method_23_code [(25, .iinc 5 1, 3), (28, .goto (-21), 3)] := ⟨d22_25, d22_28, trivial⟩
theorem ef_rm22_0 (m : MethodId) (x0 : Addr) (x1 : Int32) (x2 : Int32) (x3 : Int32) : entryFrame m #[(.ref x0), (.int x1), (.int x2), (.int x3)] 6 = mkF m 0 #[.val (.ref x0), .val (.int x1), .val (.int x2), .val (.int x3), .unset, .unset] [] := by first | (simp [entryFrame, mkF, argsToLocals, Value.category]; done) | rfl
theorem own_w102 {Z : State} {a0 : Array Value} (hw : HW a0 Z) : (Cond.code ⟨"java/lang/StringLatin1", "indexOfChar", "([BIII)I"⟩ jdk_43_method_23_code 6 (Option.some Jvm.ClassFile.FieldType.int)).before a0 Z = true := hw _ (List.mem_of_getElem? (i := 102) rfl)
theorem own_pd17 : parseMethodDescriptor "([BIII)I" = some ⟨[(.array .byte), .int, .int, .int], some .int⟩ := by decide +kernel
theorem own_w101 {Z : State} {a0 : Array Value} (hw : HW a0 Z) : (Cond.static ⟨"java/lang/StringLatin1", "indexOfChar", "([BIII)I"⟩).before a0 Z = true := hw _ (List.mem_of_getElem? (i := 101) rfl)
theorem d18_36 : decode jdk_43_method_22_code 36 = .ok (.ireturn, 1) := by decide +kernel
theorem ef_rm18_0 (m : MethodId) (x0 : Addr) (x1 : Int32) (x2 : Int32) (x3 : Int32) : entryFrame m #[(.ref x0), (.int x1), (.int x2), (.int x3)] 4 = mkF m 0 #[.val (.ref x0), .val (.int x1), .val (.int x2), .val (.int x3)] [] := by first | (simp [entryFrame, mkF, argsToLocals, Value.category]; done) | rfl
theorem own_w89 {Z : State} {a0 : Array Value} (hw : HW a0 Z) : (Cond.code ⟨"java/lang/StringLatin1", "indexOf", "([BIII)I"⟩ jdk_43_method_22_code 4 (Option.some Jvm.ClassFile.FieldType.int)).before a0 Z = true := hw _ (List.mem_of_getElem? (i := 89) rfl)
theorem own_w88 {Z : State} {a0 : Array Value} (hw : HW a0 Z) : (Cond.static ⟨"java/lang/StringLatin1", "indexOf", "([BIII)I"⟩).before a0 Z = true := hw _ (List.mem_of_getElem? (i := 88) rfl)
theorem d17_20 : decode jdk_42_method_80_code 20 = .ok (.goto 16, 3) := by decide +kernel
theorem sg17_20_1 : decs jdk_42_method_80_code [(20, .goto 16, 3)] := ⟨d17_20, trivial⟩
theorem d17_36 : decode jdk_42_method_80_code 36 = .ok (.ireturn, 1) := by decide +kernel
theorem ef_rm17_0 (m : MethodId) (x0 : Addr) (x1 : Int32) (x2 : Int32) : entryFrame m #[(.ref x0), (.int x1), (.int x2)] 3 = mkF m 0 #[.val (.ref x0), .val (.int x1), .val (.int x2)] [] := by first | (simp [entryFrame, mkF, argsToLocals, Value.category]; done) | rfl
theorem own_w85 {Z : State} {a0 : Array Value} (hw : HW a0 Z) : (Cond.code ⟨"java/lang/String", "indexOf", "(II)I"⟩ jdk_42_method_80_code 3 (Option.some Jvm.ClassFile.FieldType.int)).before a0 Z = true := hw _ (List.mem_of_getElem? (i := 85) rfl)
theorem own_w84 {Z : State} {a0 : Array Value} (hw : HW a0 Z) : (Cond.selects "java/lang/String" ⟨"java/lang/String", "indexOf", "(II)I"⟩ ⟨"java/lang/String", "indexOf", "(II)I"⟩).before a0 Z = true := hw _ (List.mem_of_getElem? (i := 84) rfl)
theorem own_w82 {Z : State} {a0 : Array Value} (hw : HW a0 Z) : (Cond.declares ⟨"java/lang/String", "indexOf", "(II)I"⟩).before a0 Z = true := hw _ (List.mem_of_getElem? (i := 82) rfl)
theorem own_w83 {Z : State} {a0 : Array Value} (hw : HW a0 Z) : (Cond.instanceMethod ⟨"java/lang/String", "indexOf", "(II)I"⟩).before a0 Z = true := hw _ (List.mem_of_getElem? (i := 83) rfl)
theorem d16_6 : decode jdk_42_method_79_code 6 = .ok (.ireturn, 1) := by decide +kernel
theorem ef_rm16_0 (m : MethodId) (x0 : Addr) (x1 : Int32) : entryFrame m #[(.ref x0), (.int x1)] 2 = mkF m 0 #[.val (.ref x0), .val (.int x1)] [] := by first | (simp [entryFrame, mkF, argsToLocals, Value.category]; done) | rfl
theorem own_w80 {Z : State} {a0 : Array Value} (hw : HW a0 Z) : (Cond.code ⟨"java/lang/String", "indexOf", "(I)I"⟩ jdk_42_method_79_code 2 (Option.some Jvm.ClassFile.FieldType.int)).before a0 Z = true := hw _ (List.mem_of_getElem? (i := 80) rfl)
theorem own_pd18 : parseMethodDescriptor "(I)I" = some ⟨[.int], some .int⟩ := by decide +kernel
theorem own_w79 {Z : State} {a0 : Array Value} (hw : HW a0 Z) : (Cond.selects "java/lang/String" ⟨"java/lang/String", "indexOf", "(I)I"⟩ ⟨"java/lang/String", "indexOf", "(I)I"⟩).before a0 Z = true := hw _ (List.mem_of_getElem? (i := 79) rfl)
theorem own_w77 {Z : State} {a0 : Array Value} (hw : HW a0 Z) : (Cond.declares ⟨"java/lang/String", "indexOf", "(I)I"⟩).before a0 Z = true := hw _ (List.mem_of_getElem? (i := 77) rfl)
theorem own_w78 {Z : State} {a0 : Array Value} (hw : HW a0 Z) : (Cond.instanceMethod ⟨"java/lang/String", "indexOf", "(I)I"⟩).before a0 Z = true := hw _ (List.mem_of_getElem? (i := 78) rfl)
theorem d8_72 : decode prog_8_method_2_code 72 = .ok (.istore 6, 2) := by decide +kernel
theorem sg8_72_1 : decs prog_8_method_2_code [(72, .istore 6, 2)] := ⟨d8_72, trivial⟩
theorem d8_74 : decode prog_8_method_2_code 74 = .ok (.iload 6, 2) := by decide +kernel
theorem sg8_74_1 : decs prog_8_method_2_code [(74, .iload 6, 2)] := ⟨d8_74, trivial⟩
theorem d8_76 : decode prog_8_method_2_code 76 = .ok (.ifCond .ge 22, 3) := by decide +kernel
theorem d8_98 : decode prog_8_method_2_code 98 = .ok (.iload_n 3, 1) := by decide +kernel
theorem d8_99 : decode prog_8_method_2_code 99 = .ok (.iconst 5, 1) := by decide +kernel
theorem d8_100 : decode prog_8_method_2_code 100 = .ok (.ishl, 1) := by decide +kernel
theorem d8_101 : decode prog_8_method_2_code 101 = .ok (.iload 6, 2) := by decide +kernel
theorem d8_103 : decode prog_8_method_2_code 103 = .ok (.ior, 1) := by decide +kernel
theorem d8_104 : decode prog_8_method_2_code 104 = .ok (.istore_n 3, 1) := by decide +kernel
theorem sg8_98_6 : decs prog_8_method_2_code [(98, .iload_n 3, 1), (99, .iconst 5, 1), (100, .ishl, 1), (101, .iload 6, 2), (103, .ior, 1), (104, .istore_n 3, 1)] := ⟨d8_98, d8_99, d8_100, d8_101, d8_103, d8_104, trivial⟩
theorem d8_105 : decode prog_8_method_2_code 105 = .ok (.iinc 2 5, 3) := by decide +kernel
theorem d8_108 : decode prog_8_method_2_code 108 = .ok (.iload_n 2, 1) := by decide +kernel
theorem d8_109 : decode prog_8_method_2_code 109 = .ok (.bipush 8, 2) := by decide +kernel
theorem sg8_105_3 : decs prog_8_method_2_code [(105, .iinc 2 5, 3), (108, .iload_n 2, 1), (109, .bipush 8, 2)] := ⟨d8_105, d8_108, d8_109, trivial⟩
theorem d8_111 : decode prog_8_method_2_code 111 = .ok (.if_icmp .lt 25, 3) := by decide +kernel
theorem d8_136 : decode prog_8_method_2_code 136 = .ok (.iinc 5 1, 3) := by decide +kernel
theorem d8_139 : decode prog_8_method_2_code 139 = .ok (.goto (-87), 3) := by decide +kernel
theorem sg8_136_4 : decs prog_8_method_2_code [(136, .iinc 5 1, 3), (139, .goto (-87), 3), (52, .iload 5, 2), (54, .aload_n 0, 1)] := ⟨d8_136, d8_139, d8_52, d8_54, trivial⟩
theorem d8_114 : decode prog_8_method_2_code 114 = .ok (.iinc 2 (-8), 3) := by decide +kernel
theorem d8_117 : decode prog_8_method_2_code 117 = .ok (.aload_n 1, 1) := by decide +kernel
theorem d8_118 : decode prog_8_method_2_code 118 = .ok (.iload 4, 2) := by decide +kernel
theorem d8_120 : decode prog_8_method_2_code 120 = .ok (.iinc 4 1, 3) := by decide +kernel
theorem d8_123 : decode prog_8_method_2_code 123 = .ok (.iload_n 3, 1) := by decide +kernel
theorem d8_124 : decode prog_8_method_2_code 124 = .ok (.iload_n 2, 1) := by decide +kernel
theorem d8_125 : decode prog_8_method_2_code 125 = .ok (.iushr, 1) := by decide +kernel
theorem d8_126 : decode prog_8_method_2_code 126 = .ok (.i2b, 1) := by decide +kernel
theorem sg8_114_8 : decs prog_8_method_2_code [(114, .iinc 2 (-8), 3), (117, .aload_n 1, 1), (118, .iload 4, 2), (120, .iinc 4 1, 3), (123, .iload_n 3, 1), (124, .iload_n 2, 1), (125, .iushr, 1), (126, .i2b, 1)] := ⟨d8_114, d8_117, d8_118, d8_120, d8_123, d8_124, d8_125, d8_126, trivial⟩
theorem d8_127 : decode prog_8_method_2_code 127 = .ok (.bastore, 1) := by decide +kernel
theorem d8_128 : decode prog_8_method_2_code 128 = .ok (.iload_n 3, 1) := by decide +kernel
theorem d8_129 : decode prog_8_method_2_code 129 = .ok (.iconst 1, 1) := by decide +kernel
theorem d8_130 : decode prog_8_method_2_code 130 = .ok (.iload_n 2, 1) := by decide +kernel
theorem d8_131 : decode prog_8_method_2_code 131 = .ok (.ishl, 1) := by decide +kernel
theorem d8_132 : decode prog_8_method_2_code 132 = .ok (.iconst 1, 1) := by decide +kernel
theorem d8_133 : decode prog_8_method_2_code 133 = .ok (.isub, 1) := by decide +kernel
theorem d8_134 : decode prog_8_method_2_code 134 = .ok (.iand, 1) := by decide +kernel
theorem d8_135 : decode prog_8_method_2_code 135 = .ok (.istore_n 3, 1) := by decide +kernel
theorem sg8_128_8 : decs prog_8_method_2_code [(128, .iload_n 3, 1), (129, .iconst 1, 1), (130, .iload_n 2, 1), (131, .ishl, 1), (132, .iconst 1, 1), (133, .isub, 1), (134, .iand, 1), (135, .istore_n 3, 1)] := ⟨d8_128, d8_129, d8_130, d8_131, d8_132, d8_133, d8_134, d8_135, trivial⟩
theorem ef_rm8_1 (m : MethodId) (x0 : Addr) : entryFrame m #[(.ref x0)] 7 = mkF m 0 #[.val (.ref x0), .unset, .unset, .unset, .unset, .unset, .unset] [] := by first | (simp [entryFrame, mkF, argsToLocals, Value.category]; done) | rfl
theorem d23_8 : decode method_3_code 8 = .ok (.aload_n 0, 1) := by decide +kernel
theorem d23_9 : decode method_3_code 9 = .ok (.iload 4, 2) := by decide +kernel
theorem sg23_8_2 : decs method_3_code [(8, .aload_n 0, 1), (9, .iload 4, 2)] := ⟨d23_8, d23_9, trivial⟩
theorem d23_11 : decode method_3_code 11 = .ok (.baload, 1) := by decide +kernel
theorem d23_12 : decode method_3_code 12 = .ok (.lload_n 1, 1) := by decide +kernel
theorem d23_13 : decode method_3_code 13 = .ok (.bipush 32, 2) := by decide +kernel
theorem d23_15 : decode method_3_code 15 = .ok (.bipush 8, 2) := by decide +kernel
theorem d23_17 : decode method_3_code 17 = .ok (.iload 4, 2) := by decide +kernel
theorem d23_19 : decode method_3_code 19 = .ok (.imul, 1) := by decide +kernel
theorem d23_20 : decode method_3_code 20 = .ok (.isub, 1) := by decide +kernel
theorem d23_21 : decode method_3_code 21 = .ok (.lushr, 1) := by decide +kernel
theorem d23_22 : decode method_3_code 22 = .ok (.l2i, 1) := by decide +kernel
theorem d23_23 : decode method_3_code 23 = .ok (.i2b, 1) := by decide +kernel
theorem sg23_12_9 : decs method_3_code [(12, .lload_n 1, 1), (13, .bipush 32, 2), (15, .bipush 8, 2), (17, .iload 4, 2), (19, .imul, 1), (20, .isub, 1), (21, .lushr, 1), (22, .l2i, 1), (23, .i2b, 1)] := ⟨d23_12, d23_13, d23_15, d23_17, d23_19, d23_20, d23_21, d23_22, d23_23, trivial⟩
theorem d23_24 : decode method_3_code 24 = .ok (.if_icmp .ne 7, 3) := by decide +kernel
theorem d23_27 : decode method_3_code 27 = .ok (.iconst 1, 1) := by decide +kernel
theorem d23_28 : decode method_3_code 28 = .ok (.goto 4, 3) := by decide +kernel
theorem sg23_27_2 : decs method_3_code [(27, .iconst 1, 1), (28, .goto 4, 3)] := ⟨d23_27, d23_28, trivial⟩
theorem d23_31 : decode method_3_code 31 = .ok (.iconst 0, 1) := by decide +kernel
theorem sg23_31_1 : decs method_3_code [(31, .iconst 0, 1)] := ⟨d23_31, trivial⟩
theorem d23_32 : decode method_3_code 32 = .ok (.ireturn, 1) := by decide +kernel
def f_rm23_1 (j1 : Int64) (i3 u1 : Int32) : Int32 := (if i3 < (1 : Int32) then (if (own_at [u1] i3) = ((((j1.toUInt64 >>> (((32 : Int32) - ((8 : Int32) * i3)) &&& 0x3f).toInt64.toUInt64).toInt64).toInt32).toInt8.toInt32) then (1 : Int32) else (0 : Int32)) else (1 : Int32))
theorem ef_rm23_1 (m : MethodId) (x0 : Addr) (x1 : Int64) (x2 : Int32) (x3 : Int32) : entryFrame m #[(.ref x0), (.long x1), (.int x2), (.int x3)] 5 = mkF m 0 #[.val (.ref x0), .val (.long x1), .second, .val (.int x2), .val (.int x3)] [] := by first | (simp [entryFrame, mkF, argsToLocals, Value.category]; done) | rfl
theorem sg0_401_1 : decs code [(401, .iconst 0, 1)] := ⟨at_401, trivial⟩
theorem ef_rm6_1 (m : MethodId) (x0 : Addr) (x1 : Int32) (x2 : Addr) (x4 : Int32) : entryFrame m #[(.ref x0), (.int x1), (.ref x2), (.int x1), (.int x4)] 7 = mkF m 0 #[.val (.ref x0), .val (.int x1), .val (.ref x2), .val (.int x1), .val (.int x4), .unset, .unset] [] := by first | (simp [entryFrame, mkF, argsToLocals, Value.category]; done) | rfl
theorem ef_rm5_1 (m : MethodId) (x0 : Addr) (x1 : Int32) (x2 : Int32) : entryFrame m #[(.ref x0), (.int x1), (.int x2)] 6 = mkF m 0 #[.val (.ref x0), .val (.int x1), .val (.int x2), .unset, .unset, .unset] [] := by first | (simp [entryFrame, mkF, argsToLocals, Value.category]; done) | rfl
theorem ef_rm7_1 (m : MethodId) (x0 : Addr) (x1 : Int32) : entryFrame m #[(.ref x0), (.int x1)] 2 = mkF m 0 #[.val (.ref x0), .val (.int x1)] [] := by first | (simp [entryFrame, mkF, argsToLocals, Value.category]; done) | rfl
theorem ef_rm3_2 (m : MethodId) (x0 : Addr) (x1 : Addr) (x2 : Int32) (x3 : Int32) : entryFrame m #[(.ref x0), (.ref x1), (.int x2), (.int x3), .null] 6 = mkF m 0 #[.val (.ref x0), .val (.ref x1), .val (.int x2), .val (.int x3), .val .null, .unset] [] := by first | (simp [entryFrame, mkF, argsToLocals, Value.category]; done) | rfl
theorem ef_rm2_2 (m : MethodId) (x0 : Addr) (x1 : Addr) : entryFrame m #[(.ref x0), (.ref x1)] 2 = mkF m 0 #[.val (.ref x0), .val (.ref x1)] [] := by first | (simp [entryFrame, mkF, argsToLocals, Value.category]; done) | rfl
theorem ef_rm9_3 (m : MethodId) (x0 : Addr) : entryFrame m #[(.ref x0)] 1 = mkF m 0 #[.val (.ref x0)] [] := by first | (simp [entryFrame, mkF, argsToLocals, Value.category]; done) | rfl
theorem ef_rm15_1 (m : MethodId) (x0 : Int32) (x1 : Int32) (x2 : Value) (hx2 : x2.isRef = true) : entryFrame m #[(.int x0), (.int x1), x2] 3 = mkF m 0 #[.val (.int x0), .val (.int x1), .val x2] [] := by rcases ref_cases hx2 with rfl | ⟨ax2, rfl⟩ <;> first | (simp [entryFrame, mkF, argsToLocals, Value.category]; done) | rfl
theorem ef_rm14_1 (m : MethodId) (x0 : Int32) (x1 : Int32) : entryFrame m #[(.int x0), (.int x1)] 2 = mkF m 0 #[.val (.int x0), .val (.int x1)] [] := by first | (simp [entryFrame, mkF, argsToLocals, Value.category]; done) | rfl
theorem ef_rm13_1 (m : MethodId) (x0 : Addr) (x1 : Int32) : entryFrame m #[(.ref x0), (.int x1)] 2 = mkF m 0 #[.val (.ref x0), .val (.int x1)] [] := by first | (simp [entryFrame, mkF, argsToLocals, Value.category]; done) | rfl
theorem ef_rm11_1 (m : MethodId) (x0 : Addr) (x1 : Int32) : entryFrame m #[(.ref x0), (.int x1)] 2 = mkF m 0 #[.val (.ref x0), .val (.int x1)] [] := by first | (simp [entryFrame, mkF, argsToLocals, Value.category]; done) | rfl
theorem ef_rm8_2 (m : MethodId) (x0 : Addr) : entryFrame m #[(.ref x0)] 7 = mkF m 0 #[.val (.ref x0), .unset, .unset, .unset, .unset, .unset, .unset] [] := by first | (simp [entryFrame, mkF, argsToLocals, Value.category]; done) | rfl
def f_rm23_2 (j1 : Int64) (i3 u1 u2 : Int32) : Int32 := (if i3 < (2 : Int32) then (if (own_at [u1, u2] i3) = ((((j1.toUInt64 >>> (((32 : Int32) - ((8 : Int32) * i3)) &&& 0x3f).toInt64.toUInt64).toInt64).toInt32).toInt8.toInt32) then (1 : Int32) else (0 : Int32)) else (1 : Int32))
theorem ef_rm23_2 (m : MethodId) (x0 : Addr) (x1 : Int64) (x2 : Int32) (x3 : Int32) : entryFrame m #[(.ref x0), (.long x1), (.int x2), (.int x3)] 5 = mkF m 0 #[.val (.ref x0), .val (.long x1), .second, .val (.int x2), .val (.int x3)] [] := by first | (simp [entryFrame, mkF, argsToLocals, Value.category]; done) | rfl
theorem ef_rm6_2 (m : MethodId) (x0 : Addr) (x1 : Int32) (x2 : Addr) (x4 : Int32) : entryFrame m #[(.ref x0), (.int x1), (.ref x2), (.int x1), (.int x4)] 7 = mkF m 0 #[.val (.ref x0), .val (.int x1), .val (.ref x2), .val (.int x1), .val (.int x4), .unset, .unset] [] := by first | (simp [entryFrame, mkF, argsToLocals, Value.category]; done) | rfl
theorem ef_rm5_2 (m : MethodId) (x0 : Addr) (x1 : Int32) (x2 : Int32) : entryFrame m #[(.ref x0), (.int x1), (.int x2)] 6 = mkF m 0 #[.val (.ref x0), .val (.int x1), .val (.int x2), .unset, .unset, .unset] [] := by first | (simp [entryFrame, mkF, argsToLocals, Value.category]; done) | rfl
theorem ef_rm7_2 (m : MethodId) (x0 : Addr) (x1 : Int32) : entryFrame m #[(.ref x0), (.int x1)] 2 = mkF m 0 #[.val (.ref x0), .val (.int x1)] [] := by first | (simp [entryFrame, mkF, argsToLocals, Value.category]; done) | rfl
theorem ef_rm3_3 (m : MethodId) (x0 : Addr) (x1 : Addr) (x2 : Int32) (x3 : Int32) : entryFrame m #[(.ref x0), (.ref x1), (.int x2), (.int x3), .null] 6 = mkF m 0 #[.val (.ref x0), .val (.ref x1), .val (.int x2), .val (.int x3), .val .null, .unset] [] := by first | (simp [entryFrame, mkF, argsToLocals, Value.category]; done) | rfl
theorem ef_rm2_3 (m : MethodId) (x0 : Addr) (x1 : Addr) : entryFrame m #[(.ref x0), (.ref x1)] 2 = mkF m 0 #[.val (.ref x0), .val (.ref x1)] [] := by first | (simp [entryFrame, mkF, argsToLocals, Value.category]; done) | rfl
theorem ef_rm9_4 (m : MethodId) (x0 : Addr) : entryFrame m #[(.ref x0)] 1 = mkF m 0 #[.val (.ref x0)] [] := by first | (simp [entryFrame, mkF, argsToLocals, Value.category]; done) | rfl
theorem ef_rm15_2 (m : MethodId) (x0 : Int32) (x1 : Int32) (x2 : Value) (hx2 : x2.isRef = true) : entryFrame m #[(.int x0), (.int x1), x2] 3 = mkF m 0 #[.val (.int x0), .val (.int x1), .val x2] [] := by rcases ref_cases hx2 with rfl | ⟨ax2, rfl⟩ <;> first | (simp [entryFrame, mkF, argsToLocals, Value.category]; done) | rfl
theorem ef_rm14_2 (m : MethodId) (x0 : Int32) (x1 : Int32) : entryFrame m #[(.int x0), (.int x1)] 2 = mkF m 0 #[.val (.int x0), .val (.int x1)] [] := by first | (simp [entryFrame, mkF, argsToLocals, Value.category]; done) | rfl
theorem ef_rm13_2 (m : MethodId) (x0 : Addr) (x1 : Int32) : entryFrame m #[(.ref x0), (.int x1)] 2 = mkF m 0 #[.val (.ref x0), .val (.int x1)] [] := by first | (simp [entryFrame, mkF, argsToLocals, Value.category]; done) | rfl
theorem ef_rm11_2 (m : MethodId) (x0 : Addr) (x1 : Int32) : entryFrame m #[(.ref x0), (.int x1)] 2 = mkF m 0 #[.val (.ref x0), .val (.int x1)] [] := by first | (simp [entryFrame, mkF, argsToLocals, Value.category]; done) | rfl
theorem ef_rm8_3 (m : MethodId) (x0 : Addr) : entryFrame m #[(.ref x0)] 7 = mkF m 0 #[.val (.ref x0), .unset, .unset, .unset, .unset, .unset, .unset] [] := by first | (simp [entryFrame, mkF, argsToLocals, Value.category]; done) | rfl
def f_rm23_3 (j1 : Int64) (i3 u1 u2 u3 : Int32) : Int32 := (if i3 < (3 : Int32) then (if (own_at [u1, u2, u3] i3) = ((((j1.toUInt64 >>> (((32 : Int32) - ((8 : Int32) * i3)) &&& 0x3f).toInt64.toUInt64).toInt64).toInt32).toInt8.toInt32) then (1 : Int32) else (0 : Int32)) else (1 : Int32))
theorem ef_rm23_3 (m : MethodId) (x0 : Addr) (x1 : Int64) (x2 : Int32) (x3 : Int32) : entryFrame m #[(.ref x0), (.long x1), (.int x2), (.int x3)] 5 = mkF m 0 #[.val (.ref x0), .val (.long x1), .second, .val (.int x2), .val (.int x3)] [] := by first | (simp [entryFrame, mkF, argsToLocals, Value.category]; done) | rfl
theorem ef_rm6_3 (m : MethodId) (x0 : Addr) (x1 : Int32) (x2 : Addr) (x4 : Int32) : entryFrame m #[(.ref x0), (.int x1), (.ref x2), (.int x1), (.int x4)] 7 = mkF m 0 #[.val (.ref x0), .val (.int x1), .val (.ref x2), .val (.int x1), .val (.int x4), .unset, .unset] [] := by first | (simp [entryFrame, mkF, argsToLocals, Value.category]; done) | rfl
theorem ef_rm5_3 (m : MethodId) (x0 : Addr) (x1 : Int32) (x2 : Int32) : entryFrame m #[(.ref x0), (.int x1), (.int x2)] 6 = mkF m 0 #[.val (.ref x0), .val (.int x1), .val (.int x2), .unset, .unset, .unset] [] := by first | (simp [entryFrame, mkF, argsToLocals, Value.category]; done) | rfl
theorem ef_rm7_3 (m : MethodId) (x0 : Addr) (x1 : Int32) : entryFrame m #[(.ref x0), (.int x1)] 2 = mkF m 0 #[.val (.ref x0), .val (.int x1)] [] := by first | (simp [entryFrame, mkF, argsToLocals, Value.category]; done) | rfl
theorem ef_rm3_4 (m : MethodId) (x0 : Addr) (x1 : Addr) (x2 : Int32) (x3 : Int32) : entryFrame m #[(.ref x0), (.ref x1), (.int x2), (.int x3), .null] 6 = mkF m 0 #[.val (.ref x0), .val (.ref x1), .val (.int x2), .val (.int x3), .val .null, .unset] [] := by first | (simp [entryFrame, mkF, argsToLocals, Value.category]; done) | rfl
theorem ef_rm2_4 (m : MethodId) (x0 : Addr) (x1 : Addr) : entryFrame m #[(.ref x0), (.ref x1)] 2 = mkF m 0 #[.val (.ref x0), .val (.ref x1)] [] := by first | (simp [entryFrame, mkF, argsToLocals, Value.category]; done) | rfl
theorem ef_rm9_5 (m : MethodId) (x0 : Addr) : entryFrame m #[(.ref x0)] 1 = mkF m 0 #[.val (.ref x0)] [] := by first | (simp [entryFrame, mkF, argsToLocals, Value.category]; done) | rfl
theorem ef_rm15_3 (m : MethodId) (x0 : Int32) (x1 : Int32) (x2 : Value) (hx2 : x2.isRef = true) : entryFrame m #[(.int x0), (.int x1), x2] 3 = mkF m 0 #[.val (.int x0), .val (.int x1), .val x2] [] := by rcases ref_cases hx2 with rfl | ⟨ax2, rfl⟩ <;> first | (simp [entryFrame, mkF, argsToLocals, Value.category]; done) | rfl
theorem ef_rm14_3 (m : MethodId) (x0 : Int32) (x1 : Int32) : entryFrame m #[(.int x0), (.int x1)] 2 = mkF m 0 #[.val (.int x0), .val (.int x1)] [] := by first | (simp [entryFrame, mkF, argsToLocals, Value.category]; done) | rfl
theorem ef_rm13_3 (m : MethodId) (x0 : Addr) (x1 : Int32) : entryFrame m #[(.ref x0), (.int x1)] 2 = mkF m 0 #[.val (.ref x0), .val (.int x1)] [] := by first | (simp [entryFrame, mkF, argsToLocals, Value.category]; done) | rfl
theorem ef_rm11_3 (m : MethodId) (x0 : Addr) (x1 : Int32) : entryFrame m #[(.ref x0), (.int x1)] 2 = mkF m 0 #[.val (.ref x0), .val (.int x1)] [] := by first | (simp [entryFrame, mkF, argsToLocals, Value.category]; done) | rfl
theorem ef_rm8_4 (m : MethodId) (x0 : Addr) : entryFrame m #[(.ref x0)] 7 = mkF m 0 #[.val (.ref x0), .unset, .unset, .unset, .unset, .unset, .unset] [] := by first | (simp [entryFrame, mkF, argsToLocals, Value.category]; done) | rfl
def f_rm23_4 (j1 : Int64) (i3 u1 u2 u3 u4 : Int32) : Int32 := (if i3 < (4 : Int32) then (if (own_at [u1, u2, u3, u4] i3) = ((((j1.toUInt64 >>> (((32 : Int32) - ((8 : Int32) * i3)) &&& 0x3f).toInt64.toUInt64).toInt64).toInt32).toInt8.toInt32) then (1 : Int32) else (0 : Int32)) else (1 : Int32))
theorem ef_rm23_4 (m : MethodId) (x0 : Addr) (x1 : Int64) (x2 : Int32) (x3 : Int32) : entryFrame m #[(.ref x0), (.long x1), (.int x2), (.int x3)] 5 = mkF m 0 #[.val (.ref x0), .val (.long x1), .second, .val (.int x2), .val (.int x3)] [] := by first | (simp [entryFrame, mkF, argsToLocals, Value.category]; done) | rfl
theorem ef_rm6_4 (m : MethodId) (x0 : Addr) (x1 : Int32) (x2 : Addr) (x4 : Int32) : entryFrame m #[(.ref x0), (.int x1), (.ref x2), (.int x1), (.int x4)] 7 = mkF m 0 #[.val (.ref x0), .val (.int x1), .val (.ref x2), .val (.int x1), .val (.int x4), .unset, .unset] [] := by first | (simp [entryFrame, mkF, argsToLocals, Value.category]; done) | rfl
theorem ef_rm5_4 (m : MethodId) (x0 : Addr) (x1 : Int32) (x2 : Int32) : entryFrame m #[(.ref x0), (.int x1), (.int x2)] 6 = mkF m 0 #[.val (.ref x0), .val (.int x1), .val (.int x2), .unset, .unset, .unset] [] := by first | (simp [entryFrame, mkF, argsToLocals, Value.category]; done) | rfl
theorem ef_rm7_4 (m : MethodId) (x0 : Addr) (x1 : Int32) : entryFrame m #[(.ref x0), (.int x1)] 2 = mkF m 0 #[.val (.ref x0), .val (.int x1)] [] := by first | (simp [entryFrame, mkF, argsToLocals, Value.category]; done) | rfl
theorem ef_rm3_5 (m : MethodId) (x0 : Addr) (x1 : Addr) (x2 : Int32) (x3 : Int32) : entryFrame m #[(.ref x0), (.ref x1), (.int x2), (.int x3), .null] 6 = mkF m 0 #[.val (.ref x0), .val (.ref x1), .val (.int x2), .val (.int x3), .val .null, .unset] [] := by first | (simp [entryFrame, mkF, argsToLocals, Value.category]; done) | rfl
theorem ef_rm2_5 (m : MethodId) (x0 : Addr) (x1 : Addr) : entryFrame m #[(.ref x0), (.ref x1)] 2 = mkF m 0 #[.val (.ref x0), .val (.ref x1)] [] := by first | (simp [entryFrame, mkF, argsToLocals, Value.category]; done) | rfl
theorem ef_rm9_6 (m : MethodId) (x0 : Addr) : entryFrame m #[(.ref x0)] 1 = mkF m 0 #[.val (.ref x0)] [] := by first | (simp [entryFrame, mkF, argsToLocals, Value.category]; done) | rfl
theorem ef_rm15_4 (m : MethodId) (x0 : Int32) (x1 : Int32) (x2 : Value) (hx2 : x2.isRef = true) : entryFrame m #[(.int x0), (.int x1), x2] 3 = mkF m 0 #[.val (.int x0), .val (.int x1), .val x2] [] := by rcases ref_cases hx2 with rfl | ⟨ax2, rfl⟩ <;> first | (simp [entryFrame, mkF, argsToLocals, Value.category]; done) | rfl
theorem ef_rm14_4 (m : MethodId) (x0 : Int32) (x1 : Int32) : entryFrame m #[(.int x0), (.int x1)] 2 = mkF m 0 #[.val (.int x0), .val (.int x1)] [] := by first | (simp [entryFrame, mkF, argsToLocals, Value.category]; done) | rfl
theorem ef_rm13_4 (m : MethodId) (x0 : Addr) (x1 : Int32) : entryFrame m #[(.ref x0), (.int x1)] 2 = mkF m 0 #[.val (.ref x0), .val (.int x1)] [] := by first | (simp [entryFrame, mkF, argsToLocals, Value.category]; done) | rfl
theorem ef_rm11_4 (m : MethodId) (x0 : Addr) (x1 : Int32) : entryFrame m #[(.ref x0), (.int x1)] 2 = mkF m 0 #[.val (.ref x0), .val (.int x1)] [] := by first | (simp [entryFrame, mkF, argsToLocals, Value.category]; done) | rfl
theorem ef_rm8_5 (m : MethodId) (x0 : Addr) : entryFrame m #[(.ref x0)] 7 = mkF m 0 #[.val (.ref x0), .unset, .unset, .unset, .unset, .unset, .unset] [] := by first | (simp [entryFrame, mkF, argsToLocals, Value.category]; done) | rfl
def f_rm23_5 (j1 : Int64) (i3 u1 u2 u3 u4 u5 : Int32) : Int32 := (if (own_at [u1, u2, u3, u4, u5] i3) = ((((j1.toUInt64 >>> (((32 : Int32) - ((8 : Int32) * i3)) &&& 0x3f).toInt64.toUInt64).toInt64).toInt32).toInt8.toInt32) then (1 : Int32) else (0 : Int32))
theorem ef_rm23_5 (m : MethodId) (x0 : Addr) (x1 : Int64) (x2 : Int32) (x3 : Int32) : entryFrame m #[(.ref x0), (.long x1), (.int x2), (.int x3)] 5 = mkF m 0 #[.val (.ref x0), .val (.long x1), .second, .val (.int x2), .val (.int x3)] [] := by first | (simp [entryFrame, mkF, argsToLocals, Value.category]; done) | rfl
theorem ef_rm0 (m : MethodId) (x0 : Int64) (x1 : Int32) : entryFrame m #[(.long x0), (.int x1)] maxLocals = mkF m 0 #[.val (.long x0), .second, .val (.int x1), .unset, .unset, .unset, .unset, .unset, .unset, .unset, .unset, .unset, .unset, .unset, .unset, .unset, .unset, .unset] [] := by first | (simp [entryFrame, mkF, argsToLocals, Value.category, maxLocals]; done) | rfl
abbrev own_EL : List (String × Nat) := [("com/example/tryst/tryst/encoding/Base32", 24), ("java/lang/String", 7)]
theorem own_hEL {Z : State} {a0 : Array Value} (hw : HW a0 Z) : EW Z a0 own_EL := (EW.cons (own_w51 hw) (by decide) (EW.cons (own_w106 hw) (by decide) EW.nil))
theorem own_wS0 : ∀ a ∈ Bundle.stringAtoms, a ∈ tables_1 := by decide +kernel
theorem own_wS {Z : State} {a0 : Array Value} (hw : HW a0 Z) : ∀ a ∈ Bundle.stringAtoms, a.before a0 Z = true := fun a ha => hw a (own_wS0 a ha)
theorem rm1_0 (l : Launch) (Z : State) (a0 : Array Value) (hw : HW a0 Z) (ws : List Jvm.Cond) (j0 : Int64) (i1 : Int32) (h0 : Heap) (n0 : Nat) (O0 : Old Z n0 h0) (bnd_i1 : ¬ i1 < (0 : Int32) ∧ ¬ (7 : Int32) < i1) :
    Con l Z (⟨"com/example/tryst/tryst/encoding/Base32DecodePinLaw", "digit", "(JI)C"⟩ : MethodName) method_2_code 4 (some .char) ws ({ frames := 0, cells := 0, slots := 0, locals := 0 } : Room) #[(.long j0), (.int i1)] h0 (Pur (some (.int (f_rm1_0 j0 i1))) h0) := by
 refine own_body (plainFor_of_name own_pn0) (fun m => ef_rm1_0 m j0 i1) ?_
 intro p e s m below meth c s₁ hx hby hlk hml hret hZ hown hnm X0 e0
 have N0 := Fr.nil n0
 refine Home.run X0 hx hby sg1_0_7 (pc' := 8) (L' := #[.val (.long j0), .second, .val (.int i1), .unset]) (S' := [(.long ((j0.toUInt64 >>> (((35 : Int32) - ((5 : Int32) * i1)) &&& 0x3f).toInt64.toUInt64).toInt64))]) rfl ?_
 refine Home.go (X0.ldc2Long hx hown (mvT hZ (own_w6 hw)) rfl (hb hby d1_8)) ?_
 refine Home.run X0 hx hby sg1_11_5 (pc' := 17) (L' := #[.val (.long j0), .second, .val (.int i1), .val (.int ((((j0.toUInt64 >>> (((35 : Int32) - ((5 : Int32) * i1)) &&& 0x3f).toInt64.toUInt64).toInt64) &&& (31 : Int64)).toInt32))]) (S' := [(.int (26 : Int32)), (.int ((((j0.toUInt64 >>> (((35 : Int32) - ((5 : Int32) * i1)) &&& 0x3f).toInt64.toUInt64).toInt64) &&& (31 : Int64)).toInt32))]) rfl ?_
 by_cases c1 : ((((j0.toUInt64 >>> (((35 : Int32) - ((5 : Int32) * i1)) &&& 0x3f).toInt64.toUInt64).toInt64) &&& (31 : Int64)).toInt32) < (26 : Int32)
 ·
  refine Home.go (fun _ => XS.icmpNo X0.here hx rfl (hb hby d1_17) rfl (tlt c1).2.1) ?_
  have bd2 : ¬ ((((j0.toUInt64 >>> (((35 : Int32) - ((5 : Int32) * i1)) &&& 0x3f).toInt64.toUInt64).toInt64) &&& (31 : Int64)).toInt32) < (0 : Int32) ∧ ¬ (25 : Int32) < ((((j0.toUInt64 >>> (((35 : Int32) - ((5 : Int32) * i1)) &&& 0x3f).toInt64.toUInt64).toInt64) &&& (31 : Int64)).toInt32) := ⟨(bnd_l2i _ (k := (31 : Int64)) (m := (31 : Int32)) (by decide +kernel) (by decide +kernel)).1, (bnd_dn c1 (by decide +kernel))⟩
  refine Home.run X0 hx hby sg1_20_4 (pc' := 25) (L' := #[.val (.long j0), .second, .val (.int i1), .val (.int ((((j0.toUInt64 >>> (((35 : Int32) - ((5 : Int32) * i1)) &&& 0x3f).toInt64.toUInt64).toInt64) &&& (31 : Int64)).toInt32))]) (S' := [(.int (((97 : Int32) + ((((j0.toUInt64 >>> (((35 : Int32) - ((5 : Int32) * i1)) &&& 0x3f).toInt64.toUInt64).toInt64) &&& (31 : Int64)).toInt32)).toUInt32.toUInt16.toUInt32.toInt32))]) rfl ?_
  rw [i2c_id (bnd_add (bnd_lit (97 : Int32)) bd2 (lo := (97 : Int32)) (hi := (122 : Int32)) (by decide +kernel) (by decide +kernel) (by decide +kernel) (by decide +kernel)) (by decide +kernel) (by decide +kernel)]
  exact Home.retN X0 hx hlk (t := .char) hret (by simp) (hb hby d1_25) ⟨congrArg some (congrArg Value.int (by first | rfl | (simp only [f_rm1_0, if_pos c1, nar_char_id (bnd_add (bnd_lit (97 : Int32)) bd2 (lo := (97 : Int32)) (hi := (122 : Int32)) (by decide +kernel) (by decide +kernel) (by decide +kernel) (by decide +kernel)) (by decide +kernel) (by decide +kernel), nar_i2c, nar_i2b] <;> rfl) | (simp [f_rm1_0, if_pos c1, nar_char_id (bnd_add (bnd_lit (97 : Int32)) bd2 (lo := (97 : Int32)) (hi := (122 : Int32)) (by decide +kernel) (by decide +kernel) (by decide +kernel) (by decide +kernel)) (by decide +kernel) (by decide +kernel)]; done))), rfl, e0⟩ (by decide) (by decide)
 ·
  refine Home.go (fun _ => XS.icmpYes X0.here hx rfl (pc0 := 17) (pc' := 26) rfl (hb hby d1_17) rfl (flt c1).2.1 (by decide) (by decide)) ?_
  have bd3 : ¬ ((((j0.toUInt64 >>> (((35 : Int32) - ((5 : Int32) * i1)) &&& 0x3f).toInt64.toUInt64).toInt64) &&& (31 : Int64)).toInt32) < (26 : Int32) ∧ ¬ (31 : Int32) < ((((j0.toUInt64 >>> (((35 : Int32) - ((5 : Int32) * i1)) &&& 0x3f).toInt64.toUInt64).toInt64) &&& (31 : Int64)).toInt32) := ⟨c1, (bnd_l2i _ (k := (31 : Int64)) (m := (31 : Int32)) (by decide +kernel) (by decide +kernel)).2⟩
  refine Home.run X0 hx hby sg1_26_6 (pc' := 34) (L' := #[.val (.long j0), .second, .val (.int i1), .val (.int ((((j0.toUInt64 >>> (((35 : Int32) - ((5 : Int32) * i1)) &&& 0x3f).toInt64.toUInt64).toInt64) &&& (31 : Int64)).toInt32))]) (S' := [(.int (((50 : Int32) + (((((j0.toUInt64 >>> (((35 : Int32) - ((5 : Int32) * i1)) &&& 0x3f).toInt64.toUInt64).toInt64) &&& (31 : Int64)).toInt32) - (26 : Int32))).toUInt32.toUInt16.toUInt32.toInt32))]) rfl ?_
  rw [i2c_id (bnd_add (bnd_lit (50 : Int32)) (bnd_sub bd3 (bnd_lit (26 : Int32)) (lo := (0 : Int32)) (hi := (5 : Int32)) (by decide +kernel) (by decide +kernel) (by decide +kernel) (by decide +kernel)) (lo := (50 : Int32)) (hi := (55 : Int32)) (by decide +kernel) (by decide +kernel) (by decide +kernel) (by decide +kernel)) (by decide +kernel) (by decide +kernel)]
  exact Home.retN X0 hx hlk (t := .char) hret (by simp) (hb hby d1_34) ⟨congrArg some (congrArg Value.int (by first | rfl | (simp only [f_rm1_0, if_neg c1, nar_char_id (bnd_add (bnd_lit (50 : Int32)) (bnd_sub bd3 (bnd_lit (26 : Int32)) (lo := (0 : Int32)) (hi := (5 : Int32)) (by decide +kernel) (by decide +kernel) (by decide +kernel) (by decide +kernel)) (lo := (50 : Int32)) (hi := (55 : Int32)) (by decide +kernel) (by decide +kernel) (by decide +kernel) (by decide +kernel)) (by decide +kernel) (by decide +kernel), nar_i2c, nar_i2b] <;> rfl) | (simp [f_rm1_0, if_neg c1, nar_char_id (bnd_add (bnd_lit (50 : Int32)) (bnd_sub bd3 (bnd_lit (26 : Int32)) (lo := (0 : Int32)) (hi := (5 : Int32)) (by decide +kernel) (by decide +kernel) (by decide +kernel) (by decide +kernel)) (lo := (50 : Int32)) (hi := (55 : Int32)) (by decide +kernel) (by decide +kernel) (by decide +kernel) (by decide +kernel)) (by decide +kernel) (by decide +kernel)]; done))), rfl, e0⟩ (by decide) (by decide)
theorem f_rm1_0_bnd (j0 : Int64) (i1 : Int32) (bnd_i1 : ¬ i1 < (0 : Int32) ∧ ¬ (7 : Int32) < i1) : ¬ (f_rm1_0 j0 i1) < (50 : Int32) ∧ ¬ (122 : Int32) < (f_rm1_0 j0 i1) := by unfold f_rm1_0; exact (bnd_dite (fun c1 => (bnd_mono (bnd_add (bnd_lit (97 : Int32)) (show ¬ ((((j0.toUInt64 >>> (((35 : Int32) - ((5 : Int32) * i1)) &&& 0x3f).toInt64.toUInt64).toInt64) &&& (31 : Int64)).toInt32) < (0 : Int32) ∧ ¬ (25 : Int32) < ((((j0.toUInt64 >>> (((35 : Int32) - ((5 : Int32) * i1)) &&& 0x3f).toInt64.toUInt64).toInt64) &&& (31 : Int64)).toInt32) from ⟨(bnd_l2i _ (k := (31 : Int64)) (m := (31 : Int32)) (by decide +kernel) (by decide +kernel)).1, (bnd_dn c1 (by decide +kernel))⟩) (lo := (97 : Int32)) (hi := (122 : Int32)) (by decide +kernel) (by decide +kernel) (by decide +kernel) (by decide +kernel)) (by decide +kernel) (by decide +kernel))) (fun c1 => (bnd_mono (bnd_add (bnd_lit (50 : Int32)) (bnd_sub (show ¬ ((((j0.toUInt64 >>> (((35 : Int32) - ((5 : Int32) * i1)) &&& 0x3f).toInt64.toUInt64).toInt64) &&& (31 : Int64)).toInt32) < (26 : Int32) ∧ ¬ (31 : Int32) < ((((j0.toUInt64 >>> (((35 : Int32) - ((5 : Int32) * i1)) &&& 0x3f).toInt64.toUInt64).toInt64) &&& (31 : Int64)).toInt32) from ⟨c1, (bnd_l2i _ (k := (31 : Int64)) (m := (31 : Int32)) (by decide +kernel) (by decide +kernel)).2⟩) (bnd_lit (26 : Int32)) (lo := (0 : Int32)) (hi := (5 : Int32)) (by decide +kernel) (by decide +kernel) (by decide +kernel) (by decide +kernel)) (lo := (50 : Int32)) (hi := (55 : Int32)) (by decide +kernel) (by decide +kernel) (by decide +kernel) (by decide +kernel)) (by decide +kernel) (by decide +kernel))))
theorem rm3_0 (l : Launch) (Z : State) (a0 : Array Value) (hw : HW a0 Z) (ws : List Jvm.Cond) (o0 o1 : Addr) (h0 : Heap) (n0 : Nat) (O0 : Old Z n0 h0) (E_o0 : Exa Z h0 o0 "java/lang/String") (F_value_o0 : Fld Z h0 o0 "java/lang/String" "value" "[B" .null) (g_o0 : n0 ≤ o0) (F_coder_o0 : Fld Z h0 o0 "java/lang/String" "coder" "B" (.int (0 : Int32))) :
    ConW l Z own_EL ([o0] : List Addr) false (⟨"java/lang/String", "<init>", "([CIILjava/lang/Void;)V"⟩ : MethodName) jdk_42_method_149_code 6 none ws ({ frames := 1, cells := 4, slots := 8, locals := 12 } : Room) #[(.ref o0), (.ref o1), (.int (0 : Int32)), (.int (0 : Int32)), .null] h0 (fun v h L => ∃ (b2 : Jvm.Addr), ∃ (k2 : ClassId), v = none ∧ Fr n0 L ∧ Keep h0 h [o0] ∧ Exa Z h o0 "java/lang/String" ∧ Fld Z h o0 "java/lang/String" "value" "[B" (.ref b2) ∧ Fld Z h o0 "java/lang/String" "coder" "B" (.int (0 : Int32)) ∧ Arv Z h b2 k2 .byte (0 : Int32) [] (.int (0 : Int32))) := by
 refine own_bodyW (plainFor_of_name own_pn1) (fun m => ef_rm3_0 m o0 o1 (0 : Int32)) ?_
 intro p e s m below meth c s₁ hx hby hlk hml hret hZ hown hnm X0 e0 Cd0
 have N0 := Fr.nil n0
 refine Home.run X0 hx hby sg3_0_1 (pc' := 1) (L' := #[.val (.ref o0), .val (.ref o1), .val (.int (0 : Int32)), .val (.int (0 : Int32)), .val .null, .unset]) (S' := [(.ref o0)]) rfl ?_
 refine Home.st (initO X0 hx hZ hown (own_w18 hw) (own_w19 hw) (own_w20 hw) e0 rfl (by rw [hml]; rfl) rfl (hb hby d3_1) (by decide) (W := 0) (by exact hW0) (by decide)) fun T1 X1 e1 => ?_
 refine Home.run X1 hx hby sg3_4_1 (pc' := 5) (L' := #[.val (.ref o0), .val (.ref o1), .val (.int (0 : Int32)), .val (.int (0 : Int32)), .val .null, .unset]) (S' := [(.int (0 : Int32))]) rfl ?_
 refine Home.go (fun _ => XS.ifNo X1.here hx rfl (hb hby d3_5) rfl ((if0 _ _).trans (teq (by decide)).2)) ?_
 refine Home.run X1 hx hby sg3_8_1 (pc' := 9) (L' := #[.val (.ref o0), .val (.ref o1), .val (.int (0 : Int32)), .val (.int (0 : Int32)), .val .null, .unset]) (S' := [(.ref o0)]) rfl ?_
 obtain ⟨ad2, b2, k2, T2, h2, X2, e2, E2, hZ, hown, Cd2, Ea2, Fc2, Fv2, V2, la2, lb2, hne2, st2⟩ := own_ldcW X1 hx hZ hown (own_hEL hw) Cd0 (own_w106 hw) (own_wS hw) e1 (List.mem_of_getElem? (i := 1) rfl) (vs := []) (z := (0 : Int32)) ⟨by decide, by rfl⟩ (by decide) (by decide) (g := (mkF m 9 #[.val (.ref o0), .val (.ref o1), .val (.int (0 : Int32)), .val (.int (0 : Int32)), .val .null, .unset] [(.ref o0)])) rfl (hb hby d3_9) (n := 0) (by decide) (by decide) (by decide) (by decide)
 refine Home.go st2 ?_
 have O2 := O0.ext E2
 have K2 : Keep h0 h2 ([o0] : List Addr) := Keep.ext (Keep.refl h0 ([o0] : List Addr)) E2
 refine Home.st (getF X2 hx hZ hown (host := "") (Or.inl (own_w35 hw)) Via.refl e2 Fv2 rfl rfl (hb hby d3_11)) fun T3 X3 e3 => ?_
 have q4 := (F_value_o0.ext E2)
 refine Home.wr (putF X3 hx hZ hown (host := "") (Or.inl (own_w35 hw)) Via.refl e3 q4 (E_o0.keep K2) (Or.inr ⟨(own_w36 hw), rfl, hnm⟩) (own_w9 hw) (ty := (.array .byte)) (by decide) rfl rfl rfl rfl (hb hby d3_14)) fun T5 h5 X5 e5 W5 => ?_
 have Fw5 := q4.same W5
 have O5 := O2.wr W5 g_o0
 have K5 : Keep h0 h5 ([o0] : List Addr) := Keep.wr K2 W5 (Or.inl (List.mem_of_getElem? (i := 0) rfl))
 have Cd5 := Cold.wr Cd2 W5 (Cold.safe Cd2 (List.mem_of_getElem? (i := 0) rfl))
 have N5 := Fr.snoc X5 N0 g_o0
 show Home T5 (mkF m 17 #[.val (.ref o0), .val (.ref o1), .val (.int (0 : Int32)), .val (.int (0 : Int32)), .val .null, .unset] [])
 refine Home.run X5 hx hby sg3_17_1 (pc' := 18) (L' := #[.val (.ref o0), .val (.ref o1), .val (.int (0 : Int32)), .val (.int (0 : Int32)), .val .null, .unset]) (S' := [(.ref o0)]) rfl ?_
 obtain ⟨ad6, b6, k6, T6, h6, X6, e6, E6, hZ, hown, Cd6, Ea6, Fc6, Fv6, V6, la6, lb6, hne6, st6⟩ := own_ldcW X5 hx hZ hown (own_hEL hw) Cd5 (own_w106 hw) (own_wS hw) e5 (List.mem_of_getElem? (i := 1) rfl) (vs := []) (z := (0 : Int32)) ⟨by decide, by rfl⟩ (by decide) (by decide) (g := (mkF m 18 #[.val (.ref o0), .val (.ref o1), .val (.int (0 : Int32)), .val (.int (0 : Int32)), .val .null, .unset] [(.ref o0)])) rfl (hb hby d3_18) (n := 0) (by decide) (by decide) (by decide) (by decide)
 refine Home.go st6 ?_
 have O6 := O5.ext E6
 have K6 : Keep h0 h6 ([o0] : List Addr) := Keep.ext K5 E6
 refine Home.st (getF X6 hx hZ hown (host := "") (Or.inl (own_w33 hw)) Via.refl e6 Fc6 rfl rfl (hb hby d3_20)) fun T7 X7 e7 => ?_
 have q8 := (((F_coder_o0.ext E2).other W5 (Or.inr (slot_ne (Or.inr (own_w34 hw)) (Or.inr (own_w36 hw)) (by decide) (t := .byte) (t' := (.array .byte)) (by decide) (by decide)))).ext E6)
 refine Home.wr (putFN X7 hx hZ hown (own_w33 hw) Via.refl e7 q8 (E_o0.keep K6) (Or.inr ⟨(own_w34 hw), rfl, hnm⟩) (own_w9 hw) (ty := .byte) (v := (.int (0 : Int32))) (v' := (.int (0 : Int32))) (by decide) rfl rfl rfl rfl (hb hby d3_23)) fun T9 h9 X9 e9 W9 => ?_
 have Fw9 := q8.same W9
 have O9 := O6.wr W9 g_o0
 have K9 : Keep h0 h9 ([o0] : List Addr) := Keep.wr K6 W9 (Or.inl (List.mem_of_getElem? (i := 0) rfl))
 have Cd9 := Cold.wr Cd6 W9 (Cold.safe Cd6 (List.mem_of_getElem? (i := 0) rfl))
 have N9 := Fr.snoc X9 N5 g_o0
 have q10 := ((Fw5.ext E6).other W9 (Or.inr (slot_ne (Or.inr (own_w36 hw)) (Or.inr (own_w34 hw)) (by decide) (t := (.array .byte)) (t' := .byte) (by decide) (by decide))))
 have ne11 : b2 ≠ o0 := (Ne.symm (hne2 _ (List.mem_of_getElem? (i := 0) rfl)).2)
 have q12 := (((V2.other W5 ne11).ext E6).other W9 ne11)
 exact HomeW.ret0 X9 hx hlk hZ (own_hEL hw) e9 Cd9 hret (hb hby d3_26) (by rw [show T9.heap = h9 from e9]; exact ⟨b2, k2, rfl, N9, K9, (E_o0.keep K9), q10, Fw9, q12⟩) (by decide) (by decide)
theorem rm2_0 (l : Launch) (Z : State) (a0 : Array Value) (hw : HW a0 Z) (ws : List Jvm.Cond) (o0 o1 : Addr) (k_o1 : ClassId) (h0 : Heap) (n0 : Nat) (O0 : Old Z n0 h0) (V_o1 : Arv Z h0 o1 k_o1 .char (0 : Int32) [] (.int (0 : Int32))) (E_o0 : Exa Z h0 o0 "java/lang/String") (F_value_o0 : Fld Z h0 o0 "java/lang/String" "value" "[B" .null) (F_coder_o0 : Fld Z h0 o0 "java/lang/String" "coder" "B" (.int (0 : Int32))) (g_o0 : n0 ≤ o0) :
    ConW l Z own_EL ([o0] : List Addr) false (⟨"java/lang/String", "<init>", "([C)V"⟩ : MethodName) jdk_42_method_3_code 2 none ws ({ frames := 2, cells := 4, slots := 8, locals := 29 } : Room) #[(.ref o0), (.ref o1)] h0 (fun v h L => ∃ (b2_2 : Jvm.Addr), ∃ (k2_2 : ClassId), v = none ∧ Fr n0 L ∧ Keep h0 h [o0] ∧ Exa Z h o0 "java/lang/String" ∧ Fld Z h o0 "java/lang/String" "value" "[B" (.ref b2_2) ∧ Fld Z h o0 "java/lang/String" "coder" "B" (.int (0 : Int32)) ∧ Arv Z h b2_2 k2_2 .byte (0 : Int32) [] (.int (0 : Int32))) := by
 refine own_bodyW (plainFor_of_name own_pn1) (fun m => ef_rm2_0 m o0 o1) ?_
 intro p e s m below meth c s₁ hx hby hlk hml hret hZ hown hnm X0 e0 Cd0
 have N0 := Fr.nil n0
 refine Home.run X0 hx hby sg2_0_4 (pc' := 4) (L' := #[.val (.ref o0), .val (.ref o1)]) (S' := [(.ref o1), (.int (0 : Int32)), (.ref o1), (.ref o0)]) rfl ?_
 obtain ⟨cl1, Ar1, q1, S1, M1, H1, G1⟩ := id V_o1
 refine Home.go (own_alen X0 hx hZ e0 Ar1 S1 M1 rfl rfl (hb hby d2_4)) ?_
 refine Home.run X0 hx hby sg2_5_1 (pc' := 6) (L' := #[.val (.ref o0), .val (.ref o1)]) (S' := [.null, (.int (0 : Int32)), (.int (0 : Int32)), (.ref o1), (.ref o0)]) rfl ?_
 refine Home.call (own_specialW X0 hx hZ hown (own_hEL hw) Cd0 (allS (List.mem_of_getElem? (i := 0) rfl) all0) rfl (own_w14 hw) (own_w15 hw) (own_w10 hw) (own_w17 hw) (by decide) (rm3_0 l Z a0 hw [] o0 o1 h0 n0 O0 E_o0 F_value_o0 g_o0 F_coder_o0) e0 rfl (by rw [hml]; rfl) (a := o0) (argsL := [(.ref o1), (.int (0 : Int32)), (.int (0 : Int32)), .null]) (rest := []) (lenOf own_pd1 rfl) rfl rfl (W := 0) (by exact hW0) (by decide) (by decide) (hb hby d2_6) (by decide) (by decide)) ?_
 rintro _ T2 L2 X2 ⟨⟨b2_2, k2_2, rfl, N2q, K2q, P2_0, P2_1, P2_2, P2_3⟩, hZ, hown, Cd2, sR2⟩
 have O2 := Old.keep O0 K2q (allS g_o0 all0)
 have K2 : Keep h0 T2.heap ([o0] : List Addr) := Keep.trans (Keep.refl h0 ([o0] : List Addr)) K2q (allS (Or.inl (List.mem_of_getElem? (i := 0) rfl)) all0)
 have N2 := Fr.app N0 N2q
 exact HomeW.ret0 X2 hx hlk hZ (own_hEL hw) rfl Cd2 hret (hb hby d2_9) ⟨b2_2, k2_2, rfl, N2, K2, P2_0, P2_1, P2_2, P2_3⟩ (by decide) (by decide)
theorem rm10_0 (l : Launch) (Z : State) (a0 : Array Value) (hw : HW a0 Z) (ws : List Jvm.Cond) (o0 : Addr) (sv_COMPACT_STRINGS : Int32) (h0 : Heap) (n0 : Nat) (O0 : Old Z n0 h0) (S_COMPACT_STRINGS : Sta Z Z.heap "java/lang/String" "COMPACT_STRINGS" "Z" (.int sv_COMPACT_STRINGS)) (hCS : ¬ (sv_COMPACT_STRINGS = (0 : Int32))) (F_coder_o0 : Fld Z h0 o0 "java/lang/String" "coder" "B" (.int (0 : Int32))) :
    Con l Z (⟨"java/lang/String", "coder", "()B"⟩ : MethodName) jdk_42_method_152_code 1 (some .byte) ws ({ frames := 0, cells := 0, slots := 0, locals := 0 } : Room) #[(.ref o0)] h0 (Pur (some (.int (0 : Int32))) h0) := by
 refine own_body (plainFor_of_name own_pn1) (fun m => ef_rm10_0 m o0) ?_
 intro p e s m below meth c s₁ hx hby hlk hml hret hZ hown hnm X0 e0
 have N0 := Fr.nil n0
 refine Home.st (getS2 X0 hx hZ hown (host := "") (Or.inl (own_w21 hw)) Via.refl e0 (S_COMPACT_STRINGS.ext O0.2) rfl (hb hby d10_0)) fun T1 X1 e1 => ?_
 refine Home.go (fun _ => XS.ifNo X1.here hx rfl (hb hby d10_3) rfl ((if0 _ _).trans (feq hCS).1)) ?_
 refine Home.run X1 hx hby sg10_6_1 (pc' := 7) (L' := #[.val (.ref o0)]) (S' := [(.ref o0)]) rfl ?_
 refine Home.st (getF X1 hx hZ hown (host := "") (Or.inl (own_w33 hw)) Via.refl e1 F_coder_o0 rfl rfl (hb hby d10_7)) fun T2 X2 e2 => ?_
 refine Home.run X2 hx hby sg10_10_1 (pc' := 14) (L' := #[.val (.ref o0)]) (S' := [(.int (0 : Int32))]) rfl ?_
 exact Home.retN X2 hx hlk (t := .byte) hret (by simp) (hb hby d10_14) ⟨congrArg some (congrArg Value.int (by first | rfl | exact nar_i2c _ | exact nar_i2b _)), rfl, e2⟩ (by decide) (by decide)
theorem rm9_0 (l : Launch) (Z : State) (a0 : Array Value) (hw : HW a0 Z) (ws : List Jvm.Cond) (o0 p2 : Addr) (k_p2 : ClassId) (sv_COMPACT_STRINGS : Int32) (h0 : Heap) (n0 : Nat) (O0 : Old Z n0 h0) (F_value_o0 : Fld Z h0 o0 "java/lang/String" "value" "[B" (.ref p2)) (V_p2 : Arv Z h0 p2 k_p2 .byte (0 : Int32) [] (.int (0 : Int32))) (E_o0 : Exa Z h0 o0 "java/lang/String") (S_COMPACT_STRINGS : Sta Z Z.heap "java/lang/String" "COMPACT_STRINGS" "Z" (.int sv_COMPACT_STRINGS)) (F_coder_o0 : Fld Z h0 o0 "java/lang/String" "coder" "B" (.int (0 : Int32))) (hCS : ¬ (sv_COMPACT_STRINGS = (0 : Int32))) :
    Con l Z (⟨"java/lang/String", "length", "()I"⟩ : MethodName) jdk_42_method_54_code 1 (some .int) ws ({ frames := 1, cells := 0, slots := 0, locals := 13 } : Room) #[(.ref o0)] h0 (Pur (some (.int (0 : Int32))) h0) := by
 refine own_body (plainFor_of_name own_pn1) (fun m => ef_rm9_0 m o0) ?_
 intro p e s m below meth c s₁ hx hby hlk hml hret hZ hown hnm X0 e0
 have N0 := Fr.nil n0
 refine Home.run X0 hx hby sg9_0_1 (pc' := 1) (L' := #[.val (.ref o0)]) (S' := [(.ref o0)]) rfl ?_
 refine Home.st (getF X0 hx hZ hown (host := "") (Or.inl (own_w35 hw)) Via.refl e0 F_value_o0 rfl rfl (hb hby d9_1)) fun T1 X1 e1 => ?_
 obtain ⟨cl2, Ar2, q2, S2, M2, H2, G2⟩ := id V_p2
 refine Home.go (own_alen X1 hx hZ e1 Ar2 S2 M2 rfl rfl (hb hby d9_4)) ?_
 refine Home.run X1 hx hby sg9_5_1 (pc' := 6) (L' := #[.val (.ref o0)]) (S' := [(.ref o0), (.int (0 : Int32))]) rfl ?_
 refine Home.st (own_pure (own_virtual X1 hx hZ hown (own_w46 hw) (own_w47 hw) (notFace_of_selects (args := #[]) (mvT hZ (own_w49 hw))) (own_w49 hw) (own_w48 hw) (own_w10 hw) (own_w50 hw) (by decide) (rm10_0 l Z a0 hw [] o0 sv_COMPACT_STRINGS h0 n0 O0 S_COMPACT_STRINGS hCS F_coder_o0) e1 E_o0 rfl (by rw [hml]; rfl) (argsL := []) (rest := [(.int (0 : Int32))]) (lenOf own_pd3 rfl) rfl rfl (W := 1) (by exact hW0) (by decide) (by decide) (hb hby d9_6) (by decide) (by decide))) fun T3 X3 e3 => ?_
 refine Home.run X3 hx hby sg9_9_1 (pc' := 10) (L' := #[.val (.ref o0)]) (S' := [(.int (0 : Int32))]) rfl ?_
 exact Home.retI X3 hx hlk hret (hb hby d9_10) ⟨rfl, rfl, e3⟩ (by decide) (by decide)
theorem rm8_0 (l : Launch) (Z : State) (a0 : Array Value) (hw : HW a0 Z) (ws : List Jvm.Cond) (o0 p2 : Addr) (k_p2 : ClassId) (sv_COMPACT_STRINGS : Int32) (h0 : Heap) (n0 : Nat) (O0 : Old Z n0 h0) (E_o0 : Exa Z h0 o0 "java/lang/String") (F_value_o0 : Fld Z h0 o0 "java/lang/String" "value" "[B" (.ref p2)) (V_p2 : Arv Z h0 p2 k_p2 .byte (0 : Int32) [] (.int (0 : Int32))) (S_COMPACT_STRINGS : Sta Z Z.heap "java/lang/String" "COMPACT_STRINGS" "Z" (.int sv_COMPACT_STRINGS)) (F_coder_o0 : Fld Z h0 o0 "java/lang/String" "coder" "B" (.int (0 : Int32))) (hCS : ¬ (sv_COMPACT_STRINGS = (0 : Int32))) :
    Con l Z (⟨"com/example/tryst/tryst/encoding/Base32", "decode", "(Ljava/lang/String;)[B"⟩ : MethodName) prog_8_method_2_code 7 (some (.array .byte)) ws ({ frames := 2, cells := 1, slots := 0, locals := 26 } : Room) #[(.ref o0)] h0 (fun v h L => ∃ (b3 : Addr), ∃ (k3 : ClassId), v = some (.ref b3) ∧ Fr n0 L ∧ h0.size ≤ b3 ∧ Keep h0 h [] ∧ Arv Z h b3 k3 .byte (0 : Int32) [] (.int (0 : Int32))) := by
 refine own_body (plainFor_of_name own_pn2) (fun m => ef_rm8_0 m o0) ?_
 intro p e s m below meth c s₁ hx hby hlk hml hret hZ hown hnm X0 e0
 have N0 := Fr.nil n0
 refine Home.run X0 hx hby sg8_0_1 (pc' := 1) (L' := #[.val (.ref o0), .unset, .unset, .unset, .unset, .unset, .unset]) (S' := [(.ref o0)]) rfl ?_
 refine Home.st (own_pure (own_virtual X0 hx hZ hown (own_w41 hw) (own_w42 hw) (notFace_of_selects (args := #[]) (mvT hZ (own_w44 hw))) (own_w44 hw) (own_w43 hw) (own_w10 hw) (own_w45 hw) (by decide) (rm9_0 l Z a0 hw [] o0 p2 k_p2 sv_COMPACT_STRINGS h0 n0 O0 F_value_o0 V_p2 E_o0 S_COMPACT_STRINGS F_coder_o0 hCS) e0 E_o0 rfl (by rw [hml]; rfl) (argsL := []) (rest := []) (lenOf own_pd4 rfl) rfl rfl (W := 0) (by exact hW0) (by decide) (by decide) (hb hby d8_1) (by decide) (by decide))) fun T1 X1 e1 => ?_
 refine Home.run X1 hx hby sg8_4_3 (pc' := 8) (L' := #[.val (.ref o0), .unset, .unset, .unset, .unset, .unset, .unset]) (S' := [(.int (8 : Int32)), (.int (0 : Int32))]) rfl ?_
 refine Home.go (fun _ => iremM X1 hx rfl (hb hby d8_8) rfl (by decide)) ?_
 rw [show ((0 : Int32) % (8 : Int32)) = (0 : Int32) from by decide]
 refine Home.run X1 hx hby sg8_9_1 (pc' := 10) (L' := #[.val (.ref o0), .unset, .unset, .unset, .unset, .unset, .unset]) (S' := [(.int (5 : Int32)), (.int (0 : Int32))]) rfl ?_
 refine Home.go (fun _ => XS.icmpYes X1.here hx rfl (pc0 := 10) (pc' := 30) rfl (hb hby d8_10) rfl (tlt (by decide)).1 (by decide) (by decide)) ?_
 refine Home.run X1 hx hby sg8_30_1 (pc' := 31) (L' := #[.val (.ref o0), .unset, .unset, .unset, .unset, .unset, .unset]) (S' := [(.ref o0)]) rfl ?_
 refine Home.st (own_pure (own_virtual X1 hx hZ hown (own_w41 hw) (own_w42 hw) (notFace_of_selects (args := #[]) (mvT hZ (own_w44 hw))) (own_w44 hw) (own_w43 hw) (own_w10 hw) (own_w45 hw) (by decide) (rm9_0 l Z a0 hw [] o0 p2 k_p2 sv_COMPACT_STRINGS h0 n0 O0 F_value_o0 V_p2 E_o0 S_COMPACT_STRINGS F_coder_o0 hCS) e1 E_o0 rfl (by rw [hml]; rfl) (argsL := []) (rest := []) (lenOf own_pd4 rfl) rfl rfl (W := 0) (by exact hW0) (by decide) (by decide) (hb hby d8_31) (by decide) (by decide))) fun T2 X2 e2 => ?_
 refine Home.run X2 hx hby sg8_34_3 (pc' := 38) (L' := #[.val (.ref o0), .unset, .unset, .unset, .unset, .unset, .unset]) (S' := [(.int (8 : Int32)), (.int (0 : Int32))]) rfl ?_
 refine Home.go (fun _ => XS.idiv X2.here hx rfl (hb hby d8_38) rfl (by decide)) ?_
 rw [show ((0 : Int32) / (8 : Int32)) = (0 : Int32) from by decide]
 refine Home.na (own_newP (aty := .byte) X2 hx hZ (own_w26 hw) e2 (g := (mkF m 39 #[.val (.ref o0), .unset, .unset, .unset, .unset, .unset, .unset] [(.int (0 : Int32))])) rfl (hb hby d8_39) rfl (by decide) (cap := 0) (by decide) (by decide) (by decide) (by decide)) fun T3 h3 k3 b3 g3 X3 e3 E3 A3 => ?_
 have g_b3 : n0 ≤ b3 := Nat.le_trans (Old.le O0) (Nat.le_of_eq g3.symm)
 have V3 : Arv Z h3 b3 k3 .byte (0 : Int32) [] (.int (0 : Int32)) := Arv.new A3 (by decide)
 have O3 := O0.ext E3
 have K3 : Keep h0 h3 ([] : List Addr) := Keep.ext (Keep.refl h0 ([] : List Addr)) E3
 show Home T3 (mkF m 41 #[.val (.ref o0), .unset, .unset, .unset, .unset, .unset, .unset] [(.ref b3)])
 refine Home.run X3 hx hby sg8_41_11 (pc' := 55) (L' := #[.val (.ref o0), .val (.ref b3), .val (.int (0 : Int32)), .val (.int (0 : Int32)), .val (.int (0 : Int32)), .val (.int (0 : Int32)), .unset]) (S' := [(.ref o0), (.int (0 : Int32))]) rfl ?_
 refine Home.st (own_pure (own_virtual X3 hx hZ hown (own_w41 hw) (own_w42 hw) (notFace_of_selects (args := #[]) (mvT hZ (own_w44 hw))) (own_w44 hw) (own_w43 hw) (own_w10 hw) (own_w45 hw) (by decide) (rm9_0 l Z a0 hw [] o0 p2 k_p2 sv_COMPACT_STRINGS h3 n0 O3 (F_value_o0.keep K3 nin0) (V_p2.keep K3 nin0) (E_o0.keep K3) S_COMPACT_STRINGS (F_coder_o0.keep K3 nin0) hCS) e3 (E_o0.keep K3) rfl (by rw [hml]; rfl) (argsL := []) (rest := [(.int (0 : Int32))]) (lenOf own_pd4 rfl) rfl rfl (W := 1) (by exact hW0) (by decide) (by decide) (hb hby d8_55) (by decide) (by decide))) fun T4 X4 e4 => ?_
 refine Home.go (fun _ => XS.icmpYes X4.here hx rfl (pc0 := 58) (pc' := 142) rfl (hb hby d8_58) rfl (flt (by decide)).2.1 (by decide) (by decide)) ?_
 refine Home.run X4 hx hby sg8_142_1 (pc' := 143) (L' := #[.val (.ref o0), .val (.ref b3), .val (.int (0 : Int32)), .val (.int (0 : Int32)), .val (.int (0 : Int32)), .val (.int (0 : Int32)), .unset]) (S' := [(.int (0 : Int32))]) rfl ?_
 refine Home.go (fun _ => XS.ifYes X4.here hx rfl (pc0 := 143) (pc' := 156) rfl (hb hby d8_143) rfl ((if0 _ _).trans (teq (by decide)).1) (by decide) (by decide)) ?_
 refine Home.run X4 hx hby sg8_156_1 (pc' := 157) (L' := #[.val (.ref o0), .val (.ref b3), .val (.int (0 : Int32)), .val (.int (0 : Int32)), .val (.int (0 : Int32)), .val (.int (0 : Int32)), .unset]) (S' := [(.ref b3)]) rfl ?_
 exact Home.retR X4 hx hlk hret rfl rfl (hb hby d8_157) (by rw [show T4.heap = h3 from e4]; exact ⟨b3, k3, rfl, N0, (Nat.le_trans (Nat.le_refl _) (Nat.le_of_eq g3.symm)), K3, V3⟩) (by decide) (by decide)
theorem rm23_0 (l : Launch) (Z : State) (a0 : Array Value) (hw : HW a0 Z) (ws : List Jvm.Cond) (o0 : Addr) (j1 : Int64) (i3 : Int32) (h0 : Heap) (n0 : Nat) (O0 : Old Z n0 h0) (bnd_i3 : ¬ i3 < (0 : Int32) ∧ ¬ (4 : Int32) < i3) :
    Con l Z (⟨"com/example/tryst/tryst/encoding/Base32DecodePinLaw", "byteOk", "([BJII)Z"⟩ : MethodName) method_3_code 5 (some .boolean) ws ({ frames := 0, cells := 0, slots := 0, locals := 0 } : Room) #[(.ref o0), (.long j1), (.int (0 : Int32)), (.int i3)] h0 (Pur (some (.int (1 : Int32))) h0) := by
 refine own_body (plainFor_of_name own_pn0) (fun m => ef_rm23_0 m o0 j1 (0 : Int32) i3) ?_
 intro p e s m below meth c s₁ hx hby hlk hml hret hZ hown hnm X0 e0
 have N0 := Fr.nil n0
 refine Home.run X0 hx hby sg23_0_2 (pc' := 3) (L' := #[.val (.ref o0), .val (.long j1), .second, .val (.int (0 : Int32)), .val (.int i3)]) (S' := [(.int (0 : Int32)), (.int i3)]) rfl ?_
 refine Home.go (fun _ => XS.icmpNo X0.here hx rfl (hb hby d23_3) rfl (flt (bnd_nlt bnd_i3 (bnd_lit (0 : Int32)) (by decide +kernel))).1) ?_
 refine Home.run X0 hx hby sg23_6_1 (pc' := 7) (L' := #[.val (.ref o0), .val (.long j1), .second, .val (.int (0 : Int32)), .val (.int i3)]) (S' := [(.int (1 : Int32))]) rfl ?_
 exact Home.retN X0 hx hlk (t := .boolean) hret (by simp) (hb hby d23_7) ⟨congrArg some (congrArg Value.int (by first | rfl | exact nar_i2c _ | exact nar_i2b _)), rfl, e0⟩ (by decide) (by decide)
theorem rm6_0 (l : Launch) (Z : State) (a0 : Array Value) (hw : HW a0 Z) (ws : List Jvm.Cond) (o0 o2 : Addr) (k_o0 : ClassId) (u1 u2 : Int32) (k_o2 : ClassId) (h0 : Heap) (n0 : Nat) (O0 : Old Z n0 h0) (V_o0 : Arv Z h0 o0 k_o0 .char (2 : Int32) [(.int u1), (.int u2)] (.int (0 : Int32))) (bnd_u1 : ¬ u1 < (50 : Int32) ∧ ¬ (122 : Int32) < u1) (V_o2 : Arv Z h0 o2 k_o2 .byte (2 : Int32) [(.int (0 : Int32)), (.int (0 : Int32))] (.int (0 : Int32))) (g_o2 : n0 ≤ o2) (ne_o0_o2 : o0 ≠ o2) (bnd_u2 : ¬ u2 < (50 : Int32) ∧ ¬ (122 : Int32) < u2) :
    Con l Z (⟨"java/lang/StringUTF16", "compress", "([CI[BII)I"⟩ : MethodName) jdk_52_method_21_code 7 (some .int) ws ({ frames := 0, cells := 0, slots := 0, locals := 0 } : Room) #[(.ref o0), (.int (0 : Int32)), (.ref o2), (.int (0 : Int32)), (.int (2 : Int32))] h0 (fun v h L => v = some (.int (2 : Int32)) ∧ Fr n0 L ∧ Keep h0 h [o2] ∧ Arv Z h o2 k_o2 .byte (2 : Int32) [(.int u1), (.int u2)] (.int (0 : Int32))) := by
 refine own_body (plainFor_of_name own_pn3) (fun m => ef_rm6_0 m o0 (0 : Int32) o2 (2 : Int32)) ?_
 intro p e s m below meth c s₁ hx hby hlk hml hret hZ hown hnm X0 e0
 have N0 := Fr.nil n0
 refine Home.run X0 hx hby sg6_0_4 (pc' := 7) (L' := #[.val (.ref o0), .val (.int (0 : Int32)), .val (.ref o2), .val (.int (0 : Int32)), .val (.int (2 : Int32)), .val (.int (0 : Int32)), .unset]) (S' := [(.int (2 : Int32)), (.int (0 : Int32))]) rfl ?_
 refine Home.go (fun _ => XS.icmpNo X0.here hx rfl (hb hby d6_7) rfl (tlt (by decide)).2.1) ?_
 refine Home.run X0 hx hby sg6_10_2 (pc' := 12) (L' := #[.val (.ref o0), .val (.int (0 : Int32)), .val (.ref o2), .val (.int (0 : Int32)), .val (.int (2 : Int32)), .val (.int (0 : Int32)), .unset]) (S' := [(.int (0 : Int32)), (.ref o0)]) rfl ?_
 obtain ⟨cl1, Ar1, q1, S1, M1, H1, G1⟩ := id V_o0
 have ib1 : ¬ ((0 : Int32) < 0 ∨ cl1.slots.size ≤ ((0 : Int32)).toNatClampNeg) := inb_of S1 ⟨by decide, by decide⟩
 refine Home.go (X0.caload hx (j := (0 : Int32)) (v := (.int u1)) (by rw [e0]; exact Ar1.1) (State.isArrayOf_alike hZ.alike Ar1.2.1) Ar1.2.2 ib1 (Has.at H1 ib1 rfl) rfl rfl (hb hby d6_12)) ?_
 refine Home.run X0 hx hby sg6_13_3 (pc' := 20) (L' := #[.val (.ref o0), .val (.int (0 : Int32)), .val (.ref o2), .val (.int (0 : Int32)), .val (.int (2 : Int32)), .val (.int (0 : Int32)), .val (.int u1)]) (S' := [(.int (255 : Int32)), (.int u1)]) rfl ?_
 refine Home.go (fun _ => XS.icmpYes X0.here hx rfl (pc0 := 20) (pc' := 26) rfl (hb hby d6_20) rfl (flt (bnd_nlt (bnd_lit (255 : Int32)) bnd_u1 (by decide +kernel))).2.2.2 (by decide) (by decide)) ?_
 refine Home.run X0 hx hby sg6_26_4 (pc' := 31) (L' := #[.val (.ref o0), .val (.int (0 : Int32)), .val (.ref o2), .val (.int (0 : Int32)), .val (.int (2 : Int32)), .val (.int (0 : Int32)), .val (.int u1)]) (S' := [(.int (u1.toInt8.toInt32)), (.int (0 : Int32)), (.ref o2)]) rfl ?_
 rw [i2b_id bnd_u1 (by decide +kernel) (by decide +kernel)]
 obtain ⟨cl2, Ar2, q2, S2, M2, H2, G2⟩ := id V_o2
 refine Home.wr (stB X0 hx hZ e0 Ar2 (j := (0 : Int32)) (inb_of S2 ⟨by decide, by decide⟩) rfl rfl (hb hby d6_31)) fun T2 h2 X2 e2 W2 => ?_
 have W2' := Wr.to W2 (congrArg Value.int (nar_byte_id bnd_u1 (by decide +kernel) (by decide +kernel)))
 have V2 : Arv Z h2 o2 k_o2 .byte (2 : Int32) [(.int u1), (.int (0 : Int32))] (.int (0 : Int32)) := Arv.set Ar2 q2 S2 M2 H2 G2 (fits_byte_b bnd_u1 (by decide +kernel) (by decide +kernel)) W2' 0 rfl (Nat.le_of_ble_eq_true rfl)
 have O2 := O0.wr W2 g_o2
 have K2 : Keep h0 h2 ([o2] : List Addr) := Keep.wr (Keep.refl h0 ([o2] : List Addr)) W2 (Or.inl (List.mem_of_getElem? (i := 0) rfl))
 have N2 := Fr.snoc X2 N0 g_o2
 show Home T2 (mkF m 32 #[.val (.ref o0), .val (.int (0 : Int32)), .val (.ref o2), .val (.int (0 : Int32)), .val (.int (2 : Int32)), .val (.int (0 : Int32)), .val (.int u1)] [])
 refine Home.run X2 hx hby sg6_32_6 (pc' := 7) (L' := #[.val (.ref o0), .val (.int (1 : Int32)), .val (.ref o2), .val (.int (1 : Int32)), .val (.int (2 : Int32)), .val (.int (1 : Int32)), .val (.int u1)]) (S' := [(.int (2 : Int32)), (.int (1 : Int32))]) rfl ?_
 refine Home.go (fun _ => XS.icmpNo X2.here hx rfl (hb hby d6_7) rfl (tlt (by decide)).2.1) ?_
 refine Home.run X2 hx hby sg6_10_2 (pc' := 12) (L' := #[.val (.ref o0), .val (.int (1 : Int32)), .val (.ref o2), .val (.int (1 : Int32)), .val (.int (2 : Int32)), .val (.int (1 : Int32)), .val (.int u1)]) (S' := [(.int (1 : Int32)), (.ref o0)]) rfl ?_
 have q3 := (V_o0.other W2 ne_o0_o2)
 obtain ⟨cl4, Ar4, q4, S4, M4, H4, G4⟩ := id q3
 have ib4 : ¬ ((1 : Int32) < 0 ∨ cl4.slots.size ≤ ((1 : Int32)).toNatClampNeg) := inb_of S4 ⟨by decide, by decide⟩
 refine Home.go (X2.caload hx (j := (1 : Int32)) (v := (.int u2)) (by rw [e2]; exact Ar4.1) (State.isArrayOf_alike hZ.alike Ar4.2.1) Ar4.2.2 ib4 (Has.at H4 ib4 rfl) rfl rfl (hb hby d6_12)) ?_
 refine Home.run X2 hx hby sg6_13_3 (pc' := 20) (L' := #[.val (.ref o0), .val (.int (1 : Int32)), .val (.ref o2), .val (.int (1 : Int32)), .val (.int (2 : Int32)), .val (.int (1 : Int32)), .val (.int u2)]) (S' := [(.int (255 : Int32)), (.int u2)]) rfl ?_
 refine Home.go (fun _ => XS.icmpYes X2.here hx rfl (pc0 := 20) (pc' := 26) rfl (hb hby d6_20) rfl (flt (bnd_nlt (bnd_lit (255 : Int32)) bnd_u2 (by decide +kernel))).2.2.2 (by decide) (by decide)) ?_
 refine Home.run X2 hx hby sg6_26_4 (pc' := 31) (L' := #[.val (.ref o0), .val (.int (1 : Int32)), .val (.ref o2), .val (.int (1 : Int32)), .val (.int (2 : Int32)), .val (.int (1 : Int32)), .val (.int u2)]) (S' := [(.int (u2.toInt8.toInt32)), (.int (1 : Int32)), (.ref o2)]) rfl ?_
 rw [i2b_id bnd_u2 (by decide +kernel) (by decide +kernel)]
 obtain ⟨cl5, Ar5, q5, S5, M5, H5, G5⟩ := id V2
 refine Home.wr (stB X2 hx hZ e2 Ar5 (j := (1 : Int32)) (inb_of S5 ⟨by decide, by decide⟩) rfl rfl (hb hby d6_31)) fun T5 h5 X5 e5 W5 => ?_
 have W5' := Wr.to W5 (congrArg Value.int (nar_byte_id bnd_u2 (by decide +kernel) (by decide +kernel)))
 have V5 : Arv Z h5 o2 k_o2 .byte (2 : Int32) [(.int u1), (.int u2)] (.int (0 : Int32)) := Arv.set Ar5 q5 S5 M5 H5 G5 (fits_byte_b bnd_u2 (by decide +kernel) (by decide +kernel)) W5' 1 rfl (Nat.le_of_ble_eq_true rfl)
 have O5 := O2.wr W5 g_o2
 have K5 : Keep h0 h5 ([o2] : List Addr) := Keep.wr K2 W5 (Or.inl (List.mem_of_getElem? (i := 0) rfl))
 have N5 := Fr.snoc X5 N2 g_o2
 show Home T5 (mkF m 32 #[.val (.ref o0), .val (.int (1 : Int32)), .val (.ref o2), .val (.int (1 : Int32)), .val (.int (2 : Int32)), .val (.int (1 : Int32)), .val (.int u2)] [])
 refine Home.run X5 hx hby sg6_32_6 (pc' := 7) (L' := #[.val (.ref o0), .val (.int (2 : Int32)), .val (.ref o2), .val (.int (2 : Int32)), .val (.int (2 : Int32)), .val (.int (2 : Int32)), .val (.int u2)]) (S' := [(.int (2 : Int32)), (.int (2 : Int32))]) rfl ?_
 refine Home.go (fun _ => XS.icmpYes X5.here hx rfl (pc0 := 7) (pc' := 44) rfl (hb hby d6_7) rfl (flt (by decide)).2.1 (by decide) (by decide)) ?_
 refine Home.run X5 hx hby sg6_44_1 (pc' := 46) (L' := #[.val (.ref o0), .val (.int (2 : Int32)), .val (.ref o2), .val (.int (2 : Int32)), .val (.int (2 : Int32)), .val (.int (2 : Int32)), .val (.int u2)]) (S' := [(.int (2 : Int32))]) rfl ?_
 exact Home.retI X5 hx hlk hret (hb hby d6_46) (by rw [show T5.heap = h5 from e5]; exact ⟨rfl, N5, K5, V5⟩) (by decide) (by decide)
theorem rm5_0 (l : Launch) (Z : State) (a0 : Array Value) (hw : HW a0 Z) (ws : List Jvm.Cond) (o0 : Addr) (k_o0 : ClassId) (u1 u2 : Int32) (h0 : Heap) (n0 : Nat) (O0 : Old Z n0 h0) (V_o0 : Arv Z h0 o0 k_o0 .char (2 : Int32) [(.int u1), (.int u2)] (.int (0 : Int32))) (bnd_u1 : ¬ u1 < (50 : Int32) ∧ ¬ (122 : Int32) < u1) (bnd_u2 : ¬ u2 < (50 : Int32) ∧ ¬ (122 : Int32) < u2) :
    Con l Z (⟨"java/lang/StringUTF16", "compress", "([CII)[B"⟩ : MethodName) jdk_52_method_16_code 6 (some (.array .byte)) ws ({ frames := 1, cells := 1, slots := 2, locals := 18 } : Room) #[(.ref o0), (.int (0 : Int32)), (.int (2 : Int32))] h0 (fun v h L => ∃ (b1 : Addr), ∃ (k1 : ClassId), v = some (.ref b1) ∧ Fr n0 L ∧ h0.size ≤ b1 ∧ Keep h0 h [] ∧ Arv Z h b1 k1 .byte (2 : Int32) [(.int u1), (.int u2)] (.int (0 : Int32))) := by
 refine own_body (plainFor_of_name own_pn3) (fun m => ef_rm5_0 m o0 (0 : Int32) (2 : Int32)) ?_
 intro p e s m below meth c s₁ hx hby hlk hml hret hZ hown hnm X0 e0
 have N0 := Fr.nil n0
 refine Home.run X0 hx hby sg5_0_1 (pc' := 1) (L' := #[.val (.ref o0), .val (.int (0 : Int32)), .val (.int (2 : Int32)), .unset, .unset, .unset]) (S' := [(.int (2 : Int32))]) rfl ?_
 refine Home.na (own_newP (aty := .byte) X0 hx hZ (own_w26 hw) e0 (g := (mkF m 1 #[.val (.ref o0), .val (.int (0 : Int32)), .val (.int (2 : Int32)), .unset, .unset, .unset] [(.int (2 : Int32))])) rfl (hb hby d5_1) rfl (by decide) (cap := 2) (by decide) (by decide) (by decide) (by decide)) fun T1 h1 k1 b1 g1 X1 e1 E1 A1 => ?_
 have g_b1 : n0 ≤ b1 := Nat.le_trans (Old.le O0) (Nat.le_of_eq g1.symm)
 have V1 : Arv Z h1 b1 k1 .byte (2 : Int32) [(.int (0 : Int32)), (.int (0 : Int32))] (.int (0 : Int32)) := (Arv.new A1 (by decide)).pad (pad_rep [] (.int (0 : Int32)) 2)
 have O1 := O0.ext E1
 have K1 : Keep h0 h1 ([] : List Addr) := Keep.ext (Keep.refl h0 ([] : List Addr)) E1
 refine Home.run X1 hx hby sg5_3_6 (pc' := 9) (L' := #[.val (.ref o0), .val (.int (0 : Int32)), .val (.int (2 : Int32)), .val (.ref b1), .unset, .unset]) (S' := [(.int (2 : Int32)), (.int (0 : Int32)), (.ref b1), (.int (0 : Int32)), (.ref o0)]) rfl ?_
 have ne2 : o0 ≠ b1 := (Nat.ne_of_lt (Nat.lt_of_lt_of_le V_o0.lt (Nat.le_trans (Nat.le_refl _) (Nat.le_of_eq g1.symm))))
 refine Home.call (own_static X1 hx hZ hown (own_w27 hw) (own_w28 hw) (own_w24 hw) (own_w29 hw) (by decide) (rm6_0 l Z a0 hw [] o0 b1 k_o0 u1 u2 k1 h1 n0 O1 (V_o0.keep K1 nin0) bnd_u1 V1 g_b1 ne2 bnd_u2) e1 rfl (by rw [hml]; rfl) (argsL := [(.ref o0), (.int (0 : Int32)), (.ref b1), (.int (0 : Int32)), (.int (2 : Int32))]) (rest := []) (lenOf own_pd7 rfl) rfl rfl (W := 0) (by exact hW0) (by decide) (by decide) (hb hby d5_9) (by decide) (by decide)) ?_
 rintro _ T3 L3 X3 ⟨rfl, N3q, K3q, P3_0⟩
 have O3 := Old.keep O1 K3q (allS g_b1 all0)
 have K3 : Keep h0 T3.heap ([] : List Addr) := Keep.trans K1 K3q (allS (Or.inr (Nat.le_trans (Nat.le_refl _) (Nat.le_of_eq g1.symm))) all0)
 have N3 := Fr.app N0 N3q
 refine Home.run X3 hx hby sg5_12_3 (pc' := 17) (L' := #[.val (.ref o0), .val (.int (0 : Int32)), .val (.int (2 : Int32)), .val (.ref b1), .val (.int (2 : Int32)), .unset]) (S' := [(.int (2 : Int32)), (.int (2 : Int32))]) rfl ?_
 refine Home.go (fun _ => XS.icmpYes X3.here hx rfl (pc0 := 17) (pc' := 57) rfl (hb hby d5_17) rfl (teq (by decide)).1 (by decide) (by decide)) ?_
 refine Home.run X3 hx hby sg5_57_1 (pc' := 58) (L' := #[.val (.ref o0), .val (.int (0 : Int32)), .val (.int (2 : Int32)), .val (.ref b1), .val (.int (2 : Int32)), .unset]) (S' := [(.ref b1)]) rfl ?_
 exact Home.retR X3 hx hlk hret rfl rfl (hb hby d5_58) ⟨b1, k1, rfl, N3, (Nat.le_trans (Nat.le_refl _) (Nat.le_of_eq g1.symm)), K3, P3_0⟩ (by decide) (by decide)
theorem rm7_0 (l : Launch) (Z : State) (a0 : Array Value) (hw : HW a0 Z) (ws : List Jvm.Cond) (o0 : Addr) (k_o0 : ClassId) (u1 u2 : Int32) (h0 : Heap) (n0 : Nat) (O0 : Old Z n0 h0) (V_o0 : Arv Z h0 o0 k_o0 .byte (2 : Int32) [(.int u1), (.int u2)] (.int (0 : Int32))) :
    Con l Z (⟨"java/lang/StringUTF16", "coderFromArrayLen", "([BI)B"⟩ : MethodName) jdk_52_method_15_code 2 (some .byte) ws ({ frames := 0, cells := 0, slots := 0, locals := 0 } : Room) #[(.ref o0), (.int (2 : Int32))] h0 (Pur (some (.int (0 : Int32))) h0) := by
 refine own_body (plainFor_of_name own_pn3) (fun m => ef_rm7_0 m o0 (2 : Int32)) ?_
 intro p e s m below meth c s₁ hx hby hlk hml hret hZ hown hnm X0 e0
 have N0 := Fr.nil n0
 refine Home.run X0 hx hby sg7_0_2 (pc' := 2) (L' := #[.val (.ref o0), .val (.int (2 : Int32))]) (S' := [(.ref o0), (.int (2 : Int32))]) rfl ?_
 obtain ⟨cl1, Ar1, q1, S1, M1, H1, G1⟩ := id V_o0
 refine Home.go (own_alen X0 hx hZ e0 Ar1 S1 M1 rfl rfl (hb hby d7_2)) ?_
 refine Home.run X0 hx hby sg7_3_4 (pc' := 8) (L' := #[.val (.ref o0), .val (.int (2 : Int32))]) (S' := [(.int (0 : Int32))]) rfl ?_
 exact Home.retN X0 hx hlk (t := .byte) hret (by simp) (hb hby d7_8) ⟨congrArg some (congrArg Value.int (by first | rfl | exact nar_i2c _ | exact nar_i2b _)), rfl, e0⟩ (by decide) (by decide)
theorem rm3_1 (l : Launch) (Z : State) (a0 : Array Value) (hw : HW a0 Z) (ws : List Jvm.Cond) (o0 o1 : Addr) (sv_COMPACT_STRINGS : Int32) (k_o1 : ClassId) (u1 u2 : Int32) (h0 : Heap) (n0 : Nat) (O0 : Old Z n0 h0) (S_COMPACT_STRINGS : Sta Z Z.heap "java/lang/String" "COMPACT_STRINGS" "Z" (.int sv_COMPACT_STRINGS)) (hCS : ¬ (sv_COMPACT_STRINGS = (0 : Int32))) (V_o1 : Arv Z h0 o1 k_o1 .char (2 : Int32) [(.int u1), (.int u2)] (.int (0 : Int32))) (bnd_u1 : ¬ u1 < (50 : Int32) ∧ ¬ (122 : Int32) < u1) (bnd_u2 : ¬ u2 < (50 : Int32) ∧ ¬ (122 : Int32) < u2) (E_o0 : Exa Z h0 o0 "java/lang/String") (F_coder_o0 : Fld Z h0 o0 "java/lang/String" "coder" "B" (.int (0 : Int32))) (g_o0 : n0 ≤ o0) (F_value_o0 : Fld Z h0 o0 "java/lang/String" "value" "[B" .null) :
    Con l Z (⟨"java/lang/String", "<init>", "([CIILjava/lang/Void;)V"⟩ : MethodName) jdk_42_method_149_code 6 none ws ({ frames := 2, cells := 1, slots := 2, locals := 35 } : Room) #[(.ref o0), (.ref o1), (.int (0 : Int32)), (.int (2 : Int32)), .null] h0 (fun v h L => ∃ (b1_3 : Addr), ∃ (k1_3 : ClassId), v = none ∧ Fr n0 L ∧ h0.size ≤ b1_3 ∧ Keep h0 h [o0] ∧ Exa Z h o0 "java/lang/String" ∧ Fld Z h o0 "java/lang/String" "coder" "B" (.int (0 : Int32)) ∧ Fld Z h o0 "java/lang/String" "value" "[B" (.ref b1_3) ∧ Arv Z h b1_3 k1_3 .byte (2 : Int32) [(.int u1), (.int u2)] (.int (0 : Int32))) := by
 refine own_body (plainFor_of_name own_pn1) (fun m => ef_rm3_1 m o0 o1 (0 : Int32) (2 : Int32)) ?_
 intro p e s m below meth c s₁ hx hby hlk hml hret hZ hown hnm X0 e0
 have N0 := Fr.nil n0
 refine Home.run X0 hx hby sg3_0_1 (pc' := 1) (L' := #[.val (.ref o0), .val (.ref o1), .val (.int (0 : Int32)), .val (.int (2 : Int32)), .val .null, .unset]) (S' := [(.ref o0)]) rfl ?_
 refine Home.st (initO X0 hx hZ hown (own_w18 hw) (own_w19 hw) (own_w20 hw) e0 rfl (by rw [hml]; rfl) rfl (hb hby d3_1) (by decide) (W := 0) (by exact hW0) (by decide)) fun T1 X1 e1 => ?_
 refine Home.run X1 hx hby sg3_4_1 (pc' := 5) (L' := #[.val (.ref o0), .val (.ref o1), .val (.int (0 : Int32)), .val (.int (2 : Int32)), .val .null, .unset]) (S' := [(.int (2 : Int32))]) rfl ?_
 refine Home.go (fun _ => XS.ifYes X1.here hx rfl (pc0 := 5) (pc' := 27) rfl (hb hby d3_5) rfl ((if0 _ _).trans (feq (by decide)).2) (by decide) (by decide)) ?_
 refine Home.st (getS2 X1 hx hZ hown (host := "") (Or.inl (own_w21 hw)) Via.refl e1 (S_COMPACT_STRINGS.ext O0.2) rfl (hb hby d3_27)) fun T2 X2 e2 => ?_
 refine Home.go (fun _ => XS.ifNo X2.here hx rfl (hb hby d3_30) rfl ((if0 _ _).trans (feq hCS).1)) ?_
 refine Home.run X2 hx hby sg3_33_3 (pc' := 36) (L' := #[.val (.ref o0), .val (.ref o1), .val (.int (0 : Int32)), .val (.int (2 : Int32)), .val .null, .unset]) (S' := [(.int (2 : Int32)), (.int (0 : Int32)), (.ref o1)]) rfl ?_
 refine Home.call (own_static X2 hx hZ hown (own_w22 hw) (own_w23 hw) (own_w24 hw) (own_w25 hw) (by decide) (rm5_0 l Z a0 hw [] o1 k_o1 u1 u2 h0 n0 O0 V_o1 bnd_u1 bnd_u2) e2 rfl (by rw [hml]; rfl) (argsL := [(.ref o1), (.int (0 : Int32)), (.int (2 : Int32))]) (rest := []) (lenOf own_pd8 rfl) rfl rfl (W := 0) (by exact hW0) (by decide) (by decide) (hb hby d3_36) (by decide) (by decide)) ?_
 rintro _ T3 L3 X3 ⟨b1_3, k1_3, rfl, N3q, sz_b1_3, K3q, P3_0⟩
 have g_b1_3 : n0 ≤ b1_3 := Nat.le_trans (Old.le O0) sz_b1_3
 have O3 := Old.keep O0 K3q all0
 have K3 : Keep h0 T3.heap ([o0] : List Addr) := Keep.trans (Keep.refl h0 ([o0] : List Addr)) K3q all0
 have N3 := Fr.app N0 N3q
 refine Home.run X3 hx hby sg3_39_4 (pc' := 45) (L' := #[.val (.ref o0), .val (.ref o1), .val (.int (0 : Int32)), .val (.int (2 : Int32)), .val .null, .val (.ref b1_3)]) (S' := [(.int (2 : Int32)), (.ref b1_3), (.ref o0)]) rfl ?_
 refine Home.st (own_pure (own_static X3 hx hZ hown (own_w30 hw) (own_w31 hw) (own_w24 hw) (own_w32 hw) (by decide) (rm7_0 l Z a0 hw [] b1_3 k1_3 u1 u2 T3.heap n0 O3 P3_0) rfl rfl (by rw [hml]; rfl) (argsL := [(.ref b1_3), (.int (2 : Int32))]) (rest := [(.ref o0)]) (lenOf own_pd9 rfl) rfl rfl (W := 1) (by exact hW0) (by decide) (by decide) (hb hby d3_45) (by decide) (by decide))) fun T4 X4 e4 => ?_
 show Home T4 (mkF m 48 #[.val (.ref o0), .val (.ref o1), .val (.int (0 : Int32)), .val (.int (2 : Int32)), .val .null, .val (.ref b1_3)] [(.int (0 : Int32)), (.ref o0)])
 have q5 := (F_coder_o0.keep K3q nin0)
 refine Home.wr (putFN X4 hx hZ hown (own_w33 hw) Via.refl e4 q5 (E_o0.keep K3) (Or.inr ⟨(own_w34 hw), rfl, hnm⟩) (own_w9 hw) (ty := .byte) (v := (.int (0 : Int32))) (v' := (.int (0 : Int32))) (by decide) rfl rfl rfl rfl (hb hby d3_48)) fun T6 h6 X6 e6 W6 => ?_
 have Fw6 := q5.same W6
 have O6 := O3.wr W6 g_o0
 have K6 : Keep h0 h6 ([o0] : List Addr) := Keep.wr K3 W6 (Or.inl (List.mem_of_getElem? (i := 0) rfl))
 have N6 := Fr.snoc X6 N3 g_o0
 refine Home.run X6 hx hby sg3_51_2 (pc' := 54) (L' := #[.val (.ref o0), .val (.ref o1), .val (.int (0 : Int32)), .val (.int (2 : Int32)), .val .null, .val (.ref b1_3)]) (S' := [(.ref b1_3), (.ref o0)]) rfl ?_
 have q7 := ((F_value_o0.keep K3q nin0).other W6 (Or.inr (slot_ne (Or.inr (own_w36 hw)) (Or.inr (own_w34 hw)) (by decide) (t := (.array .byte)) (t' := .byte) (by decide) (by decide))))
 refine Home.wr (putF X6 hx hZ hown (host := "") (Or.inl (own_w35 hw)) Via.refl e6 q7 (E_o0.keep K6) (Or.inr ⟨(own_w36 hw), rfl, hnm⟩) (own_w9 hw) (ty := (.array .byte)) (by decide) rfl rfl rfl rfl (hb hby d3_54)) fun T8 h8 X8 e8 W8 => ?_
 have Fw8 := q7.same W8
 have O8 := O6.wr W8 g_o0
 have K8 : Keep h0 h8 ([o0] : List Addr) := Keep.wr K6 W8 (Or.inl (List.mem_of_getElem? (i := 0) rfl))
 have N8 := Fr.snoc X8 N6 g_o0
 have q9 := (Fw6.other W8 (Or.inr (slot_ne (Or.inr (own_w34 hw)) (Or.inr (own_w36 hw)) (by decide) (t := .byte) (t' := (.array .byte)) (by decide) (by decide))))
 have ne10 : b1_3 ≠ o0 := (Ne.symm (Nat.ne_of_lt (Nat.lt_of_lt_of_le E_o0.lt (Nat.le_trans (Nat.le_refl _) sz_b1_3))))
 have q11 := ((P3_0.other W6 ne10).other W8 ne10)
 exact Home.ret0 X8 hx hlk hret (hb hby d3_57) (by rw [show T8.heap = h8 from e8]; exact ⟨b1_3, k1_3, rfl, N8, (Nat.le_trans (Nat.le_refl _) sz_b1_3), K8, (E_o0.keep K8), q9, Fw8, q11⟩) (by decide) (by decide)
theorem rm2_1 (l : Launch) (Z : State) (a0 : Array Value) (hw : HW a0 Z) (ws : List Jvm.Cond) (o0 o1 : Addr) (k_o1 : ClassId) (u1 u2 sv_COMPACT_STRINGS : Int32) (h0 : Heap) (n0 : Nat) (O0 : Old Z n0 h0) (V_o1 : Arv Z h0 o1 k_o1 .char (2 : Int32) [(.int u1), (.int u2)] (.int (0 : Int32))) (S_COMPACT_STRINGS : Sta Z Z.heap "java/lang/String" "COMPACT_STRINGS" "Z" (.int sv_COMPACT_STRINGS)) (E_o0 : Exa Z h0 o0 "java/lang/String") (F_coder_o0 : Fld Z h0 o0 "java/lang/String" "coder" "B" (.int (0 : Int32))) (F_value_o0 : Fld Z h0 o0 "java/lang/String" "value" "[B" .null) (bnd_u1 : ¬ u1 < (50 : Int32) ∧ ¬ (122 : Int32) < u1) (bnd_u2 : ¬ u2 < (50 : Int32) ∧ ¬ (122 : Int32) < u2) (g_o0 : n0 ≤ o0) (hCS : ¬ (sv_COMPACT_STRINGS = (0 : Int32))) :
    Con l Z (⟨"java/lang/String", "<init>", "([C)V"⟩ : MethodName) jdk_42_method_3_code 2 none ws ({ frames := 3, cells := 1, slots := 2, locals := 52 } : Room) #[(.ref o0), (.ref o1)] h0 (fun v h L => ∃ (b1_3_2 : Addr), ∃ (k1_3_2 : ClassId), v = none ∧ Fr n0 L ∧ h0.size ≤ b1_3_2 ∧ Keep h0 h [o0] ∧ Exa Z h o0 "java/lang/String" ∧ Fld Z h o0 "java/lang/String" "coder" "B" (.int (0 : Int32)) ∧ Fld Z h o0 "java/lang/String" "value" "[B" (.ref b1_3_2) ∧ Arv Z h b1_3_2 k1_3_2 .byte (2 : Int32) [(.int u1), (.int u2)] (.int (0 : Int32))) := by
 refine own_body (plainFor_of_name own_pn1) (fun m => ef_rm2_1 m o0 o1) ?_
 intro p e s m below meth c s₁ hx hby hlk hml hret hZ hown hnm X0 e0
 have N0 := Fr.nil n0
 refine Home.run X0 hx hby sg2_0_4 (pc' := 4) (L' := #[.val (.ref o0), .val (.ref o1)]) (S' := [(.ref o1), (.int (0 : Int32)), (.ref o1), (.ref o0)]) rfl ?_
 obtain ⟨cl1, Ar1, q1, S1, M1, H1, G1⟩ := id V_o1
 refine Home.go (own_alen X0 hx hZ e0 Ar1 S1 M1 rfl rfl (hb hby d2_4)) ?_
 refine Home.run X0 hx hby sg2_5_1 (pc' := 6) (L' := #[.val (.ref o0), .val (.ref o1)]) (S' := [.null, (.int (2 : Int32)), (.int (0 : Int32)), (.ref o1), (.ref o0)]) rfl ?_
 refine Home.call (own_special X0 hx hZ hown rfl (own_w14 hw) (own_w15 hw) (own_w10 hw) (own_w17 hw) (by decide) (rm3_1 l Z a0 hw [] o0 o1 sv_COMPACT_STRINGS k_o1 u1 u2 h0 n0 O0 S_COMPACT_STRINGS hCS V_o1 bnd_u1 bnd_u2 E_o0 F_coder_o0 g_o0 F_value_o0) e0 rfl (by rw [hml]; rfl) (a := o0) (argsL := [(.ref o1), (.int (0 : Int32)), (.int (2 : Int32)), .null]) (rest := []) (lenOf own_pd1 rfl) rfl rfl (W := 0) (by exact hW0) (by decide) (by decide) (hb hby d2_6) (by decide) (by decide)) ?_
 rintro _ T2 L2 X2 ⟨b1_3_2, k1_3_2, rfl, N2q, sz_b1_3_2, K2q, P2_0, P2_1, P2_2, P2_3⟩
 have g_b1_3_2 : n0 ≤ b1_3_2 := Nat.le_trans (Old.le O0) sz_b1_3_2
 have O2 := Old.keep O0 K2q (allS g_o0 all0)
 have K2 : Keep h0 T2.heap ([o0] : List Addr) := Keep.trans (Keep.refl h0 ([o0] : List Addr)) K2q (allS (Or.inl (List.mem_of_getElem? (i := 0) rfl)) all0)
 have N2 := Fr.app N0 N2q
 exact Home.ret0 X2 hx hlk hret (hb hby d2_9) ⟨b1_3_2, k1_3_2, rfl, N2, (Nat.le_trans (Nat.le_refl _) sz_b1_3_2), K2, P2_0, P2_1, P2_2, P2_3⟩ (by decide) (by decide)
theorem rm9_1 (l : Launch) (Z : State) (a0 : Array Value) (hw : HW a0 Z) (ws : List Jvm.Cond) (o0 p2 : Addr) (k_p2 : ClassId) (u1 u2 sv_COMPACT_STRINGS : Int32) (h0 : Heap) (n0 : Nat) (O0 : Old Z n0 h0) (F_value_o0 : Fld Z h0 o0 "java/lang/String" "value" "[B" (.ref p2)) (V_p2 : Arv Z h0 p2 k_p2 .byte (2 : Int32) [(.int u1), (.int u2)] (.int (0 : Int32))) (E_o0 : Exa Z h0 o0 "java/lang/String") (S_COMPACT_STRINGS : Sta Z Z.heap "java/lang/String" "COMPACT_STRINGS" "Z" (.int sv_COMPACT_STRINGS)) (F_coder_o0 : Fld Z h0 o0 "java/lang/String" "coder" "B" (.int (0 : Int32))) (hCS : ¬ (sv_COMPACT_STRINGS = (0 : Int32))) :
    Con l Z (⟨"java/lang/String", "length", "()I"⟩ : MethodName) jdk_42_method_54_code 1 (some .int) ws ({ frames := 1, cells := 0, slots := 0, locals := 13 } : Room) #[(.ref o0)] h0 (Pur (some (.int (2 : Int32))) h0) := by
 refine own_body (plainFor_of_name own_pn1) (fun m => ef_rm9_1 m o0) ?_
 intro p e s m below meth c s₁ hx hby hlk hml hret hZ hown hnm X0 e0
 have N0 := Fr.nil n0
 refine Home.run X0 hx hby sg9_0_1 (pc' := 1) (L' := #[.val (.ref o0)]) (S' := [(.ref o0)]) rfl ?_
 refine Home.st (getF X0 hx hZ hown (host := "") (Or.inl (own_w35 hw)) Via.refl e0 F_value_o0 rfl rfl (hb hby d9_1)) fun T1 X1 e1 => ?_
 obtain ⟨cl2, Ar2, q2, S2, M2, H2, G2⟩ := id V_p2
 refine Home.go (own_alen X1 hx hZ e1 Ar2 S2 M2 rfl rfl (hb hby d9_4)) ?_
 refine Home.run X1 hx hby sg9_5_1 (pc' := 6) (L' := #[.val (.ref o0)]) (S' := [(.ref o0), (.int (2 : Int32))]) rfl ?_
 refine Home.st (own_pure (own_virtual X1 hx hZ hown (own_w46 hw) (own_w47 hw) (notFace_of_selects (args := #[]) (mvT hZ (own_w49 hw))) (own_w49 hw) (own_w48 hw) (own_w10 hw) (own_w50 hw) (by decide) (rm10_0 l Z a0 hw [] o0 sv_COMPACT_STRINGS h0 n0 O0 S_COMPACT_STRINGS hCS F_coder_o0) e1 E_o0 rfl (by rw [hml]; rfl) (argsL := []) (rest := [(.int (2 : Int32))]) (lenOf own_pd3 rfl) rfl rfl (W := 1) (by exact hW0) (by decide) (by decide) (hb hby d9_6) (by decide) (by decide))) fun T3 X3 e3 => ?_
 refine Home.run X3 hx hby sg9_9_1 (pc' := 10) (L' := #[.val (.ref o0)]) (S' := [(.int (2 : Int32))]) rfl ?_
 exact Home.retI X3 hx hlk hret (hb hby d9_10) ⟨rfl, rfl, e3⟩ (by decide) (by decide)
theorem rm12_0 (l : Launch) (Z : State) (a0 : Array Value) (hw : HW a0 Z) (ws : List Jvm.Cond) (o0 : Addr) (sv_COMPACT_STRINGS : Int32) (h0 : Heap) (n0 : Nat) (O0 : Old Z n0 h0) (S_COMPACT_STRINGS : Sta Z Z.heap "java/lang/String" "COMPACT_STRINGS" "Z" (.int sv_COMPACT_STRINGS)) (hCS : ¬ (sv_COMPACT_STRINGS = (0 : Int32))) (F_coder_o0 : Fld Z h0 o0 "java/lang/String" "coder" "B" (.int (0 : Int32))) :
    Con l Z (⟨"java/lang/String", "isLatin1", "()Z"⟩ : MethodName) jdk_42_method_154_code 1 (some .boolean) ws ({ frames := 0, cells := 0, slots := 0, locals := 0 } : Room) #[(.ref o0)] h0 (Pur (some (.int (1 : Int32))) h0) := by
 refine own_body (plainFor_of_name own_pn1) (fun m => ef_rm12_0 m o0) ?_
 intro p e s m below meth c s₁ hx hby hlk hml hret hZ hown hnm X0 e0
 have N0 := Fr.nil n0
 refine Home.st (getS2 X0 hx hZ hown (host := "") (Or.inl (own_w21 hw)) Via.refl e0 (S_COMPACT_STRINGS.ext O0.2) rfl (hb hby d12_0)) fun T1 X1 e1 => ?_
 refine Home.go (fun _ => XS.ifNo X1.here hx rfl (hb hby d12_3) rfl ((if0 _ _).trans (feq hCS).1)) ?_
 refine Home.run X1 hx hby sg12_6_1 (pc' := 7) (L' := #[.val (.ref o0)]) (S' := [(.ref o0)]) rfl ?_
 refine Home.st (getF X1 hx hZ hown (host := "") (Or.inl (own_w33 hw)) Via.refl e1 F_coder_o0 rfl rfl (hb hby d12_7)) fun T2 X2 e2 => ?_
 refine Home.go (fun _ => XS.ifNo X2.here hx rfl (hb hby d12_10) rfl ((if0 _ _).trans (teq (by decide)).2)) ?_
 refine Home.run X2 hx hby sg12_13_2 (pc' := 18) (L' := #[.val (.ref o0)]) (S' := [(.int (1 : Int32))]) rfl ?_
 exact Home.retN X2 hx hlk (t := .boolean) hret (by simp) (hb hby d12_18) ⟨congrArg some (congrArg Value.int (by first | rfl | exact nar_i2c _ | exact nar_i2b _)), rfl, e2⟩ (by decide) (by decide)
theorem rm15_0 (l : Launch) (Z : State) (a0 : Array Value) (hw : HW a0 Z) (ws : List Jvm.Cond) (i0 : Int32) (o2 : Value) (h0 : Heap) (n0 : Nat) (O0 : Old Z n0 h0) (bnd_i0 : ¬ i0 < (0 : Int32) ∧ ¬ (1 : Int32) < i0) (isr_o2 : o2.isRef = true) :
    Con l Z (⟨"jdk/internal/util/Preconditions", "checkIndex", "(IILjava/util/function/BiFunction;)I"⟩ : MethodName) jdk_41_method_11_code 3 (some .int) ws ({ frames := 0, cells := 0, slots := 0, locals := 0 } : Room) #[(.int i0), (.int (2 : Int32)), o2] h0 (Pur (some (.int i0)) h0) := by
 refine own_body (plainFor_of_name own_pn4) (fun m => ef_rm15_0 m i0 (2 : Int32) o2 (isr_o2)) ?_
 intro p e s m below meth c s₁ hx hby hlk hml hret hZ hown hnm X0 e0
 have N0 := Fr.nil n0
 refine Home.run X0 hx hby sg15_0_1 (pc' := 1) (L' := #[.val (.int i0), .val (.int (2 : Int32)), .val o2]) (S' := [(.int i0)]) rfl ?_
 refine Home.go (fun _ => XS.ifNo X0.here hx rfl (hb hby d15_1) rfl ((if0 _ _).trans (flt (bnd_nlt bnd_i0 (bnd_lit (0 : Int32)) (by decide +kernel))).1)) ?_
 refine Home.run X0 hx hby sg15_4_2 (pc' := 6) (L' := #[.val (.int i0), .val (.int (2 : Int32)), .val o2]) (S' := [(.int (2 : Int32)), (.int i0)]) rfl ?_
 refine Home.go (fun _ => XS.icmpYes X0.here hx rfl (pc0 := 6) (pc' := 16) rfl (hb hby d15_6) rfl (tlt (bnd_lt bnd_i0 (bnd_lit (2 : Int32)) (by decide +kernel))).1 (by decide) (by decide)) ?_
 refine Home.run X0 hx hby sg15_16_1 (pc' := 17) (L' := #[.val (.int i0), .val (.int (2 : Int32)), .val o2]) (S' := [(.int i0)]) rfl ?_
 exact Home.retI X0 hx hlk hret (hb hby d15_17) ⟨rfl, rfl, e0⟩ (by decide) (by decide)
theorem rm14_0 (l : Launch) (Z : State) (a0 : Array Value) (hw : HW a0 Z) (ws : List Jvm.Cond) (i0 : Int32) (sv_SIOOBE_FORMATTER : Value) (h0 : Heap) (n0 : Nat) (O0 : Old Z n0 h0) (bnd_i0 : ¬ i0 < (0 : Int32) ∧ ¬ (1 : Int32) < i0) (S_SIOOBE_FORMATTER : Sta Z Z.heap "jdk/internal/util/Preconditions" "SIOOBE_FORMATTER" "Ljava/util/function/BiFunction;" sv_SIOOBE_FORMATTER) (isr_sv_SIOOBE_FORMATTER : sv_SIOOBE_FORMATTER.isRef = true) :
    Con l Z (⟨"java/lang/String", "checkIndex", "(II)V"⟩ : MethodName) jdk_42_method_155_code 2 none ws ({ frames := 1, cells := 0, slots := 0, locals := 14 } : Room) #[(.int i0), (.int (2 : Int32))] h0 (Pur none h0) := by
 refine own_body (plainFor_of_name own_pn1) (fun m => ef_rm14_0 m i0 (2 : Int32)) ?_
 intro p e s m below meth c s₁ hx hby hlk hml hret hZ hown hnm X0 e0
 have N0 := Fr.nil n0
 refine Home.run X0 hx hby sg14_0_2 (pc' := 2) (L' := #[.val (.int i0), .val (.int (2 : Int32))]) (S' := [(.int (2 : Int32)), (.int i0)]) rfl ?_
 refine Home.st (getS2 X0 hx hZ hown (host := "") (Or.inl (own_w71 hw)) Via.refl e0 (S_SIOOBE_FORMATTER.ext O0.2) rfl (hb hby d14_2)) fun T1 X1 e1 => ?_
 refine Home.st (own_pure (own_static X1 hx hZ hown (own_w73 hw) (own_w74 hw) (own_w72 hw) (own_w75 hw) (by decide) (rm15_0 l Z a0 hw [] i0 sv_SIOOBE_FORMATTER h0 n0 O0 bnd_i0 isr_sv_SIOOBE_FORMATTER) e1 rfl (by rw [hml]; rfl) (argsL := [(.int i0), (.int (2 : Int32)), sv_SIOOBE_FORMATTER]) (rest := []) (lenOf own_pd11 rfl) rfl rfl (W := 0) (by exact hW0) (by decide) (by decide) (hb hby d14_5) (by decide) (by decide))) fun T2 X2 e2 => ?_
 refine Home.run X2 hx hby sg14_8_1 (pc' := 9) (L' := #[.val (.int i0), .val (.int (2 : Int32))]) (S' := []) rfl ?_
 exact Home.ret0 X2 hx hlk hret (hb hby d14_9) ⟨rfl, rfl, e2⟩ (by decide) (by decide)
theorem rm13_0 (l : Launch) (Z : State) (a0 : Array Value) (hw : HW a0 Z) (ws : List Jvm.Cond) (o0 : Addr) (i1 : Int32) (k_o0 : ClassId) (u1 u2 : Int32) (sv_SIOOBE_FORMATTER : Value) (h0 : Heap) (n0 : Nat) (O0 : Old Z n0 h0) (bnd_i1 : ¬ i1 < (0 : Int32) ∧ ¬ (1 : Int32) < i1) (V_o0 : Arv Z h0 o0 k_o0 .byte (2 : Int32) [(.int u1), (.int u2)] (.int (0 : Int32))) (S_SIOOBE_FORMATTER : Sta Z Z.heap "jdk/internal/util/Preconditions" "SIOOBE_FORMATTER" "Ljava/util/function/BiFunction;" sv_SIOOBE_FORMATTER) (isr_sv_SIOOBE_FORMATTER : sv_SIOOBE_FORMATTER.isRef = true) (bnd_u1 : ¬ u1 < (50 : Int32) ∧ ¬ (122 : Int32) < u1) (bnd_u2 : ¬ u2 < (50 : Int32) ∧ ¬ (122 : Int32) < u2) :
    Con l Z (⟨"java/lang/StringLatin1", "charAt", "([BI)C"⟩ : MethodName) jdk_43_method_2_code 2 (some .char) ws ({ frames := 2, cells := 0, slots := 0, locals := 27 } : Room) #[(.ref o0), (.int i1)] h0 (Pur (some (.int ((own_at [u1, u2] i1) &&& (255 : Int32)))) h0) := by
 refine own_body (plainFor_of_name own_pn5) (fun m => ef_rm13_0 m o0 i1) ?_
 intro p e s m below meth c s₁ hx hby hlk hml hret hZ hown hnm X0 e0
 have N0 := Fr.nil n0
 refine Home.run X0 hx hby sg13_0_2 (pc' := 2) (L' := #[.val (.ref o0), .val (.int i1)]) (S' := [(.ref o0), (.int i1)]) rfl ?_
 obtain ⟨cl1, Ar1, q1, S1, M1, H1, G1⟩ := id V_o0
 refine Home.go (own_alen X0 hx hZ e0 Ar1 S1 M1 rfl rfl (hb hby d13_2)) ?_
 refine Home.st (own_pure (own_static X0 hx hZ hown (own_w68 hw) (own_w69 hw) (own_w10 hw) (own_w70 hw) (by decide) (rm14_0 l Z a0 hw [] i1 sv_SIOOBE_FORMATTER h0 n0 O0 bnd_i1 S_SIOOBE_FORMATTER isr_sv_SIOOBE_FORMATTER) e0 rfl (by rw [hml]; rfl) (argsL := [(.int i1), (.int (2 : Int32))]) (rest := []) (lenOf own_pd12 rfl) rfl rfl (W := 0) (by exact hW0) (by decide) (by decide) (hb hby d13_3) (by decide) (by decide))) fun T2 X2 e2 => ?_
 refine Home.run X2 hx hby sg13_6_2 (pc' := 8) (L' := #[.val (.ref o0), .val (.int i1)]) (S' := [(.int i1), (.ref o0)]) rfl ?_
 obtain ⟨cl3, Ar3, q3, S3, M3, H3, G3⟩ := id V_o0
 have ib3 : ¬ (i1 < 0 ∨ cl3.slots.size ≤ (i1).toNatClampNeg) := inb_of S3 ⟨(bnd_nlt bnd_i1 (bnd_lit (0 : Int32)) (by decide +kernel)), (bnd_lt bnd_i1 (bnd_lit (2 : Int32)) (by decide +kernel))⟩
 refine Home.go (X2.baloadBytes hx (j := i1) (v := .int (own_at [u1, u2] i1)) (by rw [e2]; exact Ar3.1) (State.isArrayOf_alike hZ.alike Ar3.2.1) Ar3.2.2 ib3 (Has.at H3 ib3 (own_getD [u1, u2] _)) rfl rfl (hb hby d13_8)) ?_
 refine Home.run X2 hx hby sg13_9_3 (pc' := 14) (L' := #[.val (.ref o0), .val (.int i1)]) (S' := [(.int (((own_at [u1, u2] i1) &&& (255 : Int32)).toUInt32.toUInt16.toUInt32.toInt32))]) rfl ?_
 rw [i2c_id (bnd_and (own_at [u1, u2] i1) (255 : Int32) (by decide)) (by decide +kernel) (by decide +kernel)]
 exact Home.retN X2 hx hlk (t := .char) hret (by simp) (hb hby d13_14) ⟨congrArg some (congrArg Value.int (by first | rfl | exact nar_i2c _ | exact nar_i2b _ | exact nar_char_id (bnd_and (own_at [u1, u2] i1) (255 : Int32) (by decide)) (by decide +kernel) (by decide +kernel))), rfl, e2⟩ (by decide) (by decide)
theorem rm11_0 (l : Launch) (Z : State) (a0 : Array Value) (hw : HW a0 Z) (ws : List Jvm.Cond) (o0 : Addr) (i1 sv_COMPACT_STRINGS : Int32) (p2 : Addr) (k_p2 : ClassId) (u1 u2 : Int32) (sv_SIOOBE_FORMATTER : Value) (h0 : Heap) (n0 : Nat) (O0 : Old Z n0 h0) (bnd_i1 : ¬ i1 < (0 : Int32) ∧ ¬ (1 : Int32) < i1) (E_o0 : Exa Z h0 o0 "java/lang/String") (S_COMPACT_STRINGS : Sta Z Z.heap "java/lang/String" "COMPACT_STRINGS" "Z" (.int sv_COMPACT_STRINGS)) (F_coder_o0 : Fld Z h0 o0 "java/lang/String" "coder" "B" (.int (0 : Int32))) (hCS : ¬ (sv_COMPACT_STRINGS = (0 : Int32))) (F_value_o0 : Fld Z h0 o0 "java/lang/String" "value" "[B" (.ref p2)) (V_p2 : Arv Z h0 p2 k_p2 .byte (2 : Int32) [(.int u1), (.int u2)] (.int (0 : Int32))) (S_SIOOBE_FORMATTER : Sta Z Z.heap "jdk/internal/util/Preconditions" "SIOOBE_FORMATTER" "Ljava/util/function/BiFunction;" sv_SIOOBE_FORMATTER) (bnd_u1 : ¬ u1 < (50 : Int32) ∧ ¬ (122 : Int32) < u1) (bnd_u2 : ¬ u2 < (50 : Int32) ∧ ¬ (122 : Int32) < u2) (isr_sv_SIOOBE_FORMATTER : sv_SIOOBE_FORMATTER.isRef = true) :
    Con l Z (⟨"java/lang/String", "charAt", "(I)C"⟩ : MethodName) jdk_42_method_56_code 2 (some .char) ws ({ frames := 3, cells := 0, slots := 0, locals := 40 } : Room) #[(.ref o0), (.int i1)] h0 (Pur (some (.int ((own_at [u1, u2] i1) &&& (255 : Int32)))) h0) := by
 refine own_body (plainFor_of_name own_pn1) (fun m => ef_rm11_0 m o0 i1) ?_
 intro p e s m below meth c s₁ hx hby hlk hml hret hZ hown hnm X0 e0
 have N0 := Fr.nil n0
 refine Home.run X0 hx hby sg11_0_1 (pc' := 1) (L' := #[.val (.ref o0), .val (.int i1)]) (S' := [(.ref o0)]) rfl ?_
 refine Home.st (own_pure (own_virtual X0 hx hZ hown (own_w59 hw) (own_w60 hw) (notFace_of_selects (args := #[]) (mvT hZ (own_w62 hw))) (own_w62 hw) (own_w61 hw) (own_w10 hw) (own_w63 hw) (by decide) (rm12_0 l Z a0 hw [] o0 sv_COMPACT_STRINGS h0 n0 O0 S_COMPACT_STRINGS hCS F_coder_o0) e0 E_o0 rfl (by rw [hml]; rfl) (argsL := []) (rest := []) (lenOf own_pd10 rfl) rfl rfl (W := 0) (by exact hW0) (by decide) (by decide) (hb hby d11_1) (by decide) (by decide))) fun T1 X1 e1 => ?_
 refine Home.go (fun _ => XS.ifNo X1.here hx rfl (hb hby d11_4) rfl ((if0 _ _).trans (feq (by decide)).1)) ?_
 refine Home.run X1 hx hby sg11_7_1 (pc' := 8) (L' := #[.val (.ref o0), .val (.int i1)]) (S' := [(.ref o0)]) rfl ?_
 refine Home.st (getF X1 hx hZ hown (host := "") (Or.inl (own_w35 hw)) Via.refl e1 F_value_o0 rfl rfl (hb hby d11_8)) fun T2 X2 e2 => ?_
 refine Home.run X2 hx hby sg11_11_1 (pc' := 12) (L' := #[.val (.ref o0), .val (.int i1)]) (S' := [(.int i1), (.ref p2)]) rfl ?_
 refine Home.st (own_pure (own_static X2 hx hZ hown (own_w64 hw) (own_w65 hw) (own_w66 hw) (own_w67 hw) (by decide) (rm13_0 l Z a0 hw [] p2 i1 k_p2 u1 u2 sv_SIOOBE_FORMATTER h0 n0 O0 bnd_i1 V_p2 S_SIOOBE_FORMATTER isr_sv_SIOOBE_FORMATTER bnd_u1 bnd_u2) e2 rfl (by rw [hml]; rfl) (argsL := [(.ref p2), (.int i1)]) (rest := []) (lenOf own_pd13 rfl) rfl rfl (W := 0) (by exact hW0) (by decide) (by decide) (hb hby d11_12) (by decide) (by decide))) fun T3 X3 e3 => ?_
 exact Home.retN X3 hx hlk (t := .char) hret (by simp) (hb hby d11_15) ⟨congrArg some (congrArg Value.int (by first | rfl | exact nar_i2c _ | exact nar_i2b _ | exact nar_char_id (bnd_and (own_at [u1, u2] i1) (255 : Int32) (by decide)) (by decide +kernel) (by decide +kernel))), rfl, e3⟩ (by decide) (by decide)
theorem rm9_2 (l : Launch) (Z : State) (a0 : Array Value) (hw : HW a0 Z) (ws : List Jvm.Cond) (o0 p2 : Addr) (k_p2 : ClassId) (sv_COMPACT_STRINGS : Int32) (h0 : Heap) (n0 : Nat) (O0 : Old Z n0 h0) (F_value_o0 : Fld Z h0 o0 "java/lang/String" "value" "[B" (.ref p2)) (V_p2 : Arv Z h0 p2 k_p2 .byte (32 : Int32) [(.int (97 : Int32)), (.int (98 : Int32)), (.int (99 : Int32)), (.int (100 : Int32)), (.int (101 : Int32)), (.int (102 : Int32)), (.int (103 : Int32)), (.int (104 : Int32)), (.int (105 : Int32)), (.int (106 : Int32)), (.int (107 : Int32)), (.int (108 : Int32)), (.int (109 : Int32)), (.int (110 : Int32)), (.int (111 : Int32)), (.int (112 : Int32)), (.int (113 : Int32)), (.int (114 : Int32)), (.int (115 : Int32)), (.int (116 : Int32)), (.int (117 : Int32)), (.int (118 : Int32)), (.int (119 : Int32)), (.int (120 : Int32)), (.int (121 : Int32)), (.int (122 : Int32)), (.int (50 : Int32)), (.int (51 : Int32)), (.int (52 : Int32)), (.int (53 : Int32)), (.int (54 : Int32)), (.int (55 : Int32))] (.int (0 : Int32))) (E_o0 : Exa Z h0 o0 "java/lang/String") (S_COMPACT_STRINGS : Sta Z Z.heap "java/lang/String" "COMPACT_STRINGS" "Z" (.int sv_COMPACT_STRINGS)) (F_coder_o0 : Fld Z h0 o0 "java/lang/String" "coder" "B" (.int (0 : Int32))) (hCS : ¬ (sv_COMPACT_STRINGS = (0 : Int32))) :
    Con l Z (⟨"java/lang/String", "length", "()I"⟩ : MethodName) jdk_42_method_54_code 1 (some .int) ws ({ frames := 1, cells := 0, slots := 0, locals := 13 } : Room) #[(.ref o0)] h0 (Pur (some (.int (32 : Int32))) h0) := by
 refine own_body (plainFor_of_name own_pn1) (fun m => ef_rm9_2 m o0) ?_
 intro p e s m below meth c s₁ hx hby hlk hml hret hZ hown hnm X0 e0
 have N0 := Fr.nil n0
 refine Home.run X0 hx hby sg9_0_1 (pc' := 1) (L' := #[.val (.ref o0)]) (S' := [(.ref o0)]) rfl ?_
 refine Home.st (getF X0 hx hZ hown (host := "") (Or.inl (own_w35 hw)) Via.refl e0 F_value_o0 rfl rfl (hb hby d9_1)) fun T1 X1 e1 => ?_
 obtain ⟨cl2, Ar2, q2, S2, M2, H2, G2⟩ := id V_p2
 refine Home.go (own_alen X1 hx hZ e1 Ar2 S2 M2 rfl rfl (hb hby d9_4)) ?_
 refine Home.run X1 hx hby sg9_5_1 (pc' := 6) (L' := #[.val (.ref o0)]) (S' := [(.ref o0), (.int (32 : Int32))]) rfl ?_
 refine Home.st (own_pure (own_virtual X1 hx hZ hown (own_w46 hw) (own_w47 hw) (notFace_of_selects (args := #[]) (mvT hZ (own_w49 hw))) (own_w49 hw) (own_w48 hw) (own_w10 hw) (own_w50 hw) (by decide) (rm10_0 l Z a0 hw [] o0 sv_COMPACT_STRINGS h0 n0 O0 S_COMPACT_STRINGS hCS F_coder_o0) e1 E_o0 rfl (by rw [hml]; rfl) (argsL := []) (rest := [(.int (32 : Int32))]) (lenOf own_pd3 rfl) rfl rfl (W := 1) (by exact hW0) (by decide) (by decide) (hb hby d9_6) (by decide) (by decide))) fun T3 X3 e3 => ?_
 refine Home.run X3 hx hby sg9_9_1 (pc' := 10) (L' := #[.val (.ref o0)]) (S' := [(.int (32 : Int32))]) rfl ?_
 exact Home.retI X3 hx hlk hret (hb hby d9_10) ⟨rfl, rfl, e3⟩ (by decide) (by decide)
theorem rm19_0 (l : Launch) (Z : State) (a0 : Array Value) (hw : HW a0 Z) (ws : List Jvm.Cond) (i0 : Int32) (h0 : Heap) (n0 : Nat) (O0 : Old Z n0 h0) (bnd_i0 : ¬ i0 < (0 : Int32) ∧ ¬ (255 : Int32) < i0) :
    Con l Z (⟨"java/lang/StringLatin1", "canEncode", "(I)Z"⟩ : MethodName) jdk_43_method_4_code 1 (some .boolean) ws ({ frames := 0, cells := 0, slots := 0, locals := 0 } : Room) #[(.int i0)] h0 (Pur (some (.int (1 : Int32))) h0) := by
 refine own_body (plainFor_of_name own_pn5) (fun m => ef_rm19_0 m i0) ?_
 intro p e s m below meth c s₁ hx hby hlk hml hret hZ hown hnm X0 e0
 have N0 := Fr.nil n0
 refine Home.run X0 hx hby sg19_0_1 (pc' := 1) (L' := #[.val (.int i0)]) (S' := [(.int i0)]) rfl ?_
 refine Home.go (fun _ => XS.ifNo X0.here hx rfl (hb hby d19_1) rfl ((if0 _ _).trans (flt (bnd_nlt bnd_i0 (bnd_lit (0 : Int32)) (by decide +kernel))).1)) ?_
 refine Home.run X0 hx hby sg19_4_2 (pc' := 8) (L' := #[.val (.int i0)]) (S' := [(.int (255 : Int32)), (.int i0)]) rfl ?_
 refine Home.go (fun _ => XS.icmpNo X0.here hx rfl (hb hby d19_8) rfl (flt (bnd_nlt (bnd_lit (255 : Int32)) bnd_i0 (by decide +kernel))).2.2.1) ?_
 refine Home.run X0 hx hby sg19_11_2 (pc' := 16) (L' := #[.val (.int i0)]) (S' := [(.int (1 : Int32))]) rfl ?_
 exact Home.retN X0 hx hlk (t := .boolean) hret (by simp) (hb hby d19_16) ⟨congrArg some (congrArg Value.int (by first | rfl | exact nar_i2c _ | exact nar_i2b _)), rfl, e0⟩ (by decide) (by decide)
theorem rm20_0 (l : Launch) (Z : State) (a0 : Array Value) (hw : HW a0 Z) (ws : List Jvm.Cond)  (h0 : Heap) (n0 : Nat) (O0 : Old Z n0 h0) :
    Con l Z (⟨"java/lang/Math", "max", "(II)I"⟩ : MethodName) jdk_29_method_65_code 2 (some .int) ws ({ frames := 0, cells := 0, slots := 0, locals := 0 } : Room) #[(.int (0 : Int32)), (.int (0 : Int32))] h0 (Pur (some (.int (0 : Int32))) h0) := by
 refine own_body (Jvm.Free.JP.mathPlain rfl (by decide +kernel)) (fun m => ef_rm20_0 m (0 : Int32)) ?_
 intro p e s m below meth c s₁ hx hby hlk hml hret hZ hown hnm X0 e0
 have N0 := Fr.nil n0
 refine Home.run X0 hx hby sg20_0_2 (pc' := 2) (L' := #[.val (.int (0 : Int32)), .val (.int (0 : Int32))]) (S' := [(.int (0 : Int32)), (.int (0 : Int32))]) rfl ?_
 refine Home.go (fun _ => XS.icmpNo X0.here hx rfl (hb hby d20_2) rfl (flt (by decide)).1) ?_
 refine Home.run X0 hx hby sg20_5_2 (pc' := 10) (L' := #[.val (.int (0 : Int32)), .val (.int (0 : Int32))]) (S' := [(.int (0 : Int32))]) rfl ?_
 exact Home.retI X0 hx hlk hret (hb hby d20_10) ⟨rfl, rfl, e0⟩ (by decide) (by decide)
theorem rm21_0 (l : Launch) (Z : State) (a0 : Array Value) (hw : HW a0 Z) (ws : List Jvm.Cond)  (h0 : Heap) (n0 : Nat) (O0 : Old Z n0 h0) :
    Con l Z (⟨"java/lang/Math", "min", "(II)I"⟩ : MethodName) jdk_29_method_69_code 2 (some .int) ws ({ frames := 0, cells := 0, slots := 0, locals := 0 } : Room) #[(.int (32 : Int32)), (.int (32 : Int32))] h0 (Pur (some (.int (32 : Int32))) h0) := by
 refine own_body (Jvm.Free.JP.mathPlain rfl (by decide +kernel)) (fun m => ef_rm21_0 m (32 : Int32)) ?_
 intro p e s m below meth c s₁ hx hby hlk hml hret hZ hown hnm X0 e0
 have N0 := Fr.nil n0
 refine Home.run X0 hx hby sg21_0_2 (pc' := 2) (L' := #[.val (.int (32 : Int32)), .val (.int (32 : Int32))]) (S' := [(.int (32 : Int32)), (.int (32 : Int32))]) rfl ?_
 refine Home.go (fun _ => XS.icmpNo X0.here hx rfl (hb hby d21_2) rfl (flt (by decide)).2.2.1) ?_
 refine Home.run X0 hx hby sg21_5_2 (pc' := 10) (L' := #[.val (.int (32 : Int32)), .val (.int (32 : Int32))]) (S' := [(.int (32 : Int32))]) rfl ?_
 exact Home.retI X0 hx hlk hret (hb hby d21_10) ⟨rfl, rfl, e0⟩ (by decide) (by decide)
theorem rm22_0 (l : Launch) (Z : State) (a0 : Array Value) (hw : HW a0 Z) (ws : List Jvm.Cond) (o0 : Addr) (i1 : Int32) (k_o0 : ClassId) (h0 : Heap) (n0 : Nat) (O0 : Old Z n0 h0) (V_o0 : Arv Z h0 o0 k_o0 .byte (32 : Int32) [(.int (97 : Int32)), (.int (98 : Int32)), (.int (99 : Int32)), (.int (100 : Int32)), (.int (101 : Int32)), (.int (102 : Int32)), (.int (103 : Int32)), (.int (104 : Int32)), (.int (105 : Int32)), (.int (106 : Int32)), (.int (107 : Int32)), (.int (108 : Int32)), (.int (109 : Int32)), (.int (110 : Int32)), (.int (111 : Int32)), (.int (112 : Int32)), (.int (113 : Int32)), (.int (114 : Int32)), (.int (115 : Int32)), (.int (116 : Int32)), (.int (117 : Int32)), (.int (118 : Int32)), (.int (119 : Int32)), (.int (120 : Int32)), (.int (121 : Int32)), (.int (122 : Int32)), (.int (50 : Int32)), (.int (51 : Int32)), (.int (52 : Int32)), (.int (53 : Int32)), (.int (54 : Int32)), (.int (55 : Int32))] (.int (0 : Int32))) :
    Con l Z (⟨"java/lang/StringLatin1", "indexOfChar", "([BIII)I"⟩ : MethodName) jdk_43_method_23_code 6 (some .int) ws ({ frames := 0, cells := 0, slots := 0, locals := 0 } : Room) #[(.ref o0), (.int i1), (.int (0 : Int32)), (.int (32 : Int32))] h0 (Pur (some (.int (f_rm22_0 i1))) h0) := by
 refine own_body (plainFor_of_name own_pn5) (fun m => ef_rm22_0 m o0 i1 (0 : Int32) (32 : Int32)) ?_
 intro p e s m below meth c s₁ hx hby hlk hml hret hZ hown hnm X0 e0
 have N0 := Fr.nil n0
 refine Home.run X0 hx hby sg22_0_5 (pc' := 7) (L' := #[.val (.ref o0), .val (.int i1), .val (.int (0 : Int32)), .val (.int (32 : Int32)), .val (.int (i1.toInt8.toInt32)), .val (.int (0 : Int32))]) (S' := []) rfl ?_
 suffices LP : ∀ (r pre : List Int32), own_TI0 = pre ++ r → f_rm22_0 i1 = own_from (i1.toInt8.toInt32) r (Int32.ofNat pre.length) → ∀ ix, ix = Int32.ofNat pre.length → @Home p e below _ s₁ (mkF m 7 #[.val (.ref o0), .val (.int i1), .val (.int (0 : Int32)), .val (.int (32 : Int32)), .val (.int (i1.toInt8.toInt32)), .val (.int ix)] []) from LP own_TI0 [] rfl rfl 0 rfl
 intro r
 induction r with
 | nil =>
   intro pre hT hf ix hix
   have hl : pre.length = 32 := by have := congrArg List.length hT; simpa using this.symm
   have hx0 : ¬ ix < (0 : Int32) := by rw [hix, hl]; decide
   have hx1 : ¬ ix < (32 : Int32) := by rw [hix, hl]; decide
   refine Home.run X0 hx hby sg22_7_2 (pc' := 10) (L' := #[.val (.ref o0), .val (.int i1), .val (.int (0 : Int32)), .val (.int (32 : Int32)), .val (.int (i1.toInt8.toInt32)), .val (.int ix)]) (S' := [(.int (32 : Int32)), (.int ix)]) rfl ?_
   refine Home.go (fun _ => XS.icmpYes X0.here hx rfl (pc0 := 10) (pc' := 31) rfl (hb hby d22_10) rfl (flt hx1).2.1 (by decide) (by decide)) ?_
   refine Home.run X0 hx hby sg22_31_1 (pc' := 32) (L' := #[.val (.ref o0), .val (.int i1), .val (.int (0 : Int32)), .val (.int (32 : Int32)), .val (.int (i1.toInt8.toInt32)), .val (.int ix)]) (S' := [(.int (-1 : Int32))]) rfl ?_
   exact Home.retI X0 hx hlk hret (hb hby d22_32) ⟨congrArg some (congrArg Value.int (hf.symm)), rfl, e0⟩ (by decide) (by decide)
 | cons a r ih =>
   intro pre hT hf ix hix
   have hl : pre.length < 32 := by have := congrArg List.length hT; simp at this; omega
   have hi : ix.toInt = pre.length := by rw [hix]; exact Int32.toInt_ofNat_small (by omega)
   have hx0 : ¬ ix < (0 : Int32) := by rw [Int32.lt_iff_toInt_lt, hi]; have : (0 : Int32).toInt = 0 := rfl; omega
   have hx1 : ix < (32 : Int32) := by rw [Int32.lt_iff_toInt_lt, hi]; have : ((32 : Int32)).toInt = 32 := rfl; omega
   have hat : (own_at [(97 : Int32), (98 : Int32), (99 : Int32), (100 : Int32), (101 : Int32), (102 : Int32), (103 : Int32), (104 : Int32), (105 : Int32), (106 : Int32), (107 : Int32), (108 : Int32), (109 : Int32), (110 : Int32), (111 : Int32), (112 : Int32), (113 : Int32), (114 : Int32), (115 : Int32), (116 : Int32), (117 : Int32), (118 : Int32), (119 : Int32), (120 : Int32), (121 : Int32), (122 : Int32), (50 : Int32), (51 : Int32), (52 : Int32), (53 : Int32), (54 : Int32), (55 : Int32)] ix) = a := by show own_at own_TI0 ix = a; rw [hT]; exact own_at_pre (by omega) hix
   have hix1 : Int32.ofNat pre.length + (1 : Int32) = Int32.ofNat (pre.length + 1) := by rw [Int32.ofNat_add]; rfl
   have hf2 : f_rm22_0 i1 = (if a = (i1.toInt8.toInt32) then Int32.ofNat pre.length else own_from (i1.toInt8.toInt32) r (Int32.ofNat pre.length + (1 : Int32))) := hf
   refine Home.run X0 hx hby sg22_7_2 (pc' := 10) (L' := #[.val (.ref o0), .val (.int i1), .val (.int (0 : Int32)), .val (.int (32 : Int32)), .val (.int (i1.toInt8.toInt32)), .val (.int ix)]) (S' := [(.int (32 : Int32)), (.int ix)]) rfl ?_
   refine Home.go (fun _ => XS.icmpNo X0.here hx rfl (hb hby d22_10) rfl (tlt hx1).2.1) ?_
   refine Home.run X0 hx hby sg22_13_2 (pc' := 16) (L' := #[.val (.ref o0), .val (.int i1), .val (.int (0 : Int32)), .val (.int (32 : Int32)), .val (.int (i1.toInt8.toInt32)), .val (.int ix)]) (S' := [(.int ix), (.ref o0)]) rfl ?_
   obtain ⟨cl1, Ar1, q1, S1, M1, H1, G1⟩ := id V_o0
   have ib1 : ¬ (ix < 0 ∨ cl1.slots.size ≤ (ix).toNatClampNeg) := inb_of S1 ⟨hx0, hx1⟩
   refine Home.go (X0.baloadBytes hx (j := ix) (v := .int (own_at [(97 : Int32), (98 : Int32), (99 : Int32), (100 : Int32), (101 : Int32), (102 : Int32), (103 : Int32), (104 : Int32), (105 : Int32), (106 : Int32), (107 : Int32), (108 : Int32), (109 : Int32), (110 : Int32), (111 : Int32), (112 : Int32), (113 : Int32), (114 : Int32), (115 : Int32), (116 : Int32), (117 : Int32), (118 : Int32), (119 : Int32), (120 : Int32), (121 : Int32), (122 : Int32), (50 : Int32), (51 : Int32), (52 : Int32), (53 : Int32), (54 : Int32), (55 : Int32)] ix)) (by rw [e0]; exact Ar1.1) (State.isArrayOf_alike hZ.alike Ar1.2.1) Ar1.2.2 ib1 (Has.at H1 ib1 (own_getD [(97 : Int32), (98 : Int32), (99 : Int32), (100 : Int32), (101 : Int32), (102 : Int32), (103 : Int32), (104 : Int32), (105 : Int32), (106 : Int32), (107 : Int32), (108 : Int32), (109 : Int32), (110 : Int32), (111 : Int32), (112 : Int32), (113 : Int32), (114 : Int32), (115 : Int32), (116 : Int32), (117 : Int32), (118 : Int32), (119 : Int32), (120 : Int32), (121 : Int32), (122 : Int32), (50 : Int32), (51 : Int32), (52 : Int32), (53 : Int32), (54 : Int32), (55 : Int32)] _)) rfl rfl (hb hby d22_16)) ?_
   refine Home.run X0 hx hby sg22_17_1 (pc' := 19) (L' := #[.val (.ref o0), .val (.int i1), .val (.int (0 : Int32)), .val (.int (32 : Int32)), .val (.int (i1.toInt8.toInt32)), .val (.int ix)]) (S' := [(.int (i1.toInt8.toInt32)), (.int (own_at [(97 : Int32), (98 : Int32), (99 : Int32), (100 : Int32), (101 : Int32), (102 : Int32), (103 : Int32), (104 : Int32), (105 : Int32), (106 : Int32), (107 : Int32), (108 : Int32), (109 : Int32), (110 : Int32), (111 : Int32), (112 : Int32), (113 : Int32), (114 : Int32), (115 : Int32), (116 : Int32), (117 : Int32), (118 : Int32), (119 : Int32), (120 : Int32), (121 : Int32), (122 : Int32), (50 : Int32), (51 : Int32), (52 : Int32), (53 : Int32), (54 : Int32), (55 : Int32)] ix))]) rfl ?_
   by_cases c2 : (own_at [(97 : Int32), (98 : Int32), (99 : Int32), (100 : Int32), (101 : Int32), (102 : Int32), (103 : Int32), (104 : Int32), (105 : Int32), (106 : Int32), (107 : Int32), (108 : Int32), (109 : Int32), (110 : Int32), (111 : Int32), (112 : Int32), (113 : Int32), (114 : Int32), (115 : Int32), (116 : Int32), (117 : Int32), (118 : Int32), (119 : Int32), (120 : Int32), (121 : Int32), (122 : Int32), (50 : Int32), (51 : Int32), (52 : Int32), (53 : Int32), (54 : Int32), (55 : Int32)] ix) = (i1.toInt8.toInt32)
   ·
    refine Home.go (fun _ => XS.icmpNo X0.here hx rfl (hb hby d22_19) rfl (teq c2).2) ?_
    refine Home.run X0 hx hby sg22_22_1 (pc' := 24) (L' := #[.val (.ref o0), .val (.int i1), .val (.int (0 : Int32)), .val (.int (32 : Int32)), .val (.int (i1.toInt8.toInt32)), .val (.int ix)]) (S' := [(.int ix)]) rfl ?_
    exact Home.retI X0 hx hlk hret (hb hby d22_24) ⟨congrArg some (congrArg Value.int ((hf2.trans (if_pos (hat.symm.trans c2))).trans hix.symm).symm), rfl, e0⟩ (by decide) (by decide)
   ·
    refine Home.go (fun _ => XS.icmpYes X0.here hx rfl (pc0 := 19) (pc' := 25) rfl (hb hby d22_19) rfl (feq c2).2 (by decide) (by decide)) ?_
    refine Home.run X0 hx hby sg22_25_2 (pc' := 7) (L' := #[.val (.ref o0), .val (.int i1), .val (.int (0 : Int32)), .val (.int (32 : Int32)), .val (.int (i1.toInt8.toInt32)), .val (.int (ix + (1 : Int32)))]) (S' := []) rfl ?_
    exact ih (pre ++ [a]) (by rw [hT]; simp) ((hf2.trans (if_neg (fun q => c2 (hat.trans q)))).trans (congrArg (own_from (i1.toInt8.toInt32) r) (by rw [List.length_append]; exact hix1))) (ix + (1 : Int32)) (by rw [hix, List.length_append]; exact hix1)
theorem rm18_0 (l : Launch) (Z : State) (a0 : Array Value) (hw : HW a0 Z) (ws : List Jvm.Cond) (o0 : Addr) (i1 : Int32) (k_o0 : ClassId) (h0 : Heap) (n0 : Nat) (O0 : Old Z n0 h0) (bnd_i1 : ¬ i1 < (0 : Int32) ∧ ¬ (255 : Int32) < i1) (V_o0 : Arv Z h0 o0 k_o0 .byte (32 : Int32) [(.int (97 : Int32)), (.int (98 : Int32)), (.int (99 : Int32)), (.int (100 : Int32)), (.int (101 : Int32)), (.int (102 : Int32)), (.int (103 : Int32)), (.int (104 : Int32)), (.int (105 : Int32)), (.int (106 : Int32)), (.int (107 : Int32)), (.int (108 : Int32)), (.int (109 : Int32)), (.int (110 : Int32)), (.int (111 : Int32)), (.int (112 : Int32)), (.int (113 : Int32)), (.int (114 : Int32)), (.int (115 : Int32)), (.int (116 : Int32)), (.int (117 : Int32)), (.int (118 : Int32)), (.int (119 : Int32)), (.int (120 : Int32)), (.int (121 : Int32)), (.int (122 : Int32)), (.int (50 : Int32)), (.int (51 : Int32)), (.int (52 : Int32)), (.int (53 : Int32)), (.int (54 : Int32)), (.int (55 : Int32))] (.int (0 : Int32))) :
    Con l Z (⟨"java/lang/StringLatin1", "indexOf", "([BIII)I"⟩ : MethodName) jdk_43_method_22_code 4 (some .int) ws ({ frames := 1, cells := 0, slots := 0, locals := 17 } : Room) #[(.ref o0), (.int i1), (.int (0 : Int32)), (.int (32 : Int32))] h0 (Pur (some (.int (f_rm22_0 i1))) h0) := by
 refine own_body (plainFor_of_name own_pn5) (fun m => ef_rm18_0 m o0 i1 (0 : Int32) (32 : Int32)) ?_
 intro p e s m below meth c s₁ hx hby hlk hml hret hZ hown hnm X0 e0
 have N0 := Fr.nil n0
 refine Home.run X0 hx hby sg18_0_1 (pc' := 1) (L' := #[.val (.ref o0), .val (.int i1), .val (.int (0 : Int32)), .val (.int (32 : Int32))]) (S' := [(.int i1)]) rfl ?_
 refine Home.st (own_pure (own_static X0 hx hZ hown (own_w90 hw) (own_w91 hw) (own_w66 hw) (own_w92 hw) (by decide) (rm19_0 l Z a0 hw [] i1 h0 n0 O0 bnd_i1) e0 rfl (by rw [hml]; rfl) (argsL := [(.int i1)]) (rest := []) (lenOf own_pd15 rfl) rfl rfl (W := 0) (by exact hW0) (by decide) (by decide) (hb hby d18_1) (by decide) (by decide))) fun T1 X1 e1 => ?_
 refine Home.go (fun _ => XS.ifYes X1.here hx rfl (pc0 := 4) (pc' := 9) rfl (hb hby d18_4) rfl ((if0 _ _).trans (feq (by decide)).2) (by decide) (by decide)) ?_
 refine Home.run X1 hx hby sg18_9_2 (pc' := 11) (L' := #[.val (.ref o0), .val (.int i1), .val (.int (0 : Int32)), .val (.int (32 : Int32))]) (S' := [(.int (0 : Int32)), (.int (0 : Int32))]) rfl ?_
 refine Home.st (own_pure (own_static X1 hx hZ hown (own_w93 hw) (own_w94 hw) (own_w95 hw) (own_w96 hw) (by decide) (rm20_0 l Z a0 hw []  h0 n0 O0) e1 rfl (by rw [hml]; rfl) (argsL := [(.int (0 : Int32)), (.int (0 : Int32))]) (rest := []) (lenOf own_pd16 rfl) rfl rfl (W := 0) (by exact hW0) (by decide) (by decide) (hb hby d18_11) (by decide) (by decide))) fun T2 X2 e2 => ?_
 refine Home.run X2 hx hby sg18_14_3 (pc' := 17) (L' := #[.val (.ref o0), .val (.int i1), .val (.int (0 : Int32)), .val (.int (32 : Int32))]) (S' := [(.ref o0), (.int (32 : Int32))]) rfl ?_
 obtain ⟨cl3, Ar3, q3, S3, M3, H3, G3⟩ := id V_o0
 refine Home.go (own_alen X2 hx hZ e2 Ar3 S3 M3 rfl rfl (hb hby d18_17)) ?_
 refine Home.st (own_pure (own_static X2 hx hZ hown (own_w97 hw) (own_w98 hw) (own_w95 hw) (own_w99 hw) (by decide) (rm21_0 l Z a0 hw []  h0 n0 O0) e2 rfl (by rw [hml]; rfl) (argsL := [(.int (32 : Int32)), (.int (32 : Int32))]) (rest := []) (lenOf own_pd16 rfl) rfl rfl (W := 0) (by exact hW0) (by decide) (by decide) (hb hby d18_18) (by decide) (by decide))) fun T4 X4 e4 => ?_
 refine Home.run X4 hx hby sg18_21_3 (pc' := 24) (L' := #[.val (.ref o0), .val (.int i1), .val (.int (0 : Int32)), .val (.int (32 : Int32))]) (S' := [(.int (32 : Int32)), (.int (0 : Int32))]) rfl ?_
 refine Home.go (fun _ => XS.icmpYes X4.here hx rfl (pc0 := 24) (pc' := 29) rfl (hb hby d18_24) rfl (tlt (by decide)).1 (by decide) (by decide)) ?_
 refine Home.run X4 hx hby sg18_29_4 (pc' := 33) (L' := #[.val (.ref o0), .val (.int i1), .val (.int (0 : Int32)), .val (.int (32 : Int32))]) (S' := [(.int (32 : Int32)), (.int (0 : Int32)), (.int i1), (.ref o0)]) rfl ?_
 refine Home.st (own_pure (own_static X4 hx hZ hown (own_w100 hw) (own_w101 hw) (own_w66 hw) (own_w102 hw) (by decide) (rm22_0 l Z a0 hw [] o0 i1 k_o0 h0 n0 O0 V_o0) e4 rfl (by rw [hml]; rfl) (argsL := [(.ref o0), (.int i1), (.int (0 : Int32)), (.int (32 : Int32))]) (rest := []) (lenOf own_pd17 rfl) rfl rfl (W := 0) (by exact hW0) (by decide) (by decide) (hb hby d18_33) (by decide) (by decide))) fun T5 X5 e5 => ?_
 show Home T5 (mkF m 36 #[.val (.ref o0), .val (.int i1), .val (.int (0 : Int32)), .val (.int (32 : Int32))] [(.int (f_rm22_0 i1))])
 obtain ⟨r6, hr6⟩ : ∃ z, z = (f_rm22_0 i1) := ⟨_, rfl⟩
 rw [← hr6]
 subst hr6
 exact Home.retI X5 hx hlk hret (hb hby d18_36) ⟨rfl, rfl, e5⟩ (by decide) (by decide)
theorem rm17_0 (l : Launch) (Z : State) (a0 : Array Value) (hw : HW a0 Z) (ws : List Jvm.Cond) (o0 : Addr) (i1 sv_COMPACT_STRINGS : Int32) (p2 : Addr) (k_p2 : ClassId) (h0 : Heap) (n0 : Nat) (O0 : Old Z n0 h0) (bnd_i1 : ¬ i1 < (0 : Int32) ∧ ¬ (255 : Int32) < i1) (E_o0 : Exa Z h0 o0 "java/lang/String") (S_COMPACT_STRINGS : Sta Z Z.heap "java/lang/String" "COMPACT_STRINGS" "Z" (.int sv_COMPACT_STRINGS)) (F_coder_o0 : Fld Z h0 o0 "java/lang/String" "coder" "B" (.int (0 : Int32))) (hCS : ¬ (sv_COMPACT_STRINGS = (0 : Int32))) (F_value_o0 : Fld Z h0 o0 "java/lang/String" "value" "[B" (.ref p2)) (V_p2 : Arv Z h0 p2 k_p2 .byte (32 : Int32) [(.int (97 : Int32)), (.int (98 : Int32)), (.int (99 : Int32)), (.int (100 : Int32)), (.int (101 : Int32)), (.int (102 : Int32)), (.int (103 : Int32)), (.int (104 : Int32)), (.int (105 : Int32)), (.int (106 : Int32)), (.int (107 : Int32)), (.int (108 : Int32)), (.int (109 : Int32)), (.int (110 : Int32)), (.int (111 : Int32)), (.int (112 : Int32)), (.int (113 : Int32)), (.int (114 : Int32)), (.int (115 : Int32)), (.int (116 : Int32)), (.int (117 : Int32)), (.int (118 : Int32)), (.int (119 : Int32)), (.int (120 : Int32)), (.int (121 : Int32)), (.int (122 : Int32)), (.int (50 : Int32)), (.int (51 : Int32)), (.int (52 : Int32)), (.int (53 : Int32)), (.int (54 : Int32)), (.int (55 : Int32))] (.int (0 : Int32))) :
    Con l Z (⟨"java/lang/String", "indexOf", "(II)I"⟩ : MethodName) jdk_42_method_80_code 3 (some .int) ws ({ frames := 2, cells := 0, slots := 0, locals := 32 } : Room) #[(.ref o0), (.int i1), (.int (0 : Int32))] h0 (Pur (some (.int (f_rm22_0 i1))) h0) := by
 refine own_body (plainFor_of_name own_pn1) (fun m => ef_rm17_0 m o0 i1 (0 : Int32)) ?_
 intro p e s m below meth c s₁ hx hby hlk hml hret hZ hown hnm X0 e0
 have N0 := Fr.nil n0
 refine Home.run X0 hx hby sg17_0_1 (pc' := 1) (L' := #[.val (.ref o0), .val (.int i1), .val (.int (0 : Int32))]) (S' := [(.ref o0)]) rfl ?_
 refine Home.st (own_pure (own_virtual X0 hx hZ hown (own_w59 hw) (own_w60 hw) (notFace_of_selects (args := #[]) (mvT hZ (own_w62 hw))) (own_w62 hw) (own_w61 hw) (own_w10 hw) (own_w63 hw) (by decide) (rm12_0 l Z a0 hw [] o0 sv_COMPACT_STRINGS h0 n0 O0 S_COMPACT_STRINGS hCS F_coder_o0) e0 E_o0 rfl (by rw [hml]; rfl) (argsL := []) (rest := []) (lenOf own_pd10 rfl) rfl rfl (W := 0) (by exact hW0) (by decide) (by decide) (hb hby d17_1) (by decide) (by decide))) fun T1 X1 e1 => ?_
 refine Home.go (fun _ => XS.ifNo X1.here hx rfl (hb hby d17_4) rfl ((if0 _ _).trans (feq (by decide)).1)) ?_
 refine Home.run X1 hx hby sg17_7_1 (pc' := 8) (L' := #[.val (.ref o0), .val (.int i1), .val (.int (0 : Int32))]) (S' := [(.ref o0)]) rfl ?_
 refine Home.st (getF X1 hx hZ hown (host := "") (Or.inl (own_w35 hw)) Via.refl e1 F_value_o0 rfl rfl (hb hby d17_8)) fun T2 X2 e2 => ?_
 refine Home.run X2 hx hby sg17_11_3 (pc' := 14) (L' := #[.val (.ref o0), .val (.int i1), .val (.int (0 : Int32))]) (S' := [(.ref o0), (.int (0 : Int32)), (.int i1), (.ref p2)]) rfl ?_
 refine Home.st (own_pure (own_virtual X2 hx hZ hown (own_w86 hw) (own_w42 hw) (notFace_of_selects (args := #[]) (mvT hZ (own_w44 hw))) (own_w44 hw) (own_w43 hw) (own_w10 hw) (own_w45 hw) (by decide) (rm9_2 l Z a0 hw [] o0 p2 k_p2 sv_COMPACT_STRINGS h0 n0 O0 F_value_o0 V_p2 E_o0 S_COMPACT_STRINGS F_coder_o0 hCS) e2 E_o0 rfl (by rw [hml]; rfl) (argsL := []) (rest := [(.int (0 : Int32)), (.int i1), (.ref p2)]) (lenOf own_pd4 rfl) rfl rfl (W := 3) (by exact hW0) (by decide) (by decide) (hb hby d17_14) (by decide) (by decide))) fun T3 X3 e3 => ?_
 refine Home.st (own_pure (own_static X3 hx hZ hown (own_w87 hw) (own_w88 hw) (own_w66 hw) (own_w89 hw) (by decide) (rm18_0 l Z a0 hw [] p2 i1 k_p2 h0 n0 O0 bnd_i1 V_p2) e3 rfl (by rw [hml]; rfl) (argsL := [(.ref p2), (.int i1), (.int (0 : Int32)), (.int (32 : Int32))]) (rest := []) (lenOf own_pd17 rfl) rfl rfl (W := 0) (by exact hW0) (by decide) (by decide) (hb hby d17_17) (by decide) (by decide))) fun T4 X4 e4 => ?_
 refine Home.run X4 hx hby sg17_20_1 (pc' := 36) (L' := #[.val (.ref o0), .val (.int i1), .val (.int (0 : Int32))]) (S' := [(.int (f_rm22_0 i1))]) rfl ?_
 exact Home.retI X4 hx hlk hret (hb hby d17_36) ⟨rfl, rfl, e4⟩ (by decide) (by decide)
theorem rm16_0 (l : Launch) (Z : State) (a0 : Array Value) (hw : HW a0 Z) (ws : List Jvm.Cond) (o0 : Addr) (i1 sv_COMPACT_STRINGS : Int32) (p2 : Addr) (k_p2 : ClassId) (h0 : Heap) (n0 : Nat) (O0 : Old Z n0 h0) (bnd_i1 : ¬ i1 < (0 : Int32) ∧ ¬ (255 : Int32) < i1) (E_o0 : Exa Z h0 o0 "java/lang/String") (S_COMPACT_STRINGS : Sta Z Z.heap "java/lang/String" "COMPACT_STRINGS" "Z" (.int sv_COMPACT_STRINGS)) (F_coder_o0 : Fld Z h0 o0 "java/lang/String" "coder" "B" (.int (0 : Int32))) (F_value_o0 : Fld Z h0 o0 "java/lang/String" "value" "[B" (.ref p2)) (V_p2 : Arv Z h0 p2 k_p2 .byte (32 : Int32) [(.int (97 : Int32)), (.int (98 : Int32)), (.int (99 : Int32)), (.int (100 : Int32)), (.int (101 : Int32)), (.int (102 : Int32)), (.int (103 : Int32)), (.int (104 : Int32)), (.int (105 : Int32)), (.int (106 : Int32)), (.int (107 : Int32)), (.int (108 : Int32)), (.int (109 : Int32)), (.int (110 : Int32)), (.int (111 : Int32)), (.int (112 : Int32)), (.int (113 : Int32)), (.int (114 : Int32)), (.int (115 : Int32)), (.int (116 : Int32)), (.int (117 : Int32)), (.int (118 : Int32)), (.int (119 : Int32)), (.int (120 : Int32)), (.int (121 : Int32)), (.int (122 : Int32)), (.int (50 : Int32)), (.int (51 : Int32)), (.int (52 : Int32)), (.int (53 : Int32)), (.int (54 : Int32)), (.int (55 : Int32))] (.int (0 : Int32))) (hCS : ¬ (sv_COMPACT_STRINGS = (0 : Int32))) :
    Con l Z (⟨"java/lang/String", "indexOf", "(I)I"⟩ : MethodName) jdk_42_method_79_code 2 (some .int) ws ({ frames := 3, cells := 0, slots := 0, locals := 46 } : Room) #[(.ref o0), (.int i1)] h0 (Pur (some (.int (f_rm22_0 i1))) h0) := by
 refine own_body (plainFor_of_name own_pn1) (fun m => ef_rm16_0 m o0 i1) ?_
 intro p e s m below meth c s₁ hx hby hlk hml hret hZ hown hnm X0 e0
 have N0 := Fr.nil n0
 refine Home.run X0 hx hby sg16_0_3 (pc' := 3) (L' := #[.val (.ref o0), .val (.int i1)]) (S' := [(.int (0 : Int32)), (.int i1), (.ref o0)]) rfl ?_
 refine Home.st (own_pure (own_virtual X0 hx hZ hown (own_w81 hw) (own_w82 hw) (notFace_of_selects (args := #[]) (mvT hZ (own_w84 hw))) (own_w84 hw) (own_w83 hw) (own_w10 hw) (own_w85 hw) (by decide) (rm17_0 l Z a0 hw [] o0 i1 sv_COMPACT_STRINGS p2 k_p2 h0 n0 O0 bnd_i1 E_o0 S_COMPACT_STRINGS F_coder_o0 hCS F_value_o0 V_p2) e0 E_o0 rfl (by rw [hml]; rfl) (argsL := [(.int i1), (.int (0 : Int32))]) (rest := []) (lenOf own_pd16 rfl) rfl rfl (W := 0) (by exact hW0) (by decide) (by decide) (hb hby d16_3) (by decide) (by decide))) fun T1 X1 e1 => ?_
 exact Home.retI X1 hx hlk hret (hb hby d16_6) ⟨rfl, rfl, e1⟩ (by decide) (by decide)
theorem rm8_1 (l : Launch) (Z : State) (a0 : Array Value) (hw : HW a0 Z) (ws : List Jvm.Cond) (o0 p2 : Addr) (k_p2 : ClassId) (u1 u2 sv_COMPACT_STRINGS : Int32) (sv_SIOOBE_FORMATTER : Value) (h0 : Heap) (n0 : Nat) (O0 : Old Z n0 h0) (E_o0 : Exa Z h0 o0 "java/lang/String") (F_value_o0 : Fld Z h0 o0 "java/lang/String" "value" "[B" (.ref p2)) (V_p2 : Arv Z h0 p2 k_p2 .byte (2 : Int32) [(.int u1), (.int u2)] (.int (0 : Int32))) (S_COMPACT_STRINGS : Sta Z Z.heap "java/lang/String" "COMPACT_STRINGS" "Z" (.int sv_COMPACT_STRINGS)) (F_coder_o0 : Fld Z h0 o0 "java/lang/String" "coder" "B" (.int (0 : Int32))) (hCS : ¬ (sv_COMPACT_STRINGS = (0 : Int32))) (S_SIOOBE_FORMATTER : Sta Z Z.heap "jdk/internal/util/Preconditions" "SIOOBE_FORMATTER" "Ljava/util/function/BiFunction;" sv_SIOOBE_FORMATTER) (bnd_u1 : ¬ u1 < (50 : Int32) ∧ ¬ (122 : Int32) < u1) (bnd_u2 : ¬ u2 < (50 : Int32) ∧ ¬ (122 : Int32) < u2) (isr_sv_SIOOBE_FORMATTER : sv_SIOOBE_FORMATTER.isRef = true) (nn800 : ¬ ((f_rm22_0 (u1 &&& (255 : Int32))) < (0 : Int32))) (nn801 : ¬ ((f_rm22_0 (u2 &&& (255 : Int32))) < (0 : Int32))) (nn802 : (((((0 : Int32) ||| (f_rm22_0 (u1 &&& (255 : Int32)))) <<< ((5 : Int32) &&& 31)) ||| (f_rm22_0 (u2 &&& (255 : Int32)))) &&& (3 : Int32)) = (0 : Int32)) :
    ConW l Z own_EL ([] : List Addr) true (⟨"com/example/tryst/tryst/encoding/Base32", "decode", "(Ljava/lang/String;)[B"⟩ : MethodName) prog_8_method_2_code 7 (some (.array .byte)) ws ({ frames := 4, cells := 5, slots := 265, locals := 59 } : Room) #[(.ref o0)] h0 (fun v h L => ∃ (b3 : Addr), ∃ (k3 : ClassId), v = some (.ref b3) ∧ Fr n0 L ∧ h0.size ≤ b3 ∧ Keep h0 h [] ∧ Arv Z h b3 k3 .byte (1 : Int32) [(.int (((((((0 : Int32) ||| (f_rm22_0 (u1 &&& (255 : Int32)))) <<< ((5 : Int32) &&& 31)) ||| (f_rm22_0 (u2 &&& (255 : Int32)))).toUInt32 >>> ((2 : Int32) &&& 31).toUInt32).toInt32).toInt8.toInt32))] (.int (0 : Int32))) := by
 refine own_bodyW (plainFor_of_name own_pn2) (fun m => ef_rm8_1 m o0) ?_
 intro p e s m below meth c s₁ hx hby hlk hml hret hZ hown hnm X0 e0 Cd0
 have N0 := Fr.nil n0
 refine Home.run X0 hx hby sg8_0_1 (pc' := 1) (L' := #[.val (.ref o0), .unset, .unset, .unset, .unset, .unset, .unset]) (S' := [(.ref o0)]) rfl ?_
 refine Home.st (own_pure (own_virtual X0 hx hZ hown (own_w41 hw) (own_w42 hw) (notFace_of_selects (args := #[]) (mvT hZ (own_w44 hw))) (own_w44 hw) (own_w43 hw) (own_w10 hw) (own_w45 hw) (by decide) (rm9_1 l Z a0 hw [] o0 p2 k_p2 u1 u2 sv_COMPACT_STRINGS h0 n0 O0 F_value_o0 V_p2 E_o0 S_COMPACT_STRINGS F_coder_o0 hCS) e0 E_o0 rfl (by rw [hml]; rfl) (argsL := []) (rest := []) (lenOf own_pd4 rfl) rfl rfl (W := 0) (by exact hW0) (by decide) (by decide) (hb hby d8_1) (by decide) (by decide))) fun T1 X1 e1 => ?_
 refine Home.run X1 hx hby sg8_4_3 (pc' := 8) (L' := #[.val (.ref o0), .unset, .unset, .unset, .unset, .unset, .unset]) (S' := [(.int (8 : Int32)), (.int (10 : Int32))]) rfl ?_
 refine Home.go (fun _ => iremM X1 hx rfl (hb hby d8_8) rfl (by decide)) ?_
 rw [show ((10 : Int32) % (8 : Int32)) = (2 : Int32) from by decide]
 refine Home.run X1 hx hby sg8_9_1 (pc' := 10) (L' := #[.val (.ref o0), .unset, .unset, .unset, .unset, .unset, .unset]) (S' := [(.int (5 : Int32)), (.int (2 : Int32))]) rfl ?_
 refine Home.go (fun _ => XS.icmpYes X1.here hx rfl (pc0 := 10) (pc' := 30) rfl (hb hby d8_10) rfl (tlt (by decide)).1 (by decide) (by decide)) ?_
 refine Home.run X1 hx hby sg8_30_1 (pc' := 31) (L' := #[.val (.ref o0), .unset, .unset, .unset, .unset, .unset, .unset]) (S' := [(.ref o0)]) rfl ?_
 refine Home.st (own_pure (own_virtual X1 hx hZ hown (own_w41 hw) (own_w42 hw) (notFace_of_selects (args := #[]) (mvT hZ (own_w44 hw))) (own_w44 hw) (own_w43 hw) (own_w10 hw) (own_w45 hw) (by decide) (rm9_1 l Z a0 hw [] o0 p2 k_p2 u1 u2 sv_COMPACT_STRINGS h0 n0 O0 F_value_o0 V_p2 E_o0 S_COMPACT_STRINGS F_coder_o0 hCS) e1 E_o0 rfl (by rw [hml]; rfl) (argsL := []) (rest := []) (lenOf own_pd4 rfl) rfl rfl (W := 0) (by exact hW0) (by decide) (by decide) (hb hby d8_31) (by decide) (by decide))) fun T2 X2 e2 => ?_
 refine Home.run X2 hx hby sg8_34_3 (pc' := 38) (L' := #[.val (.ref o0), .unset, .unset, .unset, .unset, .unset, .unset]) (S' := [(.int (8 : Int32)), (.int (10 : Int32))]) rfl ?_
 refine Home.go (fun _ => XS.idiv X2.here hx rfl (hb hby d8_38) rfl (by decide)) ?_
 rw [show ((10 : Int32) / (8 : Int32)) = (1 : Int32) from by decide]
 refine Home.na (own_newP (aty := .byte) X2 hx hZ (own_w26 hw) e2 (g := (mkF m 39 #[.val (.ref o0), .unset, .unset, .unset, .unset, .unset, .unset] [(.int (1 : Int32))])) rfl (hb hby d8_39) rfl (by decide) (cap := 1) (by decide) (by decide) (by decide) (by decide)) fun T3 h3 k3 b3 g3 X3 e3 E3 A3 => ?_
 have g_b3 : n0 ≤ b3 := Nat.le_trans (Old.le O0) (Nat.le_of_eq g3.symm)
 have V3 : Arv Z h3 b3 k3 .byte (1 : Int32) [(.int (0 : Int32))] (.int (0 : Int32)) := (Arv.new A3 (by decide)).pad (pad_rep [] (.int (0 : Int32)) 1)
 have O3 := O0.ext E3
 have K3 : Keep h0 h3 ([] : List Addr) := Keep.ext (Keep.refl h0 ([] : List Addr)) E3
 have Cd3 := Cold.add Cd0 E3 (Nat.le_of_eq g3.symm) V3.lt
 show Home T3 (mkF m 41 #[.val (.ref o0), .unset, .unset, .unset, .unset, .unset, .unset] [(.ref b3)])
 refine Home.run X3 hx hby sg8_41_11 (pc' := 55) (L' := #[.val (.ref o0), .val (.ref b3), .val (.int (0 : Int32)), .val (.int (0 : Int32)), .val (.int (0 : Int32)), .val (.int (0 : Int32)), .unset]) (S' := [(.ref o0), (.int (0 : Int32))]) rfl ?_
 refine Home.st (own_pure (own_virtual X3 hx hZ hown (own_w41 hw) (own_w42 hw) (notFace_of_selects (args := #[]) (mvT hZ (own_w44 hw))) (own_w44 hw) (own_w43 hw) (own_w10 hw) (own_w45 hw) (by decide) (rm9_1 l Z a0 hw [] o0 p2 k_p2 u1 u2 sv_COMPACT_STRINGS h3 n0 O3 (F_value_o0.keep K3 nin0) (V_p2.keep K3 nin0) (E_o0.keep K3) S_COMPACT_STRINGS (F_coder_o0.keep K3 nin0) hCS) e3 (E_o0.keep K3) rfl (by rw [hml]; rfl) (argsL := []) (rest := [(.int (0 : Int32))]) (lenOf own_pd4 rfl) rfl rfl (W := 1) (by exact hW0) (by decide) (by decide) (hb hby d8_55) (by decide) (by decide))) fun T4 X4 e4 => ?_
 refine Home.go (fun _ => XS.icmpNo X4.here hx rfl (hb hby d8_58) rfl (tlt (by decide)).2.1) ?_
 obtain ⟨ad5, b5, k5, T5, h5, X5, e5, E5, hZ, hown, Cd5, Ea5, Fc5, Fv5, V5, la5, lb5, hne5, st5⟩ := own_ldcW X4 hx hZ hown (own_hEL hw) Cd3 (own_w51 hw) (own_wS hw) e4 (List.mem_of_getElem? (i := 0) rfl) (vs := own_T0) (z := (32 : Int32)) ⟨by decide, by rfl⟩ (by decide) (by decide) (g := (mkF m 61 #[.val (.ref o0), .val (.ref b3), .val (.int (0 : Int32)), .val (.int (0 : Int32)), .val (.int (0 : Int32)), .val (.int (0 : Int32)), .unset] [])) rfl (hb hby d8_61) (n := 128) (by decide) (by decide) (by decide) (by decide)
 refine Home.go st5 ?_
 have O5 := O3.ext E5
 have K5 : Keep h0 h5 ([] : List Addr) := Keep.ext K3 E5
 refine Home.run X5 hx hby sg8_63_2 (pc' := 66) (L' := #[.val (.ref o0), .val (.ref b3), .val (.int (0 : Int32)), .val (.int (0 : Int32)), .val (.int (0 : Int32)), .val (.int (0 : Int32)), .unset]) (S' := [(.int (0 : Int32)), (.ref o0), (.ref ad5)]) rfl ?_
 refine Home.st (own_pure (own_virtual X5 hx hZ hown (own_w54 hw) (own_w55 hw) (notFace_of_selects (args := #[]) (mvT hZ (own_w57 hw))) (own_w57 hw) (own_w56 hw) (own_w10 hw) (own_w58 hw) (by decide) (rm11_0 l Z a0 hw [] o0 (0 : Int32) sv_COMPACT_STRINGS p2 k_p2 u1 u2 sv_SIOOBE_FORMATTER h5 n0 O5 (bnd_mono (bnd_lit (0 : Int32)) (by decide +kernel) (by decide +kernel)) (E_o0.keep K5) S_COMPACT_STRINGS (F_coder_o0.keep K5 nin0) hCS (F_value_o0.keep K5 nin0) (V_p2.keep K5 nin0) S_SIOOBE_FORMATTER bnd_u1 bnd_u2 isr_sv_SIOOBE_FORMATTER) e5 (E_o0.keep K5) rfl (by rw [hml]; rfl) (argsL := [(.int (0 : Int32))]) (rest := [(.ref ad5)]) (lenOf own_pd14 rfl) rfl rfl (W := 1) (by exact hW0) (by decide) (by decide) (hb hby d8_66) (by decide) (by decide))) fun T6 X6 e6 => ?_
 show Home T6 (mkF m 69 #[.val (.ref o0), .val (.ref b3), .val (.int (0 : Int32)), .val (.int (0 : Int32)), .val (.int (0 : Int32)), .val (.int (0 : Int32)), .unset] [(.int (u1 &&& (255 : Int32))), (.ref ad5)])
 refine Home.st (own_pure (own_virtual X6 hx hZ hown (own_w76 hw) (own_w77 hw) (notFace_of_selects (args := #[]) (mvT hZ (own_w79 hw))) (own_w79 hw) (own_w78 hw) (own_w10 hw) (own_w80 hw) (by decide) (rm16_0 l Z a0 hw [] ad5 (u1 &&& (255 : Int32)) sv_COMPACT_STRINGS b5 k5 h5 n0 O5 (bnd_and (own_at [u1, u2] (0 : Int32)) (255 : Int32) (by decide)) Ea5 S_COMPACT_STRINGS Fc5 Fv5 V5 hCS) e6 Ea5 rfl (by rw [hml]; rfl) (argsL := [(.int (u1 &&& (255 : Int32)))]) (rest := []) (lenOf own_pd18 rfl) rfl rfl (W := 0) (by exact hW0) (by decide) (by decide) (hb hby d8_69) (by decide) (by decide))) fun T7 X7 e7 => ?_
 refine Home.run X7 hx hby sg8_72_1 (pc' := 74) (L' := #[.val (.ref o0), .val (.ref b3), .val (.int (0 : Int32)), .val (.int (0 : Int32)), .val (.int (0 : Int32)), .val (.int (0 : Int32)), .val (.int (f_rm22_0 (u1 &&& (255 : Int32))))]) (S' := []) rfl ?_
 obtain ⟨v8, hv8⟩ : ∃ z, z = (f_rm22_0 (u1 &&& (255 : Int32))) := ⟨_, rfl⟩
 rw [← hv8]
 refine Home.run X7 hx hby sg8_74_1 (pc' := 76) (L' := #[.val (.ref o0), .val (.ref b3), .val (.int (0 : Int32)), .val (.int (0 : Int32)), .val (.int (0 : Int32)), .val (.int (0 : Int32)), .val (.int v8)]) (S' := [(.int v8)]) rfl ?_
 refine Home.go (fun _ => XS.ifYes X7.here hx rfl (pc0 := 76) (pc' := 98) rfl (hb hby d8_76) rfl ((if0 _ _).trans (flt (by rw [hv8]; exact nn800)).2.1) (by decide) (by decide)) ?_
 refine Home.run X7 hx hby sg8_98_6 (pc' := 105) (L' := #[.val (.ref o0), .val (.ref b3), .val (.int (0 : Int32)), .val (.int ((0 : Int32) ||| v8)), .val (.int (0 : Int32)), .val (.int (0 : Int32)), .val (.int v8)]) (S' := []) rfl ?_
 obtain ⟨v9, hv9⟩ : ∃ z, z = ((0 : Int32) ||| v8) := ⟨_, rfl⟩
 rw [← hv9]
 refine Home.run X7 hx hby sg8_105_3 (pc' := 111) (L' := #[.val (.ref o0), .val (.ref b3), .val (.int (5 : Int32)), .val (.int v9), .val (.int (0 : Int32)), .val (.int (0 : Int32)), .val (.int v8)]) (S' := [(.int (8 : Int32)), (.int (5 : Int32))]) rfl ?_
 refine Home.go (fun _ => XS.icmpYes X7.here hx rfl (pc0 := 111) (pc' := 136) rfl (hb hby d8_111) rfl (tlt (by decide)).1 (by decide) (by decide)) ?_
 refine Home.run X7 hx hby sg8_136_4 (pc' := 55) (L' := #[.val (.ref o0), .val (.ref b3), .val (.int (5 : Int32)), .val (.int v9), .val (.int (0 : Int32)), .val (.int (1 : Int32)), .val (.int v8)]) (S' := [(.ref o0), (.int (1 : Int32))]) rfl ?_
 refine Home.st (own_pure (own_virtual X7 hx hZ hown (own_w41 hw) (own_w42 hw) (notFace_of_selects (args := #[]) (mvT hZ (own_w44 hw))) (own_w44 hw) (own_w43 hw) (own_w10 hw) (own_w45 hw) (by decide) (rm9_1 l Z a0 hw [] o0 p2 k_p2 u1 u2 sv_COMPACT_STRINGS h5 n0 O5 (F_value_o0.keep K5 nin0) (V_p2.keep K5 nin0) (E_o0.keep K5) S_COMPACT_STRINGS (F_coder_o0.keep K5 nin0) hCS) e7 (E_o0.keep K5) rfl (by rw [hml]; rfl) (argsL := []) (rest := [(.int (1 : Int32))]) (lenOf own_pd4 rfl) rfl rfl (W := 1) (by exact hW0) (by decide) (by decide) (hb hby d8_55) (by decide) (by decide))) fun T10 X10 e10 => ?_
 refine Home.go (fun _ => XS.icmpNo X10.here hx rfl (hb hby d8_58) rfl (tlt (by decide)).2.1) ?_
 obtain ⟨ad11, b11, k11, T11, h11, X11, e11, E11, hZ, hown, Cd11, Ea11, Fc11, Fv11, V11, la11, lb11, hne11, st11⟩ := own_ldcW X10 hx hZ hown (own_hEL hw) Cd5 (own_w51 hw) (own_wS hw) e10 (List.mem_of_getElem? (i := 0) rfl) (vs := own_T0) (z := (32 : Int32)) ⟨by decide, by rfl⟩ (by decide) (by decide) (g := (mkF m 61 #[.val (.ref o0), .val (.ref b3), .val (.int (5 : Int32)), .val (.int v9), .val (.int (0 : Int32)), .val (.int (1 : Int32)), .val (.int v8)] [])) rfl (hb hby d8_61) (n := 128) (by decide) (by decide) (by decide) (by decide)
 refine Home.go st11 ?_
 have O11 := O5.ext E11
 have K11 : Keep h0 h11 ([] : List Addr) := Keep.ext K5 E11
 show Home T11 (mkF m 63 #[.val (.ref o0), .val (.ref b3), .val (.int (5 : Int32)), .val (.int v9), .val (.int (0 : Int32)), .val (.int (1 : Int32)), .val (.int v8)] [(.ref ad11)])
 refine Home.run X11 hx hby sg8_63_2 (pc' := 66) (L' := #[.val (.ref o0), .val (.ref b3), .val (.int (5 : Int32)), .val (.int v9), .val (.int (0 : Int32)), .val (.int (1 : Int32)), .val (.int v8)]) (S' := [(.int (1 : Int32)), (.ref o0), (.ref ad11)]) rfl ?_
 refine Home.st (own_pure (own_virtual X11 hx hZ hown (own_w54 hw) (own_w55 hw) (notFace_of_selects (args := #[]) (mvT hZ (own_w57 hw))) (own_w57 hw) (own_w56 hw) (own_w10 hw) (own_w58 hw) (by decide) (rm11_0 l Z a0 hw [] o0 (1 : Int32) sv_COMPACT_STRINGS p2 k_p2 u1 u2 sv_SIOOBE_FORMATTER h11 n0 O11 (bnd_mono (bnd_lit (1 : Int32)) (by decide +kernel) (by decide +kernel)) (E_o0.keep K11) S_COMPACT_STRINGS (F_coder_o0.keep K11 nin0) hCS (F_value_o0.keep K11 nin0) (V_p2.keep K11 nin0) S_SIOOBE_FORMATTER bnd_u1 bnd_u2 isr_sv_SIOOBE_FORMATTER) e11 (E_o0.keep K11) rfl (by rw [hml]; rfl) (argsL := [(.int (1 : Int32))]) (rest := [(.ref ad11)]) (lenOf own_pd14 rfl) rfl rfl (W := 1) (by exact hW0) (by decide) (by decide) (hb hby d8_66) (by decide) (by decide))) fun T12 X12 e12 => ?_
 show Home T12 (mkF m 69 #[.val (.ref o0), .val (.ref b3), .val (.int (5 : Int32)), .val (.int v9), .val (.int (0 : Int32)), .val (.int (1 : Int32)), .val (.int v8)] [(.int (u2 &&& (255 : Int32))), (.ref ad11)])
 refine Home.st (own_pure (own_virtual X12 hx hZ hown (own_w76 hw) (own_w77 hw) (notFace_of_selects (args := #[]) (mvT hZ (own_w79 hw))) (own_w79 hw) (own_w78 hw) (own_w10 hw) (own_w80 hw) (by decide) (rm16_0 l Z a0 hw [] ad11 (u2 &&& (255 : Int32)) sv_COMPACT_STRINGS b11 k11 h11 n0 O11 (bnd_and (own_at [u1, u2] (1 : Int32)) (255 : Int32) (by decide)) Ea11 S_COMPACT_STRINGS Fc11 Fv11 V11 hCS) e12 Ea11 rfl (by rw [hml]; rfl) (argsL := [(.int (u2 &&& (255 : Int32)))]) (rest := []) (lenOf own_pd18 rfl) rfl rfl (W := 0) (by exact hW0) (by decide) (by decide) (hb hby d8_69) (by decide) (by decide))) fun T13 X13 e13 => ?_
 refine Home.run X13 hx hby sg8_72_1 (pc' := 74) (L' := #[.val (.ref o0), .val (.ref b3), .val (.int (5 : Int32)), .val (.int v9), .val (.int (0 : Int32)), .val (.int (1 : Int32)), .val (.int (f_rm22_0 (u2 &&& (255 : Int32))))]) (S' := []) rfl ?_
 obtain ⟨v14, hv14⟩ : ∃ z, z = (f_rm22_0 (u2 &&& (255 : Int32))) := ⟨_, rfl⟩
 rw [← hv14]
 refine Home.run X13 hx hby sg8_74_1 (pc' := 76) (L' := #[.val (.ref o0), .val (.ref b3), .val (.int (5 : Int32)), .val (.int v9), .val (.int (0 : Int32)), .val (.int (1 : Int32)), .val (.int v14)]) (S' := [(.int v14)]) rfl ?_
 refine Home.go (fun _ => XS.ifYes X13.here hx rfl (pc0 := 76) (pc' := 98) rfl (hb hby d8_76) rfl ((if0 _ _).trans (flt (by rw [hv14]; exact nn801)).2.1) (by decide) (by decide)) ?_
 refine Home.run X13 hx hby sg8_98_6 (pc' := 105) (L' := #[.val (.ref o0), .val (.ref b3), .val (.int (5 : Int32)), .val (.int ((v9 <<< ((5 : Int32) &&& 31)) ||| v14)), .val (.int (0 : Int32)), .val (.int (1 : Int32)), .val (.int v14)]) (S' := []) rfl ?_
 obtain ⟨v15, hv15⟩ : ∃ z, z = ((v9 <<< ((5 : Int32) &&& 31)) ||| v14) := ⟨_, rfl⟩
 rw [← hv15]
 refine Home.run X13 hx hby sg8_105_3 (pc' := 111) (L' := #[.val (.ref o0), .val (.ref b3), .val (.int (10 : Int32)), .val (.int v15), .val (.int (0 : Int32)), .val (.int (1 : Int32)), .val (.int v14)]) (S' := [(.int (8 : Int32)), (.int (10 : Int32))]) rfl ?_
 refine Home.go (fun _ => XS.icmpNo X13.here hx rfl (hb hby d8_111) rfl (flt (by decide)).1) ?_
 refine Home.run X13 hx hby sg8_114_8 (pc' := 127) (L' := #[.val (.ref o0), .val (.ref b3), .val (.int (2 : Int32)), .val (.int v15), .val (.int (1 : Int32)), .val (.int (1 : Int32)), .val (.int v14)]) (S' := [(.int (((v15.toUInt32 >>> ((2 : Int32) &&& 31).toUInt32).toInt32).toInt8.toInt32)), (.int (0 : Int32)), (.ref b3)]) rfl ?_
 have q16 := ((V3.ext E5).ext E11)
 obtain ⟨cl17, Ar17, q17, S17, M17, H17, G17⟩ := id q16
 refine Home.wr (stB X13 hx hZ e13 Ar17 (j := (0 : Int32)) (inb_of S17 ⟨by decide, by decide⟩) rfl rfl (hb hby d8_127)) fun T17 h17 X17 e17 W17 => ?_
 have W17' := Wr.to W17 (congrArg Value.int (nar_byte_id (bnd_i2b ((v15.toUInt32 >>> ((2 : Int32) &&& 31).toUInt32).toInt32)) (by decide +kernel) (by decide +kernel)))
 have V17 : Arv Z h17 b3 k3 .byte (1 : Int32) [(.int (((v15.toUInt32 >>> ((2 : Int32) &&& 31).toUInt32).toInt32).toInt8.toInt32))] (.int (0 : Int32)) := Arv.set Ar17 q17 S17 M17 H17 G17 (fits_byte_b (bnd_i2b ((v15.toUInt32 >>> ((2 : Int32) &&& 31).toUInt32).toInt32)) (by decide +kernel) (by decide +kernel)) W17' 0 rfl (Nat.le_of_ble_eq_true rfl)
 have O17 := O11.wr W17 g_b3
 have K17 : Keep h0 h17 ([] : List Addr) := Keep.wr K11 W17 (Or.inr (Nat.le_trans (Nat.le_refl _) (Nat.le_of_eq g3.symm)))
 have Cd17 := Cold.wr Cd11 W17 (Cold.safe Cd11 (List.mem_of_getElem? (i := 0) rfl))
 have N17 := Fr.snoc X17 N0 g_b3
 show Home T17 (mkF m 128 #[.val (.ref o0), .val (.ref b3), .val (.int (2 : Int32)), .val (.int v15), .val (.int (1 : Int32)), .val (.int (1 : Int32)), .val (.int v14)] [])
 refine Home.run X17 hx hby sg8_128_8 (pc' := 136) (L' := #[.val (.ref o0), .val (.ref b3), .val (.int (2 : Int32)), .val (.int (v15 &&& (3 : Int32))), .val (.int (1 : Int32)), .val (.int (1 : Int32)), .val (.int v14)]) (S' := []) rfl ?_
 obtain ⟨v18, hv18⟩ : ∃ z, z = (v15 &&& (3 : Int32)) := ⟨_, rfl⟩
 rw [← hv18]
 have bv18 : ¬ v18 < (0 : Int32) ∧ ¬ (3 : Int32) < v18 := by rw [hv18]; exact (bnd_and v15 (3 : Int32) (by decide))
 refine Home.run X17 hx hby sg8_136_4 (pc' := 55) (L' := #[.val (.ref o0), .val (.ref b3), .val (.int (2 : Int32)), .val (.int v18), .val (.int (1 : Int32)), .val (.int (2 : Int32)), .val (.int v14)]) (S' := [(.ref o0), (.int (2 : Int32))]) rfl ?_
 refine Home.st (own_pure (own_virtual X17 hx hZ hown (own_w41 hw) (own_w42 hw) (notFace_of_selects (args := #[]) (mvT hZ (own_w44 hw))) (own_w44 hw) (own_w43 hw) (own_w10 hw) (own_w45 hw) (by decide) (rm9_1 l Z a0 hw [] o0 p2 k_p2 u1 u2 sv_COMPACT_STRINGS h17 n0 O17 (F_value_o0.keep K17 nin0) (V_p2.keep K17 nin0) (E_o0.keep K17) S_COMPACT_STRINGS (F_coder_o0.keep K17 nin0) hCS) e17 (E_o0.keep K17) rfl (by rw [hml]; rfl) (argsL := []) (rest := [(.int (2 : Int32))]) (lenOf own_pd4 rfl) rfl rfl (W := 1) (by exact hW0) (by decide) (by decide) (hb hby d8_55) (by decide) (by decide))) fun T19 X19 e19 => ?_
 refine Home.go (fun _ => XS.icmpYes X19.here hx rfl (pc0 := 58) (pc' := 142) rfl (hb hby d8_58) rfl (flt (by decide)).2.1 (by decide) (by decide)) ?_
 refine Home.run X19 hx hby sg8_142_1 (pc' := 143) (L' := #[.val (.ref o0), .val (.ref b3), .val (.int (2 : Int32)), .val (.int v18), .val (.int (1 : Int32)), .val (.int (2 : Int32)), .val (.int v14)]) (S' := [(.int v18)]) rfl ?_
 refine Home.go (fun _ => XS.ifYes X19.here hx rfl (pc0 := 143) (pc' := 156) rfl (hb hby d8_143) rfl ((if0 _ _).trans (teq (by rw [hv18, hv15, hv9, hv8, hv14]; exact nn802)).1) (by decide) (by decide)) ?_
 refine Home.run X19 hx hby sg8_156_1 (pc' := 157) (L' := #[.val (.ref o0), .val (.ref b3), .val (.int (2 : Int32)), .val (.int v18), .val (.int (1 : Int32)), .val (.int (2 : Int32)), .val (.int v14)]) (S' := [(.ref b3)]) rfl ?_
 subst hv18
 subst hv15
 subst hv14
 subst hv9
 subst hv8
 exact HomeW.retR X19 hx hlk hZ (own_hEL hw) e19 Cd17 (fun _ _ q => by cases q; exact (List.mem_of_getElem? (i := 0) rfl)) hret rfl rfl (hb hby d8_157) (by rw [show T19.heap = h17 from e19]; exact ⟨b3, k3, rfl, N17, (Nat.le_trans (Nat.le_refl _) (Nat.le_of_eq g3.symm)), K17, V17⟩) (by decide) (by decide)
theorem rm23_1 (l : Launch) (Z : State) (a0 : Array Value) (hw : HW a0 Z) (ws : List Jvm.Cond) (o0 : Addr) (j1 : Int64) (i3 : Int32) (k_o0 : ClassId) (u1 : Int32) (h0 : Heap) (n0 : Nat) (O0 : Old Z n0 h0) (bnd_i3 : ¬ i3 < (0 : Int32) ∧ ¬ (4 : Int32) < i3) (V_o0 : Arv Z h0 o0 k_o0 .byte (1 : Int32) [(.int u1)] (.int (0 : Int32))) :
    Con l Z (⟨"com/example/tryst/tryst/encoding/Base32DecodePinLaw", "byteOk", "([BJII)Z"⟩ : MethodName) method_3_code 5 (some .boolean) ws ({ frames := 0, cells := 0, slots := 0, locals := 0 } : Room) #[(.ref o0), (.long j1), (.int (1 : Int32)), (.int i3)] h0 (Pur (some (.int (f_rm23_1 j1 i3 u1))) h0) := by
 refine own_body (plainFor_of_name own_pn0) (fun m => ef_rm23_1 m o0 j1 (1 : Int32) i3) ?_
 intro p e s m below meth c s₁ hx hby hlk hml hret hZ hown hnm X0 e0
 have N0 := Fr.nil n0
 refine Home.run X0 hx hby sg23_0_2 (pc' := 3) (L' := #[.val (.ref o0), .val (.long j1), .second, .val (.int (1 : Int32)), .val (.int i3)]) (S' := [(.int (1 : Int32)), (.int i3)]) rfl ?_
 by_cases c1 : i3 < (1 : Int32)
 ·
  refine Home.go (fun _ => XS.icmpYes X0.here hx rfl (pc0 := 3) (pc' := 8) rfl (hb hby d23_3) rfl (tlt c1).1 (by decide) (by decide)) ?_
  have bd2 : ¬ i3 < (0 : Int32) ∧ ¬ (0 : Int32) < i3 := ⟨bnd_i3.1, (bnd_dn c1 (by decide +kernel))⟩
  refine Home.run X0 hx hby sg23_8_2 (pc' := 11) (L' := #[.val (.ref o0), .val (.long j1), .second, .val (.int (1 : Int32)), .val (.int i3)]) (S' := [(.int i3), (.ref o0)]) rfl ?_
  obtain ⟨cl4, Ar4, q4, S4, M4, H4, G4⟩ := id V_o0
  have ib4 : ¬ (i3 < 0 ∨ cl4.slots.size ≤ (i3).toNatClampNeg) := inb_of S4 ⟨(bnd_nlt bd2 (bnd_lit (0 : Int32)) (by decide +kernel)), c1⟩
  refine Home.go (X0.baloadBytes hx (j := i3) (v := .int (own_at [u1] i3)) (by rw [e0]; exact Ar4.1) (State.isArrayOf_alike hZ.alike Ar4.2.1) Ar4.2.2 ib4 (Has.at H4 ib4 (own_getD [u1] _)) rfl rfl (hb hby d23_11)) ?_
  refine Home.run X0 hx hby sg23_12_9 (pc' := 24) (L' := #[.val (.ref o0), .val (.long j1), .second, .val (.int (1 : Int32)), .val (.int i3)]) (S' := [(.int ((((j1.toUInt64 >>> (((32 : Int32) - ((8 : Int32) * i3)) &&& 0x3f).toInt64.toUInt64).toInt64).toInt32).toInt8.toInt32)), (.int (own_at [u1] i3))]) rfl ?_
  suffices J6 : ∀ {T : State} (X : Stand p l e ({ frames := 0, cells := 0, slots := 0, locals := 0 } : Room) s m #[(.ref o0), (.long j1), (.int (1 : Int32)), (.int i3)] below meth c T [] 0 0) (eT : T.heap = h0) (v7 : Int32) (hv7 : v7 = (if (own_at [u1] i3) = ((((j1.toUInt64 >>> (((32 : Int32) - ((8 : Int32) * i3)) &&& 0x3f).toInt64.toUInt64).toInt64).toInt32).toInt8.toInt32) then (1 : Int32) else (0 : Int32))), @Home p e below _ T (mkF m 32 #[.val (.ref o0), .val (.long j1), .second, .val (.int (1 : Int32)), .val (.int i3)] [(.int v7)]) by
   by_cases c5 : (own_at [u1] i3) = ((((j1.toUInt64 >>> (((32 : Int32) - ((8 : Int32) * i3)) &&& 0x3f).toInt64.toUInt64).toInt64).toInt32).toInt8.toInt32)
   ·
    refine Home.go (fun _ => XS.icmpNo X0.here hx rfl (hb hby d23_24) rfl (teq c5).2) ?_
    refine Home.run X0 hx hby sg23_27_2 (pc' := 32) (L' := #[.val (.ref o0), .val (.long j1), .second, .val (.int (1 : Int32)), .val (.int i3)]) (S' := [(.int (1 : Int32))]) rfl ?_
    exact J6 X0 e0 _ (by simp only [if_pos c5])
   ·
    refine Home.go (fun _ => XS.icmpYes X0.here hx rfl (pc0 := 24) (pc' := 31) rfl (hb hby d23_24) rfl (feq c5).2 (by decide) (by decide)) ?_
    refine Home.run X0 hx hby sg23_31_1 (pc' := 32) (L' := #[.val (.ref o0), .val (.long j1), .second, .val (.int (1 : Int32)), .val (.int i3)]) (S' := [(.int (0 : Int32))]) rfl ?_
    exact J6 X0 e0 _ (by simp only [if_neg c5])
  intro TJ6 XJ6 eJ6 v7 hv7
  have bv7 : ¬ v7 < (0 : Int32) ∧ ¬ (1 : Int32) < v7 := by rw [hv7]; exact (bnd_ite (bnd_mono (bnd_lit (1 : Int32)) (by decide +kernel) (by decide +kernel)) (bnd_mono (bnd_lit (0 : Int32)) (by decide +kernel) (by decide +kernel)))
  show Home TJ6 (mkF m 32 #[.val (.ref o0), .val (.long j1), .second, .val (.int (1 : Int32)), .val (.int i3)] [(.int v7)])
  exact Home.retN XJ6 hx hlk (t := .boolean) hret (by simp) (hb hby d23_32) ⟨congrArg some (congrArg Value.int (by subst hv7; first | rfl | (simp only [f_rm23_1, if_pos c1, nar_bool_id bv7 (by decide +kernel) (by decide +kernel), nar_i2c, nar_i2b] <;> rfl) | (simp [f_rm23_1, if_pos c1, nar_bool_id bv7 (by decide +kernel) (by decide +kernel)]; done))), rfl, eJ6⟩ (by decide) (by decide)
 ·
  refine Home.go (fun _ => XS.icmpNo X0.here hx rfl (hb hby d23_3) rfl (flt c1).1) ?_
  have bd3 : ¬ i3 < (1 : Int32) ∧ ¬ (4 : Int32) < i3 := ⟨c1, bnd_i3.2⟩
  refine Home.run X0 hx hby sg23_6_1 (pc' := 7) (L' := #[.val (.ref o0), .val (.long j1), .second, .val (.int (1 : Int32)), .val (.int i3)]) (S' := [(.int (1 : Int32))]) rfl ?_
  exact Home.retN X0 hx hlk (t := .boolean) hret (by simp) (hb hby d23_7) ⟨congrArg some (congrArg Value.int (by first | rfl | (simp only [f_rm23_1, if_neg c1, nar_i2c, nar_i2b] <;> rfl) | (simp [f_rm23_1, if_neg c1]; done))), rfl, e0⟩ (by decide) (by decide)
theorem f_rm23_1_bnd (j1 : Int64) (i3 : Int32) (u1 : Int32) (bnd_i3 : ¬ i3 < (0 : Int32) ∧ ¬ (4 : Int32) < i3) : ¬ (f_rm23_1 j1 i3 u1) < (0 : Int32) ∧ ¬ (1 : Int32) < (f_rm23_1 j1 i3 u1) := by unfold f_rm23_1; (repeat' split) <;> first | exact bnd_mono (bnd_lit (1 : Int32)) (by decide +kernel) (by decide +kernel) | exact bnd_mono (bnd_lit (0 : Int32)) (by decide +kernel) (by decide +kernel)
theorem rm6_1 (l : Launch) (Z : State) (a0 : Array Value) (hw : HW a0 Z) (ws : List Jvm.Cond) (o0 o2 : Addr) (k_o0 : ClassId) (u1 u2 u3 u4 : Int32) (k_o2 : ClassId) (h0 : Heap) (n0 : Nat) (O0 : Old Z n0 h0) (V_o0 : Arv Z h0 o0 k_o0 .char (4 : Int32) [(.int u1), (.int u2), (.int u3), (.int u4)] (.int (0 : Int32))) (bnd_u1 : ¬ u1 < (50 : Int32) ∧ ¬ (122 : Int32) < u1) (V_o2 : Arv Z h0 o2 k_o2 .byte (4 : Int32) [(.int (0 : Int32)), (.int (0 : Int32)), (.int (0 : Int32)), (.int (0 : Int32))] (.int (0 : Int32))) (g_o2 : n0 ≤ o2) (ne_o0_o2 : o0 ≠ o2) (bnd_u2 : ¬ u2 < (50 : Int32) ∧ ¬ (122 : Int32) < u2) (bnd_u3 : ¬ u3 < (50 : Int32) ∧ ¬ (122 : Int32) < u3) (bnd_u4 : ¬ u4 < (50 : Int32) ∧ ¬ (122 : Int32) < u4) :
    Con l Z (⟨"java/lang/StringUTF16", "compress", "([CI[BII)I"⟩ : MethodName) jdk_52_method_21_code 7 (some .int) ws ({ frames := 0, cells := 0, slots := 0, locals := 0 } : Room) #[(.ref o0), (.int (0 : Int32)), (.ref o2), (.int (0 : Int32)), (.int (4 : Int32))] h0 (fun v h L => v = some (.int (4 : Int32)) ∧ Fr n0 L ∧ Keep h0 h [o2] ∧ Arv Z h o2 k_o2 .byte (4 : Int32) [(.int u1), (.int u2), (.int u3), (.int u4)] (.int (0 : Int32))) := by
 refine own_body (plainFor_of_name own_pn3) (fun m => ef_rm6_1 m o0 (0 : Int32) o2 (4 : Int32)) ?_
 intro p e s m below meth c s₁ hx hby hlk hml hret hZ hown hnm X0 e0
 have N0 := Fr.nil n0
 refine Home.run X0 hx hby sg6_0_4 (pc' := 7) (L' := #[.val (.ref o0), .val (.int (0 : Int32)), .val (.ref o2), .val (.int (0 : Int32)), .val (.int (4 : Int32)), .val (.int (0 : Int32)), .unset]) (S' := [(.int (4 : Int32)), (.int (0 : Int32))]) rfl ?_
 refine Home.go (fun _ => XS.icmpNo X0.here hx rfl (hb hby d6_7) rfl (tlt (by decide)).2.1) ?_
 refine Home.run X0 hx hby sg6_10_2 (pc' := 12) (L' := #[.val (.ref o0), .val (.int (0 : Int32)), .val (.ref o2), .val (.int (0 : Int32)), .val (.int (4 : Int32)), .val (.int (0 : Int32)), .unset]) (S' := [(.int (0 : Int32)), (.ref o0)]) rfl ?_
 obtain ⟨cl1, Ar1, q1, S1, M1, H1, G1⟩ := id V_o0
 have ib1 : ¬ ((0 : Int32) < 0 ∨ cl1.slots.size ≤ ((0 : Int32)).toNatClampNeg) := inb_of S1 ⟨by decide, by decide⟩
 refine Home.go (X0.caload hx (j := (0 : Int32)) (v := (.int u1)) (by rw [e0]; exact Ar1.1) (State.isArrayOf_alike hZ.alike Ar1.2.1) Ar1.2.2 ib1 (Has.at H1 ib1 rfl) rfl rfl (hb hby d6_12)) ?_
 refine Home.run X0 hx hby sg6_13_3 (pc' := 20) (L' := #[.val (.ref o0), .val (.int (0 : Int32)), .val (.ref o2), .val (.int (0 : Int32)), .val (.int (4 : Int32)), .val (.int (0 : Int32)), .val (.int u1)]) (S' := [(.int (255 : Int32)), (.int u1)]) rfl ?_
 refine Home.go (fun _ => XS.icmpYes X0.here hx rfl (pc0 := 20) (pc' := 26) rfl (hb hby d6_20) rfl (flt (bnd_nlt (bnd_lit (255 : Int32)) bnd_u1 (by decide +kernel))).2.2.2 (by decide) (by decide)) ?_
 refine Home.run X0 hx hby sg6_26_4 (pc' := 31) (L' := #[.val (.ref o0), .val (.int (0 : Int32)), .val (.ref o2), .val (.int (0 : Int32)), .val (.int (4 : Int32)), .val (.int (0 : Int32)), .val (.int u1)]) (S' := [(.int (u1.toInt8.toInt32)), (.int (0 : Int32)), (.ref o2)]) rfl ?_
 rw [i2b_id bnd_u1 (by decide +kernel) (by decide +kernel)]
 obtain ⟨cl2, Ar2, q2, S2, M2, H2, G2⟩ := id V_o2
 refine Home.wr (stB X0 hx hZ e0 Ar2 (j := (0 : Int32)) (inb_of S2 ⟨by decide, by decide⟩) rfl rfl (hb hby d6_31)) fun T2 h2 X2 e2 W2 => ?_
 have W2' := Wr.to W2 (congrArg Value.int (nar_byte_id bnd_u1 (by decide +kernel) (by decide +kernel)))
 have V2 : Arv Z h2 o2 k_o2 .byte (4 : Int32) [(.int u1), (.int (0 : Int32)), (.int (0 : Int32)), (.int (0 : Int32))] (.int (0 : Int32)) := Arv.set Ar2 q2 S2 M2 H2 G2 (fits_byte_b bnd_u1 (by decide +kernel) (by decide +kernel)) W2' 0 rfl (Nat.le_of_ble_eq_true rfl)
 have O2 := O0.wr W2 g_o2
 have K2 : Keep h0 h2 ([o2] : List Addr) := Keep.wr (Keep.refl h0 ([o2] : List Addr)) W2 (Or.inl (List.mem_of_getElem? (i := 0) rfl))
 have N2 := Fr.snoc X2 N0 g_o2
 show Home T2 (mkF m 32 #[.val (.ref o0), .val (.int (0 : Int32)), .val (.ref o2), .val (.int (0 : Int32)), .val (.int (4 : Int32)), .val (.int (0 : Int32)), .val (.int u1)] [])
 refine Home.run X2 hx hby sg6_32_6 (pc' := 7) (L' := #[.val (.ref o0), .val (.int (1 : Int32)), .val (.ref o2), .val (.int (1 : Int32)), .val (.int (4 : Int32)), .val (.int (1 : Int32)), .val (.int u1)]) (S' := [(.int (4 : Int32)), (.int (1 : Int32))]) rfl ?_
 refine Home.go (fun _ => XS.icmpNo X2.here hx rfl (hb hby d6_7) rfl (tlt (by decide)).2.1) ?_
 refine Home.run X2 hx hby sg6_10_2 (pc' := 12) (L' := #[.val (.ref o0), .val (.int (1 : Int32)), .val (.ref o2), .val (.int (1 : Int32)), .val (.int (4 : Int32)), .val (.int (1 : Int32)), .val (.int u1)]) (S' := [(.int (1 : Int32)), (.ref o0)]) rfl ?_
 have q3 := (V_o0.other W2 ne_o0_o2)
 obtain ⟨cl4, Ar4, q4, S4, M4, H4, G4⟩ := id q3
 have ib4 : ¬ ((1 : Int32) < 0 ∨ cl4.slots.size ≤ ((1 : Int32)).toNatClampNeg) := inb_of S4 ⟨by decide, by decide⟩
 refine Home.go (X2.caload hx (j := (1 : Int32)) (v := (.int u2)) (by rw [e2]; exact Ar4.1) (State.isArrayOf_alike hZ.alike Ar4.2.1) Ar4.2.2 ib4 (Has.at H4 ib4 rfl) rfl rfl (hb hby d6_12)) ?_
 refine Home.run X2 hx hby sg6_13_3 (pc' := 20) (L' := #[.val (.ref o0), .val (.int (1 : Int32)), .val (.ref o2), .val (.int (1 : Int32)), .val (.int (4 : Int32)), .val (.int (1 : Int32)), .val (.int u2)]) (S' := [(.int (255 : Int32)), (.int u2)]) rfl ?_
 refine Home.go (fun _ => XS.icmpYes X2.here hx rfl (pc0 := 20) (pc' := 26) rfl (hb hby d6_20) rfl (flt (bnd_nlt (bnd_lit (255 : Int32)) bnd_u2 (by decide +kernel))).2.2.2 (by decide) (by decide)) ?_
 refine Home.run X2 hx hby sg6_26_4 (pc' := 31) (L' := #[.val (.ref o0), .val (.int (1 : Int32)), .val (.ref o2), .val (.int (1 : Int32)), .val (.int (4 : Int32)), .val (.int (1 : Int32)), .val (.int u2)]) (S' := [(.int (u2.toInt8.toInt32)), (.int (1 : Int32)), (.ref o2)]) rfl ?_
 rw [i2b_id bnd_u2 (by decide +kernel) (by decide +kernel)]
 obtain ⟨cl5, Ar5, q5, S5, M5, H5, G5⟩ := id V2
 refine Home.wr (stB X2 hx hZ e2 Ar5 (j := (1 : Int32)) (inb_of S5 ⟨by decide, by decide⟩) rfl rfl (hb hby d6_31)) fun T5 h5 X5 e5 W5 => ?_
 have W5' := Wr.to W5 (congrArg Value.int (nar_byte_id bnd_u2 (by decide +kernel) (by decide +kernel)))
 have V5 : Arv Z h5 o2 k_o2 .byte (4 : Int32) [(.int u1), (.int u2), (.int (0 : Int32)), (.int (0 : Int32))] (.int (0 : Int32)) := Arv.set Ar5 q5 S5 M5 H5 G5 (fits_byte_b bnd_u2 (by decide +kernel) (by decide +kernel)) W5' 1 rfl (Nat.le_of_ble_eq_true rfl)
 have O5 := O2.wr W5 g_o2
 have K5 : Keep h0 h5 ([o2] : List Addr) := Keep.wr K2 W5 (Or.inl (List.mem_of_getElem? (i := 0) rfl))
 have N5 := Fr.snoc X5 N2 g_o2
 show Home T5 (mkF m 32 #[.val (.ref o0), .val (.int (1 : Int32)), .val (.ref o2), .val (.int (1 : Int32)), .val (.int (4 : Int32)), .val (.int (1 : Int32)), .val (.int u2)] [])
 refine Home.run X5 hx hby sg6_32_6 (pc' := 7) (L' := #[.val (.ref o0), .val (.int (2 : Int32)), .val (.ref o2), .val (.int (2 : Int32)), .val (.int (4 : Int32)), .val (.int (2 : Int32)), .val (.int u2)]) (S' := [(.int (4 : Int32)), (.int (2 : Int32))]) rfl ?_
 refine Home.go (fun _ => XS.icmpNo X5.here hx rfl (hb hby d6_7) rfl (tlt (by decide)).2.1) ?_
 refine Home.run X5 hx hby sg6_10_2 (pc' := 12) (L' := #[.val (.ref o0), .val (.int (2 : Int32)), .val (.ref o2), .val (.int (2 : Int32)), .val (.int (4 : Int32)), .val (.int (2 : Int32)), .val (.int u2)]) (S' := [(.int (2 : Int32)), (.ref o0)]) rfl ?_
 have q6 := (q3.other W5 ne_o0_o2)
 obtain ⟨cl7, Ar7, q7, S7, M7, H7, G7⟩ := id q6
 have ib7 : ¬ ((2 : Int32) < 0 ∨ cl7.slots.size ≤ ((2 : Int32)).toNatClampNeg) := inb_of S7 ⟨by decide, by decide⟩
 refine Home.go (X5.caload hx (j := (2 : Int32)) (v := (.int u3)) (by rw [e5]; exact Ar7.1) (State.isArrayOf_alike hZ.alike Ar7.2.1) Ar7.2.2 ib7 (Has.at H7 ib7 rfl) rfl rfl (hb hby d6_12)) ?_
 refine Home.run X5 hx hby sg6_13_3 (pc' := 20) (L' := #[.val (.ref o0), .val (.int (2 : Int32)), .val (.ref o2), .val (.int (2 : Int32)), .val (.int (4 : Int32)), .val (.int (2 : Int32)), .val (.int u3)]) (S' := [(.int (255 : Int32)), (.int u3)]) rfl ?_
 refine Home.go (fun _ => XS.icmpYes X5.here hx rfl (pc0 := 20) (pc' := 26) rfl (hb hby d6_20) rfl (flt (bnd_nlt (bnd_lit (255 : Int32)) bnd_u3 (by decide +kernel))).2.2.2 (by decide) (by decide)) ?_
 refine Home.run X5 hx hby sg6_26_4 (pc' := 31) (L' := #[.val (.ref o0), .val (.int (2 : Int32)), .val (.ref o2), .val (.int (2 : Int32)), .val (.int (4 : Int32)), .val (.int (2 : Int32)), .val (.int u3)]) (S' := [(.int (u3.toInt8.toInt32)), (.int (2 : Int32)), (.ref o2)]) rfl ?_
 rw [i2b_id bnd_u3 (by decide +kernel) (by decide +kernel)]
 obtain ⟨cl8, Ar8, q8, S8, M8, H8, G8⟩ := id V5
 refine Home.wr (stB X5 hx hZ e5 Ar8 (j := (2 : Int32)) (inb_of S8 ⟨by decide, by decide⟩) rfl rfl (hb hby d6_31)) fun T8 h8 X8 e8 W8 => ?_
 have W8' := Wr.to W8 (congrArg Value.int (nar_byte_id bnd_u3 (by decide +kernel) (by decide +kernel)))
 have V8 : Arv Z h8 o2 k_o2 .byte (4 : Int32) [(.int u1), (.int u2), (.int u3), (.int (0 : Int32))] (.int (0 : Int32)) := Arv.set Ar8 q8 S8 M8 H8 G8 (fits_byte_b bnd_u3 (by decide +kernel) (by decide +kernel)) W8' 2 rfl (Nat.le_of_ble_eq_true rfl)
 have O8 := O5.wr W8 g_o2
 have K8 : Keep h0 h8 ([o2] : List Addr) := Keep.wr K5 W8 (Or.inl (List.mem_of_getElem? (i := 0) rfl))
 have N8 := Fr.snoc X8 N5 g_o2
 show Home T8 (mkF m 32 #[.val (.ref o0), .val (.int (2 : Int32)), .val (.ref o2), .val (.int (2 : Int32)), .val (.int (4 : Int32)), .val (.int (2 : Int32)), .val (.int u3)] [])
 refine Home.run X8 hx hby sg6_32_6 (pc' := 7) (L' := #[.val (.ref o0), .val (.int (3 : Int32)), .val (.ref o2), .val (.int (3 : Int32)), .val (.int (4 : Int32)), .val (.int (3 : Int32)), .val (.int u3)]) (S' := [(.int (4 : Int32)), (.int (3 : Int32))]) rfl ?_
 refine Home.go (fun _ => XS.icmpNo X8.here hx rfl (hb hby d6_7) rfl (tlt (by decide)).2.1) ?_
 refine Home.run X8 hx hby sg6_10_2 (pc' := 12) (L' := #[.val (.ref o0), .val (.int (3 : Int32)), .val (.ref o2), .val (.int (3 : Int32)), .val (.int (4 : Int32)), .val (.int (3 : Int32)), .val (.int u3)]) (S' := [(.int (3 : Int32)), (.ref o0)]) rfl ?_
 have q9 := (q6.other W8 ne_o0_o2)
 obtain ⟨cl10, Ar10, q10, S10, M10, H10, G10⟩ := id q9
 have ib10 : ¬ ((3 : Int32) < 0 ∨ cl10.slots.size ≤ ((3 : Int32)).toNatClampNeg) := inb_of S10 ⟨by decide, by decide⟩
 refine Home.go (X8.caload hx (j := (3 : Int32)) (v := (.int u4)) (by rw [e8]; exact Ar10.1) (State.isArrayOf_alike hZ.alike Ar10.2.1) Ar10.2.2 ib10 (Has.at H10 ib10 rfl) rfl rfl (hb hby d6_12)) ?_
 refine Home.run X8 hx hby sg6_13_3 (pc' := 20) (L' := #[.val (.ref o0), .val (.int (3 : Int32)), .val (.ref o2), .val (.int (3 : Int32)), .val (.int (4 : Int32)), .val (.int (3 : Int32)), .val (.int u4)]) (S' := [(.int (255 : Int32)), (.int u4)]) rfl ?_
 refine Home.go (fun _ => XS.icmpYes X8.here hx rfl (pc0 := 20) (pc' := 26) rfl (hb hby d6_20) rfl (flt (bnd_nlt (bnd_lit (255 : Int32)) bnd_u4 (by decide +kernel))).2.2.2 (by decide) (by decide)) ?_
 refine Home.run X8 hx hby sg6_26_4 (pc' := 31) (L' := #[.val (.ref o0), .val (.int (3 : Int32)), .val (.ref o2), .val (.int (3 : Int32)), .val (.int (4 : Int32)), .val (.int (3 : Int32)), .val (.int u4)]) (S' := [(.int (u4.toInt8.toInt32)), (.int (3 : Int32)), (.ref o2)]) rfl ?_
 rw [i2b_id bnd_u4 (by decide +kernel) (by decide +kernel)]
 obtain ⟨cl11, Ar11, q11, S11, M11, H11, G11⟩ := id V8
 refine Home.wr (stB X8 hx hZ e8 Ar11 (j := (3 : Int32)) (inb_of S11 ⟨by decide, by decide⟩) rfl rfl (hb hby d6_31)) fun T11 h11 X11 e11 W11 => ?_
 have W11' := Wr.to W11 (congrArg Value.int (nar_byte_id bnd_u4 (by decide +kernel) (by decide +kernel)))
 have V11 : Arv Z h11 o2 k_o2 .byte (4 : Int32) [(.int u1), (.int u2), (.int u3), (.int u4)] (.int (0 : Int32)) := Arv.set Ar11 q11 S11 M11 H11 G11 (fits_byte_b bnd_u4 (by decide +kernel) (by decide +kernel)) W11' 3 rfl (Nat.le_of_ble_eq_true rfl)
 have O11 := O8.wr W11 g_o2
 have K11 : Keep h0 h11 ([o2] : List Addr) := Keep.wr K8 W11 (Or.inl (List.mem_of_getElem? (i := 0) rfl))
 have N11 := Fr.snoc X11 N8 g_o2
 show Home T11 (mkF m 32 #[.val (.ref o0), .val (.int (3 : Int32)), .val (.ref o2), .val (.int (3 : Int32)), .val (.int (4 : Int32)), .val (.int (3 : Int32)), .val (.int u4)] [])
 refine Home.run X11 hx hby sg6_32_6 (pc' := 7) (L' := #[.val (.ref o0), .val (.int (4 : Int32)), .val (.ref o2), .val (.int (4 : Int32)), .val (.int (4 : Int32)), .val (.int (4 : Int32)), .val (.int u4)]) (S' := [(.int (4 : Int32)), (.int (4 : Int32))]) rfl ?_
 refine Home.go (fun _ => XS.icmpYes X11.here hx rfl (pc0 := 7) (pc' := 44) rfl (hb hby d6_7) rfl (flt (by decide)).2.1 (by decide) (by decide)) ?_
 refine Home.run X11 hx hby sg6_44_1 (pc' := 46) (L' := #[.val (.ref o0), .val (.int (4 : Int32)), .val (.ref o2), .val (.int (4 : Int32)), .val (.int (4 : Int32)), .val (.int (4 : Int32)), .val (.int u4)]) (S' := [(.int (4 : Int32))]) rfl ?_
 exact Home.retI X11 hx hlk hret (hb hby d6_46) (by rw [show T11.heap = h11 from e11]; exact ⟨rfl, N11, K11, V11⟩) (by decide) (by decide)
theorem rm5_1 (l : Launch) (Z : State) (a0 : Array Value) (hw : HW a0 Z) (ws : List Jvm.Cond) (o0 : Addr) (k_o0 : ClassId) (u1 u2 u3 u4 : Int32) (h0 : Heap) (n0 : Nat) (O0 : Old Z n0 h0) (V_o0 : Arv Z h0 o0 k_o0 .char (4 : Int32) [(.int u1), (.int u2), (.int u3), (.int u4)] (.int (0 : Int32))) (bnd_u1 : ¬ u1 < (50 : Int32) ∧ ¬ (122 : Int32) < u1) (bnd_u2 : ¬ u2 < (50 : Int32) ∧ ¬ (122 : Int32) < u2) (bnd_u3 : ¬ u3 < (50 : Int32) ∧ ¬ (122 : Int32) < u3) (bnd_u4 : ¬ u4 < (50 : Int32) ∧ ¬ (122 : Int32) < u4) :
    Con l Z (⟨"java/lang/StringUTF16", "compress", "([CII)[B"⟩ : MethodName) jdk_52_method_16_code 6 (some (.array .byte)) ws ({ frames := 1, cells := 1, slots := 4, locals := 18 } : Room) #[(.ref o0), (.int (0 : Int32)), (.int (4 : Int32))] h0 (fun v h L => ∃ (b1 : Addr), ∃ (k1 : ClassId), v = some (.ref b1) ∧ Fr n0 L ∧ h0.size ≤ b1 ∧ Keep h0 h [] ∧ Arv Z h b1 k1 .byte (4 : Int32) [(.int u1), (.int u2), (.int u3), (.int u4)] (.int (0 : Int32))) := by
 refine own_body (plainFor_of_name own_pn3) (fun m => ef_rm5_1 m o0 (0 : Int32) (4 : Int32)) ?_
 intro p e s m below meth c s₁ hx hby hlk hml hret hZ hown hnm X0 e0
 have N0 := Fr.nil n0
 refine Home.run X0 hx hby sg5_0_1 (pc' := 1) (L' := #[.val (.ref o0), .val (.int (0 : Int32)), .val (.int (4 : Int32)), .unset, .unset, .unset]) (S' := [(.int (4 : Int32))]) rfl ?_
 refine Home.na (own_newP (aty := .byte) X0 hx hZ (own_w26 hw) e0 (g := (mkF m 1 #[.val (.ref o0), .val (.int (0 : Int32)), .val (.int (4 : Int32)), .unset, .unset, .unset] [(.int (4 : Int32))])) rfl (hb hby d5_1) rfl (by decide) (cap := 4) (by decide) (by decide) (by decide) (by decide)) fun T1 h1 k1 b1 g1 X1 e1 E1 A1 => ?_
 have g_b1 : n0 ≤ b1 := Nat.le_trans (Old.le O0) (Nat.le_of_eq g1.symm)
 have V1 : Arv Z h1 b1 k1 .byte (4 : Int32) [(.int (0 : Int32)), (.int (0 : Int32)), (.int (0 : Int32)), (.int (0 : Int32))] (.int (0 : Int32)) := (Arv.new A1 (by decide)).pad (pad_rep [] (.int (0 : Int32)) 4)
 have O1 := O0.ext E1
 have K1 : Keep h0 h1 ([] : List Addr) := Keep.ext (Keep.refl h0 ([] : List Addr)) E1
 refine Home.run X1 hx hby sg5_3_6 (pc' := 9) (L' := #[.val (.ref o0), .val (.int (0 : Int32)), .val (.int (4 : Int32)), .val (.ref b1), .unset, .unset]) (S' := [(.int (4 : Int32)), (.int (0 : Int32)), (.ref b1), (.int (0 : Int32)), (.ref o0)]) rfl ?_
 have ne2 : o0 ≠ b1 := (Nat.ne_of_lt (Nat.lt_of_lt_of_le V_o0.lt (Nat.le_trans (Nat.le_refl _) (Nat.le_of_eq g1.symm))))
 refine Home.call (own_static X1 hx hZ hown (own_w27 hw) (own_w28 hw) (own_w24 hw) (own_w29 hw) (by decide) (rm6_1 l Z a0 hw [] o0 b1 k_o0 u1 u2 u3 u4 k1 h1 n0 O1 (V_o0.keep K1 nin0) bnd_u1 V1 g_b1 ne2 bnd_u2 bnd_u3 bnd_u4) e1 rfl (by rw [hml]; rfl) (argsL := [(.ref o0), (.int (0 : Int32)), (.ref b1), (.int (0 : Int32)), (.int (4 : Int32))]) (rest := []) (lenOf own_pd7 rfl) rfl rfl (W := 0) (by exact hW0) (by decide) (by decide) (hb hby d5_9) (by decide) (by decide)) ?_
 rintro _ T3 L3 X3 ⟨rfl, N3q, K3q, P3_0⟩
 have O3 := Old.keep O1 K3q (allS g_b1 all0)
 have K3 : Keep h0 T3.heap ([] : List Addr) := Keep.trans K1 K3q (allS (Or.inr (Nat.le_trans (Nat.le_refl _) (Nat.le_of_eq g1.symm))) all0)
 have N3 := Fr.app N0 N3q
 refine Home.run X3 hx hby sg5_12_3 (pc' := 17) (L' := #[.val (.ref o0), .val (.int (0 : Int32)), .val (.int (4 : Int32)), .val (.ref b1), .val (.int (4 : Int32)), .unset]) (S' := [(.int (4 : Int32)), (.int (4 : Int32))]) rfl ?_
 refine Home.go (fun _ => XS.icmpYes X3.here hx rfl (pc0 := 17) (pc' := 57) rfl (hb hby d5_17) rfl (teq (by decide)).1 (by decide) (by decide)) ?_
 refine Home.run X3 hx hby sg5_57_1 (pc' := 58) (L' := #[.val (.ref o0), .val (.int (0 : Int32)), .val (.int (4 : Int32)), .val (.ref b1), .val (.int (4 : Int32)), .unset]) (S' := [(.ref b1)]) rfl ?_
 exact Home.retR X3 hx hlk hret rfl rfl (hb hby d5_58) ⟨b1, k1, rfl, N3, (Nat.le_trans (Nat.le_refl _) (Nat.le_of_eq g1.symm)), K3, P3_0⟩ (by decide) (by decide)
theorem rm7_1 (l : Launch) (Z : State) (a0 : Array Value) (hw : HW a0 Z) (ws : List Jvm.Cond) (o0 : Addr) (k_o0 : ClassId) (u1 u2 u3 u4 : Int32) (h0 : Heap) (n0 : Nat) (O0 : Old Z n0 h0) (V_o0 : Arv Z h0 o0 k_o0 .byte (4 : Int32) [(.int u1), (.int u2), (.int u3), (.int u4)] (.int (0 : Int32))) :
    Con l Z (⟨"java/lang/StringUTF16", "coderFromArrayLen", "([BI)B"⟩ : MethodName) jdk_52_method_15_code 2 (some .byte) ws ({ frames := 0, cells := 0, slots := 0, locals := 0 } : Room) #[(.ref o0), (.int (4 : Int32))] h0 (Pur (some (.int (0 : Int32))) h0) := by
 refine own_body (plainFor_of_name own_pn3) (fun m => ef_rm7_1 m o0 (4 : Int32)) ?_
 intro p e s m below meth c s₁ hx hby hlk hml hret hZ hown hnm X0 e0
 have N0 := Fr.nil n0
 refine Home.run X0 hx hby sg7_0_2 (pc' := 2) (L' := #[.val (.ref o0), .val (.int (4 : Int32))]) (S' := [(.ref o0), (.int (4 : Int32))]) rfl ?_
 obtain ⟨cl1, Ar1, q1, S1, M1, H1, G1⟩ := id V_o0
 refine Home.go (own_alen X0 hx hZ e0 Ar1 S1 M1 rfl rfl (hb hby d7_2)) ?_
 refine Home.run X0 hx hby sg7_3_4 (pc' := 8) (L' := #[.val (.ref o0), .val (.int (4 : Int32))]) (S' := [(.int (0 : Int32))]) rfl ?_
 exact Home.retN X0 hx hlk (t := .byte) hret (by simp) (hb hby d7_8) ⟨congrArg some (congrArg Value.int (by first | rfl | exact nar_i2c _ | exact nar_i2b _)), rfl, e0⟩ (by decide) (by decide)
theorem rm3_2 (l : Launch) (Z : State) (a0 : Array Value) (hw : HW a0 Z) (ws : List Jvm.Cond) (o0 o1 : Addr) (sv_COMPACT_STRINGS : Int32) (k_o1 : ClassId) (u1 u2 u3 u4 : Int32) (h0 : Heap) (n0 : Nat) (O0 : Old Z n0 h0) (S_COMPACT_STRINGS : Sta Z Z.heap "java/lang/String" "COMPACT_STRINGS" "Z" (.int sv_COMPACT_STRINGS)) (hCS : ¬ (sv_COMPACT_STRINGS = (0 : Int32))) (V_o1 : Arv Z h0 o1 k_o1 .char (4 : Int32) [(.int u1), (.int u2), (.int u3), (.int u4)] (.int (0 : Int32))) (bnd_u1 : ¬ u1 < (50 : Int32) ∧ ¬ (122 : Int32) < u1) (bnd_u2 : ¬ u2 < (50 : Int32) ∧ ¬ (122 : Int32) < u2) (bnd_u3 : ¬ u3 < (50 : Int32) ∧ ¬ (122 : Int32) < u3) (bnd_u4 : ¬ u4 < (50 : Int32) ∧ ¬ (122 : Int32) < u4) (E_o0 : Exa Z h0 o0 "java/lang/String") (F_coder_o0 : Fld Z h0 o0 "java/lang/String" "coder" "B" (.int (0 : Int32))) (g_o0 : n0 ≤ o0) (F_value_o0 : Fld Z h0 o0 "java/lang/String" "value" "[B" .null) :
    Con l Z (⟨"java/lang/String", "<init>", "([CIILjava/lang/Void;)V"⟩ : MethodName) jdk_42_method_149_code 6 none ws ({ frames := 2, cells := 1, slots := 4, locals := 35 } : Room) #[(.ref o0), (.ref o1), (.int (0 : Int32)), (.int (4 : Int32)), .null] h0 (fun v h L => ∃ (b1_3 : Addr), ∃ (k1_3 : ClassId), v = none ∧ Fr n0 L ∧ h0.size ≤ b1_3 ∧ Keep h0 h [o0] ∧ Exa Z h o0 "java/lang/String" ∧ Fld Z h o0 "java/lang/String" "coder" "B" (.int (0 : Int32)) ∧ Fld Z h o0 "java/lang/String" "value" "[B" (.ref b1_3) ∧ Arv Z h b1_3 k1_3 .byte (4 : Int32) [(.int u1), (.int u2), (.int u3), (.int u4)] (.int (0 : Int32))) := by
 refine own_body (plainFor_of_name own_pn1) (fun m => ef_rm3_2 m o0 o1 (0 : Int32) (4 : Int32)) ?_
 intro p e s m below meth c s₁ hx hby hlk hml hret hZ hown hnm X0 e0
 have N0 := Fr.nil n0
 refine Home.run X0 hx hby sg3_0_1 (pc' := 1) (L' := #[.val (.ref o0), .val (.ref o1), .val (.int (0 : Int32)), .val (.int (4 : Int32)), .val .null, .unset]) (S' := [(.ref o0)]) rfl ?_
 refine Home.st (initO X0 hx hZ hown (own_w18 hw) (own_w19 hw) (own_w20 hw) e0 rfl (by rw [hml]; rfl) rfl (hb hby d3_1) (by decide) (W := 0) (by exact hW0) (by decide)) fun T1 X1 e1 => ?_
 refine Home.run X1 hx hby sg3_4_1 (pc' := 5) (L' := #[.val (.ref o0), .val (.ref o1), .val (.int (0 : Int32)), .val (.int (4 : Int32)), .val .null, .unset]) (S' := [(.int (4 : Int32))]) rfl ?_
 refine Home.go (fun _ => XS.ifYes X1.here hx rfl (pc0 := 5) (pc' := 27) rfl (hb hby d3_5) rfl ((if0 _ _).trans (feq (by decide)).2) (by decide) (by decide)) ?_
 refine Home.st (getS2 X1 hx hZ hown (host := "") (Or.inl (own_w21 hw)) Via.refl e1 (S_COMPACT_STRINGS.ext O0.2) rfl (hb hby d3_27)) fun T2 X2 e2 => ?_
 refine Home.go (fun _ => XS.ifNo X2.here hx rfl (hb hby d3_30) rfl ((if0 _ _).trans (feq hCS).1)) ?_
 refine Home.run X2 hx hby sg3_33_3 (pc' := 36) (L' := #[.val (.ref o0), .val (.ref o1), .val (.int (0 : Int32)), .val (.int (4 : Int32)), .val .null, .unset]) (S' := [(.int (4 : Int32)), (.int (0 : Int32)), (.ref o1)]) rfl ?_
 refine Home.call (own_static X2 hx hZ hown (own_w22 hw) (own_w23 hw) (own_w24 hw) (own_w25 hw) (by decide) (rm5_1 l Z a0 hw [] o1 k_o1 u1 u2 u3 u4 h0 n0 O0 V_o1 bnd_u1 bnd_u2 bnd_u3 bnd_u4) e2 rfl (by rw [hml]; rfl) (argsL := [(.ref o1), (.int (0 : Int32)), (.int (4 : Int32))]) (rest := []) (lenOf own_pd8 rfl) rfl rfl (W := 0) (by exact hW0) (by decide) (by decide) (hb hby d3_36) (by decide) (by decide)) ?_
 rintro _ T3 L3 X3 ⟨b1_3, k1_3, rfl, N3q, sz_b1_3, K3q, P3_0⟩
 have g_b1_3 : n0 ≤ b1_3 := Nat.le_trans (Old.le O0) sz_b1_3
 have O3 := Old.keep O0 K3q all0
 have K3 : Keep h0 T3.heap ([o0] : List Addr) := Keep.trans (Keep.refl h0 ([o0] : List Addr)) K3q all0
 have N3 := Fr.app N0 N3q
 refine Home.run X3 hx hby sg3_39_4 (pc' := 45) (L' := #[.val (.ref o0), .val (.ref o1), .val (.int (0 : Int32)), .val (.int (4 : Int32)), .val .null, .val (.ref b1_3)]) (S' := [(.int (4 : Int32)), (.ref b1_3), (.ref o0)]) rfl ?_
 refine Home.st (own_pure (own_static X3 hx hZ hown (own_w30 hw) (own_w31 hw) (own_w24 hw) (own_w32 hw) (by decide) (rm7_1 l Z a0 hw [] b1_3 k1_3 u1 u2 u3 u4 T3.heap n0 O3 P3_0) rfl rfl (by rw [hml]; rfl) (argsL := [(.ref b1_3), (.int (4 : Int32))]) (rest := [(.ref o0)]) (lenOf own_pd9 rfl) rfl rfl (W := 1) (by exact hW0) (by decide) (by decide) (hb hby d3_45) (by decide) (by decide))) fun T4 X4 e4 => ?_
 show Home T4 (mkF m 48 #[.val (.ref o0), .val (.ref o1), .val (.int (0 : Int32)), .val (.int (4 : Int32)), .val .null, .val (.ref b1_3)] [(.int (0 : Int32)), (.ref o0)])
 have q5 := (F_coder_o0.keep K3q nin0)
 refine Home.wr (putFN X4 hx hZ hown (own_w33 hw) Via.refl e4 q5 (E_o0.keep K3) (Or.inr ⟨(own_w34 hw), rfl, hnm⟩) (own_w9 hw) (ty := .byte) (v := (.int (0 : Int32))) (v' := (.int (0 : Int32))) (by decide) rfl rfl rfl rfl (hb hby d3_48)) fun T6 h6 X6 e6 W6 => ?_
 have Fw6 := q5.same W6
 have O6 := O3.wr W6 g_o0
 have K6 : Keep h0 h6 ([o0] : List Addr) := Keep.wr K3 W6 (Or.inl (List.mem_of_getElem? (i := 0) rfl))
 have N6 := Fr.snoc X6 N3 g_o0
 refine Home.run X6 hx hby sg3_51_2 (pc' := 54) (L' := #[.val (.ref o0), .val (.ref o1), .val (.int (0 : Int32)), .val (.int (4 : Int32)), .val .null, .val (.ref b1_3)]) (S' := [(.ref b1_3), (.ref o0)]) rfl ?_
 have q7 := ((F_value_o0.keep K3q nin0).other W6 (Or.inr (slot_ne (Or.inr (own_w36 hw)) (Or.inr (own_w34 hw)) (by decide) (t := (.array .byte)) (t' := .byte) (by decide) (by decide))))
 refine Home.wr (putF X6 hx hZ hown (host := "") (Or.inl (own_w35 hw)) Via.refl e6 q7 (E_o0.keep K6) (Or.inr ⟨(own_w36 hw), rfl, hnm⟩) (own_w9 hw) (ty := (.array .byte)) (by decide) rfl rfl rfl rfl (hb hby d3_54)) fun T8 h8 X8 e8 W8 => ?_
 have Fw8 := q7.same W8
 have O8 := O6.wr W8 g_o0
 have K8 : Keep h0 h8 ([o0] : List Addr) := Keep.wr K6 W8 (Or.inl (List.mem_of_getElem? (i := 0) rfl))
 have N8 := Fr.snoc X8 N6 g_o0
 have q9 := (Fw6.other W8 (Or.inr (slot_ne (Or.inr (own_w34 hw)) (Or.inr (own_w36 hw)) (by decide) (t := .byte) (t' := (.array .byte)) (by decide) (by decide))))
 have ne10 : b1_3 ≠ o0 := (Ne.symm (Nat.ne_of_lt (Nat.lt_of_lt_of_le E_o0.lt (Nat.le_trans (Nat.le_refl _) sz_b1_3))))
 have q11 := ((P3_0.other W6 ne10).other W8 ne10)
 exact Home.ret0 X8 hx hlk hret (hb hby d3_57) (by rw [show T8.heap = h8 from e8]; exact ⟨b1_3, k1_3, rfl, N8, (Nat.le_trans (Nat.le_refl _) sz_b1_3), K8, (E_o0.keep K8), q9, Fw8, q11⟩) (by decide) (by decide)
theorem rm2_2 (l : Launch) (Z : State) (a0 : Array Value) (hw : HW a0 Z) (ws : List Jvm.Cond) (o0 o1 : Addr) (k_o1 : ClassId) (u1 u2 u3 u4 sv_COMPACT_STRINGS : Int32) (h0 : Heap) (n0 : Nat) (O0 : Old Z n0 h0) (V_o1 : Arv Z h0 o1 k_o1 .char (4 : Int32) [(.int u1), (.int u2), (.int u3), (.int u4)] (.int (0 : Int32))) (S_COMPACT_STRINGS : Sta Z Z.heap "java/lang/String" "COMPACT_STRINGS" "Z" (.int sv_COMPACT_STRINGS)) (E_o0 : Exa Z h0 o0 "java/lang/String") (F_coder_o0 : Fld Z h0 o0 "java/lang/String" "coder" "B" (.int (0 : Int32))) (F_value_o0 : Fld Z h0 o0 "java/lang/String" "value" "[B" .null) (bnd_u1 : ¬ u1 < (50 : Int32) ∧ ¬ (122 : Int32) < u1) (bnd_u2 : ¬ u2 < (50 : Int32) ∧ ¬ (122 : Int32) < u2) (bnd_u3 : ¬ u3 < (50 : Int32) ∧ ¬ (122 : Int32) < u3) (bnd_u4 : ¬ u4 < (50 : Int32) ∧ ¬ (122 : Int32) < u4) (g_o0 : n0 ≤ o0) (hCS : ¬ (sv_COMPACT_STRINGS = (0 : Int32))) :
    Con l Z (⟨"java/lang/String", "<init>", "([C)V"⟩ : MethodName) jdk_42_method_3_code 2 none ws ({ frames := 3, cells := 1, slots := 4, locals := 52 } : Room) #[(.ref o0), (.ref o1)] h0 (fun v h L => ∃ (b1_3_2 : Addr), ∃ (k1_3_2 : ClassId), v = none ∧ Fr n0 L ∧ h0.size ≤ b1_3_2 ∧ Keep h0 h [o0] ∧ Exa Z h o0 "java/lang/String" ∧ Fld Z h o0 "java/lang/String" "coder" "B" (.int (0 : Int32)) ∧ Fld Z h o0 "java/lang/String" "value" "[B" (.ref b1_3_2) ∧ Arv Z h b1_3_2 k1_3_2 .byte (4 : Int32) [(.int u1), (.int u2), (.int u3), (.int u4)] (.int (0 : Int32))) := by
 refine own_body (plainFor_of_name own_pn1) (fun m => ef_rm2_2 m o0 o1) ?_
 intro p e s m below meth c s₁ hx hby hlk hml hret hZ hown hnm X0 e0
 have N0 := Fr.nil n0
 refine Home.run X0 hx hby sg2_0_4 (pc' := 4) (L' := #[.val (.ref o0), .val (.ref o1)]) (S' := [(.ref o1), (.int (0 : Int32)), (.ref o1), (.ref o0)]) rfl ?_
 obtain ⟨cl1, Ar1, q1, S1, M1, H1, G1⟩ := id V_o1
 refine Home.go (own_alen X0 hx hZ e0 Ar1 S1 M1 rfl rfl (hb hby d2_4)) ?_
 refine Home.run X0 hx hby sg2_5_1 (pc' := 6) (L' := #[.val (.ref o0), .val (.ref o1)]) (S' := [.null, (.int (4 : Int32)), (.int (0 : Int32)), (.ref o1), (.ref o0)]) rfl ?_
 refine Home.call (own_special X0 hx hZ hown rfl (own_w14 hw) (own_w15 hw) (own_w10 hw) (own_w17 hw) (by decide) (rm3_2 l Z a0 hw [] o0 o1 sv_COMPACT_STRINGS k_o1 u1 u2 u3 u4 h0 n0 O0 S_COMPACT_STRINGS hCS V_o1 bnd_u1 bnd_u2 bnd_u3 bnd_u4 E_o0 F_coder_o0 g_o0 F_value_o0) e0 rfl (by rw [hml]; rfl) (a := o0) (argsL := [(.ref o1), (.int (0 : Int32)), (.int (4 : Int32)), .null]) (rest := []) (lenOf own_pd1 rfl) rfl rfl (W := 0) (by exact hW0) (by decide) (by decide) (hb hby d2_6) (by decide) (by decide)) ?_
 rintro _ T2 L2 X2 ⟨b1_3_2, k1_3_2, rfl, N2q, sz_b1_3_2, K2q, P2_0, P2_1, P2_2, P2_3⟩
 have g_b1_3_2 : n0 ≤ b1_3_2 := Nat.le_trans (Old.le O0) sz_b1_3_2
 have O2 := Old.keep O0 K2q (allS g_o0 all0)
 have K2 : Keep h0 T2.heap ([o0] : List Addr) := Keep.trans (Keep.refl h0 ([o0] : List Addr)) K2q (allS (Or.inl (List.mem_of_getElem? (i := 0) rfl)) all0)
 have N2 := Fr.app N0 N2q
 exact Home.ret0 X2 hx hlk hret (hb hby d2_9) ⟨b1_3_2, k1_3_2, rfl, N2, (Nat.le_trans (Nat.le_refl _) sz_b1_3_2), K2, P2_0, P2_1, P2_2, P2_3⟩ (by decide) (by decide)
theorem rm9_3 (l : Launch) (Z : State) (a0 : Array Value) (hw : HW a0 Z) (ws : List Jvm.Cond) (o0 p2 : Addr) (k_p2 : ClassId) (u1 u2 u3 u4 sv_COMPACT_STRINGS : Int32) (h0 : Heap) (n0 : Nat) (O0 : Old Z n0 h0) (F_value_o0 : Fld Z h0 o0 "java/lang/String" "value" "[B" (.ref p2)) (V_p2 : Arv Z h0 p2 k_p2 .byte (4 : Int32) [(.int u1), (.int u2), (.int u3), (.int u4)] (.int (0 : Int32))) (E_o0 : Exa Z h0 o0 "java/lang/String") (S_COMPACT_STRINGS : Sta Z Z.heap "java/lang/String" "COMPACT_STRINGS" "Z" (.int sv_COMPACT_STRINGS)) (F_coder_o0 : Fld Z h0 o0 "java/lang/String" "coder" "B" (.int (0 : Int32))) (hCS : ¬ (sv_COMPACT_STRINGS = (0 : Int32))) :
    Con l Z (⟨"java/lang/String", "length", "()I"⟩ : MethodName) jdk_42_method_54_code 1 (some .int) ws ({ frames := 1, cells := 0, slots := 0, locals := 13 } : Room) #[(.ref o0)] h0 (Pur (some (.int (4 : Int32))) h0) := by
 refine own_body (plainFor_of_name own_pn1) (fun m => ef_rm9_3 m o0) ?_
 intro p e s m below meth c s₁ hx hby hlk hml hret hZ hown hnm X0 e0
 have N0 := Fr.nil n0
 refine Home.run X0 hx hby sg9_0_1 (pc' := 1) (L' := #[.val (.ref o0)]) (S' := [(.ref o0)]) rfl ?_
 refine Home.st (getF X0 hx hZ hown (host := "") (Or.inl (own_w35 hw)) Via.refl e0 F_value_o0 rfl rfl (hb hby d9_1)) fun T1 X1 e1 => ?_
 obtain ⟨cl2, Ar2, q2, S2, M2, H2, G2⟩ := id V_p2
 refine Home.go (own_alen X1 hx hZ e1 Ar2 S2 M2 rfl rfl (hb hby d9_4)) ?_
 refine Home.run X1 hx hby sg9_5_1 (pc' := 6) (L' := #[.val (.ref o0)]) (S' := [(.ref o0), (.int (4 : Int32))]) rfl ?_
 refine Home.st (own_pure (own_virtual X1 hx hZ hown (own_w46 hw) (own_w47 hw) (notFace_of_selects (args := #[]) (mvT hZ (own_w49 hw))) (own_w49 hw) (own_w48 hw) (own_w10 hw) (own_w50 hw) (by decide) (rm10_0 l Z a0 hw [] o0 sv_COMPACT_STRINGS h0 n0 O0 S_COMPACT_STRINGS hCS F_coder_o0) e1 E_o0 rfl (by rw [hml]; rfl) (argsL := []) (rest := [(.int (4 : Int32))]) (lenOf own_pd3 rfl) rfl rfl (W := 1) (by exact hW0) (by decide) (by decide) (hb hby d9_6) (by decide) (by decide))) fun T3 X3 e3 => ?_
 refine Home.run X3 hx hby sg9_9_1 (pc' := 10) (L' := #[.val (.ref o0)]) (S' := [(.int (4 : Int32))]) rfl ?_
 exact Home.retI X3 hx hlk hret (hb hby d9_10) ⟨rfl, rfl, e3⟩ (by decide) (by decide)
theorem rm15_1 (l : Launch) (Z : State) (a0 : Array Value) (hw : HW a0 Z) (ws : List Jvm.Cond) (i0 : Int32) (o2 : Value) (h0 : Heap) (n0 : Nat) (O0 : Old Z n0 h0) (bnd_i0 : ¬ i0 < (0 : Int32) ∧ ¬ (3 : Int32) < i0) (isr_o2 : o2.isRef = true) :
    Con l Z (⟨"jdk/internal/util/Preconditions", "checkIndex", "(IILjava/util/function/BiFunction;)I"⟩ : MethodName) jdk_41_method_11_code 3 (some .int) ws ({ frames := 0, cells := 0, slots := 0, locals := 0 } : Room) #[(.int i0), (.int (4 : Int32)), o2] h0 (Pur (some (.int i0)) h0) := by
 refine own_body (plainFor_of_name own_pn4) (fun m => ef_rm15_1 m i0 (4 : Int32) o2 (isr_o2)) ?_
 intro p e s m below meth c s₁ hx hby hlk hml hret hZ hown hnm X0 e0
 have N0 := Fr.nil n0
 refine Home.run X0 hx hby sg15_0_1 (pc' := 1) (L' := #[.val (.int i0), .val (.int (4 : Int32)), .val o2]) (S' := [(.int i0)]) rfl ?_
 refine Home.go (fun _ => XS.ifNo X0.here hx rfl (hb hby d15_1) rfl ((if0 _ _).trans (flt (bnd_nlt bnd_i0 (bnd_lit (0 : Int32)) (by decide +kernel))).1)) ?_
 refine Home.run X0 hx hby sg15_4_2 (pc' := 6) (L' := #[.val (.int i0), .val (.int (4 : Int32)), .val o2]) (S' := [(.int (4 : Int32)), (.int i0)]) rfl ?_
 refine Home.go (fun _ => XS.icmpYes X0.here hx rfl (pc0 := 6) (pc' := 16) rfl (hb hby d15_6) rfl (tlt (bnd_lt bnd_i0 (bnd_lit (4 : Int32)) (by decide +kernel))).1 (by decide) (by decide)) ?_
 refine Home.run X0 hx hby sg15_16_1 (pc' := 17) (L' := #[.val (.int i0), .val (.int (4 : Int32)), .val o2]) (S' := [(.int i0)]) rfl ?_
 exact Home.retI X0 hx hlk hret (hb hby d15_17) ⟨rfl, rfl, e0⟩ (by decide) (by decide)
theorem rm14_1 (l : Launch) (Z : State) (a0 : Array Value) (hw : HW a0 Z) (ws : List Jvm.Cond) (i0 : Int32) (sv_SIOOBE_FORMATTER : Value) (h0 : Heap) (n0 : Nat) (O0 : Old Z n0 h0) (bnd_i0 : ¬ i0 < (0 : Int32) ∧ ¬ (3 : Int32) < i0) (S_SIOOBE_FORMATTER : Sta Z Z.heap "jdk/internal/util/Preconditions" "SIOOBE_FORMATTER" "Ljava/util/function/BiFunction;" sv_SIOOBE_FORMATTER) (isr_sv_SIOOBE_FORMATTER : sv_SIOOBE_FORMATTER.isRef = true) :
    Con l Z (⟨"java/lang/String", "checkIndex", "(II)V"⟩ : MethodName) jdk_42_method_155_code 2 none ws ({ frames := 1, cells := 0, slots := 0, locals := 14 } : Room) #[(.int i0), (.int (4 : Int32))] h0 (Pur none h0) := by
 refine own_body (plainFor_of_name own_pn1) (fun m => ef_rm14_1 m i0 (4 : Int32)) ?_
 intro p e s m below meth c s₁ hx hby hlk hml hret hZ hown hnm X0 e0
 have N0 := Fr.nil n0
 refine Home.run X0 hx hby sg14_0_2 (pc' := 2) (L' := #[.val (.int i0), .val (.int (4 : Int32))]) (S' := [(.int (4 : Int32)), (.int i0)]) rfl ?_
 refine Home.st (getS2 X0 hx hZ hown (host := "") (Or.inl (own_w71 hw)) Via.refl e0 (S_SIOOBE_FORMATTER.ext O0.2) rfl (hb hby d14_2)) fun T1 X1 e1 => ?_
 refine Home.st (own_pure (own_static X1 hx hZ hown (own_w73 hw) (own_w74 hw) (own_w72 hw) (own_w75 hw) (by decide) (rm15_1 l Z a0 hw [] i0 sv_SIOOBE_FORMATTER h0 n0 O0 bnd_i0 isr_sv_SIOOBE_FORMATTER) e1 rfl (by rw [hml]; rfl) (argsL := [(.int i0), (.int (4 : Int32)), sv_SIOOBE_FORMATTER]) (rest := []) (lenOf own_pd11 rfl) rfl rfl (W := 0) (by exact hW0) (by decide) (by decide) (hb hby d14_5) (by decide) (by decide))) fun T2 X2 e2 => ?_
 refine Home.run X2 hx hby sg14_8_1 (pc' := 9) (L' := #[.val (.int i0), .val (.int (4 : Int32))]) (S' := []) rfl ?_
 exact Home.ret0 X2 hx hlk hret (hb hby d14_9) ⟨rfl, rfl, e2⟩ (by decide) (by decide)
theorem rm13_1 (l : Launch) (Z : State) (a0 : Array Value) (hw : HW a0 Z) (ws : List Jvm.Cond) (o0 : Addr) (i1 : Int32) (k_o0 : ClassId) (u1 u2 u3 u4 : Int32) (sv_SIOOBE_FORMATTER : Value) (h0 : Heap) (n0 : Nat) (O0 : Old Z n0 h0) (bnd_i1 : ¬ i1 < (0 : Int32) ∧ ¬ (3 : Int32) < i1) (V_o0 : Arv Z h0 o0 k_o0 .byte (4 : Int32) [(.int u1), (.int u2), (.int u3), (.int u4)] (.int (0 : Int32))) (S_SIOOBE_FORMATTER : Sta Z Z.heap "jdk/internal/util/Preconditions" "SIOOBE_FORMATTER" "Ljava/util/function/BiFunction;" sv_SIOOBE_FORMATTER) (isr_sv_SIOOBE_FORMATTER : sv_SIOOBE_FORMATTER.isRef = true) (bnd_u1 : ¬ u1 < (50 : Int32) ∧ ¬ (122 : Int32) < u1) (bnd_u2 : ¬ u2 < (50 : Int32) ∧ ¬ (122 : Int32) < u2) (bnd_u3 : ¬ u3 < (50 : Int32) ∧ ¬ (122 : Int32) < u3) (bnd_u4 : ¬ u4 < (50 : Int32) ∧ ¬ (122 : Int32) < u4) :
    Con l Z (⟨"java/lang/StringLatin1", "charAt", "([BI)C"⟩ : MethodName) jdk_43_method_2_code 2 (some .char) ws ({ frames := 2, cells := 0, slots := 0, locals := 27 } : Room) #[(.ref o0), (.int i1)] h0 (Pur (some (.int ((own_at [u1, u2, u3, u4] i1) &&& (255 : Int32)))) h0) := by
 refine own_body (plainFor_of_name own_pn5) (fun m => ef_rm13_1 m o0 i1) ?_
 intro p e s m below meth c s₁ hx hby hlk hml hret hZ hown hnm X0 e0
 have N0 := Fr.nil n0
 refine Home.run X0 hx hby sg13_0_2 (pc' := 2) (L' := #[.val (.ref o0), .val (.int i1)]) (S' := [(.ref o0), (.int i1)]) rfl ?_
 obtain ⟨cl1, Ar1, q1, S1, M1, H1, G1⟩ := id V_o0
 refine Home.go (own_alen X0 hx hZ e0 Ar1 S1 M1 rfl rfl (hb hby d13_2)) ?_
 refine Home.st (own_pure (own_static X0 hx hZ hown (own_w68 hw) (own_w69 hw) (own_w10 hw) (own_w70 hw) (by decide) (rm14_1 l Z a0 hw [] i1 sv_SIOOBE_FORMATTER h0 n0 O0 bnd_i1 S_SIOOBE_FORMATTER isr_sv_SIOOBE_FORMATTER) e0 rfl (by rw [hml]; rfl) (argsL := [(.int i1), (.int (4 : Int32))]) (rest := []) (lenOf own_pd12 rfl) rfl rfl (W := 0) (by exact hW0) (by decide) (by decide) (hb hby d13_3) (by decide) (by decide))) fun T2 X2 e2 => ?_
 refine Home.run X2 hx hby sg13_6_2 (pc' := 8) (L' := #[.val (.ref o0), .val (.int i1)]) (S' := [(.int i1), (.ref o0)]) rfl ?_
 obtain ⟨cl3, Ar3, q3, S3, M3, H3, G3⟩ := id V_o0
 have ib3 : ¬ (i1 < 0 ∨ cl3.slots.size ≤ (i1).toNatClampNeg) := inb_of S3 ⟨(bnd_nlt bnd_i1 (bnd_lit (0 : Int32)) (by decide +kernel)), (bnd_lt bnd_i1 (bnd_lit (4 : Int32)) (by decide +kernel))⟩
 refine Home.go (X2.baloadBytes hx (j := i1) (v := .int (own_at [u1, u2, u3, u4] i1)) (by rw [e2]; exact Ar3.1) (State.isArrayOf_alike hZ.alike Ar3.2.1) Ar3.2.2 ib3 (Has.at H3 ib3 (own_getD [u1, u2, u3, u4] _)) rfl rfl (hb hby d13_8)) ?_
 refine Home.run X2 hx hby sg13_9_3 (pc' := 14) (L' := #[.val (.ref o0), .val (.int i1)]) (S' := [(.int (((own_at [u1, u2, u3, u4] i1) &&& (255 : Int32)).toUInt32.toUInt16.toUInt32.toInt32))]) rfl ?_
 rw [i2c_id (bnd_and (own_at [u1, u2, u3, u4] i1) (255 : Int32) (by decide)) (by decide +kernel) (by decide +kernel)]
 exact Home.retN X2 hx hlk (t := .char) hret (by simp) (hb hby d13_14) ⟨congrArg some (congrArg Value.int (by first | rfl | exact nar_i2c _ | exact nar_i2b _ | exact nar_char_id (bnd_and (own_at [u1, u2, u3, u4] i1) (255 : Int32) (by decide)) (by decide +kernel) (by decide +kernel))), rfl, e2⟩ (by decide) (by decide)
theorem rm11_1 (l : Launch) (Z : State) (a0 : Array Value) (hw : HW a0 Z) (ws : List Jvm.Cond) (o0 : Addr) (i1 sv_COMPACT_STRINGS : Int32) (p2 : Addr) (k_p2 : ClassId) (u1 u2 u3 u4 : Int32) (sv_SIOOBE_FORMATTER : Value) (h0 : Heap) (n0 : Nat) (O0 : Old Z n0 h0) (bnd_i1 : ¬ i1 < (0 : Int32) ∧ ¬ (3 : Int32) < i1) (E_o0 : Exa Z h0 o0 "java/lang/String") (S_COMPACT_STRINGS : Sta Z Z.heap "java/lang/String" "COMPACT_STRINGS" "Z" (.int sv_COMPACT_STRINGS)) (F_coder_o0 : Fld Z h0 o0 "java/lang/String" "coder" "B" (.int (0 : Int32))) (hCS : ¬ (sv_COMPACT_STRINGS = (0 : Int32))) (F_value_o0 : Fld Z h0 o0 "java/lang/String" "value" "[B" (.ref p2)) (V_p2 : Arv Z h0 p2 k_p2 .byte (4 : Int32) [(.int u1), (.int u2), (.int u3), (.int u4)] (.int (0 : Int32))) (S_SIOOBE_FORMATTER : Sta Z Z.heap "jdk/internal/util/Preconditions" "SIOOBE_FORMATTER" "Ljava/util/function/BiFunction;" sv_SIOOBE_FORMATTER) (bnd_u1 : ¬ u1 < (50 : Int32) ∧ ¬ (122 : Int32) < u1) (bnd_u2 : ¬ u2 < (50 : Int32) ∧ ¬ (122 : Int32) < u2) (bnd_u3 : ¬ u3 < (50 : Int32) ∧ ¬ (122 : Int32) < u3) (bnd_u4 : ¬ u4 < (50 : Int32) ∧ ¬ (122 : Int32) < u4) (isr_sv_SIOOBE_FORMATTER : sv_SIOOBE_FORMATTER.isRef = true) :
    Con l Z (⟨"java/lang/String", "charAt", "(I)C"⟩ : MethodName) jdk_42_method_56_code 2 (some .char) ws ({ frames := 3, cells := 0, slots := 0, locals := 40 } : Room) #[(.ref o0), (.int i1)] h0 (Pur (some (.int ((own_at [u1, u2, u3, u4] i1) &&& (255 : Int32)))) h0) := by
 refine own_body (plainFor_of_name own_pn1) (fun m => ef_rm11_1 m o0 i1) ?_
 intro p e s m below meth c s₁ hx hby hlk hml hret hZ hown hnm X0 e0
 have N0 := Fr.nil n0
 refine Home.run X0 hx hby sg11_0_1 (pc' := 1) (L' := #[.val (.ref o0), .val (.int i1)]) (S' := [(.ref o0)]) rfl ?_
 refine Home.st (own_pure (own_virtual X0 hx hZ hown (own_w59 hw) (own_w60 hw) (notFace_of_selects (args := #[]) (mvT hZ (own_w62 hw))) (own_w62 hw) (own_w61 hw) (own_w10 hw) (own_w63 hw) (by decide) (rm12_0 l Z a0 hw [] o0 sv_COMPACT_STRINGS h0 n0 O0 S_COMPACT_STRINGS hCS F_coder_o0) e0 E_o0 rfl (by rw [hml]; rfl) (argsL := []) (rest := []) (lenOf own_pd10 rfl) rfl rfl (W := 0) (by exact hW0) (by decide) (by decide) (hb hby d11_1) (by decide) (by decide))) fun T1 X1 e1 => ?_
 refine Home.go (fun _ => XS.ifNo X1.here hx rfl (hb hby d11_4) rfl ((if0 _ _).trans (feq (by decide)).1)) ?_
 refine Home.run X1 hx hby sg11_7_1 (pc' := 8) (L' := #[.val (.ref o0), .val (.int i1)]) (S' := [(.ref o0)]) rfl ?_
 refine Home.st (getF X1 hx hZ hown (host := "") (Or.inl (own_w35 hw)) Via.refl e1 F_value_o0 rfl rfl (hb hby d11_8)) fun T2 X2 e2 => ?_
 refine Home.run X2 hx hby sg11_11_1 (pc' := 12) (L' := #[.val (.ref o0), .val (.int i1)]) (S' := [(.int i1), (.ref p2)]) rfl ?_
 refine Home.st (own_pure (own_static X2 hx hZ hown (own_w64 hw) (own_w65 hw) (own_w66 hw) (own_w67 hw) (by decide) (rm13_1 l Z a0 hw [] p2 i1 k_p2 u1 u2 u3 u4 sv_SIOOBE_FORMATTER h0 n0 O0 bnd_i1 V_p2 S_SIOOBE_FORMATTER isr_sv_SIOOBE_FORMATTER bnd_u1 bnd_u2 bnd_u3 bnd_u4) e2 rfl (by rw [hml]; rfl) (argsL := [(.ref p2), (.int i1)]) (rest := []) (lenOf own_pd13 rfl) rfl rfl (W := 0) (by exact hW0) (by decide) (by decide) (hb hby d11_12) (by decide) (by decide))) fun T3 X3 e3 => ?_
 exact Home.retN X3 hx hlk (t := .char) hret (by simp) (hb hby d11_15) ⟨congrArg some (congrArg Value.int (by first | rfl | exact nar_i2c _ | exact nar_i2b _ | exact nar_char_id (bnd_and (own_at [u1, u2, u3, u4] i1) (255 : Int32) (by decide)) (by decide +kernel) (by decide +kernel))), rfl, e3⟩ (by decide) (by decide)
theorem rm8_2 (l : Launch) (Z : State) (a0 : Array Value) (hw : HW a0 Z) (ws : List Jvm.Cond) (o0 p2 : Addr) (k_p2 : ClassId) (u1 u2 u3 u4 sv_COMPACT_STRINGS : Int32) (sv_SIOOBE_FORMATTER : Value) (h0 : Heap) (n0 : Nat) (O0 : Old Z n0 h0) (E_o0 : Exa Z h0 o0 "java/lang/String") (F_value_o0 : Fld Z h0 o0 "java/lang/String" "value" "[B" (.ref p2)) (V_p2 : Arv Z h0 p2 k_p2 .byte (4 : Int32) [(.int u1), (.int u2), (.int u3), (.int u4)] (.int (0 : Int32))) (S_COMPACT_STRINGS : Sta Z Z.heap "java/lang/String" "COMPACT_STRINGS" "Z" (.int sv_COMPACT_STRINGS)) (F_coder_o0 : Fld Z h0 o0 "java/lang/String" "coder" "B" (.int (0 : Int32))) (hCS : ¬ (sv_COMPACT_STRINGS = (0 : Int32))) (S_SIOOBE_FORMATTER : Sta Z Z.heap "jdk/internal/util/Preconditions" "SIOOBE_FORMATTER" "Ljava/util/function/BiFunction;" sv_SIOOBE_FORMATTER) (bnd_u1 : ¬ u1 < (50 : Int32) ∧ ¬ (122 : Int32) < u1) (bnd_u2 : ¬ u2 < (50 : Int32) ∧ ¬ (122 : Int32) < u2) (bnd_u3 : ¬ u3 < (50 : Int32) ∧ ¬ (122 : Int32) < u3) (bnd_u4 : ¬ u4 < (50 : Int32) ∧ ¬ (122 : Int32) < u4) (isr_sv_SIOOBE_FORMATTER : sv_SIOOBE_FORMATTER.isRef = true) (nn800 : ¬ ((f_rm22_0 (u1 &&& (255 : Int32))) < (0 : Int32))) (nn801 : ¬ ((f_rm22_0 (u2 &&& (255 : Int32))) < (0 : Int32))) (nn802 : ¬ ((f_rm22_0 (u3 &&& (255 : Int32))) < (0 : Int32))) (nn803 : ¬ ((f_rm22_0 (u4 &&& (255 : Int32))) < (0 : Int32))) (nn804 : ((((((((((0 : Int32) ||| (f_rm22_0 (u1 &&& (255 : Int32)))) <<< ((5 : Int32) &&& 31)) ||| (f_rm22_0 (u2 &&& (255 : Int32)))) &&& (3 : Int32)) <<< ((5 : Int32) &&& 31)) ||| (f_rm22_0 (u3 &&& (255 : Int32)))) <<< ((5 : Int32) &&& 31)) ||| (f_rm22_0 (u4 &&& (255 : Int32)))) &&& (15 : Int32)) = (0 : Int32)) :
    ConW l Z own_EL ([] : List Addr) true (⟨"com/example/tryst/tryst/encoding/Base32", "decode", "(Ljava/lang/String;)[B"⟩ : MethodName) prog_8_method_2_code 7 (some (.array .byte)) ws ({ frames := 4, cells := 9, slots := 530, locals := 59 } : Room) #[(.ref o0)] h0 (fun v h L => ∃ (b3 : Addr), ∃ (k3 : ClassId), v = some (.ref b3) ∧ Fr n0 L ∧ h0.size ≤ b3 ∧ Keep h0 h [] ∧ Arv Z h b3 k3 .byte (2 : Int32) [(.int (((((((0 : Int32) ||| (f_rm22_0 (u1 &&& (255 : Int32)))) <<< ((5 : Int32) &&& 31)) ||| (f_rm22_0 (u2 &&& (255 : Int32)))).toUInt32 >>> ((2 : Int32) &&& 31).toUInt32).toInt32).toInt8.toInt32)), (.int ((((((((((((0 : Int32) ||| (f_rm22_0 (u1 &&& (255 : Int32)))) <<< ((5 : Int32) &&& 31)) ||| (f_rm22_0 (u2 &&& (255 : Int32)))) &&& (3 : Int32)) <<< ((5 : Int32) &&& 31)) ||| (f_rm22_0 (u3 &&& (255 : Int32)))) <<< ((5 : Int32) &&& 31)) ||| (f_rm22_0 (u4 &&& (255 : Int32)))).toUInt32 >>> ((4 : Int32) &&& 31).toUInt32).toInt32).toInt8.toInt32))] (.int (0 : Int32))) := by
 refine own_bodyW (plainFor_of_name own_pn2) (fun m => ef_rm8_2 m o0) ?_
 intro p e s m below meth c s₁ hx hby hlk hml hret hZ hown hnm X0 e0 Cd0
 have N0 := Fr.nil n0
 refine Home.run X0 hx hby sg8_0_1 (pc' := 1) (L' := #[.val (.ref o0), .unset, .unset, .unset, .unset, .unset, .unset]) (S' := [(.ref o0)]) rfl ?_
 refine Home.st (own_pure (own_virtual X0 hx hZ hown (own_w41 hw) (own_w42 hw) (notFace_of_selects (args := #[]) (mvT hZ (own_w44 hw))) (own_w44 hw) (own_w43 hw) (own_w10 hw) (own_w45 hw) (by decide) (rm9_3 l Z a0 hw [] o0 p2 k_p2 u1 u2 u3 u4 sv_COMPACT_STRINGS h0 n0 O0 F_value_o0 V_p2 E_o0 S_COMPACT_STRINGS F_coder_o0 hCS) e0 E_o0 rfl (by rw [hml]; rfl) (argsL := []) (rest := []) (lenOf own_pd4 rfl) rfl rfl (W := 0) (by exact hW0) (by decide) (by decide) (hb hby d8_1) (by decide) (by decide))) fun T1 X1 e1 => ?_
 refine Home.run X1 hx hby sg8_4_3 (pc' := 8) (L' := #[.val (.ref o0), .unset, .unset, .unset, .unset, .unset, .unset]) (S' := [(.int (8 : Int32)), (.int (20 : Int32))]) rfl ?_
 refine Home.go (fun _ => iremM X1 hx rfl (hb hby d8_8) rfl (by decide)) ?_
 rw [show ((20 : Int32) % (8 : Int32)) = (4 : Int32) from by decide]
 refine Home.run X1 hx hby sg8_9_1 (pc' := 10) (L' := #[.val (.ref o0), .unset, .unset, .unset, .unset, .unset, .unset]) (S' := [(.int (5 : Int32)), (.int (4 : Int32))]) rfl ?_
 refine Home.go (fun _ => XS.icmpYes X1.here hx rfl (pc0 := 10) (pc' := 30) rfl (hb hby d8_10) rfl (tlt (by decide)).1 (by decide) (by decide)) ?_
 refine Home.run X1 hx hby sg8_30_1 (pc' := 31) (L' := #[.val (.ref o0), .unset, .unset, .unset, .unset, .unset, .unset]) (S' := [(.ref o0)]) rfl ?_
 refine Home.st (own_pure (own_virtual X1 hx hZ hown (own_w41 hw) (own_w42 hw) (notFace_of_selects (args := #[]) (mvT hZ (own_w44 hw))) (own_w44 hw) (own_w43 hw) (own_w10 hw) (own_w45 hw) (by decide) (rm9_3 l Z a0 hw [] o0 p2 k_p2 u1 u2 u3 u4 sv_COMPACT_STRINGS h0 n0 O0 F_value_o0 V_p2 E_o0 S_COMPACT_STRINGS F_coder_o0 hCS) e1 E_o0 rfl (by rw [hml]; rfl) (argsL := []) (rest := []) (lenOf own_pd4 rfl) rfl rfl (W := 0) (by exact hW0) (by decide) (by decide) (hb hby d8_31) (by decide) (by decide))) fun T2 X2 e2 => ?_
 refine Home.run X2 hx hby sg8_34_3 (pc' := 38) (L' := #[.val (.ref o0), .unset, .unset, .unset, .unset, .unset, .unset]) (S' := [(.int (8 : Int32)), (.int (20 : Int32))]) rfl ?_
 refine Home.go (fun _ => XS.idiv X2.here hx rfl (hb hby d8_38) rfl (by decide)) ?_
 rw [show ((20 : Int32) / (8 : Int32)) = (2 : Int32) from by decide]
 refine Home.na (own_newP (aty := .byte) X2 hx hZ (own_w26 hw) e2 (g := (mkF m 39 #[.val (.ref o0), .unset, .unset, .unset, .unset, .unset, .unset] [(.int (2 : Int32))])) rfl (hb hby d8_39) rfl (by decide) (cap := 2) (by decide) (by decide) (by decide) (by decide)) fun T3 h3 k3 b3 g3 X3 e3 E3 A3 => ?_
 have g_b3 : n0 ≤ b3 := Nat.le_trans (Old.le O0) (Nat.le_of_eq g3.symm)
 have V3 : Arv Z h3 b3 k3 .byte (2 : Int32) [(.int (0 : Int32)), (.int (0 : Int32))] (.int (0 : Int32)) := (Arv.new A3 (by decide)).pad (pad_rep [] (.int (0 : Int32)) 2)
 have O3 := O0.ext E3
 have K3 : Keep h0 h3 ([] : List Addr) := Keep.ext (Keep.refl h0 ([] : List Addr)) E3
 have Cd3 := Cold.add Cd0 E3 (Nat.le_of_eq g3.symm) V3.lt
 show Home T3 (mkF m 41 #[.val (.ref o0), .unset, .unset, .unset, .unset, .unset, .unset] [(.ref b3)])
 refine Home.run X3 hx hby sg8_41_11 (pc' := 55) (L' := #[.val (.ref o0), .val (.ref b3), .val (.int (0 : Int32)), .val (.int (0 : Int32)), .val (.int (0 : Int32)), .val (.int (0 : Int32)), .unset]) (S' := [(.ref o0), (.int (0 : Int32))]) rfl ?_
 refine Home.st (own_pure (own_virtual X3 hx hZ hown (own_w41 hw) (own_w42 hw) (notFace_of_selects (args := #[]) (mvT hZ (own_w44 hw))) (own_w44 hw) (own_w43 hw) (own_w10 hw) (own_w45 hw) (by decide) (rm9_3 l Z a0 hw [] o0 p2 k_p2 u1 u2 u3 u4 sv_COMPACT_STRINGS h3 n0 O3 (F_value_o0.keep K3 nin0) (V_p2.keep K3 nin0) (E_o0.keep K3) S_COMPACT_STRINGS (F_coder_o0.keep K3 nin0) hCS) e3 (E_o0.keep K3) rfl (by rw [hml]; rfl) (argsL := []) (rest := [(.int (0 : Int32))]) (lenOf own_pd4 rfl) rfl rfl (W := 1) (by exact hW0) (by decide) (by decide) (hb hby d8_55) (by decide) (by decide))) fun T4 X4 e4 => ?_
 refine Home.go (fun _ => XS.icmpNo X4.here hx rfl (hb hby d8_58) rfl (tlt (by decide)).2.1) ?_
 obtain ⟨ad5, b5, k5, T5, h5, X5, e5, E5, hZ, hown, Cd5, Ea5, Fc5, Fv5, V5, la5, lb5, hne5, st5⟩ := own_ldcW X4 hx hZ hown (own_hEL hw) Cd3 (own_w51 hw) (own_wS hw) e4 (List.mem_of_getElem? (i := 0) rfl) (vs := own_T0) (z := (32 : Int32)) ⟨by decide, by rfl⟩ (by decide) (by decide) (g := (mkF m 61 #[.val (.ref o0), .val (.ref b3), .val (.int (0 : Int32)), .val (.int (0 : Int32)), .val (.int (0 : Int32)), .val (.int (0 : Int32)), .unset] [])) rfl (hb hby d8_61) (n := 128) (by decide) (by decide) (by decide) (by decide)
 refine Home.go st5 ?_
 have O5 := O3.ext E5
 have K5 : Keep h0 h5 ([] : List Addr) := Keep.ext K3 E5
 refine Home.run X5 hx hby sg8_63_2 (pc' := 66) (L' := #[.val (.ref o0), .val (.ref b3), .val (.int (0 : Int32)), .val (.int (0 : Int32)), .val (.int (0 : Int32)), .val (.int (0 : Int32)), .unset]) (S' := [(.int (0 : Int32)), (.ref o0), (.ref ad5)]) rfl ?_
 refine Home.st (own_pure (own_virtual X5 hx hZ hown (own_w54 hw) (own_w55 hw) (notFace_of_selects (args := #[]) (mvT hZ (own_w57 hw))) (own_w57 hw) (own_w56 hw) (own_w10 hw) (own_w58 hw) (by decide) (rm11_1 l Z a0 hw [] o0 (0 : Int32) sv_COMPACT_STRINGS p2 k_p2 u1 u2 u3 u4 sv_SIOOBE_FORMATTER h5 n0 O5 (bnd_mono (bnd_lit (0 : Int32)) (by decide +kernel) (by decide +kernel)) (E_o0.keep K5) S_COMPACT_STRINGS (F_coder_o0.keep K5 nin0) hCS (F_value_o0.keep K5 nin0) (V_p2.keep K5 nin0) S_SIOOBE_FORMATTER bnd_u1 bnd_u2 bnd_u3 bnd_u4 isr_sv_SIOOBE_FORMATTER) e5 (E_o0.keep K5) rfl (by rw [hml]; rfl) (argsL := [(.int (0 : Int32))]) (rest := [(.ref ad5)]) (lenOf own_pd14 rfl) rfl rfl (W := 1) (by exact hW0) (by decide) (by decide) (hb hby d8_66) (by decide) (by decide))) fun T6 X6 e6 => ?_
 show Home T6 (mkF m 69 #[.val (.ref o0), .val (.ref b3), .val (.int (0 : Int32)), .val (.int (0 : Int32)), .val (.int (0 : Int32)), .val (.int (0 : Int32)), .unset] [(.int (u1 &&& (255 : Int32))), (.ref ad5)])
 refine Home.st (own_pure (own_virtual X6 hx hZ hown (own_w76 hw) (own_w77 hw) (notFace_of_selects (args := #[]) (mvT hZ (own_w79 hw))) (own_w79 hw) (own_w78 hw) (own_w10 hw) (own_w80 hw) (by decide) (rm16_0 l Z a0 hw [] ad5 (u1 &&& (255 : Int32)) sv_COMPACT_STRINGS b5 k5 h5 n0 O5 (bnd_and (own_at [u1, u2, u3, u4] (0 : Int32)) (255 : Int32) (by decide)) Ea5 S_COMPACT_STRINGS Fc5 Fv5 V5 hCS) e6 Ea5 rfl (by rw [hml]; rfl) (argsL := [(.int (u1 &&& (255 : Int32)))]) (rest := []) (lenOf own_pd18 rfl) rfl rfl (W := 0) (by exact hW0) (by decide) (by decide) (hb hby d8_69) (by decide) (by decide))) fun T7 X7 e7 => ?_
 refine Home.run X7 hx hby sg8_72_1 (pc' := 74) (L' := #[.val (.ref o0), .val (.ref b3), .val (.int (0 : Int32)), .val (.int (0 : Int32)), .val (.int (0 : Int32)), .val (.int (0 : Int32)), .val (.int (f_rm22_0 (u1 &&& (255 : Int32))))]) (S' := []) rfl ?_
 obtain ⟨v8, hv8⟩ : ∃ z, z = (f_rm22_0 (u1 &&& (255 : Int32))) := ⟨_, rfl⟩
 rw [← hv8]
 refine Home.run X7 hx hby sg8_74_1 (pc' := 76) (L' := #[.val (.ref o0), .val (.ref b3), .val (.int (0 : Int32)), .val (.int (0 : Int32)), .val (.int (0 : Int32)), .val (.int (0 : Int32)), .val (.int v8)]) (S' := [(.int v8)]) rfl ?_
 refine Home.go (fun _ => XS.ifYes X7.here hx rfl (pc0 := 76) (pc' := 98) rfl (hb hby d8_76) rfl ((if0 _ _).trans (flt (by rw [hv8]; exact nn800)).2.1) (by decide) (by decide)) ?_
 refine Home.run X7 hx hby sg8_98_6 (pc' := 105) (L' := #[.val (.ref o0), .val (.ref b3), .val (.int (0 : Int32)), .val (.int ((0 : Int32) ||| v8)), .val (.int (0 : Int32)), .val (.int (0 : Int32)), .val (.int v8)]) (S' := []) rfl ?_
 obtain ⟨v9, hv9⟩ : ∃ z, z = ((0 : Int32) ||| v8) := ⟨_, rfl⟩
 rw [← hv9]
 refine Home.run X7 hx hby sg8_105_3 (pc' := 111) (L' := #[.val (.ref o0), .val (.ref b3), .val (.int (5 : Int32)), .val (.int v9), .val (.int (0 : Int32)), .val (.int (0 : Int32)), .val (.int v8)]) (S' := [(.int (8 : Int32)), (.int (5 : Int32))]) rfl ?_
 refine Home.go (fun _ => XS.icmpYes X7.here hx rfl (pc0 := 111) (pc' := 136) rfl (hb hby d8_111) rfl (tlt (by decide)).1 (by decide) (by decide)) ?_
 refine Home.run X7 hx hby sg8_136_4 (pc' := 55) (L' := #[.val (.ref o0), .val (.ref b3), .val (.int (5 : Int32)), .val (.int v9), .val (.int (0 : Int32)), .val (.int (1 : Int32)), .val (.int v8)]) (S' := [(.ref o0), (.int (1 : Int32))]) rfl ?_
 refine Home.st (own_pure (own_virtual X7 hx hZ hown (own_w41 hw) (own_w42 hw) (notFace_of_selects (args := #[]) (mvT hZ (own_w44 hw))) (own_w44 hw) (own_w43 hw) (own_w10 hw) (own_w45 hw) (by decide) (rm9_3 l Z a0 hw [] o0 p2 k_p2 u1 u2 u3 u4 sv_COMPACT_STRINGS h5 n0 O5 (F_value_o0.keep K5 nin0) (V_p2.keep K5 nin0) (E_o0.keep K5) S_COMPACT_STRINGS (F_coder_o0.keep K5 nin0) hCS) e7 (E_o0.keep K5) rfl (by rw [hml]; rfl) (argsL := []) (rest := [(.int (1 : Int32))]) (lenOf own_pd4 rfl) rfl rfl (W := 1) (by exact hW0) (by decide) (by decide) (hb hby d8_55) (by decide) (by decide))) fun T10 X10 e10 => ?_
 refine Home.go (fun _ => XS.icmpNo X10.here hx rfl (hb hby d8_58) rfl (tlt (by decide)).2.1) ?_
 obtain ⟨ad11, b11, k11, T11, h11, X11, e11, E11, hZ, hown, Cd11, Ea11, Fc11, Fv11, V11, la11, lb11, hne11, st11⟩ := own_ldcW X10 hx hZ hown (own_hEL hw) Cd5 (own_w51 hw) (own_wS hw) e10 (List.mem_of_getElem? (i := 0) rfl) (vs := own_T0) (z := (32 : Int32)) ⟨by decide, by rfl⟩ (by decide) (by decide) (g := (mkF m 61 #[.val (.ref o0), .val (.ref b3), .val (.int (5 : Int32)), .val (.int v9), .val (.int (0 : Int32)), .val (.int (1 : Int32)), .val (.int v8)] [])) rfl (hb hby d8_61) (n := 128) (by decide) (by decide) (by decide) (by decide)
 refine Home.go st11 ?_
 have O11 := O5.ext E11
 have K11 : Keep h0 h11 ([] : List Addr) := Keep.ext K5 E11
 show Home T11 (mkF m 63 #[.val (.ref o0), .val (.ref b3), .val (.int (5 : Int32)), .val (.int v9), .val (.int (0 : Int32)), .val (.int (1 : Int32)), .val (.int v8)] [(.ref ad11)])
 refine Home.run X11 hx hby sg8_63_2 (pc' := 66) (L' := #[.val (.ref o0), .val (.ref b3), .val (.int (5 : Int32)), .val (.int v9), .val (.int (0 : Int32)), .val (.int (1 : Int32)), .val (.int v8)]) (S' := [(.int (1 : Int32)), (.ref o0), (.ref ad11)]) rfl ?_
 refine Home.st (own_pure (own_virtual X11 hx hZ hown (own_w54 hw) (own_w55 hw) (notFace_of_selects (args := #[]) (mvT hZ (own_w57 hw))) (own_w57 hw) (own_w56 hw) (own_w10 hw) (own_w58 hw) (by decide) (rm11_1 l Z a0 hw [] o0 (1 : Int32) sv_COMPACT_STRINGS p2 k_p2 u1 u2 u3 u4 sv_SIOOBE_FORMATTER h11 n0 O11 (bnd_mono (bnd_lit (1 : Int32)) (by decide +kernel) (by decide +kernel)) (E_o0.keep K11) S_COMPACT_STRINGS (F_coder_o0.keep K11 nin0) hCS (F_value_o0.keep K11 nin0) (V_p2.keep K11 nin0) S_SIOOBE_FORMATTER bnd_u1 bnd_u2 bnd_u3 bnd_u4 isr_sv_SIOOBE_FORMATTER) e11 (E_o0.keep K11) rfl (by rw [hml]; rfl) (argsL := [(.int (1 : Int32))]) (rest := [(.ref ad11)]) (lenOf own_pd14 rfl) rfl rfl (W := 1) (by exact hW0) (by decide) (by decide) (hb hby d8_66) (by decide) (by decide))) fun T12 X12 e12 => ?_
 show Home T12 (mkF m 69 #[.val (.ref o0), .val (.ref b3), .val (.int (5 : Int32)), .val (.int v9), .val (.int (0 : Int32)), .val (.int (1 : Int32)), .val (.int v8)] [(.int (u2 &&& (255 : Int32))), (.ref ad11)])
 refine Home.st (own_pure (own_virtual X12 hx hZ hown (own_w76 hw) (own_w77 hw) (notFace_of_selects (args := #[]) (mvT hZ (own_w79 hw))) (own_w79 hw) (own_w78 hw) (own_w10 hw) (own_w80 hw) (by decide) (rm16_0 l Z a0 hw [] ad11 (u2 &&& (255 : Int32)) sv_COMPACT_STRINGS b11 k11 h11 n0 O11 (bnd_and (own_at [u1, u2, u3, u4] (1 : Int32)) (255 : Int32) (by decide)) Ea11 S_COMPACT_STRINGS Fc11 Fv11 V11 hCS) e12 Ea11 rfl (by rw [hml]; rfl) (argsL := [(.int (u2 &&& (255 : Int32)))]) (rest := []) (lenOf own_pd18 rfl) rfl rfl (W := 0) (by exact hW0) (by decide) (by decide) (hb hby d8_69) (by decide) (by decide))) fun T13 X13 e13 => ?_
 refine Home.run X13 hx hby sg8_72_1 (pc' := 74) (L' := #[.val (.ref o0), .val (.ref b3), .val (.int (5 : Int32)), .val (.int v9), .val (.int (0 : Int32)), .val (.int (1 : Int32)), .val (.int (f_rm22_0 (u2 &&& (255 : Int32))))]) (S' := []) rfl ?_
 obtain ⟨v14, hv14⟩ : ∃ z, z = (f_rm22_0 (u2 &&& (255 : Int32))) := ⟨_, rfl⟩
 rw [← hv14]
 refine Home.run X13 hx hby sg8_74_1 (pc' := 76) (L' := #[.val (.ref o0), .val (.ref b3), .val (.int (5 : Int32)), .val (.int v9), .val (.int (0 : Int32)), .val (.int (1 : Int32)), .val (.int v14)]) (S' := [(.int v14)]) rfl ?_
 refine Home.go (fun _ => XS.ifYes X13.here hx rfl (pc0 := 76) (pc' := 98) rfl (hb hby d8_76) rfl ((if0 _ _).trans (flt (by rw [hv14]; exact nn801)).2.1) (by decide) (by decide)) ?_
 refine Home.run X13 hx hby sg8_98_6 (pc' := 105) (L' := #[.val (.ref o0), .val (.ref b3), .val (.int (5 : Int32)), .val (.int ((v9 <<< ((5 : Int32) &&& 31)) ||| v14)), .val (.int (0 : Int32)), .val (.int (1 : Int32)), .val (.int v14)]) (S' := []) rfl ?_
 obtain ⟨v15, hv15⟩ : ∃ z, z = ((v9 <<< ((5 : Int32) &&& 31)) ||| v14) := ⟨_, rfl⟩
 rw [← hv15]
 refine Home.run X13 hx hby sg8_105_3 (pc' := 111) (L' := #[.val (.ref o0), .val (.ref b3), .val (.int (10 : Int32)), .val (.int v15), .val (.int (0 : Int32)), .val (.int (1 : Int32)), .val (.int v14)]) (S' := [(.int (8 : Int32)), (.int (10 : Int32))]) rfl ?_
 refine Home.go (fun _ => XS.icmpNo X13.here hx rfl (hb hby d8_111) rfl (flt (by decide)).1) ?_
 refine Home.run X13 hx hby sg8_114_8 (pc' := 127) (L' := #[.val (.ref o0), .val (.ref b3), .val (.int (2 : Int32)), .val (.int v15), .val (.int (1 : Int32)), .val (.int (1 : Int32)), .val (.int v14)]) (S' := [(.int (((v15.toUInt32 >>> ((2 : Int32) &&& 31).toUInt32).toInt32).toInt8.toInt32)), (.int (0 : Int32)), (.ref b3)]) rfl ?_
 have q16 := ((V3.ext E5).ext E11)
 obtain ⟨cl17, Ar17, q17, S17, M17, H17, G17⟩ := id q16
 refine Home.wr (stB X13 hx hZ e13 Ar17 (j := (0 : Int32)) (inb_of S17 ⟨by decide, by decide⟩) rfl rfl (hb hby d8_127)) fun T17 h17 X17 e17 W17 => ?_
 have W17' := Wr.to W17 (congrArg Value.int (nar_byte_id (bnd_i2b ((v15.toUInt32 >>> ((2 : Int32) &&& 31).toUInt32).toInt32)) (by decide +kernel) (by decide +kernel)))
 have V17 : Arv Z h17 b3 k3 .byte (2 : Int32) [(.int (((v15.toUInt32 >>> ((2 : Int32) &&& 31).toUInt32).toInt32).toInt8.toInt32)), (.int (0 : Int32))] (.int (0 : Int32)) := Arv.set Ar17 q17 S17 M17 H17 G17 (fits_byte_b (bnd_i2b ((v15.toUInt32 >>> ((2 : Int32) &&& 31).toUInt32).toInt32)) (by decide +kernel) (by decide +kernel)) W17' 0 rfl (Nat.le_of_ble_eq_true rfl)
 have O17 := O11.wr W17 g_b3
 have K17 : Keep h0 h17 ([] : List Addr) := Keep.wr K11 W17 (Or.inr (Nat.le_trans (Nat.le_refl _) (Nat.le_of_eq g3.symm)))
 have Cd17 := Cold.wr Cd11 W17 (Cold.safe Cd11 (List.mem_of_getElem? (i := 0) rfl))
 have N17 := Fr.snoc X17 N0 g_b3
 show Home T17 (mkF m 128 #[.val (.ref o0), .val (.ref b3), .val (.int (2 : Int32)), .val (.int v15), .val (.int (1 : Int32)), .val (.int (1 : Int32)), .val (.int v14)] [])
 refine Home.run X17 hx hby sg8_128_8 (pc' := 136) (L' := #[.val (.ref o0), .val (.ref b3), .val (.int (2 : Int32)), .val (.int (v15 &&& (3 : Int32))), .val (.int (1 : Int32)), .val (.int (1 : Int32)), .val (.int v14)]) (S' := []) rfl ?_
 obtain ⟨v18, hv18⟩ : ∃ z, z = (v15 &&& (3 : Int32)) := ⟨_, rfl⟩
 rw [← hv18]
 have bv18 : ¬ v18 < (0 : Int32) ∧ ¬ (3 : Int32) < v18 := by rw [hv18]; exact (bnd_and v15 (3 : Int32) (by decide))
 refine Home.run X17 hx hby sg8_136_4 (pc' := 55) (L' := #[.val (.ref o0), .val (.ref b3), .val (.int (2 : Int32)), .val (.int v18), .val (.int (1 : Int32)), .val (.int (2 : Int32)), .val (.int v14)]) (S' := [(.ref o0), (.int (2 : Int32))]) rfl ?_
 refine Home.st (own_pure (own_virtual X17 hx hZ hown (own_w41 hw) (own_w42 hw) (notFace_of_selects (args := #[]) (mvT hZ (own_w44 hw))) (own_w44 hw) (own_w43 hw) (own_w10 hw) (own_w45 hw) (by decide) (rm9_3 l Z a0 hw [] o0 p2 k_p2 u1 u2 u3 u4 sv_COMPACT_STRINGS h17 n0 O17 (F_value_o0.keep K17 nin0) (V_p2.keep K17 nin0) (E_o0.keep K17) S_COMPACT_STRINGS (F_coder_o0.keep K17 nin0) hCS) e17 (E_o0.keep K17) rfl (by rw [hml]; rfl) (argsL := []) (rest := [(.int (2 : Int32))]) (lenOf own_pd4 rfl) rfl rfl (W := 1) (by exact hW0) (by decide) (by decide) (hb hby d8_55) (by decide) (by decide))) fun T19 X19 e19 => ?_
 refine Home.go (fun _ => XS.icmpNo X19.here hx rfl (hb hby d8_58) rfl (tlt (by decide)).2.1) ?_
 obtain ⟨ad20, b20, k20, T20, h20, X20, e20, E20, hZ, hown, Cd20, Ea20, Fc20, Fv20, V20, la20, lb20, hne20, st20⟩ := own_ldcW X19 hx hZ hown (own_hEL hw) Cd17 (own_w51 hw) (own_wS hw) e19 (List.mem_of_getElem? (i := 0) rfl) (vs := own_T0) (z := (32 : Int32)) ⟨by decide, by rfl⟩ (by decide) (by decide) (g := (mkF m 61 #[.val (.ref o0), .val (.ref b3), .val (.int (2 : Int32)), .val (.int v18), .val (.int (1 : Int32)), .val (.int (2 : Int32)), .val (.int v14)] [])) rfl (hb hby d8_61) (n := 128) (by decide) (by decide) (by decide) (by decide)
 refine Home.go st20 ?_
 have O20 := O17.ext E20
 have K20 : Keep h0 h20 ([] : List Addr) := Keep.ext K17 E20
 refine Home.run X20 hx hby sg8_63_2 (pc' := 66) (L' := #[.val (.ref o0), .val (.ref b3), .val (.int (2 : Int32)), .val (.int v18), .val (.int (1 : Int32)), .val (.int (2 : Int32)), .val (.int v14)]) (S' := [(.int (2 : Int32)), (.ref o0), (.ref ad20)]) rfl ?_
 refine Home.st (own_pure (own_virtual X20 hx hZ hown (own_w54 hw) (own_w55 hw) (notFace_of_selects (args := #[]) (mvT hZ (own_w57 hw))) (own_w57 hw) (own_w56 hw) (own_w10 hw) (own_w58 hw) (by decide) (rm11_1 l Z a0 hw [] o0 (2 : Int32) sv_COMPACT_STRINGS p2 k_p2 u1 u2 u3 u4 sv_SIOOBE_FORMATTER h20 n0 O20 (bnd_mono (bnd_lit (2 : Int32)) (by decide +kernel) (by decide +kernel)) (E_o0.keep K20) S_COMPACT_STRINGS (F_coder_o0.keep K20 nin0) hCS (F_value_o0.keep K20 nin0) (V_p2.keep K20 nin0) S_SIOOBE_FORMATTER bnd_u1 bnd_u2 bnd_u3 bnd_u4 isr_sv_SIOOBE_FORMATTER) e20 (E_o0.keep K20) rfl (by rw [hml]; rfl) (argsL := [(.int (2 : Int32))]) (rest := [(.ref ad20)]) (lenOf own_pd14 rfl) rfl rfl (W := 1) (by exact hW0) (by decide) (by decide) (hb hby d8_66) (by decide) (by decide))) fun T21 X21 e21 => ?_
 show Home T21 (mkF m 69 #[.val (.ref o0), .val (.ref b3), .val (.int (2 : Int32)), .val (.int v18), .val (.int (1 : Int32)), .val (.int (2 : Int32)), .val (.int v14)] [(.int (u3 &&& (255 : Int32))), (.ref ad20)])
 refine Home.st (own_pure (own_virtual X21 hx hZ hown (own_w76 hw) (own_w77 hw) (notFace_of_selects (args := #[]) (mvT hZ (own_w79 hw))) (own_w79 hw) (own_w78 hw) (own_w10 hw) (own_w80 hw) (by decide) (rm16_0 l Z a0 hw [] ad20 (u3 &&& (255 : Int32)) sv_COMPACT_STRINGS b20 k20 h20 n0 O20 (bnd_and (own_at [u1, u2, u3, u4] (2 : Int32)) (255 : Int32) (by decide)) Ea20 S_COMPACT_STRINGS Fc20 Fv20 V20 hCS) e21 Ea20 rfl (by rw [hml]; rfl) (argsL := [(.int (u3 &&& (255 : Int32)))]) (rest := []) (lenOf own_pd18 rfl) rfl rfl (W := 0) (by exact hW0) (by decide) (by decide) (hb hby d8_69) (by decide) (by decide))) fun T22 X22 e22 => ?_
 refine Home.run X22 hx hby sg8_72_1 (pc' := 74) (L' := #[.val (.ref o0), .val (.ref b3), .val (.int (2 : Int32)), .val (.int v18), .val (.int (1 : Int32)), .val (.int (2 : Int32)), .val (.int (f_rm22_0 (u3 &&& (255 : Int32))))]) (S' := []) rfl ?_
 obtain ⟨v23, hv23⟩ : ∃ z, z = (f_rm22_0 (u3 &&& (255 : Int32))) := ⟨_, rfl⟩
 rw [← hv23]
 refine Home.run X22 hx hby sg8_74_1 (pc' := 76) (L' := #[.val (.ref o0), .val (.ref b3), .val (.int (2 : Int32)), .val (.int v18), .val (.int (1 : Int32)), .val (.int (2 : Int32)), .val (.int v23)]) (S' := [(.int v23)]) rfl ?_
 refine Home.go (fun _ => XS.ifYes X22.here hx rfl (pc0 := 76) (pc' := 98) rfl (hb hby d8_76) rfl ((if0 _ _).trans (flt (by rw [hv23]; exact nn802)).2.1) (by decide) (by decide)) ?_
 refine Home.run X22 hx hby sg8_98_6 (pc' := 105) (L' := #[.val (.ref o0), .val (.ref b3), .val (.int (2 : Int32)), .val (.int ((v18 <<< ((5 : Int32) &&& 31)) ||| v23)), .val (.int (1 : Int32)), .val (.int (2 : Int32)), .val (.int v23)]) (S' := []) rfl ?_
 obtain ⟨v24, hv24⟩ : ∃ z, z = ((v18 <<< ((5 : Int32) &&& 31)) ||| v23) := ⟨_, rfl⟩
 rw [← hv24]
 refine Home.run X22 hx hby sg8_105_3 (pc' := 111) (L' := #[.val (.ref o0), .val (.ref b3), .val (.int (7 : Int32)), .val (.int v24), .val (.int (1 : Int32)), .val (.int (2 : Int32)), .val (.int v23)]) (S' := [(.int (8 : Int32)), (.int (7 : Int32))]) rfl ?_
 refine Home.go (fun _ => XS.icmpYes X22.here hx rfl (pc0 := 111) (pc' := 136) rfl (hb hby d8_111) rfl (tlt (by decide)).1 (by decide) (by decide)) ?_
 refine Home.run X22 hx hby sg8_136_4 (pc' := 55) (L' := #[.val (.ref o0), .val (.ref b3), .val (.int (7 : Int32)), .val (.int v24), .val (.int (1 : Int32)), .val (.int (3 : Int32)), .val (.int v23)]) (S' := [(.ref o0), (.int (3 : Int32))]) rfl ?_
 refine Home.st (own_pure (own_virtual X22 hx hZ hown (own_w41 hw) (own_w42 hw) (notFace_of_selects (args := #[]) (mvT hZ (own_w44 hw))) (own_w44 hw) (own_w43 hw) (own_w10 hw) (own_w45 hw) (by decide) (rm9_3 l Z a0 hw [] o0 p2 k_p2 u1 u2 u3 u4 sv_COMPACT_STRINGS h20 n0 O20 (F_value_o0.keep K20 nin0) (V_p2.keep K20 nin0) (E_o0.keep K20) S_COMPACT_STRINGS (F_coder_o0.keep K20 nin0) hCS) e22 (E_o0.keep K20) rfl (by rw [hml]; rfl) (argsL := []) (rest := [(.int (3 : Int32))]) (lenOf own_pd4 rfl) rfl rfl (W := 1) (by exact hW0) (by decide) (by decide) (hb hby d8_55) (by decide) (by decide))) fun T25 X25 e25 => ?_
 refine Home.go (fun _ => XS.icmpNo X25.here hx rfl (hb hby d8_58) rfl (tlt (by decide)).2.1) ?_
 obtain ⟨ad26, b26, k26, T26, h26, X26, e26, E26, hZ, hown, Cd26, Ea26, Fc26, Fv26, V26, la26, lb26, hne26, st26⟩ := own_ldcW X25 hx hZ hown (own_hEL hw) Cd20 (own_w51 hw) (own_wS hw) e25 (List.mem_of_getElem? (i := 0) rfl) (vs := own_T0) (z := (32 : Int32)) ⟨by decide, by rfl⟩ (by decide) (by decide) (g := (mkF m 61 #[.val (.ref o0), .val (.ref b3), .val (.int (7 : Int32)), .val (.int v24), .val (.int (1 : Int32)), .val (.int (3 : Int32)), .val (.int v23)] [])) rfl (hb hby d8_61) (n := 128) (by decide) (by decide) (by decide) (by decide)
 refine Home.go st26 ?_
 have O26 := O20.ext E26
 have K26 : Keep h0 h26 ([] : List Addr) := Keep.ext K20 E26
 show Home T26 (mkF m 63 #[.val (.ref o0), .val (.ref b3), .val (.int (7 : Int32)), .val (.int v24), .val (.int (1 : Int32)), .val (.int (3 : Int32)), .val (.int v23)] [(.ref ad26)])
 refine Home.run X26 hx hby sg8_63_2 (pc' := 66) (L' := #[.val (.ref o0), .val (.ref b3), .val (.int (7 : Int32)), .val (.int v24), .val (.int (1 : Int32)), .val (.int (3 : Int32)), .val (.int v23)]) (S' := [(.int (3 : Int32)), (.ref o0), (.ref ad26)]) rfl ?_
 refine Home.st (own_pure (own_virtual X26 hx hZ hown (own_w54 hw) (own_w55 hw) (notFace_of_selects (args := #[]) (mvT hZ (own_w57 hw))) (own_w57 hw) (own_w56 hw) (own_w10 hw) (own_w58 hw) (by decide) (rm11_1 l Z a0 hw [] o0 (3 : Int32) sv_COMPACT_STRINGS p2 k_p2 u1 u2 u3 u4 sv_SIOOBE_FORMATTER h26 n0 O26 (bnd_mono (bnd_lit (3 : Int32)) (by decide +kernel) (by decide +kernel)) (E_o0.keep K26) S_COMPACT_STRINGS (F_coder_o0.keep K26 nin0) hCS (F_value_o0.keep K26 nin0) (V_p2.keep K26 nin0) S_SIOOBE_FORMATTER bnd_u1 bnd_u2 bnd_u3 bnd_u4 isr_sv_SIOOBE_FORMATTER) e26 (E_o0.keep K26) rfl (by rw [hml]; rfl) (argsL := [(.int (3 : Int32))]) (rest := [(.ref ad26)]) (lenOf own_pd14 rfl) rfl rfl (W := 1) (by exact hW0) (by decide) (by decide) (hb hby d8_66) (by decide) (by decide))) fun T27 X27 e27 => ?_
 show Home T27 (mkF m 69 #[.val (.ref o0), .val (.ref b3), .val (.int (7 : Int32)), .val (.int v24), .val (.int (1 : Int32)), .val (.int (3 : Int32)), .val (.int v23)] [(.int (u4 &&& (255 : Int32))), (.ref ad26)])
 refine Home.st (own_pure (own_virtual X27 hx hZ hown (own_w76 hw) (own_w77 hw) (notFace_of_selects (args := #[]) (mvT hZ (own_w79 hw))) (own_w79 hw) (own_w78 hw) (own_w10 hw) (own_w80 hw) (by decide) (rm16_0 l Z a0 hw [] ad26 (u4 &&& (255 : Int32)) sv_COMPACT_STRINGS b26 k26 h26 n0 O26 (bnd_and (own_at [u1, u2, u3, u4] (3 : Int32)) (255 : Int32) (by decide)) Ea26 S_COMPACT_STRINGS Fc26 Fv26 V26 hCS) e27 Ea26 rfl (by rw [hml]; rfl) (argsL := [(.int (u4 &&& (255 : Int32)))]) (rest := []) (lenOf own_pd18 rfl) rfl rfl (W := 0) (by exact hW0) (by decide) (by decide) (hb hby d8_69) (by decide) (by decide))) fun T28 X28 e28 => ?_
 refine Home.run X28 hx hby sg8_72_1 (pc' := 74) (L' := #[.val (.ref o0), .val (.ref b3), .val (.int (7 : Int32)), .val (.int v24), .val (.int (1 : Int32)), .val (.int (3 : Int32)), .val (.int (f_rm22_0 (u4 &&& (255 : Int32))))]) (S' := []) rfl ?_
 obtain ⟨v29, hv29⟩ : ∃ z, z = (f_rm22_0 (u4 &&& (255 : Int32))) := ⟨_, rfl⟩
 rw [← hv29]
 refine Home.run X28 hx hby sg8_74_1 (pc' := 76) (L' := #[.val (.ref o0), .val (.ref b3), .val (.int (7 : Int32)), .val (.int v24), .val (.int (1 : Int32)), .val (.int (3 : Int32)), .val (.int v29)]) (S' := [(.int v29)]) rfl ?_
 refine Home.go (fun _ => XS.ifYes X28.here hx rfl (pc0 := 76) (pc' := 98) rfl (hb hby d8_76) rfl ((if0 _ _).trans (flt (by rw [hv29]; exact nn803)).2.1) (by decide) (by decide)) ?_
 refine Home.run X28 hx hby sg8_98_6 (pc' := 105) (L' := #[.val (.ref o0), .val (.ref b3), .val (.int (7 : Int32)), .val (.int ((v24 <<< ((5 : Int32) &&& 31)) ||| v29)), .val (.int (1 : Int32)), .val (.int (3 : Int32)), .val (.int v29)]) (S' := []) rfl ?_
 obtain ⟨v30, hv30⟩ : ∃ z, z = ((v24 <<< ((5 : Int32) &&& 31)) ||| v29) := ⟨_, rfl⟩
 rw [← hv30]
 refine Home.run X28 hx hby sg8_105_3 (pc' := 111) (L' := #[.val (.ref o0), .val (.ref b3), .val (.int (12 : Int32)), .val (.int v30), .val (.int (1 : Int32)), .val (.int (3 : Int32)), .val (.int v29)]) (S' := [(.int (8 : Int32)), (.int (12 : Int32))]) rfl ?_
 refine Home.go (fun _ => XS.icmpNo X28.here hx rfl (hb hby d8_111) rfl (flt (by decide)).1) ?_
 refine Home.run X28 hx hby sg8_114_8 (pc' := 127) (L' := #[.val (.ref o0), .val (.ref b3), .val (.int (4 : Int32)), .val (.int v30), .val (.int (2 : Int32)), .val (.int (3 : Int32)), .val (.int v29)]) (S' := [(.int (((v30.toUInt32 >>> ((4 : Int32) &&& 31).toUInt32).toInt32).toInt8.toInt32)), (.int (1 : Int32)), (.ref b3)]) rfl ?_
 have q31 := ((V17.ext E20).ext E26)
 obtain ⟨cl32, Ar32, q32, S32, M32, H32, G32⟩ := id q31
 refine Home.wr (stB X28 hx hZ e28 Ar32 (j := (1 : Int32)) (inb_of S32 ⟨by decide, by decide⟩) rfl rfl (hb hby d8_127)) fun T32 h32 X32 e32 W32 => ?_
 have W32' := Wr.to W32 (congrArg Value.int (nar_byte_id (bnd_i2b ((v30.toUInt32 >>> ((4 : Int32) &&& 31).toUInt32).toInt32)) (by decide +kernel) (by decide +kernel)))
 have V32 : Arv Z h32 b3 k3 .byte (2 : Int32) [(.int (((v15.toUInt32 >>> ((2 : Int32) &&& 31).toUInt32).toInt32).toInt8.toInt32)), (.int (((v30.toUInt32 >>> ((4 : Int32) &&& 31).toUInt32).toInt32).toInt8.toInt32))] (.int (0 : Int32)) := Arv.set Ar32 q32 S32 M32 H32 G32 (fits_byte_b (bnd_i2b ((v30.toUInt32 >>> ((4 : Int32) &&& 31).toUInt32).toInt32)) (by decide +kernel) (by decide +kernel)) W32' 1 rfl (Nat.le_of_ble_eq_true rfl)
 have O32 := O26.wr W32 g_b3
 have K32 : Keep h0 h32 ([] : List Addr) := Keep.wr K26 W32 (Or.inr (Nat.le_trans (Nat.le_refl _) (Nat.le_of_eq g3.symm)))
 have Cd32 := Cold.wr Cd26 W32 (Cold.safe Cd26 (List.mem_of_getElem? (i := 0) rfl))
 have N32 := Fr.snoc X32 N17 g_b3
 show Home T32 (mkF m 128 #[.val (.ref o0), .val (.ref b3), .val (.int (4 : Int32)), .val (.int v30), .val (.int (2 : Int32)), .val (.int (3 : Int32)), .val (.int v29)] [])
 refine Home.run X32 hx hby sg8_128_8 (pc' := 136) (L' := #[.val (.ref o0), .val (.ref b3), .val (.int (4 : Int32)), .val (.int (v30 &&& (15 : Int32))), .val (.int (2 : Int32)), .val (.int (3 : Int32)), .val (.int v29)]) (S' := []) rfl ?_
 obtain ⟨v33, hv33⟩ : ∃ z, z = (v30 &&& (15 : Int32)) := ⟨_, rfl⟩
 rw [← hv33]
 have bv33 : ¬ v33 < (0 : Int32) ∧ ¬ (15 : Int32) < v33 := by rw [hv33]; exact (bnd_and v30 (15 : Int32) (by decide))
 refine Home.run X32 hx hby sg8_136_4 (pc' := 55) (L' := #[.val (.ref o0), .val (.ref b3), .val (.int (4 : Int32)), .val (.int v33), .val (.int (2 : Int32)), .val (.int (4 : Int32)), .val (.int v29)]) (S' := [(.ref o0), (.int (4 : Int32))]) rfl ?_
 refine Home.st (own_pure (own_virtual X32 hx hZ hown (own_w41 hw) (own_w42 hw) (notFace_of_selects (args := #[]) (mvT hZ (own_w44 hw))) (own_w44 hw) (own_w43 hw) (own_w10 hw) (own_w45 hw) (by decide) (rm9_3 l Z a0 hw [] o0 p2 k_p2 u1 u2 u3 u4 sv_COMPACT_STRINGS h32 n0 O32 (F_value_o0.keep K32 nin0) (V_p2.keep K32 nin0) (E_o0.keep K32) S_COMPACT_STRINGS (F_coder_o0.keep K32 nin0) hCS) e32 (E_o0.keep K32) rfl (by rw [hml]; rfl) (argsL := []) (rest := [(.int (4 : Int32))]) (lenOf own_pd4 rfl) rfl rfl (W := 1) (by exact hW0) (by decide) (by decide) (hb hby d8_55) (by decide) (by decide))) fun T34 X34 e34 => ?_
 refine Home.go (fun _ => XS.icmpYes X34.here hx rfl (pc0 := 58) (pc' := 142) rfl (hb hby d8_58) rfl (flt (by decide)).2.1 (by decide) (by decide)) ?_
 refine Home.run X34 hx hby sg8_142_1 (pc' := 143) (L' := #[.val (.ref o0), .val (.ref b3), .val (.int (4 : Int32)), .val (.int v33), .val (.int (2 : Int32)), .val (.int (4 : Int32)), .val (.int v29)]) (S' := [(.int v33)]) rfl ?_
 refine Home.go (fun _ => XS.ifYes X34.here hx rfl (pc0 := 143) (pc' := 156) rfl (hb hby d8_143) rfl ((if0 _ _).trans (teq (by rw [hv33, hv30, hv24, hv18, hv15, hv9, hv8, hv14, hv23, hv29]; exact nn804)).1) (by decide) (by decide)) ?_
 refine Home.run X34 hx hby sg8_156_1 (pc' := 157) (L' := #[.val (.ref o0), .val (.ref b3), .val (.int (4 : Int32)), .val (.int v33), .val (.int (2 : Int32)), .val (.int (4 : Int32)), .val (.int v29)]) (S' := [(.ref b3)]) rfl ?_
 subst hv33
 subst hv30
 subst hv29
 subst hv24
 subst hv23
 subst hv18
 subst hv15
 subst hv14
 subst hv9
 subst hv8
 exact HomeW.retR X34 hx hlk hZ (own_hEL hw) e34 Cd32 (fun _ _ q => by cases q; exact (List.mem_of_getElem? (i := 0) rfl)) hret rfl rfl (hb hby d8_157) (by rw [show T34.heap = h32 from e34]; exact ⟨b3, k3, rfl, N32, (Nat.le_trans (Nat.le_refl _) (Nat.le_of_eq g3.symm)), K32, V32⟩) (by decide) (by decide)
theorem rm23_2 (l : Launch) (Z : State) (a0 : Array Value) (hw : HW a0 Z) (ws : List Jvm.Cond) (o0 : Addr) (j1 : Int64) (i3 : Int32) (k_o0 : ClassId) (u1 u2 : Int32) (h0 : Heap) (n0 : Nat) (O0 : Old Z n0 h0) (bnd_i3 : ¬ i3 < (0 : Int32) ∧ ¬ (4 : Int32) < i3) (V_o0 : Arv Z h0 o0 k_o0 .byte (2 : Int32) [(.int u1), (.int u2)] (.int (0 : Int32))) :
    Con l Z (⟨"com/example/tryst/tryst/encoding/Base32DecodePinLaw", "byteOk", "([BJII)Z"⟩ : MethodName) method_3_code 5 (some .boolean) ws ({ frames := 0, cells := 0, slots := 0, locals := 0 } : Room) #[(.ref o0), (.long j1), (.int (2 : Int32)), (.int i3)] h0 (Pur (some (.int (f_rm23_2 j1 i3 u1 u2))) h0) := by
 refine own_body (plainFor_of_name own_pn0) (fun m => ef_rm23_2 m o0 j1 (2 : Int32) i3) ?_
 intro p e s m below meth c s₁ hx hby hlk hml hret hZ hown hnm X0 e0
 have N0 := Fr.nil n0
 refine Home.run X0 hx hby sg23_0_2 (pc' := 3) (L' := #[.val (.ref o0), .val (.long j1), .second, .val (.int (2 : Int32)), .val (.int i3)]) (S' := [(.int (2 : Int32)), (.int i3)]) rfl ?_
 by_cases c1 : i3 < (2 : Int32)
 ·
  refine Home.go (fun _ => XS.icmpYes X0.here hx rfl (pc0 := 3) (pc' := 8) rfl (hb hby d23_3) rfl (tlt c1).1 (by decide) (by decide)) ?_
  have bd2 : ¬ i3 < (0 : Int32) ∧ ¬ (1 : Int32) < i3 := ⟨bnd_i3.1, (bnd_dn c1 (by decide +kernel))⟩
  refine Home.run X0 hx hby sg23_8_2 (pc' := 11) (L' := #[.val (.ref o0), .val (.long j1), .second, .val (.int (2 : Int32)), .val (.int i3)]) (S' := [(.int i3), (.ref o0)]) rfl ?_
  obtain ⟨cl4, Ar4, q4, S4, M4, H4, G4⟩ := id V_o0
  have ib4 : ¬ (i3 < 0 ∨ cl4.slots.size ≤ (i3).toNatClampNeg) := inb_of S4 ⟨(bnd_nlt bd2 (bnd_lit (0 : Int32)) (by decide +kernel)), c1⟩
  refine Home.go (X0.baloadBytes hx (j := i3) (v := .int (own_at [u1, u2] i3)) (by rw [e0]; exact Ar4.1) (State.isArrayOf_alike hZ.alike Ar4.2.1) Ar4.2.2 ib4 (Has.at H4 ib4 (own_getD [u1, u2] _)) rfl rfl (hb hby d23_11)) ?_
  refine Home.run X0 hx hby sg23_12_9 (pc' := 24) (L' := #[.val (.ref o0), .val (.long j1), .second, .val (.int (2 : Int32)), .val (.int i3)]) (S' := [(.int ((((j1.toUInt64 >>> (((32 : Int32) - ((8 : Int32) * i3)) &&& 0x3f).toInt64.toUInt64).toInt64).toInt32).toInt8.toInt32)), (.int (own_at [u1, u2] i3))]) rfl ?_
  suffices J6 : ∀ {T : State} (X : Stand p l e ({ frames := 0, cells := 0, slots := 0, locals := 0 } : Room) s m #[(.ref o0), (.long j1), (.int (2 : Int32)), (.int i3)] below meth c T [] 0 0) (eT : T.heap = h0) (v7 : Int32) (hv7 : v7 = (if (own_at [u1, u2] i3) = ((((j1.toUInt64 >>> (((32 : Int32) - ((8 : Int32) * i3)) &&& 0x3f).toInt64.toUInt64).toInt64).toInt32).toInt8.toInt32) then (1 : Int32) else (0 : Int32))), @Home p e below _ T (mkF m 32 #[.val (.ref o0), .val (.long j1), .second, .val (.int (2 : Int32)), .val (.int i3)] [(.int v7)]) by
   by_cases c5 : (own_at [u1, u2] i3) = ((((j1.toUInt64 >>> (((32 : Int32) - ((8 : Int32) * i3)) &&& 0x3f).toInt64.toUInt64).toInt64).toInt32).toInt8.toInt32)
   ·
    refine Home.go (fun _ => XS.icmpNo X0.here hx rfl (hb hby d23_24) rfl (teq c5).2) ?_
    refine Home.run X0 hx hby sg23_27_2 (pc' := 32) (L' := #[.val (.ref o0), .val (.long j1), .second, .val (.int (2 : Int32)), .val (.int i3)]) (S' := [(.int (1 : Int32))]) rfl ?_
    exact J6 X0 e0 _ (by simp only [if_pos c5])
   ·
    refine Home.go (fun _ => XS.icmpYes X0.here hx rfl (pc0 := 24) (pc' := 31) rfl (hb hby d23_24) rfl (feq c5).2 (by decide) (by decide)) ?_
    refine Home.run X0 hx hby sg23_31_1 (pc' := 32) (L' := #[.val (.ref o0), .val (.long j1), .second, .val (.int (2 : Int32)), .val (.int i3)]) (S' := [(.int (0 : Int32))]) rfl ?_
    exact J6 X0 e0 _ (by simp only [if_neg c5])
  intro TJ6 XJ6 eJ6 v7 hv7
  have bv7 : ¬ v7 < (0 : Int32) ∧ ¬ (1 : Int32) < v7 := by rw [hv7]; exact (bnd_ite (bnd_mono (bnd_lit (1 : Int32)) (by decide +kernel) (by decide +kernel)) (bnd_mono (bnd_lit (0 : Int32)) (by decide +kernel) (by decide +kernel)))
  show Home TJ6 (mkF m 32 #[.val (.ref o0), .val (.long j1), .second, .val (.int (2 : Int32)), .val (.int i3)] [(.int v7)])
  exact Home.retN XJ6 hx hlk (t := .boolean) hret (by simp) (hb hby d23_32) ⟨congrArg some (congrArg Value.int (by subst hv7; first | rfl | (simp only [f_rm23_2, if_pos c1, nar_bool_id bv7 (by decide +kernel) (by decide +kernel), nar_i2c, nar_i2b] <;> rfl) | (simp [f_rm23_2, if_pos c1, nar_bool_id bv7 (by decide +kernel) (by decide +kernel)]; done))), rfl, eJ6⟩ (by decide) (by decide)
 ·
  refine Home.go (fun _ => XS.icmpNo X0.here hx rfl (hb hby d23_3) rfl (flt c1).1) ?_
  have bd3 : ¬ i3 < (2 : Int32) ∧ ¬ (4 : Int32) < i3 := ⟨c1, bnd_i3.2⟩
  refine Home.run X0 hx hby sg23_6_1 (pc' := 7) (L' := #[.val (.ref o0), .val (.long j1), .second, .val (.int (2 : Int32)), .val (.int i3)]) (S' := [(.int (1 : Int32))]) rfl ?_
  exact Home.retN X0 hx hlk (t := .boolean) hret (by simp) (hb hby d23_7) ⟨congrArg some (congrArg Value.int (by first | rfl | (simp only [f_rm23_2, if_neg c1, nar_i2c, nar_i2b] <;> rfl) | (simp [f_rm23_2, if_neg c1]; done))), rfl, e0⟩ (by decide) (by decide)
theorem f_rm23_2_bnd (j1 : Int64) (i3 : Int32) (u1 : Int32) (u2 : Int32) (bnd_i3 : ¬ i3 < (0 : Int32) ∧ ¬ (4 : Int32) < i3) : ¬ (f_rm23_2 j1 i3 u1 u2) < (0 : Int32) ∧ ¬ (1 : Int32) < (f_rm23_2 j1 i3 u1 u2) := by unfold f_rm23_2; (repeat' split) <;> first | exact bnd_mono (bnd_lit (1 : Int32)) (by decide +kernel) (by decide +kernel) | exact bnd_mono (bnd_lit (0 : Int32)) (by decide +kernel) (by decide +kernel)
theorem rm6_2 (l : Launch) (Z : State) (a0 : Array Value) (hw : HW a0 Z) (ws : List Jvm.Cond) (o0 o2 : Addr) (k_o0 : ClassId) (u1 u2 u3 u4 u5 : Int32) (k_o2 : ClassId) (h0 : Heap) (n0 : Nat) (O0 : Old Z n0 h0) (V_o0 : Arv Z h0 o0 k_o0 .char (5 : Int32) [(.int u1), (.int u2), (.int u3), (.int u4), (.int u5)] (.int (0 : Int32))) (bnd_u1 : ¬ u1 < (50 : Int32) ∧ ¬ (122 : Int32) < u1) (V_o2 : Arv Z h0 o2 k_o2 .byte (5 : Int32) [(.int (0 : Int32)), (.int (0 : Int32)), (.int (0 : Int32)), (.int (0 : Int32)), (.int (0 : Int32))] (.int (0 : Int32))) (g_o2 : n0 ≤ o2) (ne_o0_o2 : o0 ≠ o2) (bnd_u2 : ¬ u2 < (50 : Int32) ∧ ¬ (122 : Int32) < u2) (bnd_u3 : ¬ u3 < (50 : Int32) ∧ ¬ (122 : Int32) < u3) (bnd_u4 : ¬ u4 < (50 : Int32) ∧ ¬ (122 : Int32) < u4) (bnd_u5 : ¬ u5 < (50 : Int32) ∧ ¬ (122 : Int32) < u5) :
    Con l Z (⟨"java/lang/StringUTF16", "compress", "([CI[BII)I"⟩ : MethodName) jdk_52_method_21_code 7 (some .int) ws ({ frames := 0, cells := 0, slots := 0, locals := 0 } : Room) #[(.ref o0), (.int (0 : Int32)), (.ref o2), (.int (0 : Int32)), (.int (5 : Int32))] h0 (fun v h L => v = some (.int (5 : Int32)) ∧ Fr n0 L ∧ Keep h0 h [o2] ∧ Arv Z h o2 k_o2 .byte (5 : Int32) [(.int u1), (.int u2), (.int u3), (.int u4), (.int u5)] (.int (0 : Int32))) := by
 refine own_body (plainFor_of_name own_pn3) (fun m => ef_rm6_2 m o0 (0 : Int32) o2 (5 : Int32)) ?_
 intro p e s m below meth c s₁ hx hby hlk hml hret hZ hown hnm X0 e0
 have N0 := Fr.nil n0
 refine Home.run X0 hx hby sg6_0_4 (pc' := 7) (L' := #[.val (.ref o0), .val (.int (0 : Int32)), .val (.ref o2), .val (.int (0 : Int32)), .val (.int (5 : Int32)), .val (.int (0 : Int32)), .unset]) (S' := [(.int (5 : Int32)), (.int (0 : Int32))]) rfl ?_
 refine Home.go (fun _ => XS.icmpNo X0.here hx rfl (hb hby d6_7) rfl (tlt (by decide)).2.1) ?_
 refine Home.run X0 hx hby sg6_10_2 (pc' := 12) (L' := #[.val (.ref o0), .val (.int (0 : Int32)), .val (.ref o2), .val (.int (0 : Int32)), .val (.int (5 : Int32)), .val (.int (0 : Int32)), .unset]) (S' := [(.int (0 : Int32)), (.ref o0)]) rfl ?_
 obtain ⟨cl1, Ar1, q1, S1, M1, H1, G1⟩ := id V_o0
 have ib1 : ¬ ((0 : Int32) < 0 ∨ cl1.slots.size ≤ ((0 : Int32)).toNatClampNeg) := inb_of S1 ⟨by decide, by decide⟩
 refine Home.go (X0.caload hx (j := (0 : Int32)) (v := (.int u1)) (by rw [e0]; exact Ar1.1) (State.isArrayOf_alike hZ.alike Ar1.2.1) Ar1.2.2 ib1 (Has.at H1 ib1 rfl) rfl rfl (hb hby d6_12)) ?_
 refine Home.run X0 hx hby sg6_13_3 (pc' := 20) (L' := #[.val (.ref o0), .val (.int (0 : Int32)), .val (.ref o2), .val (.int (0 : Int32)), .val (.int (5 : Int32)), .val (.int (0 : Int32)), .val (.int u1)]) (S' := [(.int (255 : Int32)), (.int u1)]) rfl ?_
 refine Home.go (fun _ => XS.icmpYes X0.here hx rfl (pc0 := 20) (pc' := 26) rfl (hb hby d6_20) rfl (flt (bnd_nlt (bnd_lit (255 : Int32)) bnd_u1 (by decide +kernel))).2.2.2 (by decide) (by decide)) ?_
 refine Home.run X0 hx hby sg6_26_4 (pc' := 31) (L' := #[.val (.ref o0), .val (.int (0 : Int32)), .val (.ref o2), .val (.int (0 : Int32)), .val (.int (5 : Int32)), .val (.int (0 : Int32)), .val (.int u1)]) (S' := [(.int (u1.toInt8.toInt32)), (.int (0 : Int32)), (.ref o2)]) rfl ?_
 rw [i2b_id bnd_u1 (by decide +kernel) (by decide +kernel)]
 obtain ⟨cl2, Ar2, q2, S2, M2, H2, G2⟩ := id V_o2
 refine Home.wr (stB X0 hx hZ e0 Ar2 (j := (0 : Int32)) (inb_of S2 ⟨by decide, by decide⟩) rfl rfl (hb hby d6_31)) fun T2 h2 X2 e2 W2 => ?_
 have W2' := Wr.to W2 (congrArg Value.int (nar_byte_id bnd_u1 (by decide +kernel) (by decide +kernel)))
 have V2 : Arv Z h2 o2 k_o2 .byte (5 : Int32) [(.int u1), (.int (0 : Int32)), (.int (0 : Int32)), (.int (0 : Int32)), (.int (0 : Int32))] (.int (0 : Int32)) := Arv.set Ar2 q2 S2 M2 H2 G2 (fits_byte_b bnd_u1 (by decide +kernel) (by decide +kernel)) W2' 0 rfl (Nat.le_of_ble_eq_true rfl)
 have O2 := O0.wr W2 g_o2
 have K2 : Keep h0 h2 ([o2] : List Addr) := Keep.wr (Keep.refl h0 ([o2] : List Addr)) W2 (Or.inl (List.mem_of_getElem? (i := 0) rfl))
 have N2 := Fr.snoc X2 N0 g_o2
 show Home T2 (mkF m 32 #[.val (.ref o0), .val (.int (0 : Int32)), .val (.ref o2), .val (.int (0 : Int32)), .val (.int (5 : Int32)), .val (.int (0 : Int32)), .val (.int u1)] [])
 refine Home.run X2 hx hby sg6_32_6 (pc' := 7) (L' := #[.val (.ref o0), .val (.int (1 : Int32)), .val (.ref o2), .val (.int (1 : Int32)), .val (.int (5 : Int32)), .val (.int (1 : Int32)), .val (.int u1)]) (S' := [(.int (5 : Int32)), (.int (1 : Int32))]) rfl ?_
 refine Home.go (fun _ => XS.icmpNo X2.here hx rfl (hb hby d6_7) rfl (tlt (by decide)).2.1) ?_
 refine Home.run X2 hx hby sg6_10_2 (pc' := 12) (L' := #[.val (.ref o0), .val (.int (1 : Int32)), .val (.ref o2), .val (.int (1 : Int32)), .val (.int (5 : Int32)), .val (.int (1 : Int32)), .val (.int u1)]) (S' := [(.int (1 : Int32)), (.ref o0)]) rfl ?_
 have q3 := (V_o0.other W2 ne_o0_o2)
 obtain ⟨cl4, Ar4, q4, S4, M4, H4, G4⟩ := id q3
 have ib4 : ¬ ((1 : Int32) < 0 ∨ cl4.slots.size ≤ ((1 : Int32)).toNatClampNeg) := inb_of S4 ⟨by decide, by decide⟩
 refine Home.go (X2.caload hx (j := (1 : Int32)) (v := (.int u2)) (by rw [e2]; exact Ar4.1) (State.isArrayOf_alike hZ.alike Ar4.2.1) Ar4.2.2 ib4 (Has.at H4 ib4 rfl) rfl rfl (hb hby d6_12)) ?_
 refine Home.run X2 hx hby sg6_13_3 (pc' := 20) (L' := #[.val (.ref o0), .val (.int (1 : Int32)), .val (.ref o2), .val (.int (1 : Int32)), .val (.int (5 : Int32)), .val (.int (1 : Int32)), .val (.int u2)]) (S' := [(.int (255 : Int32)), (.int u2)]) rfl ?_
 refine Home.go (fun _ => XS.icmpYes X2.here hx rfl (pc0 := 20) (pc' := 26) rfl (hb hby d6_20) rfl (flt (bnd_nlt (bnd_lit (255 : Int32)) bnd_u2 (by decide +kernel))).2.2.2 (by decide) (by decide)) ?_
 refine Home.run X2 hx hby sg6_26_4 (pc' := 31) (L' := #[.val (.ref o0), .val (.int (1 : Int32)), .val (.ref o2), .val (.int (1 : Int32)), .val (.int (5 : Int32)), .val (.int (1 : Int32)), .val (.int u2)]) (S' := [(.int (u2.toInt8.toInt32)), (.int (1 : Int32)), (.ref o2)]) rfl ?_
 rw [i2b_id bnd_u2 (by decide +kernel) (by decide +kernel)]
 obtain ⟨cl5, Ar5, q5, S5, M5, H5, G5⟩ := id V2
 refine Home.wr (stB X2 hx hZ e2 Ar5 (j := (1 : Int32)) (inb_of S5 ⟨by decide, by decide⟩) rfl rfl (hb hby d6_31)) fun T5 h5 X5 e5 W5 => ?_
 have W5' := Wr.to W5 (congrArg Value.int (nar_byte_id bnd_u2 (by decide +kernel) (by decide +kernel)))
 have V5 : Arv Z h5 o2 k_o2 .byte (5 : Int32) [(.int u1), (.int u2), (.int (0 : Int32)), (.int (0 : Int32)), (.int (0 : Int32))] (.int (0 : Int32)) := Arv.set Ar5 q5 S5 M5 H5 G5 (fits_byte_b bnd_u2 (by decide +kernel) (by decide +kernel)) W5' 1 rfl (Nat.le_of_ble_eq_true rfl)
 have O5 := O2.wr W5 g_o2
 have K5 : Keep h0 h5 ([o2] : List Addr) := Keep.wr K2 W5 (Or.inl (List.mem_of_getElem? (i := 0) rfl))
 have N5 := Fr.snoc X5 N2 g_o2
 show Home T5 (mkF m 32 #[.val (.ref o0), .val (.int (1 : Int32)), .val (.ref o2), .val (.int (1 : Int32)), .val (.int (5 : Int32)), .val (.int (1 : Int32)), .val (.int u2)] [])
 refine Home.run X5 hx hby sg6_32_6 (pc' := 7) (L' := #[.val (.ref o0), .val (.int (2 : Int32)), .val (.ref o2), .val (.int (2 : Int32)), .val (.int (5 : Int32)), .val (.int (2 : Int32)), .val (.int u2)]) (S' := [(.int (5 : Int32)), (.int (2 : Int32))]) rfl ?_
 refine Home.go (fun _ => XS.icmpNo X5.here hx rfl (hb hby d6_7) rfl (tlt (by decide)).2.1) ?_
 refine Home.run X5 hx hby sg6_10_2 (pc' := 12) (L' := #[.val (.ref o0), .val (.int (2 : Int32)), .val (.ref o2), .val (.int (2 : Int32)), .val (.int (5 : Int32)), .val (.int (2 : Int32)), .val (.int u2)]) (S' := [(.int (2 : Int32)), (.ref o0)]) rfl ?_
 have q6 := (q3.other W5 ne_o0_o2)
 obtain ⟨cl7, Ar7, q7, S7, M7, H7, G7⟩ := id q6
 have ib7 : ¬ ((2 : Int32) < 0 ∨ cl7.slots.size ≤ ((2 : Int32)).toNatClampNeg) := inb_of S7 ⟨by decide, by decide⟩
 refine Home.go (X5.caload hx (j := (2 : Int32)) (v := (.int u3)) (by rw [e5]; exact Ar7.1) (State.isArrayOf_alike hZ.alike Ar7.2.1) Ar7.2.2 ib7 (Has.at H7 ib7 rfl) rfl rfl (hb hby d6_12)) ?_
 refine Home.run X5 hx hby sg6_13_3 (pc' := 20) (L' := #[.val (.ref o0), .val (.int (2 : Int32)), .val (.ref o2), .val (.int (2 : Int32)), .val (.int (5 : Int32)), .val (.int (2 : Int32)), .val (.int u3)]) (S' := [(.int (255 : Int32)), (.int u3)]) rfl ?_
 refine Home.go (fun _ => XS.icmpYes X5.here hx rfl (pc0 := 20) (pc' := 26) rfl (hb hby d6_20) rfl (flt (bnd_nlt (bnd_lit (255 : Int32)) bnd_u3 (by decide +kernel))).2.2.2 (by decide) (by decide)) ?_
 refine Home.run X5 hx hby sg6_26_4 (pc' := 31) (L' := #[.val (.ref o0), .val (.int (2 : Int32)), .val (.ref o2), .val (.int (2 : Int32)), .val (.int (5 : Int32)), .val (.int (2 : Int32)), .val (.int u3)]) (S' := [(.int (u3.toInt8.toInt32)), (.int (2 : Int32)), (.ref o2)]) rfl ?_
 rw [i2b_id bnd_u3 (by decide +kernel) (by decide +kernel)]
 obtain ⟨cl8, Ar8, q8, S8, M8, H8, G8⟩ := id V5
 refine Home.wr (stB X5 hx hZ e5 Ar8 (j := (2 : Int32)) (inb_of S8 ⟨by decide, by decide⟩) rfl rfl (hb hby d6_31)) fun T8 h8 X8 e8 W8 => ?_
 have W8' := Wr.to W8 (congrArg Value.int (nar_byte_id bnd_u3 (by decide +kernel) (by decide +kernel)))
 have V8 : Arv Z h8 o2 k_o2 .byte (5 : Int32) [(.int u1), (.int u2), (.int u3), (.int (0 : Int32)), (.int (0 : Int32))] (.int (0 : Int32)) := Arv.set Ar8 q8 S8 M8 H8 G8 (fits_byte_b bnd_u3 (by decide +kernel) (by decide +kernel)) W8' 2 rfl (Nat.le_of_ble_eq_true rfl)
 have O8 := O5.wr W8 g_o2
 have K8 : Keep h0 h8 ([o2] : List Addr) := Keep.wr K5 W8 (Or.inl (List.mem_of_getElem? (i := 0) rfl))
 have N8 := Fr.snoc X8 N5 g_o2
 show Home T8 (mkF m 32 #[.val (.ref o0), .val (.int (2 : Int32)), .val (.ref o2), .val (.int (2 : Int32)), .val (.int (5 : Int32)), .val (.int (2 : Int32)), .val (.int u3)] [])
 refine Home.run X8 hx hby sg6_32_6 (pc' := 7) (L' := #[.val (.ref o0), .val (.int (3 : Int32)), .val (.ref o2), .val (.int (3 : Int32)), .val (.int (5 : Int32)), .val (.int (3 : Int32)), .val (.int u3)]) (S' := [(.int (5 : Int32)), (.int (3 : Int32))]) rfl ?_
 refine Home.go (fun _ => XS.icmpNo X8.here hx rfl (hb hby d6_7) rfl (tlt (by decide)).2.1) ?_
 refine Home.run X8 hx hby sg6_10_2 (pc' := 12) (L' := #[.val (.ref o0), .val (.int (3 : Int32)), .val (.ref o2), .val (.int (3 : Int32)), .val (.int (5 : Int32)), .val (.int (3 : Int32)), .val (.int u3)]) (S' := [(.int (3 : Int32)), (.ref o0)]) rfl ?_
 have q9 := (q6.other W8 ne_o0_o2)
 obtain ⟨cl10, Ar10, q10, S10, M10, H10, G10⟩ := id q9
 have ib10 : ¬ ((3 : Int32) < 0 ∨ cl10.slots.size ≤ ((3 : Int32)).toNatClampNeg) := inb_of S10 ⟨by decide, by decide⟩
 refine Home.go (X8.caload hx (j := (3 : Int32)) (v := (.int u4)) (by rw [e8]; exact Ar10.1) (State.isArrayOf_alike hZ.alike Ar10.2.1) Ar10.2.2 ib10 (Has.at H10 ib10 rfl) rfl rfl (hb hby d6_12)) ?_
 refine Home.run X8 hx hby sg6_13_3 (pc' := 20) (L' := #[.val (.ref o0), .val (.int (3 : Int32)), .val (.ref o2), .val (.int (3 : Int32)), .val (.int (5 : Int32)), .val (.int (3 : Int32)), .val (.int u4)]) (S' := [(.int (255 : Int32)), (.int u4)]) rfl ?_
 refine Home.go (fun _ => XS.icmpYes X8.here hx rfl (pc0 := 20) (pc' := 26) rfl (hb hby d6_20) rfl (flt (bnd_nlt (bnd_lit (255 : Int32)) bnd_u4 (by decide +kernel))).2.2.2 (by decide) (by decide)) ?_
 refine Home.run X8 hx hby sg6_26_4 (pc' := 31) (L' := #[.val (.ref o0), .val (.int (3 : Int32)), .val (.ref o2), .val (.int (3 : Int32)), .val (.int (5 : Int32)), .val (.int (3 : Int32)), .val (.int u4)]) (S' := [(.int (u4.toInt8.toInt32)), (.int (3 : Int32)), (.ref o2)]) rfl ?_
 rw [i2b_id bnd_u4 (by decide +kernel) (by decide +kernel)]
 obtain ⟨cl11, Ar11, q11, S11, M11, H11, G11⟩ := id V8
 refine Home.wr (stB X8 hx hZ e8 Ar11 (j := (3 : Int32)) (inb_of S11 ⟨by decide, by decide⟩) rfl rfl (hb hby d6_31)) fun T11 h11 X11 e11 W11 => ?_
 have W11' := Wr.to W11 (congrArg Value.int (nar_byte_id bnd_u4 (by decide +kernel) (by decide +kernel)))
 have V11 : Arv Z h11 o2 k_o2 .byte (5 : Int32) [(.int u1), (.int u2), (.int u3), (.int u4), (.int (0 : Int32))] (.int (0 : Int32)) := Arv.set Ar11 q11 S11 M11 H11 G11 (fits_byte_b bnd_u4 (by decide +kernel) (by decide +kernel)) W11' 3 rfl (Nat.le_of_ble_eq_true rfl)
 have O11 := O8.wr W11 g_o2
 have K11 : Keep h0 h11 ([o2] : List Addr) := Keep.wr K8 W11 (Or.inl (List.mem_of_getElem? (i := 0) rfl))
 have N11 := Fr.snoc X11 N8 g_o2
 show Home T11 (mkF m 32 #[.val (.ref o0), .val (.int (3 : Int32)), .val (.ref o2), .val (.int (3 : Int32)), .val (.int (5 : Int32)), .val (.int (3 : Int32)), .val (.int u4)] [])
 refine Home.run X11 hx hby sg6_32_6 (pc' := 7) (L' := #[.val (.ref o0), .val (.int (4 : Int32)), .val (.ref o2), .val (.int (4 : Int32)), .val (.int (5 : Int32)), .val (.int (4 : Int32)), .val (.int u4)]) (S' := [(.int (5 : Int32)), (.int (4 : Int32))]) rfl ?_
 refine Home.go (fun _ => XS.icmpNo X11.here hx rfl (hb hby d6_7) rfl (tlt (by decide)).2.1) ?_
 refine Home.run X11 hx hby sg6_10_2 (pc' := 12) (L' := #[.val (.ref o0), .val (.int (4 : Int32)), .val (.ref o2), .val (.int (4 : Int32)), .val (.int (5 : Int32)), .val (.int (4 : Int32)), .val (.int u4)]) (S' := [(.int (4 : Int32)), (.ref o0)]) rfl ?_
 have q12 := (q9.other W11 ne_o0_o2)
 obtain ⟨cl13, Ar13, q13, S13, M13, H13, G13⟩ := id q12
 have ib13 : ¬ ((4 : Int32) < 0 ∨ cl13.slots.size ≤ ((4 : Int32)).toNatClampNeg) := inb_of S13 ⟨by decide, by decide⟩
 refine Home.go (X11.caload hx (j := (4 : Int32)) (v := (.int u5)) (by rw [e11]; exact Ar13.1) (State.isArrayOf_alike hZ.alike Ar13.2.1) Ar13.2.2 ib13 (Has.at H13 ib13 rfl) rfl rfl (hb hby d6_12)) ?_
 refine Home.run X11 hx hby sg6_13_3 (pc' := 20) (L' := #[.val (.ref o0), .val (.int (4 : Int32)), .val (.ref o2), .val (.int (4 : Int32)), .val (.int (5 : Int32)), .val (.int (4 : Int32)), .val (.int u5)]) (S' := [(.int (255 : Int32)), (.int u5)]) rfl ?_
 refine Home.go (fun _ => XS.icmpYes X11.here hx rfl (pc0 := 20) (pc' := 26) rfl (hb hby d6_20) rfl (flt (bnd_nlt (bnd_lit (255 : Int32)) bnd_u5 (by decide +kernel))).2.2.2 (by decide) (by decide)) ?_
 refine Home.run X11 hx hby sg6_26_4 (pc' := 31) (L' := #[.val (.ref o0), .val (.int (4 : Int32)), .val (.ref o2), .val (.int (4 : Int32)), .val (.int (5 : Int32)), .val (.int (4 : Int32)), .val (.int u5)]) (S' := [(.int (u5.toInt8.toInt32)), (.int (4 : Int32)), (.ref o2)]) rfl ?_
 rw [i2b_id bnd_u5 (by decide +kernel) (by decide +kernel)]
 obtain ⟨cl14, Ar14, q14, S14, M14, H14, G14⟩ := id V11
 refine Home.wr (stB X11 hx hZ e11 Ar14 (j := (4 : Int32)) (inb_of S14 ⟨by decide, by decide⟩) rfl rfl (hb hby d6_31)) fun T14 h14 X14 e14 W14 => ?_
 have W14' := Wr.to W14 (congrArg Value.int (nar_byte_id bnd_u5 (by decide +kernel) (by decide +kernel)))
 have V14 : Arv Z h14 o2 k_o2 .byte (5 : Int32) [(.int u1), (.int u2), (.int u3), (.int u4), (.int u5)] (.int (0 : Int32)) := Arv.set Ar14 q14 S14 M14 H14 G14 (fits_byte_b bnd_u5 (by decide +kernel) (by decide +kernel)) W14' 4 rfl (Nat.le_of_ble_eq_true rfl)
 have O14 := O11.wr W14 g_o2
 have K14 : Keep h0 h14 ([o2] : List Addr) := Keep.wr K11 W14 (Or.inl (List.mem_of_getElem? (i := 0) rfl))
 have N14 := Fr.snoc X14 N11 g_o2
 show Home T14 (mkF m 32 #[.val (.ref o0), .val (.int (4 : Int32)), .val (.ref o2), .val (.int (4 : Int32)), .val (.int (5 : Int32)), .val (.int (4 : Int32)), .val (.int u5)] [])
 refine Home.run X14 hx hby sg6_32_6 (pc' := 7) (L' := #[.val (.ref o0), .val (.int (5 : Int32)), .val (.ref o2), .val (.int (5 : Int32)), .val (.int (5 : Int32)), .val (.int (5 : Int32)), .val (.int u5)]) (S' := [(.int (5 : Int32)), (.int (5 : Int32))]) rfl ?_
 refine Home.go (fun _ => XS.icmpYes X14.here hx rfl (pc0 := 7) (pc' := 44) rfl (hb hby d6_7) rfl (flt (by decide)).2.1 (by decide) (by decide)) ?_
 refine Home.run X14 hx hby sg6_44_1 (pc' := 46) (L' := #[.val (.ref o0), .val (.int (5 : Int32)), .val (.ref o2), .val (.int (5 : Int32)), .val (.int (5 : Int32)), .val (.int (5 : Int32)), .val (.int u5)]) (S' := [(.int (5 : Int32))]) rfl ?_
 exact Home.retI X14 hx hlk hret (hb hby d6_46) (by rw [show T14.heap = h14 from e14]; exact ⟨rfl, N14, K14, V14⟩) (by decide) (by decide)
theorem rm5_2 (l : Launch) (Z : State) (a0 : Array Value) (hw : HW a0 Z) (ws : List Jvm.Cond) (o0 : Addr) (k_o0 : ClassId) (u1 u2 u3 u4 u5 : Int32) (h0 : Heap) (n0 : Nat) (O0 : Old Z n0 h0) (V_o0 : Arv Z h0 o0 k_o0 .char (5 : Int32) [(.int u1), (.int u2), (.int u3), (.int u4), (.int u5)] (.int (0 : Int32))) (bnd_u1 : ¬ u1 < (50 : Int32) ∧ ¬ (122 : Int32) < u1) (bnd_u2 : ¬ u2 < (50 : Int32) ∧ ¬ (122 : Int32) < u2) (bnd_u3 : ¬ u3 < (50 : Int32) ∧ ¬ (122 : Int32) < u3) (bnd_u4 : ¬ u4 < (50 : Int32) ∧ ¬ (122 : Int32) < u4) (bnd_u5 : ¬ u5 < (50 : Int32) ∧ ¬ (122 : Int32) < u5) :
    Con l Z (⟨"java/lang/StringUTF16", "compress", "([CII)[B"⟩ : MethodName) jdk_52_method_16_code 6 (some (.array .byte)) ws ({ frames := 1, cells := 1, slots := 5, locals := 18 } : Room) #[(.ref o0), (.int (0 : Int32)), (.int (5 : Int32))] h0 (fun v h L => ∃ (b1 : Addr), ∃ (k1 : ClassId), v = some (.ref b1) ∧ Fr n0 L ∧ h0.size ≤ b1 ∧ Keep h0 h [] ∧ Arv Z h b1 k1 .byte (5 : Int32) [(.int u1), (.int u2), (.int u3), (.int u4), (.int u5)] (.int (0 : Int32))) := by
 refine own_body (plainFor_of_name own_pn3) (fun m => ef_rm5_2 m o0 (0 : Int32) (5 : Int32)) ?_
 intro p e s m below meth c s₁ hx hby hlk hml hret hZ hown hnm X0 e0
 have N0 := Fr.nil n0
 refine Home.run X0 hx hby sg5_0_1 (pc' := 1) (L' := #[.val (.ref o0), .val (.int (0 : Int32)), .val (.int (5 : Int32)), .unset, .unset, .unset]) (S' := [(.int (5 : Int32))]) rfl ?_
 refine Home.na (own_newP (aty := .byte) X0 hx hZ (own_w26 hw) e0 (g := (mkF m 1 #[.val (.ref o0), .val (.int (0 : Int32)), .val (.int (5 : Int32)), .unset, .unset, .unset] [(.int (5 : Int32))])) rfl (hb hby d5_1) rfl (by decide) (cap := 5) (by decide) (by decide) (by decide) (by decide)) fun T1 h1 k1 b1 g1 X1 e1 E1 A1 => ?_
 have g_b1 : n0 ≤ b1 := Nat.le_trans (Old.le O0) (Nat.le_of_eq g1.symm)
 have V1 : Arv Z h1 b1 k1 .byte (5 : Int32) [(.int (0 : Int32)), (.int (0 : Int32)), (.int (0 : Int32)), (.int (0 : Int32)), (.int (0 : Int32))] (.int (0 : Int32)) := (Arv.new A1 (by decide)).pad (pad_rep [] (.int (0 : Int32)) 5)
 have O1 := O0.ext E1
 have K1 : Keep h0 h1 ([] : List Addr) := Keep.ext (Keep.refl h0 ([] : List Addr)) E1
 refine Home.run X1 hx hby sg5_3_6 (pc' := 9) (L' := #[.val (.ref o0), .val (.int (0 : Int32)), .val (.int (5 : Int32)), .val (.ref b1), .unset, .unset]) (S' := [(.int (5 : Int32)), (.int (0 : Int32)), (.ref b1), (.int (0 : Int32)), (.ref o0)]) rfl ?_
 have ne2 : o0 ≠ b1 := (Nat.ne_of_lt (Nat.lt_of_lt_of_le V_o0.lt (Nat.le_trans (Nat.le_refl _) (Nat.le_of_eq g1.symm))))
 refine Home.call (own_static X1 hx hZ hown (own_w27 hw) (own_w28 hw) (own_w24 hw) (own_w29 hw) (by decide) (rm6_2 l Z a0 hw [] o0 b1 k_o0 u1 u2 u3 u4 u5 k1 h1 n0 O1 (V_o0.keep K1 nin0) bnd_u1 V1 g_b1 ne2 bnd_u2 bnd_u3 bnd_u4 bnd_u5) e1 rfl (by rw [hml]; rfl) (argsL := [(.ref o0), (.int (0 : Int32)), (.ref b1), (.int (0 : Int32)), (.int (5 : Int32))]) (rest := []) (lenOf own_pd7 rfl) rfl rfl (W := 0) (by exact hW0) (by decide) (by decide) (hb hby d5_9) (by decide) (by decide)) ?_
 rintro _ T3 L3 X3 ⟨rfl, N3q, K3q, P3_0⟩
 have O3 := Old.keep O1 K3q (allS g_b1 all0)
 have K3 : Keep h0 T3.heap ([] : List Addr) := Keep.trans K1 K3q (allS (Or.inr (Nat.le_trans (Nat.le_refl _) (Nat.le_of_eq g1.symm))) all0)
 have N3 := Fr.app N0 N3q
 refine Home.run X3 hx hby sg5_12_3 (pc' := 17) (L' := #[.val (.ref o0), .val (.int (0 : Int32)), .val (.int (5 : Int32)), .val (.ref b1), .val (.int (5 : Int32)), .unset]) (S' := [(.int (5 : Int32)), (.int (5 : Int32))]) rfl ?_
 refine Home.go (fun _ => XS.icmpYes X3.here hx rfl (pc0 := 17) (pc' := 57) rfl (hb hby d5_17) rfl (teq (by decide)).1 (by decide) (by decide)) ?_
 refine Home.run X3 hx hby sg5_57_1 (pc' := 58) (L' := #[.val (.ref o0), .val (.int (0 : Int32)), .val (.int (5 : Int32)), .val (.ref b1), .val (.int (5 : Int32)), .unset]) (S' := [(.ref b1)]) rfl ?_
 exact Home.retR X3 hx hlk hret rfl rfl (hb hby d5_58) ⟨b1, k1, rfl, N3, (Nat.le_trans (Nat.le_refl _) (Nat.le_of_eq g1.symm)), K3, P3_0⟩ (by decide) (by decide)
theorem rm7_2 (l : Launch) (Z : State) (a0 : Array Value) (hw : HW a0 Z) (ws : List Jvm.Cond) (o0 : Addr) (k_o0 : ClassId) (u1 u2 u3 u4 u5 : Int32) (h0 : Heap) (n0 : Nat) (O0 : Old Z n0 h0) (V_o0 : Arv Z h0 o0 k_o0 .byte (5 : Int32) [(.int u1), (.int u2), (.int u3), (.int u4), (.int u5)] (.int (0 : Int32))) :
    Con l Z (⟨"java/lang/StringUTF16", "coderFromArrayLen", "([BI)B"⟩ : MethodName) jdk_52_method_15_code 2 (some .byte) ws ({ frames := 0, cells := 0, slots := 0, locals := 0 } : Room) #[(.ref o0), (.int (5 : Int32))] h0 (Pur (some (.int (0 : Int32))) h0) := by
 refine own_body (plainFor_of_name own_pn3) (fun m => ef_rm7_2 m o0 (5 : Int32)) ?_
 intro p e s m below meth c s₁ hx hby hlk hml hret hZ hown hnm X0 e0
 have N0 := Fr.nil n0
 refine Home.run X0 hx hby sg7_0_2 (pc' := 2) (L' := #[.val (.ref o0), .val (.int (5 : Int32))]) (S' := [(.ref o0), (.int (5 : Int32))]) rfl ?_
 obtain ⟨cl1, Ar1, q1, S1, M1, H1, G1⟩ := id V_o0
 refine Home.go (own_alen X0 hx hZ e0 Ar1 S1 M1 rfl rfl (hb hby d7_2)) ?_
 refine Home.run X0 hx hby sg7_3_4 (pc' := 8) (L' := #[.val (.ref o0), .val (.int (5 : Int32))]) (S' := [(.int (0 : Int32))]) rfl ?_
 exact Home.retN X0 hx hlk (t := .byte) hret (by simp) (hb hby d7_8) ⟨congrArg some (congrArg Value.int (by first | rfl | exact nar_i2c _ | exact nar_i2b _)), rfl, e0⟩ (by decide) (by decide)
theorem rm3_3 (l : Launch) (Z : State) (a0 : Array Value) (hw : HW a0 Z) (ws : List Jvm.Cond) (o0 o1 : Addr) (sv_COMPACT_STRINGS : Int32) (k_o1 : ClassId) (u1 u2 u3 u4 u5 : Int32) (h0 : Heap) (n0 : Nat) (O0 : Old Z n0 h0) (S_COMPACT_STRINGS : Sta Z Z.heap "java/lang/String" "COMPACT_STRINGS" "Z" (.int sv_COMPACT_STRINGS)) (hCS : ¬ (sv_COMPACT_STRINGS = (0 : Int32))) (V_o1 : Arv Z h0 o1 k_o1 .char (5 : Int32) [(.int u1), (.int u2), (.int u3), (.int u4), (.int u5)] (.int (0 : Int32))) (bnd_u1 : ¬ u1 < (50 : Int32) ∧ ¬ (122 : Int32) < u1) (bnd_u2 : ¬ u2 < (50 : Int32) ∧ ¬ (122 : Int32) < u2) (bnd_u3 : ¬ u3 < (50 : Int32) ∧ ¬ (122 : Int32) < u3) (bnd_u4 : ¬ u4 < (50 : Int32) ∧ ¬ (122 : Int32) < u4) (bnd_u5 : ¬ u5 < (50 : Int32) ∧ ¬ (122 : Int32) < u5) (E_o0 : Exa Z h0 o0 "java/lang/String") (F_coder_o0 : Fld Z h0 o0 "java/lang/String" "coder" "B" (.int (0 : Int32))) (g_o0 : n0 ≤ o0) (F_value_o0 : Fld Z h0 o0 "java/lang/String" "value" "[B" .null) :
    Con l Z (⟨"java/lang/String", "<init>", "([CIILjava/lang/Void;)V"⟩ : MethodName) jdk_42_method_149_code 6 none ws ({ frames := 2, cells := 1, slots := 5, locals := 35 } : Room) #[(.ref o0), (.ref o1), (.int (0 : Int32)), (.int (5 : Int32)), .null] h0 (fun v h L => ∃ (b1_3 : Addr), ∃ (k1_3 : ClassId), v = none ∧ Fr n0 L ∧ h0.size ≤ b1_3 ∧ Keep h0 h [o0] ∧ Exa Z h o0 "java/lang/String" ∧ Fld Z h o0 "java/lang/String" "coder" "B" (.int (0 : Int32)) ∧ Fld Z h o0 "java/lang/String" "value" "[B" (.ref b1_3) ∧ Arv Z h b1_3 k1_3 .byte (5 : Int32) [(.int u1), (.int u2), (.int u3), (.int u4), (.int u5)] (.int (0 : Int32))) := by
 refine own_body (plainFor_of_name own_pn1) (fun m => ef_rm3_3 m o0 o1 (0 : Int32) (5 : Int32)) ?_
 intro p e s m below meth c s₁ hx hby hlk hml hret hZ hown hnm X0 e0
 have N0 := Fr.nil n0
 refine Home.run X0 hx hby sg3_0_1 (pc' := 1) (L' := #[.val (.ref o0), .val (.ref o1), .val (.int (0 : Int32)), .val (.int (5 : Int32)), .val .null, .unset]) (S' := [(.ref o0)]) rfl ?_
 refine Home.st (initO X0 hx hZ hown (own_w18 hw) (own_w19 hw) (own_w20 hw) e0 rfl (by rw [hml]; rfl) rfl (hb hby d3_1) (by decide) (W := 0) (by exact hW0) (by decide)) fun T1 X1 e1 => ?_
 refine Home.run X1 hx hby sg3_4_1 (pc' := 5) (L' := #[.val (.ref o0), .val (.ref o1), .val (.int (0 : Int32)), .val (.int (5 : Int32)), .val .null, .unset]) (S' := [(.int (5 : Int32))]) rfl ?_
 refine Home.go (fun _ => XS.ifYes X1.here hx rfl (pc0 := 5) (pc' := 27) rfl (hb hby d3_5) rfl ((if0 _ _).trans (feq (by decide)).2) (by decide) (by decide)) ?_
 refine Home.st (getS2 X1 hx hZ hown (host := "") (Or.inl (own_w21 hw)) Via.refl e1 (S_COMPACT_STRINGS.ext O0.2) rfl (hb hby d3_27)) fun T2 X2 e2 => ?_
 refine Home.go (fun _ => XS.ifNo X2.here hx rfl (hb hby d3_30) rfl ((if0 _ _).trans (feq hCS).1)) ?_
 refine Home.run X2 hx hby sg3_33_3 (pc' := 36) (L' := #[.val (.ref o0), .val (.ref o1), .val (.int (0 : Int32)), .val (.int (5 : Int32)), .val .null, .unset]) (S' := [(.int (5 : Int32)), (.int (0 : Int32)), (.ref o1)]) rfl ?_
 refine Home.call (own_static X2 hx hZ hown (own_w22 hw) (own_w23 hw) (own_w24 hw) (own_w25 hw) (by decide) (rm5_2 l Z a0 hw [] o1 k_o1 u1 u2 u3 u4 u5 h0 n0 O0 V_o1 bnd_u1 bnd_u2 bnd_u3 bnd_u4 bnd_u5) e2 rfl (by rw [hml]; rfl) (argsL := [(.ref o1), (.int (0 : Int32)), (.int (5 : Int32))]) (rest := []) (lenOf own_pd8 rfl) rfl rfl (W := 0) (by exact hW0) (by decide) (by decide) (hb hby d3_36) (by decide) (by decide)) ?_
 rintro _ T3 L3 X3 ⟨b1_3, k1_3, rfl, N3q, sz_b1_3, K3q, P3_0⟩
 have g_b1_3 : n0 ≤ b1_3 := Nat.le_trans (Old.le O0) sz_b1_3
 have O3 := Old.keep O0 K3q all0
 have K3 : Keep h0 T3.heap ([o0] : List Addr) := Keep.trans (Keep.refl h0 ([o0] : List Addr)) K3q all0
 have N3 := Fr.app N0 N3q
 refine Home.run X3 hx hby sg3_39_4 (pc' := 45) (L' := #[.val (.ref o0), .val (.ref o1), .val (.int (0 : Int32)), .val (.int (5 : Int32)), .val .null, .val (.ref b1_3)]) (S' := [(.int (5 : Int32)), (.ref b1_3), (.ref o0)]) rfl ?_
 refine Home.st (own_pure (own_static X3 hx hZ hown (own_w30 hw) (own_w31 hw) (own_w24 hw) (own_w32 hw) (by decide) (rm7_2 l Z a0 hw [] b1_3 k1_3 u1 u2 u3 u4 u5 T3.heap n0 O3 P3_0) rfl rfl (by rw [hml]; rfl) (argsL := [(.ref b1_3), (.int (5 : Int32))]) (rest := [(.ref o0)]) (lenOf own_pd9 rfl) rfl rfl (W := 1) (by exact hW0) (by decide) (by decide) (hb hby d3_45) (by decide) (by decide))) fun T4 X4 e4 => ?_
 show Home T4 (mkF m 48 #[.val (.ref o0), .val (.ref o1), .val (.int (0 : Int32)), .val (.int (5 : Int32)), .val .null, .val (.ref b1_3)] [(.int (0 : Int32)), (.ref o0)])
 have q5 := (F_coder_o0.keep K3q nin0)
 refine Home.wr (putFN X4 hx hZ hown (own_w33 hw) Via.refl e4 q5 (E_o0.keep K3) (Or.inr ⟨(own_w34 hw), rfl, hnm⟩) (own_w9 hw) (ty := .byte) (v := (.int (0 : Int32))) (v' := (.int (0 : Int32))) (by decide) rfl rfl rfl rfl (hb hby d3_48)) fun T6 h6 X6 e6 W6 => ?_
 have Fw6 := q5.same W6
 have O6 := O3.wr W6 g_o0
 have K6 : Keep h0 h6 ([o0] : List Addr) := Keep.wr K3 W6 (Or.inl (List.mem_of_getElem? (i := 0) rfl))
 have N6 := Fr.snoc X6 N3 g_o0
 refine Home.run X6 hx hby sg3_51_2 (pc' := 54) (L' := #[.val (.ref o0), .val (.ref o1), .val (.int (0 : Int32)), .val (.int (5 : Int32)), .val .null, .val (.ref b1_3)]) (S' := [(.ref b1_3), (.ref o0)]) rfl ?_
 have q7 := ((F_value_o0.keep K3q nin0).other W6 (Or.inr (slot_ne (Or.inr (own_w36 hw)) (Or.inr (own_w34 hw)) (by decide) (t := (.array .byte)) (t' := .byte) (by decide) (by decide))))
 refine Home.wr (putF X6 hx hZ hown (host := "") (Or.inl (own_w35 hw)) Via.refl e6 q7 (E_o0.keep K6) (Or.inr ⟨(own_w36 hw), rfl, hnm⟩) (own_w9 hw) (ty := (.array .byte)) (by decide) rfl rfl rfl rfl (hb hby d3_54)) fun T8 h8 X8 e8 W8 => ?_
 have Fw8 := q7.same W8
 have O8 := O6.wr W8 g_o0
 have K8 : Keep h0 h8 ([o0] : List Addr) := Keep.wr K6 W8 (Or.inl (List.mem_of_getElem? (i := 0) rfl))
 have N8 := Fr.snoc X8 N6 g_o0
 have q9 := (Fw6.other W8 (Or.inr (slot_ne (Or.inr (own_w34 hw)) (Or.inr (own_w36 hw)) (by decide) (t := .byte) (t' := (.array .byte)) (by decide) (by decide))))
 have ne10 : b1_3 ≠ o0 := (Ne.symm (Nat.ne_of_lt (Nat.lt_of_lt_of_le E_o0.lt (Nat.le_trans (Nat.le_refl _) sz_b1_3))))
 have q11 := ((P3_0.other W6 ne10).other W8 ne10)
 exact Home.ret0 X8 hx hlk hret (hb hby d3_57) (by rw [show T8.heap = h8 from e8]; exact ⟨b1_3, k1_3, rfl, N8, (Nat.le_trans (Nat.le_refl _) sz_b1_3), K8, (E_o0.keep K8), q9, Fw8, q11⟩) (by decide) (by decide)
theorem rm2_3 (l : Launch) (Z : State) (a0 : Array Value) (hw : HW a0 Z) (ws : List Jvm.Cond) (o0 o1 : Addr) (k_o1 : ClassId) (u1 u2 u3 u4 u5 sv_COMPACT_STRINGS : Int32) (h0 : Heap) (n0 : Nat) (O0 : Old Z n0 h0) (V_o1 : Arv Z h0 o1 k_o1 .char (5 : Int32) [(.int u1), (.int u2), (.int u3), (.int u4), (.int u5)] (.int (0 : Int32))) (S_COMPACT_STRINGS : Sta Z Z.heap "java/lang/String" "COMPACT_STRINGS" "Z" (.int sv_COMPACT_STRINGS)) (E_o0 : Exa Z h0 o0 "java/lang/String") (F_coder_o0 : Fld Z h0 o0 "java/lang/String" "coder" "B" (.int (0 : Int32))) (F_value_o0 : Fld Z h0 o0 "java/lang/String" "value" "[B" .null) (bnd_u1 : ¬ u1 < (50 : Int32) ∧ ¬ (122 : Int32) < u1) (bnd_u2 : ¬ u2 < (50 : Int32) ∧ ¬ (122 : Int32) < u2) (bnd_u3 : ¬ u3 < (50 : Int32) ∧ ¬ (122 : Int32) < u3) (bnd_u4 : ¬ u4 < (50 : Int32) ∧ ¬ (122 : Int32) < u4) (bnd_u5 : ¬ u5 < (50 : Int32) ∧ ¬ (122 : Int32) < u5) (g_o0 : n0 ≤ o0) (hCS : ¬ (sv_COMPACT_STRINGS = (0 : Int32))) :
    Con l Z (⟨"java/lang/String", "<init>", "([C)V"⟩ : MethodName) jdk_42_method_3_code 2 none ws ({ frames := 3, cells := 1, slots := 5, locals := 52 } : Room) #[(.ref o0), (.ref o1)] h0 (fun v h L => ∃ (b1_3_2 : Addr), ∃ (k1_3_2 : ClassId), v = none ∧ Fr n0 L ∧ h0.size ≤ b1_3_2 ∧ Keep h0 h [o0] ∧ Exa Z h o0 "java/lang/String" ∧ Fld Z h o0 "java/lang/String" "coder" "B" (.int (0 : Int32)) ∧ Fld Z h o0 "java/lang/String" "value" "[B" (.ref b1_3_2) ∧ Arv Z h b1_3_2 k1_3_2 .byte (5 : Int32) [(.int u1), (.int u2), (.int u3), (.int u4), (.int u5)] (.int (0 : Int32))) := by
 refine own_body (plainFor_of_name own_pn1) (fun m => ef_rm2_3 m o0 o1) ?_
 intro p e s m below meth c s₁ hx hby hlk hml hret hZ hown hnm X0 e0
 have N0 := Fr.nil n0
 refine Home.run X0 hx hby sg2_0_4 (pc' := 4) (L' := #[.val (.ref o0), .val (.ref o1)]) (S' := [(.ref o1), (.int (0 : Int32)), (.ref o1), (.ref o0)]) rfl ?_
 obtain ⟨cl1, Ar1, q1, S1, M1, H1, G1⟩ := id V_o1
 refine Home.go (own_alen X0 hx hZ e0 Ar1 S1 M1 rfl rfl (hb hby d2_4)) ?_
 refine Home.run X0 hx hby sg2_5_1 (pc' := 6) (L' := #[.val (.ref o0), .val (.ref o1)]) (S' := [.null, (.int (5 : Int32)), (.int (0 : Int32)), (.ref o1), (.ref o0)]) rfl ?_
 refine Home.call (own_special X0 hx hZ hown rfl (own_w14 hw) (own_w15 hw) (own_w10 hw) (own_w17 hw) (by decide) (rm3_3 l Z a0 hw [] o0 o1 sv_COMPACT_STRINGS k_o1 u1 u2 u3 u4 u5 h0 n0 O0 S_COMPACT_STRINGS hCS V_o1 bnd_u1 bnd_u2 bnd_u3 bnd_u4 bnd_u5 E_o0 F_coder_o0 g_o0 F_value_o0) e0 rfl (by rw [hml]; rfl) (a := o0) (argsL := [(.ref o1), (.int (0 : Int32)), (.int (5 : Int32)), .null]) (rest := []) (lenOf own_pd1 rfl) rfl rfl (W := 0) (by exact hW0) (by decide) (by decide) (hb hby d2_6) (by decide) (by decide)) ?_
 rintro _ T2 L2 X2 ⟨b1_3_2, k1_3_2, rfl, N2q, sz_b1_3_2, K2q, P2_0, P2_1, P2_2, P2_3⟩
 have g_b1_3_2 : n0 ≤ b1_3_2 := Nat.le_trans (Old.le O0) sz_b1_3_2
 have O2 := Old.keep O0 K2q (allS g_o0 all0)
 have K2 : Keep h0 T2.heap ([o0] : List Addr) := Keep.trans (Keep.refl h0 ([o0] : List Addr)) K2q (allS (Or.inl (List.mem_of_getElem? (i := 0) rfl)) all0)
 have N2 := Fr.app N0 N2q
 exact Home.ret0 X2 hx hlk hret (hb hby d2_9) ⟨b1_3_2, k1_3_2, rfl, N2, (Nat.le_trans (Nat.le_refl _) sz_b1_3_2), K2, P2_0, P2_1, P2_2, P2_3⟩ (by decide) (by decide)
theorem rm9_4 (l : Launch) (Z : State) (a0 : Array Value) (hw : HW a0 Z) (ws : List Jvm.Cond) (o0 p2 : Addr) (k_p2 : ClassId) (u1 u2 u3 u4 u5 sv_COMPACT_STRINGS : Int32) (h0 : Heap) (n0 : Nat) (O0 : Old Z n0 h0) (F_value_o0 : Fld Z h0 o0 "java/lang/String" "value" "[B" (.ref p2)) (V_p2 : Arv Z h0 p2 k_p2 .byte (5 : Int32) [(.int u1), (.int u2), (.int u3), (.int u4), (.int u5)] (.int (0 : Int32))) (E_o0 : Exa Z h0 o0 "java/lang/String") (S_COMPACT_STRINGS : Sta Z Z.heap "java/lang/String" "COMPACT_STRINGS" "Z" (.int sv_COMPACT_STRINGS)) (F_coder_o0 : Fld Z h0 o0 "java/lang/String" "coder" "B" (.int (0 : Int32))) (hCS : ¬ (sv_COMPACT_STRINGS = (0 : Int32))) :
    Con l Z (⟨"java/lang/String", "length", "()I"⟩ : MethodName) jdk_42_method_54_code 1 (some .int) ws ({ frames := 1, cells := 0, slots := 0, locals := 13 } : Room) #[(.ref o0)] h0 (Pur (some (.int (5 : Int32))) h0) := by
 refine own_body (plainFor_of_name own_pn1) (fun m => ef_rm9_4 m o0) ?_
 intro p e s m below meth c s₁ hx hby hlk hml hret hZ hown hnm X0 e0
 have N0 := Fr.nil n0
 refine Home.run X0 hx hby sg9_0_1 (pc' := 1) (L' := #[.val (.ref o0)]) (S' := [(.ref o0)]) rfl ?_
 refine Home.st (getF X0 hx hZ hown (host := "") (Or.inl (own_w35 hw)) Via.refl e0 F_value_o0 rfl rfl (hb hby d9_1)) fun T1 X1 e1 => ?_
 obtain ⟨cl2, Ar2, q2, S2, M2, H2, G2⟩ := id V_p2
 refine Home.go (own_alen X1 hx hZ e1 Ar2 S2 M2 rfl rfl (hb hby d9_4)) ?_
 refine Home.run X1 hx hby sg9_5_1 (pc' := 6) (L' := #[.val (.ref o0)]) (S' := [(.ref o0), (.int (5 : Int32))]) rfl ?_
 refine Home.st (own_pure (own_virtual X1 hx hZ hown (own_w46 hw) (own_w47 hw) (notFace_of_selects (args := #[]) (mvT hZ (own_w49 hw))) (own_w49 hw) (own_w48 hw) (own_w10 hw) (own_w50 hw) (by decide) (rm10_0 l Z a0 hw [] o0 sv_COMPACT_STRINGS h0 n0 O0 S_COMPACT_STRINGS hCS F_coder_o0) e1 E_o0 rfl (by rw [hml]; rfl) (argsL := []) (rest := [(.int (5 : Int32))]) (lenOf own_pd3 rfl) rfl rfl (W := 1) (by exact hW0) (by decide) (by decide) (hb hby d9_6) (by decide) (by decide))) fun T3 X3 e3 => ?_
 refine Home.run X3 hx hby sg9_9_1 (pc' := 10) (L' := #[.val (.ref o0)]) (S' := [(.int (5 : Int32))]) rfl ?_
 exact Home.retI X3 hx hlk hret (hb hby d9_10) ⟨rfl, rfl, e3⟩ (by decide) (by decide)
theorem rm15_2 (l : Launch) (Z : State) (a0 : Array Value) (hw : HW a0 Z) (ws : List Jvm.Cond) (i0 : Int32) (o2 : Value) (h0 : Heap) (n0 : Nat) (O0 : Old Z n0 h0) (bnd_i0 : ¬ i0 < (0 : Int32) ∧ ¬ (4 : Int32) < i0) (isr_o2 : o2.isRef = true) :
    Con l Z (⟨"jdk/internal/util/Preconditions", "checkIndex", "(IILjava/util/function/BiFunction;)I"⟩ : MethodName) jdk_41_method_11_code 3 (some .int) ws ({ frames := 0, cells := 0, slots := 0, locals := 0 } : Room) #[(.int i0), (.int (5 : Int32)), o2] h0 (Pur (some (.int i0)) h0) := by
 refine own_body (plainFor_of_name own_pn4) (fun m => ef_rm15_2 m i0 (5 : Int32) o2 (isr_o2)) ?_
 intro p e s m below meth c s₁ hx hby hlk hml hret hZ hown hnm X0 e0
 have N0 := Fr.nil n0
 refine Home.run X0 hx hby sg15_0_1 (pc' := 1) (L' := #[.val (.int i0), .val (.int (5 : Int32)), .val o2]) (S' := [(.int i0)]) rfl ?_
 refine Home.go (fun _ => XS.ifNo X0.here hx rfl (hb hby d15_1) rfl ((if0 _ _).trans (flt (bnd_nlt bnd_i0 (bnd_lit (0 : Int32)) (by decide +kernel))).1)) ?_
 refine Home.run X0 hx hby sg15_4_2 (pc' := 6) (L' := #[.val (.int i0), .val (.int (5 : Int32)), .val o2]) (S' := [(.int (5 : Int32)), (.int i0)]) rfl ?_
 refine Home.go (fun _ => XS.icmpYes X0.here hx rfl (pc0 := 6) (pc' := 16) rfl (hb hby d15_6) rfl (tlt (bnd_lt bnd_i0 (bnd_lit (5 : Int32)) (by decide +kernel))).1 (by decide) (by decide)) ?_
 refine Home.run X0 hx hby sg15_16_1 (pc' := 17) (L' := #[.val (.int i0), .val (.int (5 : Int32)), .val o2]) (S' := [(.int i0)]) rfl ?_
 exact Home.retI X0 hx hlk hret (hb hby d15_17) ⟨rfl, rfl, e0⟩ (by decide) (by decide)
theorem rm14_2 (l : Launch) (Z : State) (a0 : Array Value) (hw : HW a0 Z) (ws : List Jvm.Cond) (i0 : Int32) (sv_SIOOBE_FORMATTER : Value) (h0 : Heap) (n0 : Nat) (O0 : Old Z n0 h0) (bnd_i0 : ¬ i0 < (0 : Int32) ∧ ¬ (4 : Int32) < i0) (S_SIOOBE_FORMATTER : Sta Z Z.heap "jdk/internal/util/Preconditions" "SIOOBE_FORMATTER" "Ljava/util/function/BiFunction;" sv_SIOOBE_FORMATTER) (isr_sv_SIOOBE_FORMATTER : sv_SIOOBE_FORMATTER.isRef = true) :
    Con l Z (⟨"java/lang/String", "checkIndex", "(II)V"⟩ : MethodName) jdk_42_method_155_code 2 none ws ({ frames := 1, cells := 0, slots := 0, locals := 14 } : Room) #[(.int i0), (.int (5 : Int32))] h0 (Pur none h0) := by
 refine own_body (plainFor_of_name own_pn1) (fun m => ef_rm14_2 m i0 (5 : Int32)) ?_
 intro p e s m below meth c s₁ hx hby hlk hml hret hZ hown hnm X0 e0
 have N0 := Fr.nil n0
 refine Home.run X0 hx hby sg14_0_2 (pc' := 2) (L' := #[.val (.int i0), .val (.int (5 : Int32))]) (S' := [(.int (5 : Int32)), (.int i0)]) rfl ?_
 refine Home.st (getS2 X0 hx hZ hown (host := "") (Or.inl (own_w71 hw)) Via.refl e0 (S_SIOOBE_FORMATTER.ext O0.2) rfl (hb hby d14_2)) fun T1 X1 e1 => ?_
 refine Home.st (own_pure (own_static X1 hx hZ hown (own_w73 hw) (own_w74 hw) (own_w72 hw) (own_w75 hw) (by decide) (rm15_2 l Z a0 hw [] i0 sv_SIOOBE_FORMATTER h0 n0 O0 bnd_i0 isr_sv_SIOOBE_FORMATTER) e1 rfl (by rw [hml]; rfl) (argsL := [(.int i0), (.int (5 : Int32)), sv_SIOOBE_FORMATTER]) (rest := []) (lenOf own_pd11 rfl) rfl rfl (W := 0) (by exact hW0) (by decide) (by decide) (hb hby d14_5) (by decide) (by decide))) fun T2 X2 e2 => ?_
 refine Home.run X2 hx hby sg14_8_1 (pc' := 9) (L' := #[.val (.int i0), .val (.int (5 : Int32))]) (S' := []) rfl ?_
 exact Home.ret0 X2 hx hlk hret (hb hby d14_9) ⟨rfl, rfl, e2⟩ (by decide) (by decide)
theorem rm13_2 (l : Launch) (Z : State) (a0 : Array Value) (hw : HW a0 Z) (ws : List Jvm.Cond) (o0 : Addr) (i1 : Int32) (k_o0 : ClassId) (u1 u2 u3 u4 u5 : Int32) (sv_SIOOBE_FORMATTER : Value) (h0 : Heap) (n0 : Nat) (O0 : Old Z n0 h0) (bnd_i1 : ¬ i1 < (0 : Int32) ∧ ¬ (4 : Int32) < i1) (V_o0 : Arv Z h0 o0 k_o0 .byte (5 : Int32) [(.int u1), (.int u2), (.int u3), (.int u4), (.int u5)] (.int (0 : Int32))) (S_SIOOBE_FORMATTER : Sta Z Z.heap "jdk/internal/util/Preconditions" "SIOOBE_FORMATTER" "Ljava/util/function/BiFunction;" sv_SIOOBE_FORMATTER) (isr_sv_SIOOBE_FORMATTER : sv_SIOOBE_FORMATTER.isRef = true) (bnd_u1 : ¬ u1 < (50 : Int32) ∧ ¬ (122 : Int32) < u1) (bnd_u2 : ¬ u2 < (50 : Int32) ∧ ¬ (122 : Int32) < u2) (bnd_u3 : ¬ u3 < (50 : Int32) ∧ ¬ (122 : Int32) < u3) (bnd_u4 : ¬ u4 < (50 : Int32) ∧ ¬ (122 : Int32) < u4) (bnd_u5 : ¬ u5 < (50 : Int32) ∧ ¬ (122 : Int32) < u5) :
    Con l Z (⟨"java/lang/StringLatin1", "charAt", "([BI)C"⟩ : MethodName) jdk_43_method_2_code 2 (some .char) ws ({ frames := 2, cells := 0, slots := 0, locals := 27 } : Room) #[(.ref o0), (.int i1)] h0 (Pur (some (.int ((own_at [u1, u2, u3, u4, u5] i1) &&& (255 : Int32)))) h0) := by
 refine own_body (plainFor_of_name own_pn5) (fun m => ef_rm13_2 m o0 i1) ?_
 intro p e s m below meth c s₁ hx hby hlk hml hret hZ hown hnm X0 e0
 have N0 := Fr.nil n0
 refine Home.run X0 hx hby sg13_0_2 (pc' := 2) (L' := #[.val (.ref o0), .val (.int i1)]) (S' := [(.ref o0), (.int i1)]) rfl ?_
 obtain ⟨cl1, Ar1, q1, S1, M1, H1, G1⟩ := id V_o0
 refine Home.go (own_alen X0 hx hZ e0 Ar1 S1 M1 rfl rfl (hb hby d13_2)) ?_
 refine Home.st (own_pure (own_static X0 hx hZ hown (own_w68 hw) (own_w69 hw) (own_w10 hw) (own_w70 hw) (by decide) (rm14_2 l Z a0 hw [] i1 sv_SIOOBE_FORMATTER h0 n0 O0 bnd_i1 S_SIOOBE_FORMATTER isr_sv_SIOOBE_FORMATTER) e0 rfl (by rw [hml]; rfl) (argsL := [(.int i1), (.int (5 : Int32))]) (rest := []) (lenOf own_pd12 rfl) rfl rfl (W := 0) (by exact hW0) (by decide) (by decide) (hb hby d13_3) (by decide) (by decide))) fun T2 X2 e2 => ?_
 refine Home.run X2 hx hby sg13_6_2 (pc' := 8) (L' := #[.val (.ref o0), .val (.int i1)]) (S' := [(.int i1), (.ref o0)]) rfl ?_
 obtain ⟨cl3, Ar3, q3, S3, M3, H3, G3⟩ := id V_o0
 have ib3 : ¬ (i1 < 0 ∨ cl3.slots.size ≤ (i1).toNatClampNeg) := inb_of S3 ⟨(bnd_nlt bnd_i1 (bnd_lit (0 : Int32)) (by decide +kernel)), (bnd_lt bnd_i1 (bnd_lit (5 : Int32)) (by decide +kernel))⟩
 refine Home.go (X2.baloadBytes hx (j := i1) (v := .int (own_at [u1, u2, u3, u4, u5] i1)) (by rw [e2]; exact Ar3.1) (State.isArrayOf_alike hZ.alike Ar3.2.1) Ar3.2.2 ib3 (Has.at H3 ib3 (own_getD [u1, u2, u3, u4, u5] _)) rfl rfl (hb hby d13_8)) ?_
 refine Home.run X2 hx hby sg13_9_3 (pc' := 14) (L' := #[.val (.ref o0), .val (.int i1)]) (S' := [(.int (((own_at [u1, u2, u3, u4, u5] i1) &&& (255 : Int32)).toUInt32.toUInt16.toUInt32.toInt32))]) rfl ?_
 rw [i2c_id (bnd_and (own_at [u1, u2, u3, u4, u5] i1) (255 : Int32) (by decide)) (by decide +kernel) (by decide +kernel)]
 exact Home.retN X2 hx hlk (t := .char) hret (by simp) (hb hby d13_14) ⟨congrArg some (congrArg Value.int (by first | rfl | exact nar_i2c _ | exact nar_i2b _ | exact nar_char_id (bnd_and (own_at [u1, u2, u3, u4, u5] i1) (255 : Int32) (by decide)) (by decide +kernel) (by decide +kernel))), rfl, e2⟩ (by decide) (by decide)
theorem rm11_2 (l : Launch) (Z : State) (a0 : Array Value) (hw : HW a0 Z) (ws : List Jvm.Cond) (o0 : Addr) (i1 sv_COMPACT_STRINGS : Int32) (p2 : Addr) (k_p2 : ClassId) (u1 u2 u3 u4 u5 : Int32) (sv_SIOOBE_FORMATTER : Value) (h0 : Heap) (n0 : Nat) (O0 : Old Z n0 h0) (bnd_i1 : ¬ i1 < (0 : Int32) ∧ ¬ (4 : Int32) < i1) (E_o0 : Exa Z h0 o0 "java/lang/String") (S_COMPACT_STRINGS : Sta Z Z.heap "java/lang/String" "COMPACT_STRINGS" "Z" (.int sv_COMPACT_STRINGS)) (F_coder_o0 : Fld Z h0 o0 "java/lang/String" "coder" "B" (.int (0 : Int32))) (hCS : ¬ (sv_COMPACT_STRINGS = (0 : Int32))) (F_value_o0 : Fld Z h0 o0 "java/lang/String" "value" "[B" (.ref p2)) (V_p2 : Arv Z h0 p2 k_p2 .byte (5 : Int32) [(.int u1), (.int u2), (.int u3), (.int u4), (.int u5)] (.int (0 : Int32))) (S_SIOOBE_FORMATTER : Sta Z Z.heap "jdk/internal/util/Preconditions" "SIOOBE_FORMATTER" "Ljava/util/function/BiFunction;" sv_SIOOBE_FORMATTER) (bnd_u1 : ¬ u1 < (50 : Int32) ∧ ¬ (122 : Int32) < u1) (bnd_u2 : ¬ u2 < (50 : Int32) ∧ ¬ (122 : Int32) < u2) (bnd_u3 : ¬ u3 < (50 : Int32) ∧ ¬ (122 : Int32) < u3) (bnd_u4 : ¬ u4 < (50 : Int32) ∧ ¬ (122 : Int32) < u4) (bnd_u5 : ¬ u5 < (50 : Int32) ∧ ¬ (122 : Int32) < u5) (isr_sv_SIOOBE_FORMATTER : sv_SIOOBE_FORMATTER.isRef = true) :
    Con l Z (⟨"java/lang/String", "charAt", "(I)C"⟩ : MethodName) jdk_42_method_56_code 2 (some .char) ws ({ frames := 3, cells := 0, slots := 0, locals := 40 } : Room) #[(.ref o0), (.int i1)] h0 (Pur (some (.int ((own_at [u1, u2, u3, u4, u5] i1) &&& (255 : Int32)))) h0) := by
 refine own_body (plainFor_of_name own_pn1) (fun m => ef_rm11_2 m o0 i1) ?_
 intro p e s m below meth c s₁ hx hby hlk hml hret hZ hown hnm X0 e0
 have N0 := Fr.nil n0
 refine Home.run X0 hx hby sg11_0_1 (pc' := 1) (L' := #[.val (.ref o0), .val (.int i1)]) (S' := [(.ref o0)]) rfl ?_
 refine Home.st (own_pure (own_virtual X0 hx hZ hown (own_w59 hw) (own_w60 hw) (notFace_of_selects (args := #[]) (mvT hZ (own_w62 hw))) (own_w62 hw) (own_w61 hw) (own_w10 hw) (own_w63 hw) (by decide) (rm12_0 l Z a0 hw [] o0 sv_COMPACT_STRINGS h0 n0 O0 S_COMPACT_STRINGS hCS F_coder_o0) e0 E_o0 rfl (by rw [hml]; rfl) (argsL := []) (rest := []) (lenOf own_pd10 rfl) rfl rfl (W := 0) (by exact hW0) (by decide) (by decide) (hb hby d11_1) (by decide) (by decide))) fun T1 X1 e1 => ?_
 refine Home.go (fun _ => XS.ifNo X1.here hx rfl (hb hby d11_4) rfl ((if0 _ _).trans (feq (by decide)).1)) ?_
 refine Home.run X1 hx hby sg11_7_1 (pc' := 8) (L' := #[.val (.ref o0), .val (.int i1)]) (S' := [(.ref o0)]) rfl ?_
 refine Home.st (getF X1 hx hZ hown (host := "") (Or.inl (own_w35 hw)) Via.refl e1 F_value_o0 rfl rfl (hb hby d11_8)) fun T2 X2 e2 => ?_
 refine Home.run X2 hx hby sg11_11_1 (pc' := 12) (L' := #[.val (.ref o0), .val (.int i1)]) (S' := [(.int i1), (.ref p2)]) rfl ?_
 refine Home.st (own_pure (own_static X2 hx hZ hown (own_w64 hw) (own_w65 hw) (own_w66 hw) (own_w67 hw) (by decide) (rm13_2 l Z a0 hw [] p2 i1 k_p2 u1 u2 u3 u4 u5 sv_SIOOBE_FORMATTER h0 n0 O0 bnd_i1 V_p2 S_SIOOBE_FORMATTER isr_sv_SIOOBE_FORMATTER bnd_u1 bnd_u2 bnd_u3 bnd_u4 bnd_u5) e2 rfl (by rw [hml]; rfl) (argsL := [(.ref p2), (.int i1)]) (rest := []) (lenOf own_pd13 rfl) rfl rfl (W := 0) (by exact hW0) (by decide) (by decide) (hb hby d11_12) (by decide) (by decide))) fun T3 X3 e3 => ?_
 exact Home.retN X3 hx hlk (t := .char) hret (by simp) (hb hby d11_15) ⟨congrArg some (congrArg Value.int (by first | rfl | exact nar_i2c _ | exact nar_i2b _ | exact nar_char_id (bnd_and (own_at [u1, u2, u3, u4, u5] i1) (255 : Int32) (by decide)) (by decide +kernel) (by decide +kernel))), rfl, e3⟩ (by decide) (by decide)
theorem rm8_3 (l : Launch) (Z : State) (a0 : Array Value) (hw : HW a0 Z) (ws : List Jvm.Cond) (o0 p2 : Addr) (k_p2 : ClassId) (u1 u2 u3 u4 u5 sv_COMPACT_STRINGS : Int32) (sv_SIOOBE_FORMATTER : Value) (h0 : Heap) (n0 : Nat) (O0 : Old Z n0 h0) (E_o0 : Exa Z h0 o0 "java/lang/String") (F_value_o0 : Fld Z h0 o0 "java/lang/String" "value" "[B" (.ref p2)) (V_p2 : Arv Z h0 p2 k_p2 .byte (5 : Int32) [(.int u1), (.int u2), (.int u3), (.int u4), (.int u5)] (.int (0 : Int32))) (S_COMPACT_STRINGS : Sta Z Z.heap "java/lang/String" "COMPACT_STRINGS" "Z" (.int sv_COMPACT_STRINGS)) (F_coder_o0 : Fld Z h0 o0 "java/lang/String" "coder" "B" (.int (0 : Int32))) (hCS : ¬ (sv_COMPACT_STRINGS = (0 : Int32))) (S_SIOOBE_FORMATTER : Sta Z Z.heap "jdk/internal/util/Preconditions" "SIOOBE_FORMATTER" "Ljava/util/function/BiFunction;" sv_SIOOBE_FORMATTER) (bnd_u1 : ¬ u1 < (50 : Int32) ∧ ¬ (122 : Int32) < u1) (bnd_u2 : ¬ u2 < (50 : Int32) ∧ ¬ (122 : Int32) < u2) (bnd_u3 : ¬ u3 < (50 : Int32) ∧ ¬ (122 : Int32) < u3) (bnd_u4 : ¬ u4 < (50 : Int32) ∧ ¬ (122 : Int32) < u4) (bnd_u5 : ¬ u5 < (50 : Int32) ∧ ¬ (122 : Int32) < u5) (isr_sv_SIOOBE_FORMATTER : sv_SIOOBE_FORMATTER.isRef = true) (nn800 : ¬ ((f_rm22_0 (u1 &&& (255 : Int32))) < (0 : Int32))) (nn801 : ¬ ((f_rm22_0 (u2 &&& (255 : Int32))) < (0 : Int32))) (nn802 : ¬ ((f_rm22_0 (u3 &&& (255 : Int32))) < (0 : Int32))) (nn803 : ¬ ((f_rm22_0 (u4 &&& (255 : Int32))) < (0 : Int32))) (nn804 : ¬ ((f_rm22_0 (u5 &&& (255 : Int32))) < (0 : Int32))) (nn805 : (((((((((((((0 : Int32) ||| (f_rm22_0 (u1 &&& (255 : Int32)))) <<< ((5 : Int32) &&& 31)) ||| (f_rm22_0 (u2 &&& (255 : Int32)))) &&& (3 : Int32)) <<< ((5 : Int32) &&& 31)) ||| (f_rm22_0 (u3 &&& (255 : Int32)))) <<< ((5 : Int32) &&& 31)) ||| (f_rm22_0 (u4 &&& (255 : Int32)))) &&& (15 : Int32)) <<< ((5 : Int32) &&& 31)) ||| (f_rm22_0 (u5 &&& (255 : Int32)))) &&& (1 : Int32)) = (0 : Int32)) :
    ConW l Z own_EL ([] : List Addr) true (⟨"com/example/tryst/tryst/encoding/Base32", "decode", "(Ljava/lang/String;)[B"⟩ : MethodName) prog_8_method_2_code 7 (some (.array .byte)) ws ({ frames := 4, cells := 11, slots := 663, locals := 59 } : Room) #[(.ref o0)] h0 (fun v h L => ∃ (b3 : Addr), ∃ (k3 : ClassId), v = some (.ref b3) ∧ Fr n0 L ∧ h0.size ≤ b3 ∧ Keep h0 h [] ∧ Arv Z h b3 k3 .byte (3 : Int32) [(.int (((((((0 : Int32) ||| (f_rm22_0 (u1 &&& (255 : Int32)))) <<< ((5 : Int32) &&& 31)) ||| (f_rm22_0 (u2 &&& (255 : Int32)))).toUInt32 >>> ((2 : Int32) &&& 31).toUInt32).toInt32).toInt8.toInt32)), (.int ((((((((((((0 : Int32) ||| (f_rm22_0 (u1 &&& (255 : Int32)))) <<< ((5 : Int32) &&& 31)) ||| (f_rm22_0 (u2 &&& (255 : Int32)))) &&& (3 : Int32)) <<< ((5 : Int32) &&& 31)) ||| (f_rm22_0 (u3 &&& (255 : Int32)))) <<< ((5 : Int32) &&& 31)) ||| (f_rm22_0 (u4 &&& (255 : Int32)))).toUInt32 >>> ((4 : Int32) &&& 31).toUInt32).toInt32).toInt8.toInt32)), (.int (((((((((((((((0 : Int32) ||| (f_rm22_0 (u1 &&& (255 : Int32)))) <<< ((5 : Int32) &&& 31)) ||| (f_rm22_0 (u2 &&& (255 : Int32)))) &&& (3 : Int32)) <<< ((5 : Int32) &&& 31)) ||| (f_rm22_0 (u3 &&& (255 : Int32)))) <<< ((5 : Int32) &&& 31)) ||| (f_rm22_0 (u4 &&& (255 : Int32)))) &&& (15 : Int32)) <<< ((5 : Int32) &&& 31)) ||| (f_rm22_0 (u5 &&& (255 : Int32)))).toUInt32 >>> ((1 : Int32) &&& 31).toUInt32).toInt32).toInt8.toInt32))] (.int (0 : Int32))) := by
 refine own_bodyW (plainFor_of_name own_pn2) (fun m => ef_rm8_3 m o0) ?_
 intro p e s m below meth c s₁ hx hby hlk hml hret hZ hown hnm X0 e0 Cd0
 have N0 := Fr.nil n0
 refine Home.run X0 hx hby sg8_0_1 (pc' := 1) (L' := #[.val (.ref o0), .unset, .unset, .unset, .unset, .unset, .unset]) (S' := [(.ref o0)]) rfl ?_
 refine Home.st (own_pure (own_virtual X0 hx hZ hown (own_w41 hw) (own_w42 hw) (notFace_of_selects (args := #[]) (mvT hZ (own_w44 hw))) (own_w44 hw) (own_w43 hw) (own_w10 hw) (own_w45 hw) (by decide) (rm9_4 l Z a0 hw [] o0 p2 k_p2 u1 u2 u3 u4 u5 sv_COMPACT_STRINGS h0 n0 O0 F_value_o0 V_p2 E_o0 S_COMPACT_STRINGS F_coder_o0 hCS) e0 E_o0 rfl (by rw [hml]; rfl) (argsL := []) (rest := []) (lenOf own_pd4 rfl) rfl rfl (W := 0) (by exact hW0) (by decide) (by decide) (hb hby d8_1) (by decide) (by decide))) fun T1 X1 e1 => ?_
 refine Home.run X1 hx hby sg8_4_3 (pc' := 8) (L' := #[.val (.ref o0), .unset, .unset, .unset, .unset, .unset, .unset]) (S' := [(.int (8 : Int32)), (.int (25 : Int32))]) rfl ?_
 refine Home.go (fun _ => iremM X1 hx rfl (hb hby d8_8) rfl (by decide)) ?_
 rw [show ((25 : Int32) % (8 : Int32)) = (1 : Int32) from by decide]
 refine Home.run X1 hx hby sg8_9_1 (pc' := 10) (L' := #[.val (.ref o0), .unset, .unset, .unset, .unset, .unset, .unset]) (S' := [(.int (5 : Int32)), (.int (1 : Int32))]) rfl ?_
 refine Home.go (fun _ => XS.icmpYes X1.here hx rfl (pc0 := 10) (pc' := 30) rfl (hb hby d8_10) rfl (tlt (by decide)).1 (by decide) (by decide)) ?_
 refine Home.run X1 hx hby sg8_30_1 (pc' := 31) (L' := #[.val (.ref o0), .unset, .unset, .unset, .unset, .unset, .unset]) (S' := [(.ref o0)]) rfl ?_
 refine Home.st (own_pure (own_virtual X1 hx hZ hown (own_w41 hw) (own_w42 hw) (notFace_of_selects (args := #[]) (mvT hZ (own_w44 hw))) (own_w44 hw) (own_w43 hw) (own_w10 hw) (own_w45 hw) (by decide) (rm9_4 l Z a0 hw [] o0 p2 k_p2 u1 u2 u3 u4 u5 sv_COMPACT_STRINGS h0 n0 O0 F_value_o0 V_p2 E_o0 S_COMPACT_STRINGS F_coder_o0 hCS) e1 E_o0 rfl (by rw [hml]; rfl) (argsL := []) (rest := []) (lenOf own_pd4 rfl) rfl rfl (W := 0) (by exact hW0) (by decide) (by decide) (hb hby d8_31) (by decide) (by decide))) fun T2 X2 e2 => ?_
 refine Home.run X2 hx hby sg8_34_3 (pc' := 38) (L' := #[.val (.ref o0), .unset, .unset, .unset, .unset, .unset, .unset]) (S' := [(.int (8 : Int32)), (.int (25 : Int32))]) rfl ?_
 refine Home.go (fun _ => XS.idiv X2.here hx rfl (hb hby d8_38) rfl (by decide)) ?_
 rw [show ((25 : Int32) / (8 : Int32)) = (3 : Int32) from by decide]
 refine Home.na (own_newP (aty := .byte) X2 hx hZ (own_w26 hw) e2 (g := (mkF m 39 #[.val (.ref o0), .unset, .unset, .unset, .unset, .unset, .unset] [(.int (3 : Int32))])) rfl (hb hby d8_39) rfl (by decide) (cap := 3) (by decide) (by decide) (by decide) (by decide)) fun T3 h3 k3 b3 g3 X3 e3 E3 A3 => ?_
 have g_b3 : n0 ≤ b3 := Nat.le_trans (Old.le O0) (Nat.le_of_eq g3.symm)
 have V3 : Arv Z h3 b3 k3 .byte (3 : Int32) [(.int (0 : Int32)), (.int (0 : Int32)), (.int (0 : Int32))] (.int (0 : Int32)) := (Arv.new A3 (by decide)).pad (pad_rep [] (.int (0 : Int32)) 3)
 have O3 := O0.ext E3
 have K3 : Keep h0 h3 ([] : List Addr) := Keep.ext (Keep.refl h0 ([] : List Addr)) E3
 have Cd3 := Cold.add Cd0 E3 (Nat.le_of_eq g3.symm) V3.lt
 show Home T3 (mkF m 41 #[.val (.ref o0), .unset, .unset, .unset, .unset, .unset, .unset] [(.ref b3)])
 refine Home.run X3 hx hby sg8_41_11 (pc' := 55) (L' := #[.val (.ref o0), .val (.ref b3), .val (.int (0 : Int32)), .val (.int (0 : Int32)), .val (.int (0 : Int32)), .val (.int (0 : Int32)), .unset]) (S' := [(.ref o0), (.int (0 : Int32))]) rfl ?_
 refine Home.st (own_pure (own_virtual X3 hx hZ hown (own_w41 hw) (own_w42 hw) (notFace_of_selects (args := #[]) (mvT hZ (own_w44 hw))) (own_w44 hw) (own_w43 hw) (own_w10 hw) (own_w45 hw) (by decide) (rm9_4 l Z a0 hw [] o0 p2 k_p2 u1 u2 u3 u4 u5 sv_COMPACT_STRINGS h3 n0 O3 (F_value_o0.keep K3 nin0) (V_p2.keep K3 nin0) (E_o0.keep K3) S_COMPACT_STRINGS (F_coder_o0.keep K3 nin0) hCS) e3 (E_o0.keep K3) rfl (by rw [hml]; rfl) (argsL := []) (rest := [(.int (0 : Int32))]) (lenOf own_pd4 rfl) rfl rfl (W := 1) (by exact hW0) (by decide) (by decide) (hb hby d8_55) (by decide) (by decide))) fun T4 X4 e4 => ?_
 refine Home.go (fun _ => XS.icmpNo X4.here hx rfl (hb hby d8_58) rfl (tlt (by decide)).2.1) ?_
 obtain ⟨ad5, b5, k5, T5, h5, X5, e5, E5, hZ, hown, Cd5, Ea5, Fc5, Fv5, V5, la5, lb5, hne5, st5⟩ := own_ldcW X4 hx hZ hown (own_hEL hw) Cd3 (own_w51 hw) (own_wS hw) e4 (List.mem_of_getElem? (i := 0) rfl) (vs := own_T0) (z := (32 : Int32)) ⟨by decide, by rfl⟩ (by decide) (by decide) (g := (mkF m 61 #[.val (.ref o0), .val (.ref b3), .val (.int (0 : Int32)), .val (.int (0 : Int32)), .val (.int (0 : Int32)), .val (.int (0 : Int32)), .unset] [])) rfl (hb hby d8_61) (n := 128) (by decide) (by decide) (by decide) (by decide)
 refine Home.go st5 ?_
 have O5 := O3.ext E5
 have K5 : Keep h0 h5 ([] : List Addr) := Keep.ext K3 E5
 refine Home.run X5 hx hby sg8_63_2 (pc' := 66) (L' := #[.val (.ref o0), .val (.ref b3), .val (.int (0 : Int32)), .val (.int (0 : Int32)), .val (.int (0 : Int32)), .val (.int (0 : Int32)), .unset]) (S' := [(.int (0 : Int32)), (.ref o0), (.ref ad5)]) rfl ?_
 refine Home.st (own_pure (own_virtual X5 hx hZ hown (own_w54 hw) (own_w55 hw) (notFace_of_selects (args := #[]) (mvT hZ (own_w57 hw))) (own_w57 hw) (own_w56 hw) (own_w10 hw) (own_w58 hw) (by decide) (rm11_2 l Z a0 hw [] o0 (0 : Int32) sv_COMPACT_STRINGS p2 k_p2 u1 u2 u3 u4 u5 sv_SIOOBE_FORMATTER h5 n0 O5 (bnd_mono (bnd_lit (0 : Int32)) (by decide +kernel) (by decide +kernel)) (E_o0.keep K5) S_COMPACT_STRINGS (F_coder_o0.keep K5 nin0) hCS (F_value_o0.keep K5 nin0) (V_p2.keep K5 nin0) S_SIOOBE_FORMATTER bnd_u1 bnd_u2 bnd_u3 bnd_u4 bnd_u5 isr_sv_SIOOBE_FORMATTER) e5 (E_o0.keep K5) rfl (by rw [hml]; rfl) (argsL := [(.int (0 : Int32))]) (rest := [(.ref ad5)]) (lenOf own_pd14 rfl) rfl rfl (W := 1) (by exact hW0) (by decide) (by decide) (hb hby d8_66) (by decide) (by decide))) fun T6 X6 e6 => ?_
 show Home T6 (mkF m 69 #[.val (.ref o0), .val (.ref b3), .val (.int (0 : Int32)), .val (.int (0 : Int32)), .val (.int (0 : Int32)), .val (.int (0 : Int32)), .unset] [(.int (u1 &&& (255 : Int32))), (.ref ad5)])
 refine Home.st (own_pure (own_virtual X6 hx hZ hown (own_w76 hw) (own_w77 hw) (notFace_of_selects (args := #[]) (mvT hZ (own_w79 hw))) (own_w79 hw) (own_w78 hw) (own_w10 hw) (own_w80 hw) (by decide) (rm16_0 l Z a0 hw [] ad5 (u1 &&& (255 : Int32)) sv_COMPACT_STRINGS b5 k5 h5 n0 O5 (bnd_and (own_at [u1, u2, u3, u4, u5] (0 : Int32)) (255 : Int32) (by decide)) Ea5 S_COMPACT_STRINGS Fc5 Fv5 V5 hCS) e6 Ea5 rfl (by rw [hml]; rfl) (argsL := [(.int (u1 &&& (255 : Int32)))]) (rest := []) (lenOf own_pd18 rfl) rfl rfl (W := 0) (by exact hW0) (by decide) (by decide) (hb hby d8_69) (by decide) (by decide))) fun T7 X7 e7 => ?_
 refine Home.run X7 hx hby sg8_72_1 (pc' := 74) (L' := #[.val (.ref o0), .val (.ref b3), .val (.int (0 : Int32)), .val (.int (0 : Int32)), .val (.int (0 : Int32)), .val (.int (0 : Int32)), .val (.int (f_rm22_0 (u1 &&& (255 : Int32))))]) (S' := []) rfl ?_
 obtain ⟨v8, hv8⟩ : ∃ z, z = (f_rm22_0 (u1 &&& (255 : Int32))) := ⟨_, rfl⟩
 rw [← hv8]
 refine Home.run X7 hx hby sg8_74_1 (pc' := 76) (L' := #[.val (.ref o0), .val (.ref b3), .val (.int (0 : Int32)), .val (.int (0 : Int32)), .val (.int (0 : Int32)), .val (.int (0 : Int32)), .val (.int v8)]) (S' := [(.int v8)]) rfl ?_
 refine Home.go (fun _ => XS.ifYes X7.here hx rfl (pc0 := 76) (pc' := 98) rfl (hb hby d8_76) rfl ((if0 _ _).trans (flt (by rw [hv8]; exact nn800)).2.1) (by decide) (by decide)) ?_
 refine Home.run X7 hx hby sg8_98_6 (pc' := 105) (L' := #[.val (.ref o0), .val (.ref b3), .val (.int (0 : Int32)), .val (.int ((0 : Int32) ||| v8)), .val (.int (0 : Int32)), .val (.int (0 : Int32)), .val (.int v8)]) (S' := []) rfl ?_
 obtain ⟨v9, hv9⟩ : ∃ z, z = ((0 : Int32) ||| v8) := ⟨_, rfl⟩
 rw [← hv9]
 refine Home.run X7 hx hby sg8_105_3 (pc' := 111) (L' := #[.val (.ref o0), .val (.ref b3), .val (.int (5 : Int32)), .val (.int v9), .val (.int (0 : Int32)), .val (.int (0 : Int32)), .val (.int v8)]) (S' := [(.int (8 : Int32)), (.int (5 : Int32))]) rfl ?_
 refine Home.go (fun _ => XS.icmpYes X7.here hx rfl (pc0 := 111) (pc' := 136) rfl (hb hby d8_111) rfl (tlt (by decide)).1 (by decide) (by decide)) ?_
 refine Home.run X7 hx hby sg8_136_4 (pc' := 55) (L' := #[.val (.ref o0), .val (.ref b3), .val (.int (5 : Int32)), .val (.int v9), .val (.int (0 : Int32)), .val (.int (1 : Int32)), .val (.int v8)]) (S' := [(.ref o0), (.int (1 : Int32))]) rfl ?_
 refine Home.st (own_pure (own_virtual X7 hx hZ hown (own_w41 hw) (own_w42 hw) (notFace_of_selects (args := #[]) (mvT hZ (own_w44 hw))) (own_w44 hw) (own_w43 hw) (own_w10 hw) (own_w45 hw) (by decide) (rm9_4 l Z a0 hw [] o0 p2 k_p2 u1 u2 u3 u4 u5 sv_COMPACT_STRINGS h5 n0 O5 (F_value_o0.keep K5 nin0) (V_p2.keep K5 nin0) (E_o0.keep K5) S_COMPACT_STRINGS (F_coder_o0.keep K5 nin0) hCS) e7 (E_o0.keep K5) rfl (by rw [hml]; rfl) (argsL := []) (rest := [(.int (1 : Int32))]) (lenOf own_pd4 rfl) rfl rfl (W := 1) (by exact hW0) (by decide) (by decide) (hb hby d8_55) (by decide) (by decide))) fun T10 X10 e10 => ?_
 refine Home.go (fun _ => XS.icmpNo X10.here hx rfl (hb hby d8_58) rfl (tlt (by decide)).2.1) ?_
 obtain ⟨ad11, b11, k11, T11, h11, X11, e11, E11, hZ, hown, Cd11, Ea11, Fc11, Fv11, V11, la11, lb11, hne11, st11⟩ := own_ldcW X10 hx hZ hown (own_hEL hw) Cd5 (own_w51 hw) (own_wS hw) e10 (List.mem_of_getElem? (i := 0) rfl) (vs := own_T0) (z := (32 : Int32)) ⟨by decide, by rfl⟩ (by decide) (by decide) (g := (mkF m 61 #[.val (.ref o0), .val (.ref b3), .val (.int (5 : Int32)), .val (.int v9), .val (.int (0 : Int32)), .val (.int (1 : Int32)), .val (.int v8)] [])) rfl (hb hby d8_61) (n := 128) (by decide) (by decide) (by decide) (by decide)
 refine Home.go st11 ?_
 have O11 := O5.ext E11
 have K11 : Keep h0 h11 ([] : List Addr) := Keep.ext K5 E11
 show Home T11 (mkF m 63 #[.val (.ref o0), .val (.ref b3), .val (.int (5 : Int32)), .val (.int v9), .val (.int (0 : Int32)), .val (.int (1 : Int32)), .val (.int v8)] [(.ref ad11)])
 refine Home.run X11 hx hby sg8_63_2 (pc' := 66) (L' := #[.val (.ref o0), .val (.ref b3), .val (.int (5 : Int32)), .val (.int v9), .val (.int (0 : Int32)), .val (.int (1 : Int32)), .val (.int v8)]) (S' := [(.int (1 : Int32)), (.ref o0), (.ref ad11)]) rfl ?_
 refine Home.st (own_pure (own_virtual X11 hx hZ hown (own_w54 hw) (own_w55 hw) (notFace_of_selects (args := #[]) (mvT hZ (own_w57 hw))) (own_w57 hw) (own_w56 hw) (own_w10 hw) (own_w58 hw) (by decide) (rm11_2 l Z a0 hw [] o0 (1 : Int32) sv_COMPACT_STRINGS p2 k_p2 u1 u2 u3 u4 u5 sv_SIOOBE_FORMATTER h11 n0 O11 (bnd_mono (bnd_lit (1 : Int32)) (by decide +kernel) (by decide +kernel)) (E_o0.keep K11) S_COMPACT_STRINGS (F_coder_o0.keep K11 nin0) hCS (F_value_o0.keep K11 nin0) (V_p2.keep K11 nin0) S_SIOOBE_FORMATTER bnd_u1 bnd_u2 bnd_u3 bnd_u4 bnd_u5 isr_sv_SIOOBE_FORMATTER) e11 (E_o0.keep K11) rfl (by rw [hml]; rfl) (argsL := [(.int (1 : Int32))]) (rest := [(.ref ad11)]) (lenOf own_pd14 rfl) rfl rfl (W := 1) (by exact hW0) (by decide) (by decide) (hb hby d8_66) (by decide) (by decide))) fun T12 X12 e12 => ?_
 show Home T12 (mkF m 69 #[.val (.ref o0), .val (.ref b3), .val (.int (5 : Int32)), .val (.int v9), .val (.int (0 : Int32)), .val (.int (1 : Int32)), .val (.int v8)] [(.int (u2 &&& (255 : Int32))), (.ref ad11)])
 refine Home.st (own_pure (own_virtual X12 hx hZ hown (own_w76 hw) (own_w77 hw) (notFace_of_selects (args := #[]) (mvT hZ (own_w79 hw))) (own_w79 hw) (own_w78 hw) (own_w10 hw) (own_w80 hw) (by decide) (rm16_0 l Z a0 hw [] ad11 (u2 &&& (255 : Int32)) sv_COMPACT_STRINGS b11 k11 h11 n0 O11 (bnd_and (own_at [u1, u2, u3, u4, u5] (1 : Int32)) (255 : Int32) (by decide)) Ea11 S_COMPACT_STRINGS Fc11 Fv11 V11 hCS) e12 Ea11 rfl (by rw [hml]; rfl) (argsL := [(.int (u2 &&& (255 : Int32)))]) (rest := []) (lenOf own_pd18 rfl) rfl rfl (W := 0) (by exact hW0) (by decide) (by decide) (hb hby d8_69) (by decide) (by decide))) fun T13 X13 e13 => ?_
 refine Home.run X13 hx hby sg8_72_1 (pc' := 74) (L' := #[.val (.ref o0), .val (.ref b3), .val (.int (5 : Int32)), .val (.int v9), .val (.int (0 : Int32)), .val (.int (1 : Int32)), .val (.int (f_rm22_0 (u2 &&& (255 : Int32))))]) (S' := []) rfl ?_
 obtain ⟨v14, hv14⟩ : ∃ z, z = (f_rm22_0 (u2 &&& (255 : Int32))) := ⟨_, rfl⟩
 rw [← hv14]
 refine Home.run X13 hx hby sg8_74_1 (pc' := 76) (L' := #[.val (.ref o0), .val (.ref b3), .val (.int (5 : Int32)), .val (.int v9), .val (.int (0 : Int32)), .val (.int (1 : Int32)), .val (.int v14)]) (S' := [(.int v14)]) rfl ?_
 refine Home.go (fun _ => XS.ifYes X13.here hx rfl (pc0 := 76) (pc' := 98) rfl (hb hby d8_76) rfl ((if0 _ _).trans (flt (by rw [hv14]; exact nn801)).2.1) (by decide) (by decide)) ?_
 refine Home.run X13 hx hby sg8_98_6 (pc' := 105) (L' := #[.val (.ref o0), .val (.ref b3), .val (.int (5 : Int32)), .val (.int ((v9 <<< ((5 : Int32) &&& 31)) ||| v14)), .val (.int (0 : Int32)), .val (.int (1 : Int32)), .val (.int v14)]) (S' := []) rfl ?_
 obtain ⟨v15, hv15⟩ : ∃ z, z = ((v9 <<< ((5 : Int32) &&& 31)) ||| v14) := ⟨_, rfl⟩
 rw [← hv15]
 refine Home.run X13 hx hby sg8_105_3 (pc' := 111) (L' := #[.val (.ref o0), .val (.ref b3), .val (.int (10 : Int32)), .val (.int v15), .val (.int (0 : Int32)), .val (.int (1 : Int32)), .val (.int v14)]) (S' := [(.int (8 : Int32)), (.int (10 : Int32))]) rfl ?_
 refine Home.go (fun _ => XS.icmpNo X13.here hx rfl (hb hby d8_111) rfl (flt (by decide)).1) ?_
 refine Home.run X13 hx hby sg8_114_8 (pc' := 127) (L' := #[.val (.ref o0), .val (.ref b3), .val (.int (2 : Int32)), .val (.int v15), .val (.int (1 : Int32)), .val (.int (1 : Int32)), .val (.int v14)]) (S' := [(.int (((v15.toUInt32 >>> ((2 : Int32) &&& 31).toUInt32).toInt32).toInt8.toInt32)), (.int (0 : Int32)), (.ref b3)]) rfl ?_
 have q16 := ((V3.ext E5).ext E11)
 obtain ⟨cl17, Ar17, q17, S17, M17, H17, G17⟩ := id q16
 refine Home.wr (stB X13 hx hZ e13 Ar17 (j := (0 : Int32)) (inb_of S17 ⟨by decide, by decide⟩) rfl rfl (hb hby d8_127)) fun T17 h17 X17 e17 W17 => ?_
 have W17' := Wr.to W17 (congrArg Value.int (nar_byte_id (bnd_i2b ((v15.toUInt32 >>> ((2 : Int32) &&& 31).toUInt32).toInt32)) (by decide +kernel) (by decide +kernel)))
 have V17 : Arv Z h17 b3 k3 .byte (3 : Int32) [(.int (((v15.toUInt32 >>> ((2 : Int32) &&& 31).toUInt32).toInt32).toInt8.toInt32)), (.int (0 : Int32)), (.int (0 : Int32))] (.int (0 : Int32)) := Arv.set Ar17 q17 S17 M17 H17 G17 (fits_byte_b (bnd_i2b ((v15.toUInt32 >>> ((2 : Int32) &&& 31).toUInt32).toInt32)) (by decide +kernel) (by decide +kernel)) W17' 0 rfl (Nat.le_of_ble_eq_true rfl)
 have O17 := O11.wr W17 g_b3
 have K17 : Keep h0 h17 ([] : List Addr) := Keep.wr K11 W17 (Or.inr (Nat.le_trans (Nat.le_refl _) (Nat.le_of_eq g3.symm)))
 have Cd17 := Cold.wr Cd11 W17 (Cold.safe Cd11 (List.mem_of_getElem? (i := 0) rfl))
 have N17 := Fr.snoc X17 N0 g_b3
 show Home T17 (mkF m 128 #[.val (.ref o0), .val (.ref b3), .val (.int (2 : Int32)), .val (.int v15), .val (.int (1 : Int32)), .val (.int (1 : Int32)), .val (.int v14)] [])
 refine Home.run X17 hx hby sg8_128_8 (pc' := 136) (L' := #[.val (.ref o0), .val (.ref b3), .val (.int (2 : Int32)), .val (.int (v15 &&& (3 : Int32))), .val (.int (1 : Int32)), .val (.int (1 : Int32)), .val (.int v14)]) (S' := []) rfl ?_
 obtain ⟨v18, hv18⟩ : ∃ z, z = (v15 &&& (3 : Int32)) := ⟨_, rfl⟩
 rw [← hv18]
 have bv18 : ¬ v18 < (0 : Int32) ∧ ¬ (3 : Int32) < v18 := by rw [hv18]; exact (bnd_and v15 (3 : Int32) (by decide))
 refine Home.run X17 hx hby sg8_136_4 (pc' := 55) (L' := #[.val (.ref o0), .val (.ref b3), .val (.int (2 : Int32)), .val (.int v18), .val (.int (1 : Int32)), .val (.int (2 : Int32)), .val (.int v14)]) (S' := [(.ref o0), (.int (2 : Int32))]) rfl ?_
 refine Home.st (own_pure (own_virtual X17 hx hZ hown (own_w41 hw) (own_w42 hw) (notFace_of_selects (args := #[]) (mvT hZ (own_w44 hw))) (own_w44 hw) (own_w43 hw) (own_w10 hw) (own_w45 hw) (by decide) (rm9_4 l Z a0 hw [] o0 p2 k_p2 u1 u2 u3 u4 u5 sv_COMPACT_STRINGS h17 n0 O17 (F_value_o0.keep K17 nin0) (V_p2.keep K17 nin0) (E_o0.keep K17) S_COMPACT_STRINGS (F_coder_o0.keep K17 nin0) hCS) e17 (E_o0.keep K17) rfl (by rw [hml]; rfl) (argsL := []) (rest := [(.int (2 : Int32))]) (lenOf own_pd4 rfl) rfl rfl (W := 1) (by exact hW0) (by decide) (by decide) (hb hby d8_55) (by decide) (by decide))) fun T19 X19 e19 => ?_
 refine Home.go (fun _ => XS.icmpNo X19.here hx rfl (hb hby d8_58) rfl (tlt (by decide)).2.1) ?_
 obtain ⟨ad20, b20, k20, T20, h20, X20, e20, E20, hZ, hown, Cd20, Ea20, Fc20, Fv20, V20, la20, lb20, hne20, st20⟩ := own_ldcW X19 hx hZ hown (own_hEL hw) Cd17 (own_w51 hw) (own_wS hw) e19 (List.mem_of_getElem? (i := 0) rfl) (vs := own_T0) (z := (32 : Int32)) ⟨by decide, by rfl⟩ (by decide) (by decide) (g := (mkF m 61 #[.val (.ref o0), .val (.ref b3), .val (.int (2 : Int32)), .val (.int v18), .val (.int (1 : Int32)), .val (.int (2 : Int32)), .val (.int v14)] [])) rfl (hb hby d8_61) (n := 128) (by decide) (by decide) (by decide) (by decide)
 refine Home.go st20 ?_
 have O20 := O17.ext E20
 have K20 : Keep h0 h20 ([] : List Addr) := Keep.ext K17 E20
 refine Home.run X20 hx hby sg8_63_2 (pc' := 66) (L' := #[.val (.ref o0), .val (.ref b3), .val (.int (2 : Int32)), .val (.int v18), .val (.int (1 : Int32)), .val (.int (2 : Int32)), .val (.int v14)]) (S' := [(.int (2 : Int32)), (.ref o0), (.ref ad20)]) rfl ?_
 refine Home.st (own_pure (own_virtual X20 hx hZ hown (own_w54 hw) (own_w55 hw) (notFace_of_selects (args := #[]) (mvT hZ (own_w57 hw))) (own_w57 hw) (own_w56 hw) (own_w10 hw) (own_w58 hw) (by decide) (rm11_2 l Z a0 hw [] o0 (2 : Int32) sv_COMPACT_STRINGS p2 k_p2 u1 u2 u3 u4 u5 sv_SIOOBE_FORMATTER h20 n0 O20 (bnd_mono (bnd_lit (2 : Int32)) (by decide +kernel) (by decide +kernel)) (E_o0.keep K20) S_COMPACT_STRINGS (F_coder_o0.keep K20 nin0) hCS (F_value_o0.keep K20 nin0) (V_p2.keep K20 nin0) S_SIOOBE_FORMATTER bnd_u1 bnd_u2 bnd_u3 bnd_u4 bnd_u5 isr_sv_SIOOBE_FORMATTER) e20 (E_o0.keep K20) rfl (by rw [hml]; rfl) (argsL := [(.int (2 : Int32))]) (rest := [(.ref ad20)]) (lenOf own_pd14 rfl) rfl rfl (W := 1) (by exact hW0) (by decide) (by decide) (hb hby d8_66) (by decide) (by decide))) fun T21 X21 e21 => ?_
 show Home T21 (mkF m 69 #[.val (.ref o0), .val (.ref b3), .val (.int (2 : Int32)), .val (.int v18), .val (.int (1 : Int32)), .val (.int (2 : Int32)), .val (.int v14)] [(.int (u3 &&& (255 : Int32))), (.ref ad20)])
 refine Home.st (own_pure (own_virtual X21 hx hZ hown (own_w76 hw) (own_w77 hw) (notFace_of_selects (args := #[]) (mvT hZ (own_w79 hw))) (own_w79 hw) (own_w78 hw) (own_w10 hw) (own_w80 hw) (by decide) (rm16_0 l Z a0 hw [] ad20 (u3 &&& (255 : Int32)) sv_COMPACT_STRINGS b20 k20 h20 n0 O20 (bnd_and (own_at [u1, u2, u3, u4, u5] (2 : Int32)) (255 : Int32) (by decide)) Ea20 S_COMPACT_STRINGS Fc20 Fv20 V20 hCS) e21 Ea20 rfl (by rw [hml]; rfl) (argsL := [(.int (u3 &&& (255 : Int32)))]) (rest := []) (lenOf own_pd18 rfl) rfl rfl (W := 0) (by exact hW0) (by decide) (by decide) (hb hby d8_69) (by decide) (by decide))) fun T22 X22 e22 => ?_
 refine Home.run X22 hx hby sg8_72_1 (pc' := 74) (L' := #[.val (.ref o0), .val (.ref b3), .val (.int (2 : Int32)), .val (.int v18), .val (.int (1 : Int32)), .val (.int (2 : Int32)), .val (.int (f_rm22_0 (u3 &&& (255 : Int32))))]) (S' := []) rfl ?_
 obtain ⟨v23, hv23⟩ : ∃ z, z = (f_rm22_0 (u3 &&& (255 : Int32))) := ⟨_, rfl⟩
 rw [← hv23]
 refine Home.run X22 hx hby sg8_74_1 (pc' := 76) (L' := #[.val (.ref o0), .val (.ref b3), .val (.int (2 : Int32)), .val (.int v18), .val (.int (1 : Int32)), .val (.int (2 : Int32)), .val (.int v23)]) (S' := [(.int v23)]) rfl ?_
 refine Home.go (fun _ => XS.ifYes X22.here hx rfl (pc0 := 76) (pc' := 98) rfl (hb hby d8_76) rfl ((if0 _ _).trans (flt (by rw [hv23]; exact nn802)).2.1) (by decide) (by decide)) ?_
 refine Home.run X22 hx hby sg8_98_6 (pc' := 105) (L' := #[.val (.ref o0), .val (.ref b3), .val (.int (2 : Int32)), .val (.int ((v18 <<< ((5 : Int32) &&& 31)) ||| v23)), .val (.int (1 : Int32)), .val (.int (2 : Int32)), .val (.int v23)]) (S' := []) rfl ?_
 obtain ⟨v24, hv24⟩ : ∃ z, z = ((v18 <<< ((5 : Int32) &&& 31)) ||| v23) := ⟨_, rfl⟩
 rw [← hv24]
 refine Home.run X22 hx hby sg8_105_3 (pc' := 111) (L' := #[.val (.ref o0), .val (.ref b3), .val (.int (7 : Int32)), .val (.int v24), .val (.int (1 : Int32)), .val (.int (2 : Int32)), .val (.int v23)]) (S' := [(.int (8 : Int32)), (.int (7 : Int32))]) rfl ?_
 refine Home.go (fun _ => XS.icmpYes X22.here hx rfl (pc0 := 111) (pc' := 136) rfl (hb hby d8_111) rfl (tlt (by decide)).1 (by decide) (by decide)) ?_
 refine Home.run X22 hx hby sg8_136_4 (pc' := 55) (L' := #[.val (.ref o0), .val (.ref b3), .val (.int (7 : Int32)), .val (.int v24), .val (.int (1 : Int32)), .val (.int (3 : Int32)), .val (.int v23)]) (S' := [(.ref o0), (.int (3 : Int32))]) rfl ?_
 refine Home.st (own_pure (own_virtual X22 hx hZ hown (own_w41 hw) (own_w42 hw) (notFace_of_selects (args := #[]) (mvT hZ (own_w44 hw))) (own_w44 hw) (own_w43 hw) (own_w10 hw) (own_w45 hw) (by decide) (rm9_4 l Z a0 hw [] o0 p2 k_p2 u1 u2 u3 u4 u5 sv_COMPACT_STRINGS h20 n0 O20 (F_value_o0.keep K20 nin0) (V_p2.keep K20 nin0) (E_o0.keep K20) S_COMPACT_STRINGS (F_coder_o0.keep K20 nin0) hCS) e22 (E_o0.keep K20) rfl (by rw [hml]; rfl) (argsL := []) (rest := [(.int (3 : Int32))]) (lenOf own_pd4 rfl) rfl rfl (W := 1) (by exact hW0) (by decide) (by decide) (hb hby d8_55) (by decide) (by decide))) fun T25 X25 e25 => ?_
 refine Home.go (fun _ => XS.icmpNo X25.here hx rfl (hb hby d8_58) rfl (tlt (by decide)).2.1) ?_
 obtain ⟨ad26, b26, k26, T26, h26, X26, e26, E26, hZ, hown, Cd26, Ea26, Fc26, Fv26, V26, la26, lb26, hne26, st26⟩ := own_ldcW X25 hx hZ hown (own_hEL hw) Cd20 (own_w51 hw) (own_wS hw) e25 (List.mem_of_getElem? (i := 0) rfl) (vs := own_T0) (z := (32 : Int32)) ⟨by decide, by rfl⟩ (by decide) (by decide) (g := (mkF m 61 #[.val (.ref o0), .val (.ref b3), .val (.int (7 : Int32)), .val (.int v24), .val (.int (1 : Int32)), .val (.int (3 : Int32)), .val (.int v23)] [])) rfl (hb hby d8_61) (n := 128) (by decide) (by decide) (by decide) (by decide)
 refine Home.go st26 ?_
 have O26 := O20.ext E26
 have K26 : Keep h0 h26 ([] : List Addr) := Keep.ext K20 E26
 show Home T26 (mkF m 63 #[.val (.ref o0), .val (.ref b3), .val (.int (7 : Int32)), .val (.int v24), .val (.int (1 : Int32)), .val (.int (3 : Int32)), .val (.int v23)] [(.ref ad26)])
 refine Home.run X26 hx hby sg8_63_2 (pc' := 66) (L' := #[.val (.ref o0), .val (.ref b3), .val (.int (7 : Int32)), .val (.int v24), .val (.int (1 : Int32)), .val (.int (3 : Int32)), .val (.int v23)]) (S' := [(.int (3 : Int32)), (.ref o0), (.ref ad26)]) rfl ?_
 refine Home.st (own_pure (own_virtual X26 hx hZ hown (own_w54 hw) (own_w55 hw) (notFace_of_selects (args := #[]) (mvT hZ (own_w57 hw))) (own_w57 hw) (own_w56 hw) (own_w10 hw) (own_w58 hw) (by decide) (rm11_2 l Z a0 hw [] o0 (3 : Int32) sv_COMPACT_STRINGS p2 k_p2 u1 u2 u3 u4 u5 sv_SIOOBE_FORMATTER h26 n0 O26 (bnd_mono (bnd_lit (3 : Int32)) (by decide +kernel) (by decide +kernel)) (E_o0.keep K26) S_COMPACT_STRINGS (F_coder_o0.keep K26 nin0) hCS (F_value_o0.keep K26 nin0) (V_p2.keep K26 nin0) S_SIOOBE_FORMATTER bnd_u1 bnd_u2 bnd_u3 bnd_u4 bnd_u5 isr_sv_SIOOBE_FORMATTER) e26 (E_o0.keep K26) rfl (by rw [hml]; rfl) (argsL := [(.int (3 : Int32))]) (rest := [(.ref ad26)]) (lenOf own_pd14 rfl) rfl rfl (W := 1) (by exact hW0) (by decide) (by decide) (hb hby d8_66) (by decide) (by decide))) fun T27 X27 e27 => ?_
 show Home T27 (mkF m 69 #[.val (.ref o0), .val (.ref b3), .val (.int (7 : Int32)), .val (.int v24), .val (.int (1 : Int32)), .val (.int (3 : Int32)), .val (.int v23)] [(.int (u4 &&& (255 : Int32))), (.ref ad26)])
 refine Home.st (own_pure (own_virtual X27 hx hZ hown (own_w76 hw) (own_w77 hw) (notFace_of_selects (args := #[]) (mvT hZ (own_w79 hw))) (own_w79 hw) (own_w78 hw) (own_w10 hw) (own_w80 hw) (by decide) (rm16_0 l Z a0 hw [] ad26 (u4 &&& (255 : Int32)) sv_COMPACT_STRINGS b26 k26 h26 n0 O26 (bnd_and (own_at [u1, u2, u3, u4, u5] (3 : Int32)) (255 : Int32) (by decide)) Ea26 S_COMPACT_STRINGS Fc26 Fv26 V26 hCS) e27 Ea26 rfl (by rw [hml]; rfl) (argsL := [(.int (u4 &&& (255 : Int32)))]) (rest := []) (lenOf own_pd18 rfl) rfl rfl (W := 0) (by exact hW0) (by decide) (by decide) (hb hby d8_69) (by decide) (by decide))) fun T28 X28 e28 => ?_
 refine Home.run X28 hx hby sg8_72_1 (pc' := 74) (L' := #[.val (.ref o0), .val (.ref b3), .val (.int (7 : Int32)), .val (.int v24), .val (.int (1 : Int32)), .val (.int (3 : Int32)), .val (.int (f_rm22_0 (u4 &&& (255 : Int32))))]) (S' := []) rfl ?_
 obtain ⟨v29, hv29⟩ : ∃ z, z = (f_rm22_0 (u4 &&& (255 : Int32))) := ⟨_, rfl⟩
 rw [← hv29]
 refine Home.run X28 hx hby sg8_74_1 (pc' := 76) (L' := #[.val (.ref o0), .val (.ref b3), .val (.int (7 : Int32)), .val (.int v24), .val (.int (1 : Int32)), .val (.int (3 : Int32)), .val (.int v29)]) (S' := [(.int v29)]) rfl ?_
 refine Home.go (fun _ => XS.ifYes X28.here hx rfl (pc0 := 76) (pc' := 98) rfl (hb hby d8_76) rfl ((if0 _ _).trans (flt (by rw [hv29]; exact nn803)).2.1) (by decide) (by decide)) ?_
 refine Home.run X28 hx hby sg8_98_6 (pc' := 105) (L' := #[.val (.ref o0), .val (.ref b3), .val (.int (7 : Int32)), .val (.int ((v24 <<< ((5 : Int32) &&& 31)) ||| v29)), .val (.int (1 : Int32)), .val (.int (3 : Int32)), .val (.int v29)]) (S' := []) rfl ?_
 obtain ⟨v30, hv30⟩ : ∃ z, z = ((v24 <<< ((5 : Int32) &&& 31)) ||| v29) := ⟨_, rfl⟩
 rw [← hv30]
 refine Home.run X28 hx hby sg8_105_3 (pc' := 111) (L' := #[.val (.ref o0), .val (.ref b3), .val (.int (12 : Int32)), .val (.int v30), .val (.int (1 : Int32)), .val (.int (3 : Int32)), .val (.int v29)]) (S' := [(.int (8 : Int32)), (.int (12 : Int32))]) rfl ?_
 refine Home.go (fun _ => XS.icmpNo X28.here hx rfl (hb hby d8_111) rfl (flt (by decide)).1) ?_
 refine Home.run X28 hx hby sg8_114_8 (pc' := 127) (L' := #[.val (.ref o0), .val (.ref b3), .val (.int (4 : Int32)), .val (.int v30), .val (.int (2 : Int32)), .val (.int (3 : Int32)), .val (.int v29)]) (S' := [(.int (((v30.toUInt32 >>> ((4 : Int32) &&& 31).toUInt32).toInt32).toInt8.toInt32)), (.int (1 : Int32)), (.ref b3)]) rfl ?_
 have q31 := ((V17.ext E20).ext E26)
 obtain ⟨cl32, Ar32, q32, S32, M32, H32, G32⟩ := id q31
 refine Home.wr (stB X28 hx hZ e28 Ar32 (j := (1 : Int32)) (inb_of S32 ⟨by decide, by decide⟩) rfl rfl (hb hby d8_127)) fun T32 h32 X32 e32 W32 => ?_
 have W32' := Wr.to W32 (congrArg Value.int (nar_byte_id (bnd_i2b ((v30.toUInt32 >>> ((4 : Int32) &&& 31).toUInt32).toInt32)) (by decide +kernel) (by decide +kernel)))
 have V32 : Arv Z h32 b3 k3 .byte (3 : Int32) [(.int (((v15.toUInt32 >>> ((2 : Int32) &&& 31).toUInt32).toInt32).toInt8.toInt32)), (.int (((v30.toUInt32 >>> ((4 : Int32) &&& 31).toUInt32).toInt32).toInt8.toInt32)), (.int (0 : Int32))] (.int (0 : Int32)) := Arv.set Ar32 q32 S32 M32 H32 G32 (fits_byte_b (bnd_i2b ((v30.toUInt32 >>> ((4 : Int32) &&& 31).toUInt32).toInt32)) (by decide +kernel) (by decide +kernel)) W32' 1 rfl (Nat.le_of_ble_eq_true rfl)
 have O32 := O26.wr W32 g_b3
 have K32 : Keep h0 h32 ([] : List Addr) := Keep.wr K26 W32 (Or.inr (Nat.le_trans (Nat.le_refl _) (Nat.le_of_eq g3.symm)))
 have Cd32 := Cold.wr Cd26 W32 (Cold.safe Cd26 (List.mem_of_getElem? (i := 0) rfl))
 have N32 := Fr.snoc X32 N17 g_b3
 show Home T32 (mkF m 128 #[.val (.ref o0), .val (.ref b3), .val (.int (4 : Int32)), .val (.int v30), .val (.int (2 : Int32)), .val (.int (3 : Int32)), .val (.int v29)] [])
 refine Home.run X32 hx hby sg8_128_8 (pc' := 136) (L' := #[.val (.ref o0), .val (.ref b3), .val (.int (4 : Int32)), .val (.int (v30 &&& (15 : Int32))), .val (.int (2 : Int32)), .val (.int (3 : Int32)), .val (.int v29)]) (S' := []) rfl ?_
 obtain ⟨v33, hv33⟩ : ∃ z, z = (v30 &&& (15 : Int32)) := ⟨_, rfl⟩
 rw [← hv33]
 have bv33 : ¬ v33 < (0 : Int32) ∧ ¬ (15 : Int32) < v33 := by rw [hv33]; exact (bnd_and v30 (15 : Int32) (by decide))
 refine Home.run X32 hx hby sg8_136_4 (pc' := 55) (L' := #[.val (.ref o0), .val (.ref b3), .val (.int (4 : Int32)), .val (.int v33), .val (.int (2 : Int32)), .val (.int (4 : Int32)), .val (.int v29)]) (S' := [(.ref o0), (.int (4 : Int32))]) rfl ?_
 refine Home.st (own_pure (own_virtual X32 hx hZ hown (own_w41 hw) (own_w42 hw) (notFace_of_selects (args := #[]) (mvT hZ (own_w44 hw))) (own_w44 hw) (own_w43 hw) (own_w10 hw) (own_w45 hw) (by decide) (rm9_4 l Z a0 hw [] o0 p2 k_p2 u1 u2 u3 u4 u5 sv_COMPACT_STRINGS h32 n0 O32 (F_value_o0.keep K32 nin0) (V_p2.keep K32 nin0) (E_o0.keep K32) S_COMPACT_STRINGS (F_coder_o0.keep K32 nin0) hCS) e32 (E_o0.keep K32) rfl (by rw [hml]; rfl) (argsL := []) (rest := [(.int (4 : Int32))]) (lenOf own_pd4 rfl) rfl rfl (W := 1) (by exact hW0) (by decide) (by decide) (hb hby d8_55) (by decide) (by decide))) fun T34 X34 e34 => ?_
 refine Home.go (fun _ => XS.icmpNo X34.here hx rfl (hb hby d8_58) rfl (tlt (by decide)).2.1) ?_
 obtain ⟨ad35, b35, k35, T35, h35, X35, e35, E35, hZ, hown, Cd35, Ea35, Fc35, Fv35, V35, la35, lb35, hne35, st35⟩ := own_ldcW X34 hx hZ hown (own_hEL hw) Cd32 (own_w51 hw) (own_wS hw) e34 (List.mem_of_getElem? (i := 0) rfl) (vs := own_T0) (z := (32 : Int32)) ⟨by decide, by rfl⟩ (by decide) (by decide) (g := (mkF m 61 #[.val (.ref o0), .val (.ref b3), .val (.int (4 : Int32)), .val (.int v33), .val (.int (2 : Int32)), .val (.int (4 : Int32)), .val (.int v29)] [])) rfl (hb hby d8_61) (n := 128) (by decide) (by decide) (by decide) (by decide)
 refine Home.go st35 ?_
 have O35 := O32.ext E35
 have K35 : Keep h0 h35 ([] : List Addr) := Keep.ext K32 E35
 refine Home.run X35 hx hby sg8_63_2 (pc' := 66) (L' := #[.val (.ref o0), .val (.ref b3), .val (.int (4 : Int32)), .val (.int v33), .val (.int (2 : Int32)), .val (.int (4 : Int32)), .val (.int v29)]) (S' := [(.int (4 : Int32)), (.ref o0), (.ref ad35)]) rfl ?_
 refine Home.st (own_pure (own_virtual X35 hx hZ hown (own_w54 hw) (own_w55 hw) (notFace_of_selects (args := #[]) (mvT hZ (own_w57 hw))) (own_w57 hw) (own_w56 hw) (own_w10 hw) (own_w58 hw) (by decide) (rm11_2 l Z a0 hw [] o0 (4 : Int32) sv_COMPACT_STRINGS p2 k_p2 u1 u2 u3 u4 u5 sv_SIOOBE_FORMATTER h35 n0 O35 (bnd_mono (bnd_lit (4 : Int32)) (by decide +kernel) (by decide +kernel)) (E_o0.keep K35) S_COMPACT_STRINGS (F_coder_o0.keep K35 nin0) hCS (F_value_o0.keep K35 nin0) (V_p2.keep K35 nin0) S_SIOOBE_FORMATTER bnd_u1 bnd_u2 bnd_u3 bnd_u4 bnd_u5 isr_sv_SIOOBE_FORMATTER) e35 (E_o0.keep K35) rfl (by rw [hml]; rfl) (argsL := [(.int (4 : Int32))]) (rest := [(.ref ad35)]) (lenOf own_pd14 rfl) rfl rfl (W := 1) (by exact hW0) (by decide) (by decide) (hb hby d8_66) (by decide) (by decide))) fun T36 X36 e36 => ?_
 show Home T36 (mkF m 69 #[.val (.ref o0), .val (.ref b3), .val (.int (4 : Int32)), .val (.int v33), .val (.int (2 : Int32)), .val (.int (4 : Int32)), .val (.int v29)] [(.int (u5 &&& (255 : Int32))), (.ref ad35)])
 refine Home.st (own_pure (own_virtual X36 hx hZ hown (own_w76 hw) (own_w77 hw) (notFace_of_selects (args := #[]) (mvT hZ (own_w79 hw))) (own_w79 hw) (own_w78 hw) (own_w10 hw) (own_w80 hw) (by decide) (rm16_0 l Z a0 hw [] ad35 (u5 &&& (255 : Int32)) sv_COMPACT_STRINGS b35 k35 h35 n0 O35 (bnd_and (own_at [u1, u2, u3, u4, u5] (4 : Int32)) (255 : Int32) (by decide)) Ea35 S_COMPACT_STRINGS Fc35 Fv35 V35 hCS) e36 Ea35 rfl (by rw [hml]; rfl) (argsL := [(.int (u5 &&& (255 : Int32)))]) (rest := []) (lenOf own_pd18 rfl) rfl rfl (W := 0) (by exact hW0) (by decide) (by decide) (hb hby d8_69) (by decide) (by decide))) fun T37 X37 e37 => ?_
 refine Home.run X37 hx hby sg8_72_1 (pc' := 74) (L' := #[.val (.ref o0), .val (.ref b3), .val (.int (4 : Int32)), .val (.int v33), .val (.int (2 : Int32)), .val (.int (4 : Int32)), .val (.int (f_rm22_0 (u5 &&& (255 : Int32))))]) (S' := []) rfl ?_
 obtain ⟨v38, hv38⟩ : ∃ z, z = (f_rm22_0 (u5 &&& (255 : Int32))) := ⟨_, rfl⟩
 rw [← hv38]
 refine Home.run X37 hx hby sg8_74_1 (pc' := 76) (L' := #[.val (.ref o0), .val (.ref b3), .val (.int (4 : Int32)), .val (.int v33), .val (.int (2 : Int32)), .val (.int (4 : Int32)), .val (.int v38)]) (S' := [(.int v38)]) rfl ?_
 refine Home.go (fun _ => XS.ifYes X37.here hx rfl (pc0 := 76) (pc' := 98) rfl (hb hby d8_76) rfl ((if0 _ _).trans (flt (by rw [hv38]; exact nn804)).2.1) (by decide) (by decide)) ?_
 refine Home.run X37 hx hby sg8_98_6 (pc' := 105) (L' := #[.val (.ref o0), .val (.ref b3), .val (.int (4 : Int32)), .val (.int ((v33 <<< ((5 : Int32) &&& 31)) ||| v38)), .val (.int (2 : Int32)), .val (.int (4 : Int32)), .val (.int v38)]) (S' := []) rfl ?_
 obtain ⟨v39, hv39⟩ : ∃ z, z = ((v33 <<< ((5 : Int32) &&& 31)) ||| v38) := ⟨_, rfl⟩
 rw [← hv39]
 refine Home.run X37 hx hby sg8_105_3 (pc' := 111) (L' := #[.val (.ref o0), .val (.ref b3), .val (.int (9 : Int32)), .val (.int v39), .val (.int (2 : Int32)), .val (.int (4 : Int32)), .val (.int v38)]) (S' := [(.int (8 : Int32)), (.int (9 : Int32))]) rfl ?_
 refine Home.go (fun _ => XS.icmpNo X37.here hx rfl (hb hby d8_111) rfl (flt (by decide)).1) ?_
 refine Home.run X37 hx hby sg8_114_8 (pc' := 127) (L' := #[.val (.ref o0), .val (.ref b3), .val (.int (1 : Int32)), .val (.int v39), .val (.int (3 : Int32)), .val (.int (4 : Int32)), .val (.int v38)]) (S' := [(.int (((v39.toUInt32 >>> ((1 : Int32) &&& 31).toUInt32).toInt32).toInt8.toInt32)), (.int (2 : Int32)), (.ref b3)]) rfl ?_
 have q40 := (V32.ext E35)
 obtain ⟨cl41, Ar41, q41, S41, M41, H41, G41⟩ := id q40
 refine Home.wr (stB X37 hx hZ e37 Ar41 (j := (2 : Int32)) (inb_of S41 ⟨by decide, by decide⟩) rfl rfl (hb hby d8_127)) fun T41 h41 X41 e41 W41 => ?_
 have W41' := Wr.to W41 (congrArg Value.int (nar_byte_id (bnd_i2b ((v39.toUInt32 >>> ((1 : Int32) &&& 31).toUInt32).toInt32)) (by decide +kernel) (by decide +kernel)))
 have V41 : Arv Z h41 b3 k3 .byte (3 : Int32) [(.int (((v15.toUInt32 >>> ((2 : Int32) &&& 31).toUInt32).toInt32).toInt8.toInt32)), (.int (((v30.toUInt32 >>> ((4 : Int32) &&& 31).toUInt32).toInt32).toInt8.toInt32)), (.int (((v39.toUInt32 >>> ((1 : Int32) &&& 31).toUInt32).toInt32).toInt8.toInt32))] (.int (0 : Int32)) := Arv.set Ar41 q41 S41 M41 H41 G41 (fits_byte_b (bnd_i2b ((v39.toUInt32 >>> ((1 : Int32) &&& 31).toUInt32).toInt32)) (by decide +kernel) (by decide +kernel)) W41' 2 rfl (Nat.le_of_ble_eq_true rfl)
 have O41 := O35.wr W41 g_b3
 have K41 : Keep h0 h41 ([] : List Addr) := Keep.wr K35 W41 (Or.inr (Nat.le_trans (Nat.le_refl _) (Nat.le_of_eq g3.symm)))
 have Cd41 := Cold.wr Cd35 W41 (Cold.safe Cd35 (List.mem_of_getElem? (i := 0) rfl))
 have N41 := Fr.snoc X41 N32 g_b3
 show Home T41 (mkF m 128 #[.val (.ref o0), .val (.ref b3), .val (.int (1 : Int32)), .val (.int v39), .val (.int (3 : Int32)), .val (.int (4 : Int32)), .val (.int v38)] [])
 refine Home.run X41 hx hby sg8_128_8 (pc' := 136) (L' := #[.val (.ref o0), .val (.ref b3), .val (.int (1 : Int32)), .val (.int (v39 &&& (1 : Int32))), .val (.int (3 : Int32)), .val (.int (4 : Int32)), .val (.int v38)]) (S' := []) rfl ?_
 obtain ⟨v42, hv42⟩ : ∃ z, z = (v39 &&& (1 : Int32)) := ⟨_, rfl⟩
 rw [← hv42]
 have bv42 : ¬ v42 < (0 : Int32) ∧ ¬ (1 : Int32) < v42 := by rw [hv42]; exact (bnd_and v39 (1 : Int32) (by decide))
 refine Home.run X41 hx hby sg8_136_4 (pc' := 55) (L' := #[.val (.ref o0), .val (.ref b3), .val (.int (1 : Int32)), .val (.int v42), .val (.int (3 : Int32)), .val (.int (5 : Int32)), .val (.int v38)]) (S' := [(.ref o0), (.int (5 : Int32))]) rfl ?_
 refine Home.st (own_pure (own_virtual X41 hx hZ hown (own_w41 hw) (own_w42 hw) (notFace_of_selects (args := #[]) (mvT hZ (own_w44 hw))) (own_w44 hw) (own_w43 hw) (own_w10 hw) (own_w45 hw) (by decide) (rm9_4 l Z a0 hw [] o0 p2 k_p2 u1 u2 u3 u4 u5 sv_COMPACT_STRINGS h41 n0 O41 (F_value_o0.keep K41 nin0) (V_p2.keep K41 nin0) (E_o0.keep K41) S_COMPACT_STRINGS (F_coder_o0.keep K41 nin0) hCS) e41 (E_o0.keep K41) rfl (by rw [hml]; rfl) (argsL := []) (rest := [(.int (5 : Int32))]) (lenOf own_pd4 rfl) rfl rfl (W := 1) (by exact hW0) (by decide) (by decide) (hb hby d8_55) (by decide) (by decide))) fun T43 X43 e43 => ?_
 refine Home.go (fun _ => XS.icmpYes X43.here hx rfl (pc0 := 58) (pc' := 142) rfl (hb hby d8_58) rfl (flt (by decide)).2.1 (by decide) (by decide)) ?_
 refine Home.run X43 hx hby sg8_142_1 (pc' := 143) (L' := #[.val (.ref o0), .val (.ref b3), .val (.int (1 : Int32)), .val (.int v42), .val (.int (3 : Int32)), .val (.int (5 : Int32)), .val (.int v38)]) (S' := [(.int v42)]) rfl ?_
 refine Home.go (fun _ => XS.ifYes X43.here hx rfl (pc0 := 143) (pc' := 156) rfl (hb hby d8_143) rfl ((if0 _ _).trans (teq (by rw [hv42, hv39, hv33, hv30, hv24, hv18, hv15, hv9, hv8, hv14, hv23, hv29, hv38]; exact nn805)).1) (by decide) (by decide)) ?_
 refine Home.run X43 hx hby sg8_156_1 (pc' := 157) (L' := #[.val (.ref o0), .val (.ref b3), .val (.int (1 : Int32)), .val (.int v42), .val (.int (3 : Int32)), .val (.int (5 : Int32)), .val (.int v38)]) (S' := [(.ref b3)]) rfl ?_
 subst hv42
 subst hv39
 subst hv38
 subst hv33
 subst hv30
 subst hv29
 subst hv24
 subst hv23
 subst hv18
 subst hv15
 subst hv14
 subst hv9
 subst hv8
 exact HomeW.retR X43 hx hlk hZ (own_hEL hw) e43 Cd41 (fun _ _ q => by cases q; exact (List.mem_of_getElem? (i := 0) rfl)) hret rfl rfl (hb hby d8_157) (by rw [show T43.heap = h41 from e43]; exact ⟨b3, k3, rfl, N41, (Nat.le_trans (Nat.le_refl _) (Nat.le_of_eq g3.symm)), K41, V41⟩) (by decide) (by decide)
theorem rm23_3 (l : Launch) (Z : State) (a0 : Array Value) (hw : HW a0 Z) (ws : List Jvm.Cond) (o0 : Addr) (j1 : Int64) (i3 : Int32) (k_o0 : ClassId) (u1 u2 u3 : Int32) (h0 : Heap) (n0 : Nat) (O0 : Old Z n0 h0) (bnd_i3 : ¬ i3 < (0 : Int32) ∧ ¬ (4 : Int32) < i3) (V_o0 : Arv Z h0 o0 k_o0 .byte (3 : Int32) [(.int u1), (.int u2), (.int u3)] (.int (0 : Int32))) :
    Con l Z (⟨"com/example/tryst/tryst/encoding/Base32DecodePinLaw", "byteOk", "([BJII)Z"⟩ : MethodName) method_3_code 5 (some .boolean) ws ({ frames := 0, cells := 0, slots := 0, locals := 0 } : Room) #[(.ref o0), (.long j1), (.int (3 : Int32)), (.int i3)] h0 (Pur (some (.int (f_rm23_3 j1 i3 u1 u2 u3))) h0) := by
 refine own_body (plainFor_of_name own_pn0) (fun m => ef_rm23_3 m o0 j1 (3 : Int32) i3) ?_
 intro p e s m below meth c s₁ hx hby hlk hml hret hZ hown hnm X0 e0
 have N0 := Fr.nil n0
 refine Home.run X0 hx hby sg23_0_2 (pc' := 3) (L' := #[.val (.ref o0), .val (.long j1), .second, .val (.int (3 : Int32)), .val (.int i3)]) (S' := [(.int (3 : Int32)), (.int i3)]) rfl ?_
 by_cases c1 : i3 < (3 : Int32)
 ·
  refine Home.go (fun _ => XS.icmpYes X0.here hx rfl (pc0 := 3) (pc' := 8) rfl (hb hby d23_3) rfl (tlt c1).1 (by decide) (by decide)) ?_
  have bd2 : ¬ i3 < (0 : Int32) ∧ ¬ (2 : Int32) < i3 := ⟨bnd_i3.1, (bnd_dn c1 (by decide +kernel))⟩
  refine Home.run X0 hx hby sg23_8_2 (pc' := 11) (L' := #[.val (.ref o0), .val (.long j1), .second, .val (.int (3 : Int32)), .val (.int i3)]) (S' := [(.int i3), (.ref o0)]) rfl ?_
  obtain ⟨cl4, Ar4, q4, S4, M4, H4, G4⟩ := id V_o0
  have ib4 : ¬ (i3 < 0 ∨ cl4.slots.size ≤ (i3).toNatClampNeg) := inb_of S4 ⟨(bnd_nlt bd2 (bnd_lit (0 : Int32)) (by decide +kernel)), c1⟩
  refine Home.go (X0.baloadBytes hx (j := i3) (v := .int (own_at [u1, u2, u3] i3)) (by rw [e0]; exact Ar4.1) (State.isArrayOf_alike hZ.alike Ar4.2.1) Ar4.2.2 ib4 (Has.at H4 ib4 (own_getD [u1, u2, u3] _)) rfl rfl (hb hby d23_11)) ?_
  refine Home.run X0 hx hby sg23_12_9 (pc' := 24) (L' := #[.val (.ref o0), .val (.long j1), .second, .val (.int (3 : Int32)), .val (.int i3)]) (S' := [(.int ((((j1.toUInt64 >>> (((32 : Int32) - ((8 : Int32) * i3)) &&& 0x3f).toInt64.toUInt64).toInt64).toInt32).toInt8.toInt32)), (.int (own_at [u1, u2, u3] i3))]) rfl ?_
  suffices J6 : ∀ {T : State} (X : Stand p l e ({ frames := 0, cells := 0, slots := 0, locals := 0 } : Room) s m #[(.ref o0), (.long j1), (.int (3 : Int32)), (.int i3)] below meth c T [] 0 0) (eT : T.heap = h0) (v7 : Int32) (hv7 : v7 = (if (own_at [u1, u2, u3] i3) = ((((j1.toUInt64 >>> (((32 : Int32) - ((8 : Int32) * i3)) &&& 0x3f).toInt64.toUInt64).toInt64).toInt32).toInt8.toInt32) then (1 : Int32) else (0 : Int32))), @Home p e below _ T (mkF m 32 #[.val (.ref o0), .val (.long j1), .second, .val (.int (3 : Int32)), .val (.int i3)] [(.int v7)]) by
   by_cases c5 : (own_at [u1, u2, u3] i3) = ((((j1.toUInt64 >>> (((32 : Int32) - ((8 : Int32) * i3)) &&& 0x3f).toInt64.toUInt64).toInt64).toInt32).toInt8.toInt32)
   ·
    refine Home.go (fun _ => XS.icmpNo X0.here hx rfl (hb hby d23_24) rfl (teq c5).2) ?_
    refine Home.run X0 hx hby sg23_27_2 (pc' := 32) (L' := #[.val (.ref o0), .val (.long j1), .second, .val (.int (3 : Int32)), .val (.int i3)]) (S' := [(.int (1 : Int32))]) rfl ?_
    exact J6 X0 e0 _ (by simp only [if_pos c5])
   ·
    refine Home.go (fun _ => XS.icmpYes X0.here hx rfl (pc0 := 24) (pc' := 31) rfl (hb hby d23_24) rfl (feq c5).2 (by decide) (by decide)) ?_
    refine Home.run X0 hx hby sg23_31_1 (pc' := 32) (L' := #[.val (.ref o0), .val (.long j1), .second, .val (.int (3 : Int32)), .val (.int i3)]) (S' := [(.int (0 : Int32))]) rfl ?_
    exact J6 X0 e0 _ (by simp only [if_neg c5])
  intro TJ6 XJ6 eJ6 v7 hv7
  have bv7 : ¬ v7 < (0 : Int32) ∧ ¬ (1 : Int32) < v7 := by rw [hv7]; exact (bnd_ite (bnd_mono (bnd_lit (1 : Int32)) (by decide +kernel) (by decide +kernel)) (bnd_mono (bnd_lit (0 : Int32)) (by decide +kernel) (by decide +kernel)))
  show Home TJ6 (mkF m 32 #[.val (.ref o0), .val (.long j1), .second, .val (.int (3 : Int32)), .val (.int i3)] [(.int v7)])
  exact Home.retN XJ6 hx hlk (t := .boolean) hret (by simp) (hb hby d23_32) ⟨congrArg some (congrArg Value.int (by subst hv7; first | rfl | (simp only [f_rm23_3, if_pos c1, nar_bool_id bv7 (by decide +kernel) (by decide +kernel), nar_i2c, nar_i2b] <;> rfl) | (simp [f_rm23_3, if_pos c1, nar_bool_id bv7 (by decide +kernel) (by decide +kernel)]; done))), rfl, eJ6⟩ (by decide) (by decide)
 ·
  refine Home.go (fun _ => XS.icmpNo X0.here hx rfl (hb hby d23_3) rfl (flt c1).1) ?_
  have bd3 : ¬ i3 < (3 : Int32) ∧ ¬ (4 : Int32) < i3 := ⟨c1, bnd_i3.2⟩
  refine Home.run X0 hx hby sg23_6_1 (pc' := 7) (L' := #[.val (.ref o0), .val (.long j1), .second, .val (.int (3 : Int32)), .val (.int i3)]) (S' := [(.int (1 : Int32))]) rfl ?_
  exact Home.retN X0 hx hlk (t := .boolean) hret (by simp) (hb hby d23_7) ⟨congrArg some (congrArg Value.int (by first | rfl | (simp only [f_rm23_3, if_neg c1, nar_i2c, nar_i2b] <;> rfl) | (simp [f_rm23_3, if_neg c1]; done))), rfl, e0⟩ (by decide) (by decide)
theorem f_rm23_3_bnd (j1 : Int64) (i3 : Int32) (u1 : Int32) (u2 : Int32) (u3 : Int32) (bnd_i3 : ¬ i3 < (0 : Int32) ∧ ¬ (4 : Int32) < i3) : ¬ (f_rm23_3 j1 i3 u1 u2 u3) < (0 : Int32) ∧ ¬ (1 : Int32) < (f_rm23_3 j1 i3 u1 u2 u3) := by unfold f_rm23_3; (repeat' split) <;> first | exact bnd_mono (bnd_lit (1 : Int32)) (by decide +kernel) (by decide +kernel) | exact bnd_mono (bnd_lit (0 : Int32)) (by decide +kernel) (by decide +kernel)
theorem rm6_3 (l : Launch) (Z : State) (a0 : Array Value) (hw : HW a0 Z) (ws : List Jvm.Cond) (o0 o2 : Addr) (k_o0 : ClassId) (u1 u2 u3 u4 u5 u6 u7 : Int32) (k_o2 : ClassId) (h0 : Heap) (n0 : Nat) (O0 : Old Z n0 h0) (V_o0 : Arv Z h0 o0 k_o0 .char (7 : Int32) [(.int u1), (.int u2), (.int u3), (.int u4), (.int u5), (.int u6), (.int u7)] (.int (0 : Int32))) (bnd_u1 : ¬ u1 < (50 : Int32) ∧ ¬ (122 : Int32) < u1) (V_o2 : Arv Z h0 o2 k_o2 .byte (7 : Int32) [(.int (0 : Int32)), (.int (0 : Int32)), (.int (0 : Int32)), (.int (0 : Int32)), (.int (0 : Int32)), (.int (0 : Int32)), (.int (0 : Int32))] (.int (0 : Int32))) (g_o2 : n0 ≤ o2) (ne_o0_o2 : o0 ≠ o2) (bnd_u2 : ¬ u2 < (50 : Int32) ∧ ¬ (122 : Int32) < u2) (bnd_u3 : ¬ u3 < (50 : Int32) ∧ ¬ (122 : Int32) < u3) (bnd_u4 : ¬ u4 < (50 : Int32) ∧ ¬ (122 : Int32) < u4) (bnd_u5 : ¬ u5 < (50 : Int32) ∧ ¬ (122 : Int32) < u5) (bnd_u6 : ¬ u6 < (50 : Int32) ∧ ¬ (122 : Int32) < u6) (bnd_u7 : ¬ u7 < (50 : Int32) ∧ ¬ (122 : Int32) < u7) :
    Con l Z (⟨"java/lang/StringUTF16", "compress", "([CI[BII)I"⟩ : MethodName) jdk_52_method_21_code 7 (some .int) ws ({ frames := 0, cells := 0, slots := 0, locals := 0 } : Room) #[(.ref o0), (.int (0 : Int32)), (.ref o2), (.int (0 : Int32)), (.int (7 : Int32))] h0 (fun v h L => v = some (.int (7 : Int32)) ∧ Fr n0 L ∧ Keep h0 h [o2] ∧ Arv Z h o2 k_o2 .byte (7 : Int32) [(.int u1), (.int u2), (.int u3), (.int u4), (.int u5), (.int u6), (.int u7)] (.int (0 : Int32))) := by
 refine own_body (plainFor_of_name own_pn3) (fun m => ef_rm6_3 m o0 (0 : Int32) o2 (7 : Int32)) ?_
 intro p e s m below meth c s₁ hx hby hlk hml hret hZ hown hnm X0 e0
 have N0 := Fr.nil n0
 refine Home.run X0 hx hby sg6_0_4 (pc' := 7) (L' := #[.val (.ref o0), .val (.int (0 : Int32)), .val (.ref o2), .val (.int (0 : Int32)), .val (.int (7 : Int32)), .val (.int (0 : Int32)), .unset]) (S' := [(.int (7 : Int32)), (.int (0 : Int32))]) rfl ?_
 refine Home.go (fun _ => XS.icmpNo X0.here hx rfl (hb hby d6_7) rfl (tlt (by decide)).2.1) ?_
 refine Home.run X0 hx hby sg6_10_2 (pc' := 12) (L' := #[.val (.ref o0), .val (.int (0 : Int32)), .val (.ref o2), .val (.int (0 : Int32)), .val (.int (7 : Int32)), .val (.int (0 : Int32)), .unset]) (S' := [(.int (0 : Int32)), (.ref o0)]) rfl ?_
 obtain ⟨cl1, Ar1, q1, S1, M1, H1, G1⟩ := id V_o0
 have ib1 : ¬ ((0 : Int32) < 0 ∨ cl1.slots.size ≤ ((0 : Int32)).toNatClampNeg) := inb_of S1 ⟨by decide, by decide⟩
 refine Home.go (X0.caload hx (j := (0 : Int32)) (v := (.int u1)) (by rw [e0]; exact Ar1.1) (State.isArrayOf_alike hZ.alike Ar1.2.1) Ar1.2.2 ib1 (Has.at H1 ib1 rfl) rfl rfl (hb hby d6_12)) ?_
 refine Home.run X0 hx hby sg6_13_3 (pc' := 20) (L' := #[.val (.ref o0), .val (.int (0 : Int32)), .val (.ref o2), .val (.int (0 : Int32)), .val (.int (7 : Int32)), .val (.int (0 : Int32)), .val (.int u1)]) (S' := [(.int (255 : Int32)), (.int u1)]) rfl ?_
 refine Home.go (fun _ => XS.icmpYes X0.here hx rfl (pc0 := 20) (pc' := 26) rfl (hb hby d6_20) rfl (flt (bnd_nlt (bnd_lit (255 : Int32)) bnd_u1 (by decide +kernel))).2.2.2 (by decide) (by decide)) ?_
 refine Home.run X0 hx hby sg6_26_4 (pc' := 31) (L' := #[.val (.ref o0), .val (.int (0 : Int32)), .val (.ref o2), .val (.int (0 : Int32)), .val (.int (7 : Int32)), .val (.int (0 : Int32)), .val (.int u1)]) (S' := [(.int (u1.toInt8.toInt32)), (.int (0 : Int32)), (.ref o2)]) rfl ?_
 rw [i2b_id bnd_u1 (by decide +kernel) (by decide +kernel)]
 obtain ⟨cl2, Ar2, q2, S2, M2, H2, G2⟩ := id V_o2
 refine Home.wr (stB X0 hx hZ e0 Ar2 (j := (0 : Int32)) (inb_of S2 ⟨by decide, by decide⟩) rfl rfl (hb hby d6_31)) fun T2 h2 X2 e2 W2 => ?_
 have W2' := Wr.to W2 (congrArg Value.int (nar_byte_id bnd_u1 (by decide +kernel) (by decide +kernel)))
 have V2 : Arv Z h2 o2 k_o2 .byte (7 : Int32) [(.int u1), (.int (0 : Int32)), (.int (0 : Int32)), (.int (0 : Int32)), (.int (0 : Int32)), (.int (0 : Int32)), (.int (0 : Int32))] (.int (0 : Int32)) := Arv.set Ar2 q2 S2 M2 H2 G2 (fits_byte_b bnd_u1 (by decide +kernel) (by decide +kernel)) W2' 0 rfl (Nat.le_of_ble_eq_true rfl)
 have O2 := O0.wr W2 g_o2
 have K2 : Keep h0 h2 ([o2] : List Addr) := Keep.wr (Keep.refl h0 ([o2] : List Addr)) W2 (Or.inl (List.mem_of_getElem? (i := 0) rfl))
 have N2 := Fr.snoc X2 N0 g_o2
 show Home T2 (mkF m 32 #[.val (.ref o0), .val (.int (0 : Int32)), .val (.ref o2), .val (.int (0 : Int32)), .val (.int (7 : Int32)), .val (.int (0 : Int32)), .val (.int u1)] [])
 refine Home.run X2 hx hby sg6_32_6 (pc' := 7) (L' := #[.val (.ref o0), .val (.int (1 : Int32)), .val (.ref o2), .val (.int (1 : Int32)), .val (.int (7 : Int32)), .val (.int (1 : Int32)), .val (.int u1)]) (S' := [(.int (7 : Int32)), (.int (1 : Int32))]) rfl ?_
 refine Home.go (fun _ => XS.icmpNo X2.here hx rfl (hb hby d6_7) rfl (tlt (by decide)).2.1) ?_
 refine Home.run X2 hx hby sg6_10_2 (pc' := 12) (L' := #[.val (.ref o0), .val (.int (1 : Int32)), .val (.ref o2), .val (.int (1 : Int32)), .val (.int (7 : Int32)), .val (.int (1 : Int32)), .val (.int u1)]) (S' := [(.int (1 : Int32)), (.ref o0)]) rfl ?_
 have q3 := (V_o0.other W2 ne_o0_o2)
 obtain ⟨cl4, Ar4, q4, S4, M4, H4, G4⟩ := id q3
 have ib4 : ¬ ((1 : Int32) < 0 ∨ cl4.slots.size ≤ ((1 : Int32)).toNatClampNeg) := inb_of S4 ⟨by decide, by decide⟩
 refine Home.go (X2.caload hx (j := (1 : Int32)) (v := (.int u2)) (by rw [e2]; exact Ar4.1) (State.isArrayOf_alike hZ.alike Ar4.2.1) Ar4.2.2 ib4 (Has.at H4 ib4 rfl) rfl rfl (hb hby d6_12)) ?_
 refine Home.run X2 hx hby sg6_13_3 (pc' := 20) (L' := #[.val (.ref o0), .val (.int (1 : Int32)), .val (.ref o2), .val (.int (1 : Int32)), .val (.int (7 : Int32)), .val (.int (1 : Int32)), .val (.int u2)]) (S' := [(.int (255 : Int32)), (.int u2)]) rfl ?_
 refine Home.go (fun _ => XS.icmpYes X2.here hx rfl (pc0 := 20) (pc' := 26) rfl (hb hby d6_20) rfl (flt (bnd_nlt (bnd_lit (255 : Int32)) bnd_u2 (by decide +kernel))).2.2.2 (by decide) (by decide)) ?_
 refine Home.run X2 hx hby sg6_26_4 (pc' := 31) (L' := #[.val (.ref o0), .val (.int (1 : Int32)), .val (.ref o2), .val (.int (1 : Int32)), .val (.int (7 : Int32)), .val (.int (1 : Int32)), .val (.int u2)]) (S' := [(.int (u2.toInt8.toInt32)), (.int (1 : Int32)), (.ref o2)]) rfl ?_
 rw [i2b_id bnd_u2 (by decide +kernel) (by decide +kernel)]
 obtain ⟨cl5, Ar5, q5, S5, M5, H5, G5⟩ := id V2
 refine Home.wr (stB X2 hx hZ e2 Ar5 (j := (1 : Int32)) (inb_of S5 ⟨by decide, by decide⟩) rfl rfl (hb hby d6_31)) fun T5 h5 X5 e5 W5 => ?_
 have W5' := Wr.to W5 (congrArg Value.int (nar_byte_id bnd_u2 (by decide +kernel) (by decide +kernel)))
 have V5 : Arv Z h5 o2 k_o2 .byte (7 : Int32) [(.int u1), (.int u2), (.int (0 : Int32)), (.int (0 : Int32)), (.int (0 : Int32)), (.int (0 : Int32)), (.int (0 : Int32))] (.int (0 : Int32)) := Arv.set Ar5 q5 S5 M5 H5 G5 (fits_byte_b bnd_u2 (by decide +kernel) (by decide +kernel)) W5' 1 rfl (Nat.le_of_ble_eq_true rfl)
 have O5 := O2.wr W5 g_o2
 have K5 : Keep h0 h5 ([o2] : List Addr) := Keep.wr K2 W5 (Or.inl (List.mem_of_getElem? (i := 0) rfl))
 have N5 := Fr.snoc X5 N2 g_o2
 show Home T5 (mkF m 32 #[.val (.ref o0), .val (.int (1 : Int32)), .val (.ref o2), .val (.int (1 : Int32)), .val (.int (7 : Int32)), .val (.int (1 : Int32)), .val (.int u2)] [])
 refine Home.run X5 hx hby sg6_32_6 (pc' := 7) (L' := #[.val (.ref o0), .val (.int (2 : Int32)), .val (.ref o2), .val (.int (2 : Int32)), .val (.int (7 : Int32)), .val (.int (2 : Int32)), .val (.int u2)]) (S' := [(.int (7 : Int32)), (.int (2 : Int32))]) rfl ?_
 refine Home.go (fun _ => XS.icmpNo X5.here hx rfl (hb hby d6_7) rfl (tlt (by decide)).2.1) ?_
 refine Home.run X5 hx hby sg6_10_2 (pc' := 12) (L' := #[.val (.ref o0), .val (.int (2 : Int32)), .val (.ref o2), .val (.int (2 : Int32)), .val (.int (7 : Int32)), .val (.int (2 : Int32)), .val (.int u2)]) (S' := [(.int (2 : Int32)), (.ref o0)]) rfl ?_
 have q6 := (q3.other W5 ne_o0_o2)
 obtain ⟨cl7, Ar7, q7, S7, M7, H7, G7⟩ := id q6
 have ib7 : ¬ ((2 : Int32) < 0 ∨ cl7.slots.size ≤ ((2 : Int32)).toNatClampNeg) := inb_of S7 ⟨by decide, by decide⟩
 refine Home.go (X5.caload hx (j := (2 : Int32)) (v := (.int u3)) (by rw [e5]; exact Ar7.1) (State.isArrayOf_alike hZ.alike Ar7.2.1) Ar7.2.2 ib7 (Has.at H7 ib7 rfl) rfl rfl (hb hby d6_12)) ?_
 refine Home.run X5 hx hby sg6_13_3 (pc' := 20) (L' := #[.val (.ref o0), .val (.int (2 : Int32)), .val (.ref o2), .val (.int (2 : Int32)), .val (.int (7 : Int32)), .val (.int (2 : Int32)), .val (.int u3)]) (S' := [(.int (255 : Int32)), (.int u3)]) rfl ?_
 refine Home.go (fun _ => XS.icmpYes X5.here hx rfl (pc0 := 20) (pc' := 26) rfl (hb hby d6_20) rfl (flt (bnd_nlt (bnd_lit (255 : Int32)) bnd_u3 (by decide +kernel))).2.2.2 (by decide) (by decide)) ?_
 refine Home.run X5 hx hby sg6_26_4 (pc' := 31) (L' := #[.val (.ref o0), .val (.int (2 : Int32)), .val (.ref o2), .val (.int (2 : Int32)), .val (.int (7 : Int32)), .val (.int (2 : Int32)), .val (.int u3)]) (S' := [(.int (u3.toInt8.toInt32)), (.int (2 : Int32)), (.ref o2)]) rfl ?_
 rw [i2b_id bnd_u3 (by decide +kernel) (by decide +kernel)]
 obtain ⟨cl8, Ar8, q8, S8, M8, H8, G8⟩ := id V5
 refine Home.wr (stB X5 hx hZ e5 Ar8 (j := (2 : Int32)) (inb_of S8 ⟨by decide, by decide⟩) rfl rfl (hb hby d6_31)) fun T8 h8 X8 e8 W8 => ?_
 have W8' := Wr.to W8 (congrArg Value.int (nar_byte_id bnd_u3 (by decide +kernel) (by decide +kernel)))
 have V8 : Arv Z h8 o2 k_o2 .byte (7 : Int32) [(.int u1), (.int u2), (.int u3), (.int (0 : Int32)), (.int (0 : Int32)), (.int (0 : Int32)), (.int (0 : Int32))] (.int (0 : Int32)) := Arv.set Ar8 q8 S8 M8 H8 G8 (fits_byte_b bnd_u3 (by decide +kernel) (by decide +kernel)) W8' 2 rfl (Nat.le_of_ble_eq_true rfl)
 have O8 := O5.wr W8 g_o2
 have K8 : Keep h0 h8 ([o2] : List Addr) := Keep.wr K5 W8 (Or.inl (List.mem_of_getElem? (i := 0) rfl))
 have N8 := Fr.snoc X8 N5 g_o2
 show Home T8 (mkF m 32 #[.val (.ref o0), .val (.int (2 : Int32)), .val (.ref o2), .val (.int (2 : Int32)), .val (.int (7 : Int32)), .val (.int (2 : Int32)), .val (.int u3)] [])
 refine Home.run X8 hx hby sg6_32_6 (pc' := 7) (L' := #[.val (.ref o0), .val (.int (3 : Int32)), .val (.ref o2), .val (.int (3 : Int32)), .val (.int (7 : Int32)), .val (.int (3 : Int32)), .val (.int u3)]) (S' := [(.int (7 : Int32)), (.int (3 : Int32))]) rfl ?_
 refine Home.go (fun _ => XS.icmpNo X8.here hx rfl (hb hby d6_7) rfl (tlt (by decide)).2.1) ?_
 refine Home.run X8 hx hby sg6_10_2 (pc' := 12) (L' := #[.val (.ref o0), .val (.int (3 : Int32)), .val (.ref o2), .val (.int (3 : Int32)), .val (.int (7 : Int32)), .val (.int (3 : Int32)), .val (.int u3)]) (S' := [(.int (3 : Int32)), (.ref o0)]) rfl ?_
 have q9 := (q6.other W8 ne_o0_o2)
 obtain ⟨cl10, Ar10, q10, S10, M10, H10, G10⟩ := id q9
 have ib10 : ¬ ((3 : Int32) < 0 ∨ cl10.slots.size ≤ ((3 : Int32)).toNatClampNeg) := inb_of S10 ⟨by decide, by decide⟩
 refine Home.go (X8.caload hx (j := (3 : Int32)) (v := (.int u4)) (by rw [e8]; exact Ar10.1) (State.isArrayOf_alike hZ.alike Ar10.2.1) Ar10.2.2 ib10 (Has.at H10 ib10 rfl) rfl rfl (hb hby d6_12)) ?_
 refine Home.run X8 hx hby sg6_13_3 (pc' := 20) (L' := #[.val (.ref o0), .val (.int (3 : Int32)), .val (.ref o2), .val (.int (3 : Int32)), .val (.int (7 : Int32)), .val (.int (3 : Int32)), .val (.int u4)]) (S' := [(.int (255 : Int32)), (.int u4)]) rfl ?_
 refine Home.go (fun _ => XS.icmpYes X8.here hx rfl (pc0 := 20) (pc' := 26) rfl (hb hby d6_20) rfl (flt (bnd_nlt (bnd_lit (255 : Int32)) bnd_u4 (by decide +kernel))).2.2.2 (by decide) (by decide)) ?_
 refine Home.run X8 hx hby sg6_26_4 (pc' := 31) (L' := #[.val (.ref o0), .val (.int (3 : Int32)), .val (.ref o2), .val (.int (3 : Int32)), .val (.int (7 : Int32)), .val (.int (3 : Int32)), .val (.int u4)]) (S' := [(.int (u4.toInt8.toInt32)), (.int (3 : Int32)), (.ref o2)]) rfl ?_
 rw [i2b_id bnd_u4 (by decide +kernel) (by decide +kernel)]
 obtain ⟨cl11, Ar11, q11, S11, M11, H11, G11⟩ := id V8
 refine Home.wr (stB X8 hx hZ e8 Ar11 (j := (3 : Int32)) (inb_of S11 ⟨by decide, by decide⟩) rfl rfl (hb hby d6_31)) fun T11 h11 X11 e11 W11 => ?_
 have W11' := Wr.to W11 (congrArg Value.int (nar_byte_id bnd_u4 (by decide +kernel) (by decide +kernel)))
 have V11 : Arv Z h11 o2 k_o2 .byte (7 : Int32) [(.int u1), (.int u2), (.int u3), (.int u4), (.int (0 : Int32)), (.int (0 : Int32)), (.int (0 : Int32))] (.int (0 : Int32)) := Arv.set Ar11 q11 S11 M11 H11 G11 (fits_byte_b bnd_u4 (by decide +kernel) (by decide +kernel)) W11' 3 rfl (Nat.le_of_ble_eq_true rfl)
 have O11 := O8.wr W11 g_o2
 have K11 : Keep h0 h11 ([o2] : List Addr) := Keep.wr K8 W11 (Or.inl (List.mem_of_getElem? (i := 0) rfl))
 have N11 := Fr.snoc X11 N8 g_o2
 show Home T11 (mkF m 32 #[.val (.ref o0), .val (.int (3 : Int32)), .val (.ref o2), .val (.int (3 : Int32)), .val (.int (7 : Int32)), .val (.int (3 : Int32)), .val (.int u4)] [])
 refine Home.run X11 hx hby sg6_32_6 (pc' := 7) (L' := #[.val (.ref o0), .val (.int (4 : Int32)), .val (.ref o2), .val (.int (4 : Int32)), .val (.int (7 : Int32)), .val (.int (4 : Int32)), .val (.int u4)]) (S' := [(.int (7 : Int32)), (.int (4 : Int32))]) rfl ?_
 refine Home.go (fun _ => XS.icmpNo X11.here hx rfl (hb hby d6_7) rfl (tlt (by decide)).2.1) ?_
 refine Home.run X11 hx hby sg6_10_2 (pc' := 12) (L' := #[.val (.ref o0), .val (.int (4 : Int32)), .val (.ref o2), .val (.int (4 : Int32)), .val (.int (7 : Int32)), .val (.int (4 : Int32)), .val (.int u4)]) (S' := [(.int (4 : Int32)), (.ref o0)]) rfl ?_
 have q12 := (q9.other W11 ne_o0_o2)
 obtain ⟨cl13, Ar13, q13, S13, M13, H13, G13⟩ := id q12
 have ib13 : ¬ ((4 : Int32) < 0 ∨ cl13.slots.size ≤ ((4 : Int32)).toNatClampNeg) := inb_of S13 ⟨by decide, by decide⟩
 refine Home.go (X11.caload hx (j := (4 : Int32)) (v := (.int u5)) (by rw [e11]; exact Ar13.1) (State.isArrayOf_alike hZ.alike Ar13.2.1) Ar13.2.2 ib13 (Has.at H13 ib13 rfl) rfl rfl (hb hby d6_12)) ?_
 refine Home.run X11 hx hby sg6_13_3 (pc' := 20) (L' := #[.val (.ref o0), .val (.int (4 : Int32)), .val (.ref o2), .val (.int (4 : Int32)), .val (.int (7 : Int32)), .val (.int (4 : Int32)), .val (.int u5)]) (S' := [(.int (255 : Int32)), (.int u5)]) rfl ?_
 refine Home.go (fun _ => XS.icmpYes X11.here hx rfl (pc0 := 20) (pc' := 26) rfl (hb hby d6_20) rfl (flt (bnd_nlt (bnd_lit (255 : Int32)) bnd_u5 (by decide +kernel))).2.2.2 (by decide) (by decide)) ?_
 refine Home.run X11 hx hby sg6_26_4 (pc' := 31) (L' := #[.val (.ref o0), .val (.int (4 : Int32)), .val (.ref o2), .val (.int (4 : Int32)), .val (.int (7 : Int32)), .val (.int (4 : Int32)), .val (.int u5)]) (S' := [(.int (u5.toInt8.toInt32)), (.int (4 : Int32)), (.ref o2)]) rfl ?_
 rw [i2b_id bnd_u5 (by decide +kernel) (by decide +kernel)]
 obtain ⟨cl14, Ar14, q14, S14, M14, H14, G14⟩ := id V11
 refine Home.wr (stB X11 hx hZ e11 Ar14 (j := (4 : Int32)) (inb_of S14 ⟨by decide, by decide⟩) rfl rfl (hb hby d6_31)) fun T14 h14 X14 e14 W14 => ?_
 have W14' := Wr.to W14 (congrArg Value.int (nar_byte_id bnd_u5 (by decide +kernel) (by decide +kernel)))
 have V14 : Arv Z h14 o2 k_o2 .byte (7 : Int32) [(.int u1), (.int u2), (.int u3), (.int u4), (.int u5), (.int (0 : Int32)), (.int (0 : Int32))] (.int (0 : Int32)) := Arv.set Ar14 q14 S14 M14 H14 G14 (fits_byte_b bnd_u5 (by decide +kernel) (by decide +kernel)) W14' 4 rfl (Nat.le_of_ble_eq_true rfl)
 have O14 := O11.wr W14 g_o2
 have K14 : Keep h0 h14 ([o2] : List Addr) := Keep.wr K11 W14 (Or.inl (List.mem_of_getElem? (i := 0) rfl))
 have N14 := Fr.snoc X14 N11 g_o2
 show Home T14 (mkF m 32 #[.val (.ref o0), .val (.int (4 : Int32)), .val (.ref o2), .val (.int (4 : Int32)), .val (.int (7 : Int32)), .val (.int (4 : Int32)), .val (.int u5)] [])
 refine Home.run X14 hx hby sg6_32_6 (pc' := 7) (L' := #[.val (.ref o0), .val (.int (5 : Int32)), .val (.ref o2), .val (.int (5 : Int32)), .val (.int (7 : Int32)), .val (.int (5 : Int32)), .val (.int u5)]) (S' := [(.int (7 : Int32)), (.int (5 : Int32))]) rfl ?_
 refine Home.go (fun _ => XS.icmpNo X14.here hx rfl (hb hby d6_7) rfl (tlt (by decide)).2.1) ?_
 refine Home.run X14 hx hby sg6_10_2 (pc' := 12) (L' := #[.val (.ref o0), .val (.int (5 : Int32)), .val (.ref o2), .val (.int (5 : Int32)), .val (.int (7 : Int32)), .val (.int (5 : Int32)), .val (.int u5)]) (S' := [(.int (5 : Int32)), (.ref o0)]) rfl ?_
 have q15 := (q12.other W14 ne_o0_o2)
 obtain ⟨cl16, Ar16, q16, S16, M16, H16, G16⟩ := id q15
 have ib16 : ¬ ((5 : Int32) < 0 ∨ cl16.slots.size ≤ ((5 : Int32)).toNatClampNeg) := inb_of S16 ⟨by decide, by decide⟩
 refine Home.go (X14.caload hx (j := (5 : Int32)) (v := (.int u6)) (by rw [e14]; exact Ar16.1) (State.isArrayOf_alike hZ.alike Ar16.2.1) Ar16.2.2 ib16 (Has.at H16 ib16 rfl) rfl rfl (hb hby d6_12)) ?_
 refine Home.run X14 hx hby sg6_13_3 (pc' := 20) (L' := #[.val (.ref o0), .val (.int (5 : Int32)), .val (.ref o2), .val (.int (5 : Int32)), .val (.int (7 : Int32)), .val (.int (5 : Int32)), .val (.int u6)]) (S' := [(.int (255 : Int32)), (.int u6)]) rfl ?_
 refine Home.go (fun _ => XS.icmpYes X14.here hx rfl (pc0 := 20) (pc' := 26) rfl (hb hby d6_20) rfl (flt (bnd_nlt (bnd_lit (255 : Int32)) bnd_u6 (by decide +kernel))).2.2.2 (by decide) (by decide)) ?_
 refine Home.run X14 hx hby sg6_26_4 (pc' := 31) (L' := #[.val (.ref o0), .val (.int (5 : Int32)), .val (.ref o2), .val (.int (5 : Int32)), .val (.int (7 : Int32)), .val (.int (5 : Int32)), .val (.int u6)]) (S' := [(.int (u6.toInt8.toInt32)), (.int (5 : Int32)), (.ref o2)]) rfl ?_
 rw [i2b_id bnd_u6 (by decide +kernel) (by decide +kernel)]
 obtain ⟨cl17, Ar17, q17, S17, M17, H17, G17⟩ := id V14
 refine Home.wr (stB X14 hx hZ e14 Ar17 (j := (5 : Int32)) (inb_of S17 ⟨by decide, by decide⟩) rfl rfl (hb hby d6_31)) fun T17 h17 X17 e17 W17 => ?_
 have W17' := Wr.to W17 (congrArg Value.int (nar_byte_id bnd_u6 (by decide +kernel) (by decide +kernel)))
 have V17 : Arv Z h17 o2 k_o2 .byte (7 : Int32) [(.int u1), (.int u2), (.int u3), (.int u4), (.int u5), (.int u6), (.int (0 : Int32))] (.int (0 : Int32)) := Arv.set Ar17 q17 S17 M17 H17 G17 (fits_byte_b bnd_u6 (by decide +kernel) (by decide +kernel)) W17' 5 rfl (Nat.le_of_ble_eq_true rfl)
 have O17 := O14.wr W17 g_o2
 have K17 : Keep h0 h17 ([o2] : List Addr) := Keep.wr K14 W17 (Or.inl (List.mem_of_getElem? (i := 0) rfl))
 have N17 := Fr.snoc X17 N14 g_o2
 show Home T17 (mkF m 32 #[.val (.ref o0), .val (.int (5 : Int32)), .val (.ref o2), .val (.int (5 : Int32)), .val (.int (7 : Int32)), .val (.int (5 : Int32)), .val (.int u6)] [])
 refine Home.run X17 hx hby sg6_32_6 (pc' := 7) (L' := #[.val (.ref o0), .val (.int (6 : Int32)), .val (.ref o2), .val (.int (6 : Int32)), .val (.int (7 : Int32)), .val (.int (6 : Int32)), .val (.int u6)]) (S' := [(.int (7 : Int32)), (.int (6 : Int32))]) rfl ?_
 refine Home.go (fun _ => XS.icmpNo X17.here hx rfl (hb hby d6_7) rfl (tlt (by decide)).2.1) ?_
 refine Home.run X17 hx hby sg6_10_2 (pc' := 12) (L' := #[.val (.ref o0), .val (.int (6 : Int32)), .val (.ref o2), .val (.int (6 : Int32)), .val (.int (7 : Int32)), .val (.int (6 : Int32)), .val (.int u6)]) (S' := [(.int (6 : Int32)), (.ref o0)]) rfl ?_
 have q18 := (q15.other W17 ne_o0_o2)
 obtain ⟨cl19, Ar19, q19, S19, M19, H19, G19⟩ := id q18
 have ib19 : ¬ ((6 : Int32) < 0 ∨ cl19.slots.size ≤ ((6 : Int32)).toNatClampNeg) := inb_of S19 ⟨by decide, by decide⟩
 refine Home.go (X17.caload hx (j := (6 : Int32)) (v := (.int u7)) (by rw [e17]; exact Ar19.1) (State.isArrayOf_alike hZ.alike Ar19.2.1) Ar19.2.2 ib19 (Has.at H19 ib19 rfl) rfl rfl (hb hby d6_12)) ?_
 refine Home.run X17 hx hby sg6_13_3 (pc' := 20) (L' := #[.val (.ref o0), .val (.int (6 : Int32)), .val (.ref o2), .val (.int (6 : Int32)), .val (.int (7 : Int32)), .val (.int (6 : Int32)), .val (.int u7)]) (S' := [(.int (255 : Int32)), (.int u7)]) rfl ?_
 refine Home.go (fun _ => XS.icmpYes X17.here hx rfl (pc0 := 20) (pc' := 26) rfl (hb hby d6_20) rfl (flt (bnd_nlt (bnd_lit (255 : Int32)) bnd_u7 (by decide +kernel))).2.2.2 (by decide) (by decide)) ?_
 refine Home.run X17 hx hby sg6_26_4 (pc' := 31) (L' := #[.val (.ref o0), .val (.int (6 : Int32)), .val (.ref o2), .val (.int (6 : Int32)), .val (.int (7 : Int32)), .val (.int (6 : Int32)), .val (.int u7)]) (S' := [(.int (u7.toInt8.toInt32)), (.int (6 : Int32)), (.ref o2)]) rfl ?_
 rw [i2b_id bnd_u7 (by decide +kernel) (by decide +kernel)]
 obtain ⟨cl20, Ar20, q20, S20, M20, H20, G20⟩ := id V17
 refine Home.wr (stB X17 hx hZ e17 Ar20 (j := (6 : Int32)) (inb_of S20 ⟨by decide, by decide⟩) rfl rfl (hb hby d6_31)) fun T20 h20 X20 e20 W20 => ?_
 have W20' := Wr.to W20 (congrArg Value.int (nar_byte_id bnd_u7 (by decide +kernel) (by decide +kernel)))
 have V20 : Arv Z h20 o2 k_o2 .byte (7 : Int32) [(.int u1), (.int u2), (.int u3), (.int u4), (.int u5), (.int u6), (.int u7)] (.int (0 : Int32)) := Arv.set Ar20 q20 S20 M20 H20 G20 (fits_byte_b bnd_u7 (by decide +kernel) (by decide +kernel)) W20' 6 rfl (Nat.le_of_ble_eq_true rfl)
 have O20 := O17.wr W20 g_o2
 have K20 : Keep h0 h20 ([o2] : List Addr) := Keep.wr K17 W20 (Or.inl (List.mem_of_getElem? (i := 0) rfl))
 have N20 := Fr.snoc X20 N17 g_o2
 show Home T20 (mkF m 32 #[.val (.ref o0), .val (.int (6 : Int32)), .val (.ref o2), .val (.int (6 : Int32)), .val (.int (7 : Int32)), .val (.int (6 : Int32)), .val (.int u7)] [])
 refine Home.run X20 hx hby sg6_32_6 (pc' := 7) (L' := #[.val (.ref o0), .val (.int (7 : Int32)), .val (.ref o2), .val (.int (7 : Int32)), .val (.int (7 : Int32)), .val (.int (7 : Int32)), .val (.int u7)]) (S' := [(.int (7 : Int32)), (.int (7 : Int32))]) rfl ?_
 refine Home.go (fun _ => XS.icmpYes X20.here hx rfl (pc0 := 7) (pc' := 44) rfl (hb hby d6_7) rfl (flt (by decide)).2.1 (by decide) (by decide)) ?_
 refine Home.run X20 hx hby sg6_44_1 (pc' := 46) (L' := #[.val (.ref o0), .val (.int (7 : Int32)), .val (.ref o2), .val (.int (7 : Int32)), .val (.int (7 : Int32)), .val (.int (7 : Int32)), .val (.int u7)]) (S' := [(.int (7 : Int32))]) rfl ?_
 exact Home.retI X20 hx hlk hret (hb hby d6_46) (by rw [show T20.heap = h20 from e20]; exact ⟨rfl, N20, K20, V20⟩) (by decide) (by decide)
theorem rm5_3 (l : Launch) (Z : State) (a0 : Array Value) (hw : HW a0 Z) (ws : List Jvm.Cond) (o0 : Addr) (k_o0 : ClassId) (u1 u2 u3 u4 u5 u6 u7 : Int32) (h0 : Heap) (n0 : Nat) (O0 : Old Z n0 h0) (V_o0 : Arv Z h0 o0 k_o0 .char (7 : Int32) [(.int u1), (.int u2), (.int u3), (.int u4), (.int u5), (.int u6), (.int u7)] (.int (0 : Int32))) (bnd_u1 : ¬ u1 < (50 : Int32) ∧ ¬ (122 : Int32) < u1) (bnd_u2 : ¬ u2 < (50 : Int32) ∧ ¬ (122 : Int32) < u2) (bnd_u3 : ¬ u3 < (50 : Int32) ∧ ¬ (122 : Int32) < u3) (bnd_u4 : ¬ u4 < (50 : Int32) ∧ ¬ (122 : Int32) < u4) (bnd_u5 : ¬ u5 < (50 : Int32) ∧ ¬ (122 : Int32) < u5) (bnd_u6 : ¬ u6 < (50 : Int32) ∧ ¬ (122 : Int32) < u6) (bnd_u7 : ¬ u7 < (50 : Int32) ∧ ¬ (122 : Int32) < u7) :
    Con l Z (⟨"java/lang/StringUTF16", "compress", "([CII)[B"⟩ : MethodName) jdk_52_method_16_code 6 (some (.array .byte)) ws ({ frames := 1, cells := 1, slots := 7, locals := 18 } : Room) #[(.ref o0), (.int (0 : Int32)), (.int (7 : Int32))] h0 (fun v h L => ∃ (b1 : Addr), ∃ (k1 : ClassId), v = some (.ref b1) ∧ Fr n0 L ∧ h0.size ≤ b1 ∧ Keep h0 h [] ∧ Arv Z h b1 k1 .byte (7 : Int32) [(.int u1), (.int u2), (.int u3), (.int u4), (.int u5), (.int u6), (.int u7)] (.int (0 : Int32))) := by
 refine own_body (plainFor_of_name own_pn3) (fun m => ef_rm5_3 m o0 (0 : Int32) (7 : Int32)) ?_
 intro p e s m below meth c s₁ hx hby hlk hml hret hZ hown hnm X0 e0
 have N0 := Fr.nil n0
 refine Home.run X0 hx hby sg5_0_1 (pc' := 1) (L' := #[.val (.ref o0), .val (.int (0 : Int32)), .val (.int (7 : Int32)), .unset, .unset, .unset]) (S' := [(.int (7 : Int32))]) rfl ?_
 refine Home.na (own_newP (aty := .byte) X0 hx hZ (own_w26 hw) e0 (g := (mkF m 1 #[.val (.ref o0), .val (.int (0 : Int32)), .val (.int (7 : Int32)), .unset, .unset, .unset] [(.int (7 : Int32))])) rfl (hb hby d5_1) rfl (by decide) (cap := 7) (by decide) (by decide) (by decide) (by decide)) fun T1 h1 k1 b1 g1 X1 e1 E1 A1 => ?_
 have g_b1 : n0 ≤ b1 := Nat.le_trans (Old.le O0) (Nat.le_of_eq g1.symm)
 have V1 : Arv Z h1 b1 k1 .byte (7 : Int32) [(.int (0 : Int32)), (.int (0 : Int32)), (.int (0 : Int32)), (.int (0 : Int32)), (.int (0 : Int32)), (.int (0 : Int32)), (.int (0 : Int32))] (.int (0 : Int32)) := (Arv.new A1 (by decide)).pad (pad_rep [] (.int (0 : Int32)) 7)
 have O1 := O0.ext E1
 have K1 : Keep h0 h1 ([] : List Addr) := Keep.ext (Keep.refl h0 ([] : List Addr)) E1
 refine Home.run X1 hx hby sg5_3_6 (pc' := 9) (L' := #[.val (.ref o0), .val (.int (0 : Int32)), .val (.int (7 : Int32)), .val (.ref b1), .unset, .unset]) (S' := [(.int (7 : Int32)), (.int (0 : Int32)), (.ref b1), (.int (0 : Int32)), (.ref o0)]) rfl ?_
 have ne2 : o0 ≠ b1 := (Nat.ne_of_lt (Nat.lt_of_lt_of_le V_o0.lt (Nat.le_trans (Nat.le_refl _) (Nat.le_of_eq g1.symm))))
 refine Home.call (own_static X1 hx hZ hown (own_w27 hw) (own_w28 hw) (own_w24 hw) (own_w29 hw) (by decide) (rm6_3 l Z a0 hw [] o0 b1 k_o0 u1 u2 u3 u4 u5 u6 u7 k1 h1 n0 O1 (V_o0.keep K1 nin0) bnd_u1 V1 g_b1 ne2 bnd_u2 bnd_u3 bnd_u4 bnd_u5 bnd_u6 bnd_u7) e1 rfl (by rw [hml]; rfl) (argsL := [(.ref o0), (.int (0 : Int32)), (.ref b1), (.int (0 : Int32)), (.int (7 : Int32))]) (rest := []) (lenOf own_pd7 rfl) rfl rfl (W := 0) (by exact hW0) (by decide) (by decide) (hb hby d5_9) (by decide) (by decide)) ?_
 rintro _ T3 L3 X3 ⟨rfl, N3q, K3q, P3_0⟩
 have O3 := Old.keep O1 K3q (allS g_b1 all0)
 have K3 : Keep h0 T3.heap ([] : List Addr) := Keep.trans K1 K3q (allS (Or.inr (Nat.le_trans (Nat.le_refl _) (Nat.le_of_eq g1.symm))) all0)
 have N3 := Fr.app N0 N3q
 refine Home.run X3 hx hby sg5_12_3 (pc' := 17) (L' := #[.val (.ref o0), .val (.int (0 : Int32)), .val (.int (7 : Int32)), .val (.ref b1), .val (.int (7 : Int32)), .unset]) (S' := [(.int (7 : Int32)), (.int (7 : Int32))]) rfl ?_
 refine Home.go (fun _ => XS.icmpYes X3.here hx rfl (pc0 := 17) (pc' := 57) rfl (hb hby d5_17) rfl (teq (by decide)).1 (by decide) (by decide)) ?_
 refine Home.run X3 hx hby sg5_57_1 (pc' := 58) (L' := #[.val (.ref o0), .val (.int (0 : Int32)), .val (.int (7 : Int32)), .val (.ref b1), .val (.int (7 : Int32)), .unset]) (S' := [(.ref b1)]) rfl ?_
 exact Home.retR X3 hx hlk hret rfl rfl (hb hby d5_58) ⟨b1, k1, rfl, N3, (Nat.le_trans (Nat.le_refl _) (Nat.le_of_eq g1.symm)), K3, P3_0⟩ (by decide) (by decide)
theorem rm7_3 (l : Launch) (Z : State) (a0 : Array Value) (hw : HW a0 Z) (ws : List Jvm.Cond) (o0 : Addr) (k_o0 : ClassId) (u1 u2 u3 u4 u5 u6 u7 : Int32) (h0 : Heap) (n0 : Nat) (O0 : Old Z n0 h0) (V_o0 : Arv Z h0 o0 k_o0 .byte (7 : Int32) [(.int u1), (.int u2), (.int u3), (.int u4), (.int u5), (.int u6), (.int u7)] (.int (0 : Int32))) :
    Con l Z (⟨"java/lang/StringUTF16", "coderFromArrayLen", "([BI)B"⟩ : MethodName) jdk_52_method_15_code 2 (some .byte) ws ({ frames := 0, cells := 0, slots := 0, locals := 0 } : Room) #[(.ref o0), (.int (7 : Int32))] h0 (Pur (some (.int (0 : Int32))) h0) := by
 refine own_body (plainFor_of_name own_pn3) (fun m => ef_rm7_3 m o0 (7 : Int32)) ?_
 intro p e s m below meth c s₁ hx hby hlk hml hret hZ hown hnm X0 e0
 have N0 := Fr.nil n0
 refine Home.run X0 hx hby sg7_0_2 (pc' := 2) (L' := #[.val (.ref o0), .val (.int (7 : Int32))]) (S' := [(.ref o0), (.int (7 : Int32))]) rfl ?_
 obtain ⟨cl1, Ar1, q1, S1, M1, H1, G1⟩ := id V_o0
 refine Home.go (own_alen X0 hx hZ e0 Ar1 S1 M1 rfl rfl (hb hby d7_2)) ?_
 refine Home.run X0 hx hby sg7_3_4 (pc' := 8) (L' := #[.val (.ref o0), .val (.int (7 : Int32))]) (S' := [(.int (0 : Int32))]) rfl ?_
 exact Home.retN X0 hx hlk (t := .byte) hret (by simp) (hb hby d7_8) ⟨congrArg some (congrArg Value.int (by first | rfl | exact nar_i2c _ | exact nar_i2b _)), rfl, e0⟩ (by decide) (by decide)
theorem rm3_4 (l : Launch) (Z : State) (a0 : Array Value) (hw : HW a0 Z) (ws : List Jvm.Cond) (o0 o1 : Addr) (sv_COMPACT_STRINGS : Int32) (k_o1 : ClassId) (u1 u2 u3 u4 u5 u6 u7 : Int32) (h0 : Heap) (n0 : Nat) (O0 : Old Z n0 h0) (S_COMPACT_STRINGS : Sta Z Z.heap "java/lang/String" "COMPACT_STRINGS" "Z" (.int sv_COMPACT_STRINGS)) (hCS : ¬ (sv_COMPACT_STRINGS = (0 : Int32))) (V_o1 : Arv Z h0 o1 k_o1 .char (7 : Int32) [(.int u1), (.int u2), (.int u3), (.int u4), (.int u5), (.int u6), (.int u7)] (.int (0 : Int32))) (bnd_u1 : ¬ u1 < (50 : Int32) ∧ ¬ (122 : Int32) < u1) (bnd_u2 : ¬ u2 < (50 : Int32) ∧ ¬ (122 : Int32) < u2) (bnd_u3 : ¬ u3 < (50 : Int32) ∧ ¬ (122 : Int32) < u3) (bnd_u4 : ¬ u4 < (50 : Int32) ∧ ¬ (122 : Int32) < u4) (bnd_u5 : ¬ u5 < (50 : Int32) ∧ ¬ (122 : Int32) < u5) (bnd_u6 : ¬ u6 < (50 : Int32) ∧ ¬ (122 : Int32) < u6) (bnd_u7 : ¬ u7 < (50 : Int32) ∧ ¬ (122 : Int32) < u7) (E_o0 : Exa Z h0 o0 "java/lang/String") (F_coder_o0 : Fld Z h0 o0 "java/lang/String" "coder" "B" (.int (0 : Int32))) (g_o0 : n0 ≤ o0) (F_value_o0 : Fld Z h0 o0 "java/lang/String" "value" "[B" .null) :
    Con l Z (⟨"java/lang/String", "<init>", "([CIILjava/lang/Void;)V"⟩ : MethodName) jdk_42_method_149_code 6 none ws ({ frames := 2, cells := 1, slots := 7, locals := 35 } : Room) #[(.ref o0), (.ref o1), (.int (0 : Int32)), (.int (7 : Int32)), .null] h0 (fun v h L => ∃ (b1_3 : Addr), ∃ (k1_3 : ClassId), v = none ∧ Fr n0 L ∧ h0.size ≤ b1_3 ∧ Keep h0 h [o0] ∧ Exa Z h o0 "java/lang/String" ∧ Fld Z h o0 "java/lang/String" "coder" "B" (.int (0 : Int32)) ∧ Fld Z h o0 "java/lang/String" "value" "[B" (.ref b1_3) ∧ Arv Z h b1_3 k1_3 .byte (7 : Int32) [(.int u1), (.int u2), (.int u3), (.int u4), (.int u5), (.int u6), (.int u7)] (.int (0 : Int32))) := by
 refine own_body (plainFor_of_name own_pn1) (fun m => ef_rm3_4 m o0 o1 (0 : Int32) (7 : Int32)) ?_
 intro p e s m below meth c s₁ hx hby hlk hml hret hZ hown hnm X0 e0
 have N0 := Fr.nil n0
 refine Home.run X0 hx hby sg3_0_1 (pc' := 1) (L' := #[.val (.ref o0), .val (.ref o1), .val (.int (0 : Int32)), .val (.int (7 : Int32)), .val .null, .unset]) (S' := [(.ref o0)]) rfl ?_
 refine Home.st (initO X0 hx hZ hown (own_w18 hw) (own_w19 hw) (own_w20 hw) e0 rfl (by rw [hml]; rfl) rfl (hb hby d3_1) (by decide) (W := 0) (by exact hW0) (by decide)) fun T1 X1 e1 => ?_
 refine Home.run X1 hx hby sg3_4_1 (pc' := 5) (L' := #[.val (.ref o0), .val (.ref o1), .val (.int (0 : Int32)), .val (.int (7 : Int32)), .val .null, .unset]) (S' := [(.int (7 : Int32))]) rfl ?_
 refine Home.go (fun _ => XS.ifYes X1.here hx rfl (pc0 := 5) (pc' := 27) rfl (hb hby d3_5) rfl ((if0 _ _).trans (feq (by decide)).2) (by decide) (by decide)) ?_
 refine Home.st (getS2 X1 hx hZ hown (host := "") (Or.inl (own_w21 hw)) Via.refl e1 (S_COMPACT_STRINGS.ext O0.2) rfl (hb hby d3_27)) fun T2 X2 e2 => ?_
 refine Home.go (fun _ => XS.ifNo X2.here hx rfl (hb hby d3_30) rfl ((if0 _ _).trans (feq hCS).1)) ?_
 refine Home.run X2 hx hby sg3_33_3 (pc' := 36) (L' := #[.val (.ref o0), .val (.ref o1), .val (.int (0 : Int32)), .val (.int (7 : Int32)), .val .null, .unset]) (S' := [(.int (7 : Int32)), (.int (0 : Int32)), (.ref o1)]) rfl ?_
 refine Home.call (own_static X2 hx hZ hown (own_w22 hw) (own_w23 hw) (own_w24 hw) (own_w25 hw) (by decide) (rm5_3 l Z a0 hw [] o1 k_o1 u1 u2 u3 u4 u5 u6 u7 h0 n0 O0 V_o1 bnd_u1 bnd_u2 bnd_u3 bnd_u4 bnd_u5 bnd_u6 bnd_u7) e2 rfl (by rw [hml]; rfl) (argsL := [(.ref o1), (.int (0 : Int32)), (.int (7 : Int32))]) (rest := []) (lenOf own_pd8 rfl) rfl rfl (W := 0) (by exact hW0) (by decide) (by decide) (hb hby d3_36) (by decide) (by decide)) ?_
 rintro _ T3 L3 X3 ⟨b1_3, k1_3, rfl, N3q, sz_b1_3, K3q, P3_0⟩
 have g_b1_3 : n0 ≤ b1_3 := Nat.le_trans (Old.le O0) sz_b1_3
 have O3 := Old.keep O0 K3q all0
 have K3 : Keep h0 T3.heap ([o0] : List Addr) := Keep.trans (Keep.refl h0 ([o0] : List Addr)) K3q all0
 have N3 := Fr.app N0 N3q
 refine Home.run X3 hx hby sg3_39_4 (pc' := 45) (L' := #[.val (.ref o0), .val (.ref o1), .val (.int (0 : Int32)), .val (.int (7 : Int32)), .val .null, .val (.ref b1_3)]) (S' := [(.int (7 : Int32)), (.ref b1_3), (.ref o0)]) rfl ?_
 refine Home.st (own_pure (own_static X3 hx hZ hown (own_w30 hw) (own_w31 hw) (own_w24 hw) (own_w32 hw) (by decide) (rm7_3 l Z a0 hw [] b1_3 k1_3 u1 u2 u3 u4 u5 u6 u7 T3.heap n0 O3 P3_0) rfl rfl (by rw [hml]; rfl) (argsL := [(.ref b1_3), (.int (7 : Int32))]) (rest := [(.ref o0)]) (lenOf own_pd9 rfl) rfl rfl (W := 1) (by exact hW0) (by decide) (by decide) (hb hby d3_45) (by decide) (by decide))) fun T4 X4 e4 => ?_
 show Home T4 (mkF m 48 #[.val (.ref o0), .val (.ref o1), .val (.int (0 : Int32)), .val (.int (7 : Int32)), .val .null, .val (.ref b1_3)] [(.int (0 : Int32)), (.ref o0)])
 have q5 := (F_coder_o0.keep K3q nin0)
 refine Home.wr (putFN X4 hx hZ hown (own_w33 hw) Via.refl e4 q5 (E_o0.keep K3) (Or.inr ⟨(own_w34 hw), rfl, hnm⟩) (own_w9 hw) (ty := .byte) (v := (.int (0 : Int32))) (v' := (.int (0 : Int32))) (by decide) rfl rfl rfl rfl (hb hby d3_48)) fun T6 h6 X6 e6 W6 => ?_
 have Fw6 := q5.same W6
 have O6 := O3.wr W6 g_o0
 have K6 : Keep h0 h6 ([o0] : List Addr) := Keep.wr K3 W6 (Or.inl (List.mem_of_getElem? (i := 0) rfl))
 have N6 := Fr.snoc X6 N3 g_o0
 refine Home.run X6 hx hby sg3_51_2 (pc' := 54) (L' := #[.val (.ref o0), .val (.ref o1), .val (.int (0 : Int32)), .val (.int (7 : Int32)), .val .null, .val (.ref b1_3)]) (S' := [(.ref b1_3), (.ref o0)]) rfl ?_
 have q7 := ((F_value_o0.keep K3q nin0).other W6 (Or.inr (slot_ne (Or.inr (own_w36 hw)) (Or.inr (own_w34 hw)) (by decide) (t := (.array .byte)) (t' := .byte) (by decide) (by decide))))
 refine Home.wr (putF X6 hx hZ hown (host := "") (Or.inl (own_w35 hw)) Via.refl e6 q7 (E_o0.keep K6) (Or.inr ⟨(own_w36 hw), rfl, hnm⟩) (own_w9 hw) (ty := (.array .byte)) (by decide) rfl rfl rfl rfl (hb hby d3_54)) fun T8 h8 X8 e8 W8 => ?_
 have Fw8 := q7.same W8
 have O8 := O6.wr W8 g_o0
 have K8 : Keep h0 h8 ([o0] : List Addr) := Keep.wr K6 W8 (Or.inl (List.mem_of_getElem? (i := 0) rfl))
 have N8 := Fr.snoc X8 N6 g_o0
 have q9 := (Fw6.other W8 (Or.inr (slot_ne (Or.inr (own_w34 hw)) (Or.inr (own_w36 hw)) (by decide) (t := .byte) (t' := (.array .byte)) (by decide) (by decide))))
 have ne10 : b1_3 ≠ o0 := (Ne.symm (Nat.ne_of_lt (Nat.lt_of_lt_of_le E_o0.lt (Nat.le_trans (Nat.le_refl _) sz_b1_3))))
 have q11 := ((P3_0.other W6 ne10).other W8 ne10)
 exact Home.ret0 X8 hx hlk hret (hb hby d3_57) (by rw [show T8.heap = h8 from e8]; exact ⟨b1_3, k1_3, rfl, N8, (Nat.le_trans (Nat.le_refl _) sz_b1_3), K8, (E_o0.keep K8), q9, Fw8, q11⟩) (by decide) (by decide)
theorem rm2_4 (l : Launch) (Z : State) (a0 : Array Value) (hw : HW a0 Z) (ws : List Jvm.Cond) (o0 o1 : Addr) (k_o1 : ClassId) (u1 u2 u3 u4 u5 u6 u7 sv_COMPACT_STRINGS : Int32) (h0 : Heap) (n0 : Nat) (O0 : Old Z n0 h0) (V_o1 : Arv Z h0 o1 k_o1 .char (7 : Int32) [(.int u1), (.int u2), (.int u3), (.int u4), (.int u5), (.int u6), (.int u7)] (.int (0 : Int32))) (S_COMPACT_STRINGS : Sta Z Z.heap "java/lang/String" "COMPACT_STRINGS" "Z" (.int sv_COMPACT_STRINGS)) (E_o0 : Exa Z h0 o0 "java/lang/String") (F_coder_o0 : Fld Z h0 o0 "java/lang/String" "coder" "B" (.int (0 : Int32))) (F_value_o0 : Fld Z h0 o0 "java/lang/String" "value" "[B" .null) (bnd_u1 : ¬ u1 < (50 : Int32) ∧ ¬ (122 : Int32) < u1) (bnd_u2 : ¬ u2 < (50 : Int32) ∧ ¬ (122 : Int32) < u2) (bnd_u3 : ¬ u3 < (50 : Int32) ∧ ¬ (122 : Int32) < u3) (bnd_u4 : ¬ u4 < (50 : Int32) ∧ ¬ (122 : Int32) < u4) (bnd_u5 : ¬ u5 < (50 : Int32) ∧ ¬ (122 : Int32) < u5) (bnd_u6 : ¬ u6 < (50 : Int32) ∧ ¬ (122 : Int32) < u6) (bnd_u7 : ¬ u7 < (50 : Int32) ∧ ¬ (122 : Int32) < u7) (g_o0 : n0 ≤ o0) (hCS : ¬ (sv_COMPACT_STRINGS = (0 : Int32))) :
    Con l Z (⟨"java/lang/String", "<init>", "([C)V"⟩ : MethodName) jdk_42_method_3_code 2 none ws ({ frames := 3, cells := 1, slots := 7, locals := 52 } : Room) #[(.ref o0), (.ref o1)] h0 (fun v h L => ∃ (b1_3_2 : Addr), ∃ (k1_3_2 : ClassId), v = none ∧ Fr n0 L ∧ h0.size ≤ b1_3_2 ∧ Keep h0 h [o0] ∧ Exa Z h o0 "java/lang/String" ∧ Fld Z h o0 "java/lang/String" "coder" "B" (.int (0 : Int32)) ∧ Fld Z h o0 "java/lang/String" "value" "[B" (.ref b1_3_2) ∧ Arv Z h b1_3_2 k1_3_2 .byte (7 : Int32) [(.int u1), (.int u2), (.int u3), (.int u4), (.int u5), (.int u6), (.int u7)] (.int (0 : Int32))) := by
 refine own_body (plainFor_of_name own_pn1) (fun m => ef_rm2_4 m o0 o1) ?_
 intro p e s m below meth c s₁ hx hby hlk hml hret hZ hown hnm X0 e0
 have N0 := Fr.nil n0
 refine Home.run X0 hx hby sg2_0_4 (pc' := 4) (L' := #[.val (.ref o0), .val (.ref o1)]) (S' := [(.ref o1), (.int (0 : Int32)), (.ref o1), (.ref o0)]) rfl ?_
 obtain ⟨cl1, Ar1, q1, S1, M1, H1, G1⟩ := id V_o1
 refine Home.go (own_alen X0 hx hZ e0 Ar1 S1 M1 rfl rfl (hb hby d2_4)) ?_
 refine Home.run X0 hx hby sg2_5_1 (pc' := 6) (L' := #[.val (.ref o0), .val (.ref o1)]) (S' := [.null, (.int (7 : Int32)), (.int (0 : Int32)), (.ref o1), (.ref o0)]) rfl ?_
 refine Home.call (own_special X0 hx hZ hown rfl (own_w14 hw) (own_w15 hw) (own_w10 hw) (own_w17 hw) (by decide) (rm3_4 l Z a0 hw [] o0 o1 sv_COMPACT_STRINGS k_o1 u1 u2 u3 u4 u5 u6 u7 h0 n0 O0 S_COMPACT_STRINGS hCS V_o1 bnd_u1 bnd_u2 bnd_u3 bnd_u4 bnd_u5 bnd_u6 bnd_u7 E_o0 F_coder_o0 g_o0 F_value_o0) e0 rfl (by rw [hml]; rfl) (a := o0) (argsL := [(.ref o1), (.int (0 : Int32)), (.int (7 : Int32)), .null]) (rest := []) (lenOf own_pd1 rfl) rfl rfl (W := 0) (by exact hW0) (by decide) (by decide) (hb hby d2_6) (by decide) (by decide)) ?_
 rintro _ T2 L2 X2 ⟨b1_3_2, k1_3_2, rfl, N2q, sz_b1_3_2, K2q, P2_0, P2_1, P2_2, P2_3⟩
 have g_b1_3_2 : n0 ≤ b1_3_2 := Nat.le_trans (Old.le O0) sz_b1_3_2
 have O2 := Old.keep O0 K2q (allS g_o0 all0)
 have K2 : Keep h0 T2.heap ([o0] : List Addr) := Keep.trans (Keep.refl h0 ([o0] : List Addr)) K2q (allS (Or.inl (List.mem_of_getElem? (i := 0) rfl)) all0)
 have N2 := Fr.app N0 N2q
 exact Home.ret0 X2 hx hlk hret (hb hby d2_9) ⟨b1_3_2, k1_3_2, rfl, N2, (Nat.le_trans (Nat.le_refl _) sz_b1_3_2), K2, P2_0, P2_1, P2_2, P2_3⟩ (by decide) (by decide)
theorem rm9_5 (l : Launch) (Z : State) (a0 : Array Value) (hw : HW a0 Z) (ws : List Jvm.Cond) (o0 p2 : Addr) (k_p2 : ClassId) (u1 u2 u3 u4 u5 u6 u7 sv_COMPACT_STRINGS : Int32) (h0 : Heap) (n0 : Nat) (O0 : Old Z n0 h0) (F_value_o0 : Fld Z h0 o0 "java/lang/String" "value" "[B" (.ref p2)) (V_p2 : Arv Z h0 p2 k_p2 .byte (7 : Int32) [(.int u1), (.int u2), (.int u3), (.int u4), (.int u5), (.int u6), (.int u7)] (.int (0 : Int32))) (E_o0 : Exa Z h0 o0 "java/lang/String") (S_COMPACT_STRINGS : Sta Z Z.heap "java/lang/String" "COMPACT_STRINGS" "Z" (.int sv_COMPACT_STRINGS)) (F_coder_o0 : Fld Z h0 o0 "java/lang/String" "coder" "B" (.int (0 : Int32))) (hCS : ¬ (sv_COMPACT_STRINGS = (0 : Int32))) :
    Con l Z (⟨"java/lang/String", "length", "()I"⟩ : MethodName) jdk_42_method_54_code 1 (some .int) ws ({ frames := 1, cells := 0, slots := 0, locals := 13 } : Room) #[(.ref o0)] h0 (Pur (some (.int (7 : Int32))) h0) := by
 refine own_body (plainFor_of_name own_pn1) (fun m => ef_rm9_5 m o0) ?_
 intro p e s m below meth c s₁ hx hby hlk hml hret hZ hown hnm X0 e0
 have N0 := Fr.nil n0
 refine Home.run X0 hx hby sg9_0_1 (pc' := 1) (L' := #[.val (.ref o0)]) (S' := [(.ref o0)]) rfl ?_
 refine Home.st (getF X0 hx hZ hown (host := "") (Or.inl (own_w35 hw)) Via.refl e0 F_value_o0 rfl rfl (hb hby d9_1)) fun T1 X1 e1 => ?_
 obtain ⟨cl2, Ar2, q2, S2, M2, H2, G2⟩ := id V_p2
 refine Home.go (own_alen X1 hx hZ e1 Ar2 S2 M2 rfl rfl (hb hby d9_4)) ?_
 refine Home.run X1 hx hby sg9_5_1 (pc' := 6) (L' := #[.val (.ref o0)]) (S' := [(.ref o0), (.int (7 : Int32))]) rfl ?_
 refine Home.st (own_pure (own_virtual X1 hx hZ hown (own_w46 hw) (own_w47 hw) (notFace_of_selects (args := #[]) (mvT hZ (own_w49 hw))) (own_w49 hw) (own_w48 hw) (own_w10 hw) (own_w50 hw) (by decide) (rm10_0 l Z a0 hw [] o0 sv_COMPACT_STRINGS h0 n0 O0 S_COMPACT_STRINGS hCS F_coder_o0) e1 E_o0 rfl (by rw [hml]; rfl) (argsL := []) (rest := [(.int (7 : Int32))]) (lenOf own_pd3 rfl) rfl rfl (W := 1) (by exact hW0) (by decide) (by decide) (hb hby d9_6) (by decide) (by decide))) fun T3 X3 e3 => ?_
 refine Home.run X3 hx hby sg9_9_1 (pc' := 10) (L' := #[.val (.ref o0)]) (S' := [(.int (7 : Int32))]) rfl ?_
 exact Home.retI X3 hx hlk hret (hb hby d9_10) ⟨rfl, rfl, e3⟩ (by decide) (by decide)
theorem rm15_3 (l : Launch) (Z : State) (a0 : Array Value) (hw : HW a0 Z) (ws : List Jvm.Cond) (i0 : Int32) (o2 : Value) (h0 : Heap) (n0 : Nat) (O0 : Old Z n0 h0) (bnd_i0 : ¬ i0 < (0 : Int32) ∧ ¬ (6 : Int32) < i0) (isr_o2 : o2.isRef = true) :
    Con l Z (⟨"jdk/internal/util/Preconditions", "checkIndex", "(IILjava/util/function/BiFunction;)I"⟩ : MethodName) jdk_41_method_11_code 3 (some .int) ws ({ frames := 0, cells := 0, slots := 0, locals := 0 } : Room) #[(.int i0), (.int (7 : Int32)), o2] h0 (Pur (some (.int i0)) h0) := by
 refine own_body (plainFor_of_name own_pn4) (fun m => ef_rm15_3 m i0 (7 : Int32) o2 (isr_o2)) ?_
 intro p e s m below meth c s₁ hx hby hlk hml hret hZ hown hnm X0 e0
 have N0 := Fr.nil n0
 refine Home.run X0 hx hby sg15_0_1 (pc' := 1) (L' := #[.val (.int i0), .val (.int (7 : Int32)), .val o2]) (S' := [(.int i0)]) rfl ?_
 refine Home.go (fun _ => XS.ifNo X0.here hx rfl (hb hby d15_1) rfl ((if0 _ _).trans (flt (bnd_nlt bnd_i0 (bnd_lit (0 : Int32)) (by decide +kernel))).1)) ?_
 refine Home.run X0 hx hby sg15_4_2 (pc' := 6) (L' := #[.val (.int i0), .val (.int (7 : Int32)), .val o2]) (S' := [(.int (7 : Int32)), (.int i0)]) rfl ?_
 refine Home.go (fun _ => XS.icmpYes X0.here hx rfl (pc0 := 6) (pc' := 16) rfl (hb hby d15_6) rfl (tlt (bnd_lt bnd_i0 (bnd_lit (7 : Int32)) (by decide +kernel))).1 (by decide) (by decide)) ?_
 refine Home.run X0 hx hby sg15_16_1 (pc' := 17) (L' := #[.val (.int i0), .val (.int (7 : Int32)), .val o2]) (S' := [(.int i0)]) rfl ?_
 exact Home.retI X0 hx hlk hret (hb hby d15_17) ⟨rfl, rfl, e0⟩ (by decide) (by decide)
theorem rm14_3 (l : Launch) (Z : State) (a0 : Array Value) (hw : HW a0 Z) (ws : List Jvm.Cond) (i0 : Int32) (sv_SIOOBE_FORMATTER : Value) (h0 : Heap) (n0 : Nat) (O0 : Old Z n0 h0) (bnd_i0 : ¬ i0 < (0 : Int32) ∧ ¬ (6 : Int32) < i0) (S_SIOOBE_FORMATTER : Sta Z Z.heap "jdk/internal/util/Preconditions" "SIOOBE_FORMATTER" "Ljava/util/function/BiFunction;" sv_SIOOBE_FORMATTER) (isr_sv_SIOOBE_FORMATTER : sv_SIOOBE_FORMATTER.isRef = true) :
    Con l Z (⟨"java/lang/String", "checkIndex", "(II)V"⟩ : MethodName) jdk_42_method_155_code 2 none ws ({ frames := 1, cells := 0, slots := 0, locals := 14 } : Room) #[(.int i0), (.int (7 : Int32))] h0 (Pur none h0) := by
 refine own_body (plainFor_of_name own_pn1) (fun m => ef_rm14_3 m i0 (7 : Int32)) ?_
 intro p e s m below meth c s₁ hx hby hlk hml hret hZ hown hnm X0 e0
 have N0 := Fr.nil n0
 refine Home.run X0 hx hby sg14_0_2 (pc' := 2) (L' := #[.val (.int i0), .val (.int (7 : Int32))]) (S' := [(.int (7 : Int32)), (.int i0)]) rfl ?_
 refine Home.st (getS2 X0 hx hZ hown (host := "") (Or.inl (own_w71 hw)) Via.refl e0 (S_SIOOBE_FORMATTER.ext O0.2) rfl (hb hby d14_2)) fun T1 X1 e1 => ?_
 refine Home.st (own_pure (own_static X1 hx hZ hown (own_w73 hw) (own_w74 hw) (own_w72 hw) (own_w75 hw) (by decide) (rm15_3 l Z a0 hw [] i0 sv_SIOOBE_FORMATTER h0 n0 O0 bnd_i0 isr_sv_SIOOBE_FORMATTER) e1 rfl (by rw [hml]; rfl) (argsL := [(.int i0), (.int (7 : Int32)), sv_SIOOBE_FORMATTER]) (rest := []) (lenOf own_pd11 rfl) rfl rfl (W := 0) (by exact hW0) (by decide) (by decide) (hb hby d14_5) (by decide) (by decide))) fun T2 X2 e2 => ?_
 refine Home.run X2 hx hby sg14_8_1 (pc' := 9) (L' := #[.val (.int i0), .val (.int (7 : Int32))]) (S' := []) rfl ?_
 exact Home.ret0 X2 hx hlk hret (hb hby d14_9) ⟨rfl, rfl, e2⟩ (by decide) (by decide)
theorem rm13_3 (l : Launch) (Z : State) (a0 : Array Value) (hw : HW a0 Z) (ws : List Jvm.Cond) (o0 : Addr) (i1 : Int32) (k_o0 : ClassId) (u1 u2 u3 u4 u5 u6 u7 : Int32) (sv_SIOOBE_FORMATTER : Value) (h0 : Heap) (n0 : Nat) (O0 : Old Z n0 h0) (bnd_i1 : ¬ i1 < (0 : Int32) ∧ ¬ (6 : Int32) < i1) (V_o0 : Arv Z h0 o0 k_o0 .byte (7 : Int32) [(.int u1), (.int u2), (.int u3), (.int u4), (.int u5), (.int u6), (.int u7)] (.int (0 : Int32))) (S_SIOOBE_FORMATTER : Sta Z Z.heap "jdk/internal/util/Preconditions" "SIOOBE_FORMATTER" "Ljava/util/function/BiFunction;" sv_SIOOBE_FORMATTER) (isr_sv_SIOOBE_FORMATTER : sv_SIOOBE_FORMATTER.isRef = true) (bnd_u1 : ¬ u1 < (50 : Int32) ∧ ¬ (122 : Int32) < u1) (bnd_u2 : ¬ u2 < (50 : Int32) ∧ ¬ (122 : Int32) < u2) (bnd_u3 : ¬ u3 < (50 : Int32) ∧ ¬ (122 : Int32) < u3) (bnd_u4 : ¬ u4 < (50 : Int32) ∧ ¬ (122 : Int32) < u4) (bnd_u5 : ¬ u5 < (50 : Int32) ∧ ¬ (122 : Int32) < u5) (bnd_u6 : ¬ u6 < (50 : Int32) ∧ ¬ (122 : Int32) < u6) (bnd_u7 : ¬ u7 < (50 : Int32) ∧ ¬ (122 : Int32) < u7) :
    Con l Z (⟨"java/lang/StringLatin1", "charAt", "([BI)C"⟩ : MethodName) jdk_43_method_2_code 2 (some .char) ws ({ frames := 2, cells := 0, slots := 0, locals := 27 } : Room) #[(.ref o0), (.int i1)] h0 (Pur (some (.int ((own_at [u1, u2, u3, u4, u5, u6, u7] i1) &&& (255 : Int32)))) h0) := by
 refine own_body (plainFor_of_name own_pn5) (fun m => ef_rm13_3 m o0 i1) ?_
 intro p e s m below meth c s₁ hx hby hlk hml hret hZ hown hnm X0 e0
 have N0 := Fr.nil n0
 refine Home.run X0 hx hby sg13_0_2 (pc' := 2) (L' := #[.val (.ref o0), .val (.int i1)]) (S' := [(.ref o0), (.int i1)]) rfl ?_
 obtain ⟨cl1, Ar1, q1, S1, M1, H1, G1⟩ := id V_o0
 refine Home.go (own_alen X0 hx hZ e0 Ar1 S1 M1 rfl rfl (hb hby d13_2)) ?_
 refine Home.st (own_pure (own_static X0 hx hZ hown (own_w68 hw) (own_w69 hw) (own_w10 hw) (own_w70 hw) (by decide) (rm14_3 l Z a0 hw [] i1 sv_SIOOBE_FORMATTER h0 n0 O0 bnd_i1 S_SIOOBE_FORMATTER isr_sv_SIOOBE_FORMATTER) e0 rfl (by rw [hml]; rfl) (argsL := [(.int i1), (.int (7 : Int32))]) (rest := []) (lenOf own_pd12 rfl) rfl rfl (W := 0) (by exact hW0) (by decide) (by decide) (hb hby d13_3) (by decide) (by decide))) fun T2 X2 e2 => ?_
 refine Home.run X2 hx hby sg13_6_2 (pc' := 8) (L' := #[.val (.ref o0), .val (.int i1)]) (S' := [(.int i1), (.ref o0)]) rfl ?_
 obtain ⟨cl3, Ar3, q3, S3, M3, H3, G3⟩ := id V_o0
 have ib3 : ¬ (i1 < 0 ∨ cl3.slots.size ≤ (i1).toNatClampNeg) := inb_of S3 ⟨(bnd_nlt bnd_i1 (bnd_lit (0 : Int32)) (by decide +kernel)), (bnd_lt bnd_i1 (bnd_lit (7 : Int32)) (by decide +kernel))⟩
 refine Home.go (X2.baloadBytes hx (j := i1) (v := .int (own_at [u1, u2, u3, u4, u5, u6, u7] i1)) (by rw [e2]; exact Ar3.1) (State.isArrayOf_alike hZ.alike Ar3.2.1) Ar3.2.2 ib3 (Has.at H3 ib3 (own_getD [u1, u2, u3, u4, u5, u6, u7] _)) rfl rfl (hb hby d13_8)) ?_
 refine Home.run X2 hx hby sg13_9_3 (pc' := 14) (L' := #[.val (.ref o0), .val (.int i1)]) (S' := [(.int (((own_at [u1, u2, u3, u4, u5, u6, u7] i1) &&& (255 : Int32)).toUInt32.toUInt16.toUInt32.toInt32))]) rfl ?_
 rw [i2c_id (bnd_and (own_at [u1, u2, u3, u4, u5, u6, u7] i1) (255 : Int32) (by decide)) (by decide +kernel) (by decide +kernel)]
 exact Home.retN X2 hx hlk (t := .char) hret (by simp) (hb hby d13_14) ⟨congrArg some (congrArg Value.int (by first | rfl | exact nar_i2c _ | exact nar_i2b _ | exact nar_char_id (bnd_and (own_at [u1, u2, u3, u4, u5, u6, u7] i1) (255 : Int32) (by decide)) (by decide +kernel) (by decide +kernel))), rfl, e2⟩ (by decide) (by decide)
theorem rm11_3 (l : Launch) (Z : State) (a0 : Array Value) (hw : HW a0 Z) (ws : List Jvm.Cond) (o0 : Addr) (i1 sv_COMPACT_STRINGS : Int32) (p2 : Addr) (k_p2 : ClassId) (u1 u2 u3 u4 u5 u6 u7 : Int32) (sv_SIOOBE_FORMATTER : Value) (h0 : Heap) (n0 : Nat) (O0 : Old Z n0 h0) (bnd_i1 : ¬ i1 < (0 : Int32) ∧ ¬ (6 : Int32) < i1) (E_o0 : Exa Z h0 o0 "java/lang/String") (S_COMPACT_STRINGS : Sta Z Z.heap "java/lang/String" "COMPACT_STRINGS" "Z" (.int sv_COMPACT_STRINGS)) (F_coder_o0 : Fld Z h0 o0 "java/lang/String" "coder" "B" (.int (0 : Int32))) (hCS : ¬ (sv_COMPACT_STRINGS = (0 : Int32))) (F_value_o0 : Fld Z h0 o0 "java/lang/String" "value" "[B" (.ref p2)) (V_p2 : Arv Z h0 p2 k_p2 .byte (7 : Int32) [(.int u1), (.int u2), (.int u3), (.int u4), (.int u5), (.int u6), (.int u7)] (.int (0 : Int32))) (S_SIOOBE_FORMATTER : Sta Z Z.heap "jdk/internal/util/Preconditions" "SIOOBE_FORMATTER" "Ljava/util/function/BiFunction;" sv_SIOOBE_FORMATTER) (bnd_u1 : ¬ u1 < (50 : Int32) ∧ ¬ (122 : Int32) < u1) (bnd_u2 : ¬ u2 < (50 : Int32) ∧ ¬ (122 : Int32) < u2) (bnd_u3 : ¬ u3 < (50 : Int32) ∧ ¬ (122 : Int32) < u3) (bnd_u4 : ¬ u4 < (50 : Int32) ∧ ¬ (122 : Int32) < u4) (bnd_u5 : ¬ u5 < (50 : Int32) ∧ ¬ (122 : Int32) < u5) (bnd_u6 : ¬ u6 < (50 : Int32) ∧ ¬ (122 : Int32) < u6) (bnd_u7 : ¬ u7 < (50 : Int32) ∧ ¬ (122 : Int32) < u7) (isr_sv_SIOOBE_FORMATTER : sv_SIOOBE_FORMATTER.isRef = true) :
    Con l Z (⟨"java/lang/String", "charAt", "(I)C"⟩ : MethodName) jdk_42_method_56_code 2 (some .char) ws ({ frames := 3, cells := 0, slots := 0, locals := 40 } : Room) #[(.ref o0), (.int i1)] h0 (Pur (some (.int ((own_at [u1, u2, u3, u4, u5, u6, u7] i1) &&& (255 : Int32)))) h0) := by
 refine own_body (plainFor_of_name own_pn1) (fun m => ef_rm11_3 m o0 i1) ?_
 intro p e s m below meth c s₁ hx hby hlk hml hret hZ hown hnm X0 e0
 have N0 := Fr.nil n0
 refine Home.run X0 hx hby sg11_0_1 (pc' := 1) (L' := #[.val (.ref o0), .val (.int i1)]) (S' := [(.ref o0)]) rfl ?_
 refine Home.st (own_pure (own_virtual X0 hx hZ hown (own_w59 hw) (own_w60 hw) (notFace_of_selects (args := #[]) (mvT hZ (own_w62 hw))) (own_w62 hw) (own_w61 hw) (own_w10 hw) (own_w63 hw) (by decide) (rm12_0 l Z a0 hw [] o0 sv_COMPACT_STRINGS h0 n0 O0 S_COMPACT_STRINGS hCS F_coder_o0) e0 E_o0 rfl (by rw [hml]; rfl) (argsL := []) (rest := []) (lenOf own_pd10 rfl) rfl rfl (W := 0) (by exact hW0) (by decide) (by decide) (hb hby d11_1) (by decide) (by decide))) fun T1 X1 e1 => ?_
 refine Home.go (fun _ => XS.ifNo X1.here hx rfl (hb hby d11_4) rfl ((if0 _ _).trans (feq (by decide)).1)) ?_
 refine Home.run X1 hx hby sg11_7_1 (pc' := 8) (L' := #[.val (.ref o0), .val (.int i1)]) (S' := [(.ref o0)]) rfl ?_
 refine Home.st (getF X1 hx hZ hown (host := "") (Or.inl (own_w35 hw)) Via.refl e1 F_value_o0 rfl rfl (hb hby d11_8)) fun T2 X2 e2 => ?_
 refine Home.run X2 hx hby sg11_11_1 (pc' := 12) (L' := #[.val (.ref o0), .val (.int i1)]) (S' := [(.int i1), (.ref p2)]) rfl ?_
 refine Home.st (own_pure (own_static X2 hx hZ hown (own_w64 hw) (own_w65 hw) (own_w66 hw) (own_w67 hw) (by decide) (rm13_3 l Z a0 hw [] p2 i1 k_p2 u1 u2 u3 u4 u5 u6 u7 sv_SIOOBE_FORMATTER h0 n0 O0 bnd_i1 V_p2 S_SIOOBE_FORMATTER isr_sv_SIOOBE_FORMATTER bnd_u1 bnd_u2 bnd_u3 bnd_u4 bnd_u5 bnd_u6 bnd_u7) e2 rfl (by rw [hml]; rfl) (argsL := [(.ref p2), (.int i1)]) (rest := []) (lenOf own_pd13 rfl) rfl rfl (W := 0) (by exact hW0) (by decide) (by decide) (hb hby d11_12) (by decide) (by decide))) fun T3 X3 e3 => ?_
 exact Home.retN X3 hx hlk (t := .char) hret (by simp) (hb hby d11_15) ⟨congrArg some (congrArg Value.int (by first | rfl | exact nar_i2c _ | exact nar_i2b _ | exact nar_char_id (bnd_and (own_at [u1, u2, u3, u4, u5, u6, u7] i1) (255 : Int32) (by decide)) (by decide +kernel) (by decide +kernel))), rfl, e3⟩ (by decide) (by decide)
theorem rm8_4 (l : Launch) (Z : State) (a0 : Array Value) (hw : HW a0 Z) (ws : List Jvm.Cond) (o0 p2 : Addr) (k_p2 : ClassId) (u1 u2 u3 u4 u5 u6 u7 sv_COMPACT_STRINGS : Int32) (sv_SIOOBE_FORMATTER : Value) (h0 : Heap) (n0 : Nat) (O0 : Old Z n0 h0) (E_o0 : Exa Z h0 o0 "java/lang/String") (F_value_o0 : Fld Z h0 o0 "java/lang/String" "value" "[B" (.ref p2)) (V_p2 : Arv Z h0 p2 k_p2 .byte (7 : Int32) [(.int u1), (.int u2), (.int u3), (.int u4), (.int u5), (.int u6), (.int u7)] (.int (0 : Int32))) (S_COMPACT_STRINGS : Sta Z Z.heap "java/lang/String" "COMPACT_STRINGS" "Z" (.int sv_COMPACT_STRINGS)) (F_coder_o0 : Fld Z h0 o0 "java/lang/String" "coder" "B" (.int (0 : Int32))) (hCS : ¬ (sv_COMPACT_STRINGS = (0 : Int32))) (S_SIOOBE_FORMATTER : Sta Z Z.heap "jdk/internal/util/Preconditions" "SIOOBE_FORMATTER" "Ljava/util/function/BiFunction;" sv_SIOOBE_FORMATTER) (bnd_u1 : ¬ u1 < (50 : Int32) ∧ ¬ (122 : Int32) < u1) (bnd_u2 : ¬ u2 < (50 : Int32) ∧ ¬ (122 : Int32) < u2) (bnd_u3 : ¬ u3 < (50 : Int32) ∧ ¬ (122 : Int32) < u3) (bnd_u4 : ¬ u4 < (50 : Int32) ∧ ¬ (122 : Int32) < u4) (bnd_u5 : ¬ u5 < (50 : Int32) ∧ ¬ (122 : Int32) < u5) (bnd_u6 : ¬ u6 < (50 : Int32) ∧ ¬ (122 : Int32) < u6) (bnd_u7 : ¬ u7 < (50 : Int32) ∧ ¬ (122 : Int32) < u7) (isr_sv_SIOOBE_FORMATTER : sv_SIOOBE_FORMATTER.isRef = true) (nn800 : ¬ ((f_rm22_0 (u1 &&& (255 : Int32))) < (0 : Int32))) (nn801 : ¬ ((f_rm22_0 (u2 &&& (255 : Int32))) < (0 : Int32))) (nn802 : ¬ ((f_rm22_0 (u3 &&& (255 : Int32))) < (0 : Int32))) (nn803 : ¬ ((f_rm22_0 (u4 &&& (255 : Int32))) < (0 : Int32))) (nn804 : ¬ ((f_rm22_0 (u5 &&& (255 : Int32))) < (0 : Int32))) (nn805 : ¬ ((f_rm22_0 (u6 &&& (255 : Int32))) < (0 : Int32))) (nn806 : ¬ ((f_rm22_0 (u7 &&& (255 : Int32))) < (0 : Int32))) (nn807 : ((((((((((((((((((0 : Int32) ||| (f_rm22_0 (u1 &&& (255 : Int32)))) <<< ((5 : Int32) &&& 31)) ||| (f_rm22_0 (u2 &&& (255 : Int32)))) &&& (3 : Int32)) <<< ((5 : Int32) &&& 31)) ||| (f_rm22_0 (u3 &&& (255 : Int32)))) <<< ((5 : Int32) &&& 31)) ||| (f_rm22_0 (u4 &&& (255 : Int32)))) &&& (15 : Int32)) <<< ((5 : Int32) &&& 31)) ||| (f_rm22_0 (u5 &&& (255 : Int32)))) &&& (1 : Int32)) <<< ((5 : Int32) &&& 31)) ||| (f_rm22_0 (u6 &&& (255 : Int32)))) <<< ((5 : Int32) &&& 31)) ||| (f_rm22_0 (u7 &&& (255 : Int32)))) &&& (7 : Int32)) = (0 : Int32)) :
    ConW l Z own_EL ([] : List Addr) true (⟨"com/example/tryst/tryst/encoding/Base32", "decode", "(Ljava/lang/String;)[B"⟩ : MethodName) prog_8_method_2_code 7 (some (.array .byte)) ws ({ frames := 4, cells := 15, slots := 928, locals := 59 } : Room) #[(.ref o0)] h0 (fun v h L => ∃ (b3 : Addr), ∃ (k3 : ClassId), v = some (.ref b3) ∧ Fr n0 L ∧ h0.size ≤ b3 ∧ Keep h0 h [] ∧ Arv Z h b3 k3 .byte (4 : Int32) [(.int (((((((0 : Int32) ||| (f_rm22_0 (u1 &&& (255 : Int32)))) <<< ((5 : Int32) &&& 31)) ||| (f_rm22_0 (u2 &&& (255 : Int32)))).toUInt32 >>> ((2 : Int32) &&& 31).toUInt32).toInt32).toInt8.toInt32)), (.int ((((((((((((0 : Int32) ||| (f_rm22_0 (u1 &&& (255 : Int32)))) <<< ((5 : Int32) &&& 31)) ||| (f_rm22_0 (u2 &&& (255 : Int32)))) &&& (3 : Int32)) <<< ((5 : Int32) &&& 31)) ||| (f_rm22_0 (u3 &&& (255 : Int32)))) <<< ((5 : Int32) &&& 31)) ||| (f_rm22_0 (u4 &&& (255 : Int32)))).toUInt32 >>> ((4 : Int32) &&& 31).toUInt32).toInt32).toInt8.toInt32)), (.int (((((((((((((((0 : Int32) ||| (f_rm22_0 (u1 &&& (255 : Int32)))) <<< ((5 : Int32) &&& 31)) ||| (f_rm22_0 (u2 &&& (255 : Int32)))) &&& (3 : Int32)) <<< ((5 : Int32) &&& 31)) ||| (f_rm22_0 (u3 &&& (255 : Int32)))) <<< ((5 : Int32) &&& 31)) ||| (f_rm22_0 (u4 &&& (255 : Int32)))) &&& (15 : Int32)) <<< ((5 : Int32) &&& 31)) ||| (f_rm22_0 (u5 &&& (255 : Int32)))).toUInt32 >>> ((1 : Int32) &&& 31).toUInt32).toInt32).toInt8.toInt32)), (.int ((((((((((((((((((((0 : Int32) ||| (f_rm22_0 (u1 &&& (255 : Int32)))) <<< ((5 : Int32) &&& 31)) ||| (f_rm22_0 (u2 &&& (255 : Int32)))) &&& (3 : Int32)) <<< ((5 : Int32) &&& 31)) ||| (f_rm22_0 (u3 &&& (255 : Int32)))) <<< ((5 : Int32) &&& 31)) ||| (f_rm22_0 (u4 &&& (255 : Int32)))) &&& (15 : Int32)) <<< ((5 : Int32) &&& 31)) ||| (f_rm22_0 (u5 &&& (255 : Int32)))) &&& (1 : Int32)) <<< ((5 : Int32) &&& 31)) ||| (f_rm22_0 (u6 &&& (255 : Int32)))) <<< ((5 : Int32) &&& 31)) ||| (f_rm22_0 (u7 &&& (255 : Int32)))).toUInt32 >>> ((3 : Int32) &&& 31).toUInt32).toInt32).toInt8.toInt32))] (.int (0 : Int32))) := by
 refine own_bodyW (plainFor_of_name own_pn2) (fun m => ef_rm8_4 m o0) ?_
 intro p e s m below meth c s₁ hx hby hlk hml hret hZ hown hnm X0 e0 Cd0
 have N0 := Fr.nil n0
 refine Home.run X0 hx hby sg8_0_1 (pc' := 1) (L' := #[.val (.ref o0), .unset, .unset, .unset, .unset, .unset, .unset]) (S' := [(.ref o0)]) rfl ?_
 refine Home.st (own_pure (own_virtual X0 hx hZ hown (own_w41 hw) (own_w42 hw) (notFace_of_selects (args := #[]) (mvT hZ (own_w44 hw))) (own_w44 hw) (own_w43 hw) (own_w10 hw) (own_w45 hw) (by decide) (rm9_5 l Z a0 hw [] o0 p2 k_p2 u1 u2 u3 u4 u5 u6 u7 sv_COMPACT_STRINGS h0 n0 O0 F_value_o0 V_p2 E_o0 S_COMPACT_STRINGS F_coder_o0 hCS) e0 E_o0 rfl (by rw [hml]; rfl) (argsL := []) (rest := []) (lenOf own_pd4 rfl) rfl rfl (W := 0) (by exact hW0) (by decide) (by decide) (hb hby d8_1) (by decide) (by decide))) fun T1 X1 e1 => ?_
 refine Home.run X1 hx hby sg8_4_3 (pc' := 8) (L' := #[.val (.ref o0), .unset, .unset, .unset, .unset, .unset, .unset]) (S' := [(.int (8 : Int32)), (.int (35 : Int32))]) rfl ?_
 refine Home.go (fun _ => iremM X1 hx rfl (hb hby d8_8) rfl (by decide)) ?_
 rw [show ((35 : Int32) % (8 : Int32)) = (3 : Int32) from by decide]
 refine Home.run X1 hx hby sg8_9_1 (pc' := 10) (L' := #[.val (.ref o0), .unset, .unset, .unset, .unset, .unset, .unset]) (S' := [(.int (5 : Int32)), (.int (3 : Int32))]) rfl ?_
 refine Home.go (fun _ => XS.icmpYes X1.here hx rfl (pc0 := 10) (pc' := 30) rfl (hb hby d8_10) rfl (tlt (by decide)).1 (by decide) (by decide)) ?_
 refine Home.run X1 hx hby sg8_30_1 (pc' := 31) (L' := #[.val (.ref o0), .unset, .unset, .unset, .unset, .unset, .unset]) (S' := [(.ref o0)]) rfl ?_
 refine Home.st (own_pure (own_virtual X1 hx hZ hown (own_w41 hw) (own_w42 hw) (notFace_of_selects (args := #[]) (mvT hZ (own_w44 hw))) (own_w44 hw) (own_w43 hw) (own_w10 hw) (own_w45 hw) (by decide) (rm9_5 l Z a0 hw [] o0 p2 k_p2 u1 u2 u3 u4 u5 u6 u7 sv_COMPACT_STRINGS h0 n0 O0 F_value_o0 V_p2 E_o0 S_COMPACT_STRINGS F_coder_o0 hCS) e1 E_o0 rfl (by rw [hml]; rfl) (argsL := []) (rest := []) (lenOf own_pd4 rfl) rfl rfl (W := 0) (by exact hW0) (by decide) (by decide) (hb hby d8_31) (by decide) (by decide))) fun T2 X2 e2 => ?_
 refine Home.run X2 hx hby sg8_34_3 (pc' := 38) (L' := #[.val (.ref o0), .unset, .unset, .unset, .unset, .unset, .unset]) (S' := [(.int (8 : Int32)), (.int (35 : Int32))]) rfl ?_
 refine Home.go (fun _ => XS.idiv X2.here hx rfl (hb hby d8_38) rfl (by decide)) ?_
 rw [show ((35 : Int32) / (8 : Int32)) = (4 : Int32) from by decide]
 refine Home.na (own_newP (aty := .byte) X2 hx hZ (own_w26 hw) e2 (g := (mkF m 39 #[.val (.ref o0), .unset, .unset, .unset, .unset, .unset, .unset] [(.int (4 : Int32))])) rfl (hb hby d8_39) rfl (by decide) (cap := 4) (by decide) (by decide) (by decide) (by decide)) fun T3 h3 k3 b3 g3 X3 e3 E3 A3 => ?_
 have g_b3 : n0 ≤ b3 := Nat.le_trans (Old.le O0) (Nat.le_of_eq g3.symm)
 have V3 : Arv Z h3 b3 k3 .byte (4 : Int32) [(.int (0 : Int32)), (.int (0 : Int32)), (.int (0 : Int32)), (.int (0 : Int32))] (.int (0 : Int32)) := (Arv.new A3 (by decide)).pad (pad_rep [] (.int (0 : Int32)) 4)
 have O3 := O0.ext E3
 have K3 : Keep h0 h3 ([] : List Addr) := Keep.ext (Keep.refl h0 ([] : List Addr)) E3
 have Cd3 := Cold.add Cd0 E3 (Nat.le_of_eq g3.symm) V3.lt
 show Home T3 (mkF m 41 #[.val (.ref o0), .unset, .unset, .unset, .unset, .unset, .unset] [(.ref b3)])
 refine Home.run X3 hx hby sg8_41_11 (pc' := 55) (L' := #[.val (.ref o0), .val (.ref b3), .val (.int (0 : Int32)), .val (.int (0 : Int32)), .val (.int (0 : Int32)), .val (.int (0 : Int32)), .unset]) (S' := [(.ref o0), (.int (0 : Int32))]) rfl ?_
 refine Home.st (own_pure (own_virtual X3 hx hZ hown (own_w41 hw) (own_w42 hw) (notFace_of_selects (args := #[]) (mvT hZ (own_w44 hw))) (own_w44 hw) (own_w43 hw) (own_w10 hw) (own_w45 hw) (by decide) (rm9_5 l Z a0 hw [] o0 p2 k_p2 u1 u2 u3 u4 u5 u6 u7 sv_COMPACT_STRINGS h3 n0 O3 (F_value_o0.keep K3 nin0) (V_p2.keep K3 nin0) (E_o0.keep K3) S_COMPACT_STRINGS (F_coder_o0.keep K3 nin0) hCS) e3 (E_o0.keep K3) rfl (by rw [hml]; rfl) (argsL := []) (rest := [(.int (0 : Int32))]) (lenOf own_pd4 rfl) rfl rfl (W := 1) (by exact hW0) (by decide) (by decide) (hb hby d8_55) (by decide) (by decide))) fun T4 X4 e4 => ?_
 refine Home.go (fun _ => XS.icmpNo X4.here hx rfl (hb hby d8_58) rfl (tlt (by decide)).2.1) ?_
 obtain ⟨ad5, b5, k5, T5, h5, X5, e5, E5, hZ, hown, Cd5, Ea5, Fc5, Fv5, V5, la5, lb5, hne5, st5⟩ := own_ldcW X4 hx hZ hown (own_hEL hw) Cd3 (own_w51 hw) (own_wS hw) e4 (List.mem_of_getElem? (i := 0) rfl) (vs := own_T0) (z := (32 : Int32)) ⟨by decide, by rfl⟩ (by decide) (by decide) (g := (mkF m 61 #[.val (.ref o0), .val (.ref b3), .val (.int (0 : Int32)), .val (.int (0 : Int32)), .val (.int (0 : Int32)), .val (.int (0 : Int32)), .unset] [])) rfl (hb hby d8_61) (n := 128) (by decide) (by decide) (by decide) (by decide)
 refine Home.go st5 ?_
 have O5 := O3.ext E5
 have K5 : Keep h0 h5 ([] : List Addr) := Keep.ext K3 E5
 refine Home.run X5 hx hby sg8_63_2 (pc' := 66) (L' := #[.val (.ref o0), .val (.ref b3), .val (.int (0 : Int32)), .val (.int (0 : Int32)), .val (.int (0 : Int32)), .val (.int (0 : Int32)), .unset]) (S' := [(.int (0 : Int32)), (.ref o0), (.ref ad5)]) rfl ?_
 refine Home.st (own_pure (own_virtual X5 hx hZ hown (own_w54 hw) (own_w55 hw) (notFace_of_selects (args := #[]) (mvT hZ (own_w57 hw))) (own_w57 hw) (own_w56 hw) (own_w10 hw) (own_w58 hw) (by decide) (rm11_3 l Z a0 hw [] o0 (0 : Int32) sv_COMPACT_STRINGS p2 k_p2 u1 u2 u3 u4 u5 u6 u7 sv_SIOOBE_FORMATTER h5 n0 O5 (bnd_mono (bnd_lit (0 : Int32)) (by decide +kernel) (by decide +kernel)) (E_o0.keep K5) S_COMPACT_STRINGS (F_coder_o0.keep K5 nin0) hCS (F_value_o0.keep K5 nin0) (V_p2.keep K5 nin0) S_SIOOBE_FORMATTER bnd_u1 bnd_u2 bnd_u3 bnd_u4 bnd_u5 bnd_u6 bnd_u7 isr_sv_SIOOBE_FORMATTER) e5 (E_o0.keep K5) rfl (by rw [hml]; rfl) (argsL := [(.int (0 : Int32))]) (rest := [(.ref ad5)]) (lenOf own_pd14 rfl) rfl rfl (W := 1) (by exact hW0) (by decide) (by decide) (hb hby d8_66) (by decide) (by decide))) fun T6 X6 e6 => ?_
 show Home T6 (mkF m 69 #[.val (.ref o0), .val (.ref b3), .val (.int (0 : Int32)), .val (.int (0 : Int32)), .val (.int (0 : Int32)), .val (.int (0 : Int32)), .unset] [(.int (u1 &&& (255 : Int32))), (.ref ad5)])
 refine Home.st (own_pure (own_virtual X6 hx hZ hown (own_w76 hw) (own_w77 hw) (notFace_of_selects (args := #[]) (mvT hZ (own_w79 hw))) (own_w79 hw) (own_w78 hw) (own_w10 hw) (own_w80 hw) (by decide) (rm16_0 l Z a0 hw [] ad5 (u1 &&& (255 : Int32)) sv_COMPACT_STRINGS b5 k5 h5 n0 O5 (bnd_and (own_at [u1, u2, u3, u4, u5, u6, u7] (0 : Int32)) (255 : Int32) (by decide)) Ea5 S_COMPACT_STRINGS Fc5 Fv5 V5 hCS) e6 Ea5 rfl (by rw [hml]; rfl) (argsL := [(.int (u1 &&& (255 : Int32)))]) (rest := []) (lenOf own_pd18 rfl) rfl rfl (W := 0) (by exact hW0) (by decide) (by decide) (hb hby d8_69) (by decide) (by decide))) fun T7 X7 e7 => ?_
 refine Home.run X7 hx hby sg8_72_1 (pc' := 74) (L' := #[.val (.ref o0), .val (.ref b3), .val (.int (0 : Int32)), .val (.int (0 : Int32)), .val (.int (0 : Int32)), .val (.int (0 : Int32)), .val (.int (f_rm22_0 (u1 &&& (255 : Int32))))]) (S' := []) rfl ?_
 obtain ⟨v8, hv8⟩ : ∃ z, z = (f_rm22_0 (u1 &&& (255 : Int32))) := ⟨_, rfl⟩
 rw [← hv8]
 refine Home.run X7 hx hby sg8_74_1 (pc' := 76) (L' := #[.val (.ref o0), .val (.ref b3), .val (.int (0 : Int32)), .val (.int (0 : Int32)), .val (.int (0 : Int32)), .val (.int (0 : Int32)), .val (.int v8)]) (S' := [(.int v8)]) rfl ?_
 refine Home.go (fun _ => XS.ifYes X7.here hx rfl (pc0 := 76) (pc' := 98) rfl (hb hby d8_76) rfl ((if0 _ _).trans (flt (by rw [hv8]; exact nn800)).2.1) (by decide) (by decide)) ?_
 refine Home.run X7 hx hby sg8_98_6 (pc' := 105) (L' := #[.val (.ref o0), .val (.ref b3), .val (.int (0 : Int32)), .val (.int ((0 : Int32) ||| v8)), .val (.int (0 : Int32)), .val (.int (0 : Int32)), .val (.int v8)]) (S' := []) rfl ?_
 obtain ⟨v9, hv9⟩ : ∃ z, z = ((0 : Int32) ||| v8) := ⟨_, rfl⟩
 rw [← hv9]
 refine Home.run X7 hx hby sg8_105_3 (pc' := 111) (L' := #[.val (.ref o0), .val (.ref b3), .val (.int (5 : Int32)), .val (.int v9), .val (.int (0 : Int32)), .val (.int (0 : Int32)), .val (.int v8)]) (S' := [(.int (8 : Int32)), (.int (5 : Int32))]) rfl ?_
 refine Home.go (fun _ => XS.icmpYes X7.here hx rfl (pc0 := 111) (pc' := 136) rfl (hb hby d8_111) rfl (tlt (by decide)).1 (by decide) (by decide)) ?_
 refine Home.run X7 hx hby sg8_136_4 (pc' := 55) (L' := #[.val (.ref o0), .val (.ref b3), .val (.int (5 : Int32)), .val (.int v9), .val (.int (0 : Int32)), .val (.int (1 : Int32)), .val (.int v8)]) (S' := [(.ref o0), (.int (1 : Int32))]) rfl ?_
 refine Home.st (own_pure (own_virtual X7 hx hZ hown (own_w41 hw) (own_w42 hw) (notFace_of_selects (args := #[]) (mvT hZ (own_w44 hw))) (own_w44 hw) (own_w43 hw) (own_w10 hw) (own_w45 hw) (by decide) (rm9_5 l Z a0 hw [] o0 p2 k_p2 u1 u2 u3 u4 u5 u6 u7 sv_COMPACT_STRINGS h5 n0 O5 (F_value_o0.keep K5 nin0) (V_p2.keep K5 nin0) (E_o0.keep K5) S_COMPACT_STRINGS (F_coder_o0.keep K5 nin0) hCS) e7 (E_o0.keep K5) rfl (by rw [hml]; rfl) (argsL := []) (rest := [(.int (1 : Int32))]) (lenOf own_pd4 rfl) rfl rfl (W := 1) (by exact hW0) (by decide) (by decide) (hb hby d8_55) (by decide) (by decide))) fun T10 X10 e10 => ?_
 refine Home.go (fun _ => XS.icmpNo X10.here hx rfl (hb hby d8_58) rfl (tlt (by decide)).2.1) ?_
 obtain ⟨ad11, b11, k11, T11, h11, X11, e11, E11, hZ, hown, Cd11, Ea11, Fc11, Fv11, V11, la11, lb11, hne11, st11⟩ := own_ldcW X10 hx hZ hown (own_hEL hw) Cd5 (own_w51 hw) (own_wS hw) e10 (List.mem_of_getElem? (i := 0) rfl) (vs := own_T0) (z := (32 : Int32)) ⟨by decide, by rfl⟩ (by decide) (by decide) (g := (mkF m 61 #[.val (.ref o0), .val (.ref b3), .val (.int (5 : Int32)), .val (.int v9), .val (.int (0 : Int32)), .val (.int (1 : Int32)), .val (.int v8)] [])) rfl (hb hby d8_61) (n := 128) (by decide) (by decide) (by decide) (by decide)
 refine Home.go st11 ?_
 have O11 := O5.ext E11
 have K11 : Keep h0 h11 ([] : List Addr) := Keep.ext K5 E11
 show Home T11 (mkF m 63 #[.val (.ref o0), .val (.ref b3), .val (.int (5 : Int32)), .val (.int v9), .val (.int (0 : Int32)), .val (.int (1 : Int32)), .val (.int v8)] [(.ref ad11)])
 refine Home.run X11 hx hby sg8_63_2 (pc' := 66) (L' := #[.val (.ref o0), .val (.ref b3), .val (.int (5 : Int32)), .val (.int v9), .val (.int (0 : Int32)), .val (.int (1 : Int32)), .val (.int v8)]) (S' := [(.int (1 : Int32)), (.ref o0), (.ref ad11)]) rfl ?_
 refine Home.st (own_pure (own_virtual X11 hx hZ hown (own_w54 hw) (own_w55 hw) (notFace_of_selects (args := #[]) (mvT hZ (own_w57 hw))) (own_w57 hw) (own_w56 hw) (own_w10 hw) (own_w58 hw) (by decide) (rm11_3 l Z a0 hw [] o0 (1 : Int32) sv_COMPACT_STRINGS p2 k_p2 u1 u2 u3 u4 u5 u6 u7 sv_SIOOBE_FORMATTER h11 n0 O11 (bnd_mono (bnd_lit (1 : Int32)) (by decide +kernel) (by decide +kernel)) (E_o0.keep K11) S_COMPACT_STRINGS (F_coder_o0.keep K11 nin0) hCS (F_value_o0.keep K11 nin0) (V_p2.keep K11 nin0) S_SIOOBE_FORMATTER bnd_u1 bnd_u2 bnd_u3 bnd_u4 bnd_u5 bnd_u6 bnd_u7 isr_sv_SIOOBE_FORMATTER) e11 (E_o0.keep K11) rfl (by rw [hml]; rfl) (argsL := [(.int (1 : Int32))]) (rest := [(.ref ad11)]) (lenOf own_pd14 rfl) rfl rfl (W := 1) (by exact hW0) (by decide) (by decide) (hb hby d8_66) (by decide) (by decide))) fun T12 X12 e12 => ?_
 show Home T12 (mkF m 69 #[.val (.ref o0), .val (.ref b3), .val (.int (5 : Int32)), .val (.int v9), .val (.int (0 : Int32)), .val (.int (1 : Int32)), .val (.int v8)] [(.int (u2 &&& (255 : Int32))), (.ref ad11)])
 refine Home.st (own_pure (own_virtual X12 hx hZ hown (own_w76 hw) (own_w77 hw) (notFace_of_selects (args := #[]) (mvT hZ (own_w79 hw))) (own_w79 hw) (own_w78 hw) (own_w10 hw) (own_w80 hw) (by decide) (rm16_0 l Z a0 hw [] ad11 (u2 &&& (255 : Int32)) sv_COMPACT_STRINGS b11 k11 h11 n0 O11 (bnd_and (own_at [u1, u2, u3, u4, u5, u6, u7] (1 : Int32)) (255 : Int32) (by decide)) Ea11 S_COMPACT_STRINGS Fc11 Fv11 V11 hCS) e12 Ea11 rfl (by rw [hml]; rfl) (argsL := [(.int (u2 &&& (255 : Int32)))]) (rest := []) (lenOf own_pd18 rfl) rfl rfl (W := 0) (by exact hW0) (by decide) (by decide) (hb hby d8_69) (by decide) (by decide))) fun T13 X13 e13 => ?_
 refine Home.run X13 hx hby sg8_72_1 (pc' := 74) (L' := #[.val (.ref o0), .val (.ref b3), .val (.int (5 : Int32)), .val (.int v9), .val (.int (0 : Int32)), .val (.int (1 : Int32)), .val (.int (f_rm22_0 (u2 &&& (255 : Int32))))]) (S' := []) rfl ?_
 obtain ⟨v14, hv14⟩ : ∃ z, z = (f_rm22_0 (u2 &&& (255 : Int32))) := ⟨_, rfl⟩
 rw [← hv14]
 refine Home.run X13 hx hby sg8_74_1 (pc' := 76) (L' := #[.val (.ref o0), .val (.ref b3), .val (.int (5 : Int32)), .val (.int v9), .val (.int (0 : Int32)), .val (.int (1 : Int32)), .val (.int v14)]) (S' := [(.int v14)]) rfl ?_
 refine Home.go (fun _ => XS.ifYes X13.here hx rfl (pc0 := 76) (pc' := 98) rfl (hb hby d8_76) rfl ((if0 _ _).trans (flt (by rw [hv14]; exact nn801)).2.1) (by decide) (by decide)) ?_
 refine Home.run X13 hx hby sg8_98_6 (pc' := 105) (L' := #[.val (.ref o0), .val (.ref b3), .val (.int (5 : Int32)), .val (.int ((v9 <<< ((5 : Int32) &&& 31)) ||| v14)), .val (.int (0 : Int32)), .val (.int (1 : Int32)), .val (.int v14)]) (S' := []) rfl ?_
 obtain ⟨v15, hv15⟩ : ∃ z, z = ((v9 <<< ((5 : Int32) &&& 31)) ||| v14) := ⟨_, rfl⟩
 rw [← hv15]
 refine Home.run X13 hx hby sg8_105_3 (pc' := 111) (L' := #[.val (.ref o0), .val (.ref b3), .val (.int (10 : Int32)), .val (.int v15), .val (.int (0 : Int32)), .val (.int (1 : Int32)), .val (.int v14)]) (S' := [(.int (8 : Int32)), (.int (10 : Int32))]) rfl ?_
 refine Home.go (fun _ => XS.icmpNo X13.here hx rfl (hb hby d8_111) rfl (flt (by decide)).1) ?_
 refine Home.run X13 hx hby sg8_114_8 (pc' := 127) (L' := #[.val (.ref o0), .val (.ref b3), .val (.int (2 : Int32)), .val (.int v15), .val (.int (1 : Int32)), .val (.int (1 : Int32)), .val (.int v14)]) (S' := [(.int (((v15.toUInt32 >>> ((2 : Int32) &&& 31).toUInt32).toInt32).toInt8.toInt32)), (.int (0 : Int32)), (.ref b3)]) rfl ?_
 have q16 := ((V3.ext E5).ext E11)
 obtain ⟨cl17, Ar17, q17, S17, M17, H17, G17⟩ := id q16
 refine Home.wr (stB X13 hx hZ e13 Ar17 (j := (0 : Int32)) (inb_of S17 ⟨by decide, by decide⟩) rfl rfl (hb hby d8_127)) fun T17 h17 X17 e17 W17 => ?_
 have W17' := Wr.to W17 (congrArg Value.int (nar_byte_id (bnd_i2b ((v15.toUInt32 >>> ((2 : Int32) &&& 31).toUInt32).toInt32)) (by decide +kernel) (by decide +kernel)))
 have V17 : Arv Z h17 b3 k3 .byte (4 : Int32) [(.int (((v15.toUInt32 >>> ((2 : Int32) &&& 31).toUInt32).toInt32).toInt8.toInt32)), (.int (0 : Int32)), (.int (0 : Int32)), (.int (0 : Int32))] (.int (0 : Int32)) := Arv.set Ar17 q17 S17 M17 H17 G17 (fits_byte_b (bnd_i2b ((v15.toUInt32 >>> ((2 : Int32) &&& 31).toUInt32).toInt32)) (by decide +kernel) (by decide +kernel)) W17' 0 rfl (Nat.le_of_ble_eq_true rfl)
 have O17 := O11.wr W17 g_b3
 have K17 : Keep h0 h17 ([] : List Addr) := Keep.wr K11 W17 (Or.inr (Nat.le_trans (Nat.le_refl _) (Nat.le_of_eq g3.symm)))
 have Cd17 := Cold.wr Cd11 W17 (Cold.safe Cd11 (List.mem_of_getElem? (i := 0) rfl))
 have N17 := Fr.snoc X17 N0 g_b3
 show Home T17 (mkF m 128 #[.val (.ref o0), .val (.ref b3), .val (.int (2 : Int32)), .val (.int v15), .val (.int (1 : Int32)), .val (.int (1 : Int32)), .val (.int v14)] [])
 refine Home.run X17 hx hby sg8_128_8 (pc' := 136) (L' := #[.val (.ref o0), .val (.ref b3), .val (.int (2 : Int32)), .val (.int (v15 &&& (3 : Int32))), .val (.int (1 : Int32)), .val (.int (1 : Int32)), .val (.int v14)]) (S' := []) rfl ?_
 obtain ⟨v18, hv18⟩ : ∃ z, z = (v15 &&& (3 : Int32)) := ⟨_, rfl⟩
 rw [← hv18]
 have bv18 : ¬ v18 < (0 : Int32) ∧ ¬ (3 : Int32) < v18 := by rw [hv18]; exact (bnd_and v15 (3 : Int32) (by decide))
 refine Home.run X17 hx hby sg8_136_4 (pc' := 55) (L' := #[.val (.ref o0), .val (.ref b3), .val (.int (2 : Int32)), .val (.int v18), .val (.int (1 : Int32)), .val (.int (2 : Int32)), .val (.int v14)]) (S' := [(.ref o0), (.int (2 : Int32))]) rfl ?_
 refine Home.st (own_pure (own_virtual X17 hx hZ hown (own_w41 hw) (own_w42 hw) (notFace_of_selects (args := #[]) (mvT hZ (own_w44 hw))) (own_w44 hw) (own_w43 hw) (own_w10 hw) (own_w45 hw) (by decide) (rm9_5 l Z a0 hw [] o0 p2 k_p2 u1 u2 u3 u4 u5 u6 u7 sv_COMPACT_STRINGS h17 n0 O17 (F_value_o0.keep K17 nin0) (V_p2.keep K17 nin0) (E_o0.keep K17) S_COMPACT_STRINGS (F_coder_o0.keep K17 nin0) hCS) e17 (E_o0.keep K17) rfl (by rw [hml]; rfl) (argsL := []) (rest := [(.int (2 : Int32))]) (lenOf own_pd4 rfl) rfl rfl (W := 1) (by exact hW0) (by decide) (by decide) (hb hby d8_55) (by decide) (by decide))) fun T19 X19 e19 => ?_
 refine Home.go (fun _ => XS.icmpNo X19.here hx rfl (hb hby d8_58) rfl (tlt (by decide)).2.1) ?_
 obtain ⟨ad20, b20, k20, T20, h20, X20, e20, E20, hZ, hown, Cd20, Ea20, Fc20, Fv20, V20, la20, lb20, hne20, st20⟩ := own_ldcW X19 hx hZ hown (own_hEL hw) Cd17 (own_w51 hw) (own_wS hw) e19 (List.mem_of_getElem? (i := 0) rfl) (vs := own_T0) (z := (32 : Int32)) ⟨by decide, by rfl⟩ (by decide) (by decide) (g := (mkF m 61 #[.val (.ref o0), .val (.ref b3), .val (.int (2 : Int32)), .val (.int v18), .val (.int (1 : Int32)), .val (.int (2 : Int32)), .val (.int v14)] [])) rfl (hb hby d8_61) (n := 128) (by decide) (by decide) (by decide) (by decide)
 refine Home.go st20 ?_
 have O20 := O17.ext E20
 have K20 : Keep h0 h20 ([] : List Addr) := Keep.ext K17 E20
 refine Home.run X20 hx hby sg8_63_2 (pc' := 66) (L' := #[.val (.ref o0), .val (.ref b3), .val (.int (2 : Int32)), .val (.int v18), .val (.int (1 : Int32)), .val (.int (2 : Int32)), .val (.int v14)]) (S' := [(.int (2 : Int32)), (.ref o0), (.ref ad20)]) rfl ?_
 refine Home.st (own_pure (own_virtual X20 hx hZ hown (own_w54 hw) (own_w55 hw) (notFace_of_selects (args := #[]) (mvT hZ (own_w57 hw))) (own_w57 hw) (own_w56 hw) (own_w10 hw) (own_w58 hw) (by decide) (rm11_3 l Z a0 hw [] o0 (2 : Int32) sv_COMPACT_STRINGS p2 k_p2 u1 u2 u3 u4 u5 u6 u7 sv_SIOOBE_FORMATTER h20 n0 O20 (bnd_mono (bnd_lit (2 : Int32)) (by decide +kernel) (by decide +kernel)) (E_o0.keep K20) S_COMPACT_STRINGS (F_coder_o0.keep K20 nin0) hCS (F_value_o0.keep K20 nin0) (V_p2.keep K20 nin0) S_SIOOBE_FORMATTER bnd_u1 bnd_u2 bnd_u3 bnd_u4 bnd_u5 bnd_u6 bnd_u7 isr_sv_SIOOBE_FORMATTER) e20 (E_o0.keep K20) rfl (by rw [hml]; rfl) (argsL := [(.int (2 : Int32))]) (rest := [(.ref ad20)]) (lenOf own_pd14 rfl) rfl rfl (W := 1) (by exact hW0) (by decide) (by decide) (hb hby d8_66) (by decide) (by decide))) fun T21 X21 e21 => ?_
 show Home T21 (mkF m 69 #[.val (.ref o0), .val (.ref b3), .val (.int (2 : Int32)), .val (.int v18), .val (.int (1 : Int32)), .val (.int (2 : Int32)), .val (.int v14)] [(.int (u3 &&& (255 : Int32))), (.ref ad20)])
 refine Home.st (own_pure (own_virtual X21 hx hZ hown (own_w76 hw) (own_w77 hw) (notFace_of_selects (args := #[]) (mvT hZ (own_w79 hw))) (own_w79 hw) (own_w78 hw) (own_w10 hw) (own_w80 hw) (by decide) (rm16_0 l Z a0 hw [] ad20 (u3 &&& (255 : Int32)) sv_COMPACT_STRINGS b20 k20 h20 n0 O20 (bnd_and (own_at [u1, u2, u3, u4, u5, u6, u7] (2 : Int32)) (255 : Int32) (by decide)) Ea20 S_COMPACT_STRINGS Fc20 Fv20 V20 hCS) e21 Ea20 rfl (by rw [hml]; rfl) (argsL := [(.int (u3 &&& (255 : Int32)))]) (rest := []) (lenOf own_pd18 rfl) rfl rfl (W := 0) (by exact hW0) (by decide) (by decide) (hb hby d8_69) (by decide) (by decide))) fun T22 X22 e22 => ?_
 refine Home.run X22 hx hby sg8_72_1 (pc' := 74) (L' := #[.val (.ref o0), .val (.ref b3), .val (.int (2 : Int32)), .val (.int v18), .val (.int (1 : Int32)), .val (.int (2 : Int32)), .val (.int (f_rm22_0 (u3 &&& (255 : Int32))))]) (S' := []) rfl ?_
 obtain ⟨v23, hv23⟩ : ∃ z, z = (f_rm22_0 (u3 &&& (255 : Int32))) := ⟨_, rfl⟩
 rw [← hv23]
 refine Home.run X22 hx hby sg8_74_1 (pc' := 76) (L' := #[.val (.ref o0), .val (.ref b3), .val (.int (2 : Int32)), .val (.int v18), .val (.int (1 : Int32)), .val (.int (2 : Int32)), .val (.int v23)]) (S' := [(.int v23)]) rfl ?_
 refine Home.go (fun _ => XS.ifYes X22.here hx rfl (pc0 := 76) (pc' := 98) rfl (hb hby d8_76) rfl ((if0 _ _).trans (flt (by rw [hv23]; exact nn802)).2.1) (by decide) (by decide)) ?_
 refine Home.run X22 hx hby sg8_98_6 (pc' := 105) (L' := #[.val (.ref o0), .val (.ref b3), .val (.int (2 : Int32)), .val (.int ((v18 <<< ((5 : Int32) &&& 31)) ||| v23)), .val (.int (1 : Int32)), .val (.int (2 : Int32)), .val (.int v23)]) (S' := []) rfl ?_
 obtain ⟨v24, hv24⟩ : ∃ z, z = ((v18 <<< ((5 : Int32) &&& 31)) ||| v23) := ⟨_, rfl⟩
 rw [← hv24]
 refine Home.run X22 hx hby sg8_105_3 (pc' := 111) (L' := #[.val (.ref o0), .val (.ref b3), .val (.int (7 : Int32)), .val (.int v24), .val (.int (1 : Int32)), .val (.int (2 : Int32)), .val (.int v23)]) (S' := [(.int (8 : Int32)), (.int (7 : Int32))]) rfl ?_
 refine Home.go (fun _ => XS.icmpYes X22.here hx rfl (pc0 := 111) (pc' := 136) rfl (hb hby d8_111) rfl (tlt (by decide)).1 (by decide) (by decide)) ?_
 refine Home.run X22 hx hby sg8_136_4 (pc' := 55) (L' := #[.val (.ref o0), .val (.ref b3), .val (.int (7 : Int32)), .val (.int v24), .val (.int (1 : Int32)), .val (.int (3 : Int32)), .val (.int v23)]) (S' := [(.ref o0), (.int (3 : Int32))]) rfl ?_
 refine Home.st (own_pure (own_virtual X22 hx hZ hown (own_w41 hw) (own_w42 hw) (notFace_of_selects (args := #[]) (mvT hZ (own_w44 hw))) (own_w44 hw) (own_w43 hw) (own_w10 hw) (own_w45 hw) (by decide) (rm9_5 l Z a0 hw [] o0 p2 k_p2 u1 u2 u3 u4 u5 u6 u7 sv_COMPACT_STRINGS h20 n0 O20 (F_value_o0.keep K20 nin0) (V_p2.keep K20 nin0) (E_o0.keep K20) S_COMPACT_STRINGS (F_coder_o0.keep K20 nin0) hCS) e22 (E_o0.keep K20) rfl (by rw [hml]; rfl) (argsL := []) (rest := [(.int (3 : Int32))]) (lenOf own_pd4 rfl) rfl rfl (W := 1) (by exact hW0) (by decide) (by decide) (hb hby d8_55) (by decide) (by decide))) fun T25 X25 e25 => ?_
 refine Home.go (fun _ => XS.icmpNo X25.here hx rfl (hb hby d8_58) rfl (tlt (by decide)).2.1) ?_
 obtain ⟨ad26, b26, k26, T26, h26, X26, e26, E26, hZ, hown, Cd26, Ea26, Fc26, Fv26, V26, la26, lb26, hne26, st26⟩ := own_ldcW X25 hx hZ hown (own_hEL hw) Cd20 (own_w51 hw) (own_wS hw) e25 (List.mem_of_getElem? (i := 0) rfl) (vs := own_T0) (z := (32 : Int32)) ⟨by decide, by rfl⟩ (by decide) (by decide) (g := (mkF m 61 #[.val (.ref o0), .val (.ref b3), .val (.int (7 : Int32)), .val (.int v24), .val (.int (1 : Int32)), .val (.int (3 : Int32)), .val (.int v23)] [])) rfl (hb hby d8_61) (n := 128) (by decide) (by decide) (by decide) (by decide)
 refine Home.go st26 ?_
 have O26 := O20.ext E26
 have K26 : Keep h0 h26 ([] : List Addr) := Keep.ext K20 E26
 show Home T26 (mkF m 63 #[.val (.ref o0), .val (.ref b3), .val (.int (7 : Int32)), .val (.int v24), .val (.int (1 : Int32)), .val (.int (3 : Int32)), .val (.int v23)] [(.ref ad26)])
 refine Home.run X26 hx hby sg8_63_2 (pc' := 66) (L' := #[.val (.ref o0), .val (.ref b3), .val (.int (7 : Int32)), .val (.int v24), .val (.int (1 : Int32)), .val (.int (3 : Int32)), .val (.int v23)]) (S' := [(.int (3 : Int32)), (.ref o0), (.ref ad26)]) rfl ?_
 refine Home.st (own_pure (own_virtual X26 hx hZ hown (own_w54 hw) (own_w55 hw) (notFace_of_selects (args := #[]) (mvT hZ (own_w57 hw))) (own_w57 hw) (own_w56 hw) (own_w10 hw) (own_w58 hw) (by decide) (rm11_3 l Z a0 hw [] o0 (3 : Int32) sv_COMPACT_STRINGS p2 k_p2 u1 u2 u3 u4 u5 u6 u7 sv_SIOOBE_FORMATTER h26 n0 O26 (bnd_mono (bnd_lit (3 : Int32)) (by decide +kernel) (by decide +kernel)) (E_o0.keep K26) S_COMPACT_STRINGS (F_coder_o0.keep K26 nin0) hCS (F_value_o0.keep K26 nin0) (V_p2.keep K26 nin0) S_SIOOBE_FORMATTER bnd_u1 bnd_u2 bnd_u3 bnd_u4 bnd_u5 bnd_u6 bnd_u7 isr_sv_SIOOBE_FORMATTER) e26 (E_o0.keep K26) rfl (by rw [hml]; rfl) (argsL := [(.int (3 : Int32))]) (rest := [(.ref ad26)]) (lenOf own_pd14 rfl) rfl rfl (W := 1) (by exact hW0) (by decide) (by decide) (hb hby d8_66) (by decide) (by decide))) fun T27 X27 e27 => ?_
 show Home T27 (mkF m 69 #[.val (.ref o0), .val (.ref b3), .val (.int (7 : Int32)), .val (.int v24), .val (.int (1 : Int32)), .val (.int (3 : Int32)), .val (.int v23)] [(.int (u4 &&& (255 : Int32))), (.ref ad26)])
 refine Home.st (own_pure (own_virtual X27 hx hZ hown (own_w76 hw) (own_w77 hw) (notFace_of_selects (args := #[]) (mvT hZ (own_w79 hw))) (own_w79 hw) (own_w78 hw) (own_w10 hw) (own_w80 hw) (by decide) (rm16_0 l Z a0 hw [] ad26 (u4 &&& (255 : Int32)) sv_COMPACT_STRINGS b26 k26 h26 n0 O26 (bnd_and (own_at [u1, u2, u3, u4, u5, u6, u7] (3 : Int32)) (255 : Int32) (by decide)) Ea26 S_COMPACT_STRINGS Fc26 Fv26 V26 hCS) e27 Ea26 rfl (by rw [hml]; rfl) (argsL := [(.int (u4 &&& (255 : Int32)))]) (rest := []) (lenOf own_pd18 rfl) rfl rfl (W := 0) (by exact hW0) (by decide) (by decide) (hb hby d8_69) (by decide) (by decide))) fun T28 X28 e28 => ?_
 refine Home.run X28 hx hby sg8_72_1 (pc' := 74) (L' := #[.val (.ref o0), .val (.ref b3), .val (.int (7 : Int32)), .val (.int v24), .val (.int (1 : Int32)), .val (.int (3 : Int32)), .val (.int (f_rm22_0 (u4 &&& (255 : Int32))))]) (S' := []) rfl ?_
 obtain ⟨v29, hv29⟩ : ∃ z, z = (f_rm22_0 (u4 &&& (255 : Int32))) := ⟨_, rfl⟩
 rw [← hv29]
 refine Home.run X28 hx hby sg8_74_1 (pc' := 76) (L' := #[.val (.ref o0), .val (.ref b3), .val (.int (7 : Int32)), .val (.int v24), .val (.int (1 : Int32)), .val (.int (3 : Int32)), .val (.int v29)]) (S' := [(.int v29)]) rfl ?_
 refine Home.go (fun _ => XS.ifYes X28.here hx rfl (pc0 := 76) (pc' := 98) rfl (hb hby d8_76) rfl ((if0 _ _).trans (flt (by rw [hv29]; exact nn803)).2.1) (by decide) (by decide)) ?_
 refine Home.run X28 hx hby sg8_98_6 (pc' := 105) (L' := #[.val (.ref o0), .val (.ref b3), .val (.int (7 : Int32)), .val (.int ((v24 <<< ((5 : Int32) &&& 31)) ||| v29)), .val (.int (1 : Int32)), .val (.int (3 : Int32)), .val (.int v29)]) (S' := []) rfl ?_
 obtain ⟨v30, hv30⟩ : ∃ z, z = ((v24 <<< ((5 : Int32) &&& 31)) ||| v29) := ⟨_, rfl⟩
 rw [← hv30]
 refine Home.run X28 hx hby sg8_105_3 (pc' := 111) (L' := #[.val (.ref o0), .val (.ref b3), .val (.int (12 : Int32)), .val (.int v30), .val (.int (1 : Int32)), .val (.int (3 : Int32)), .val (.int v29)]) (S' := [(.int (8 : Int32)), (.int (12 : Int32))]) rfl ?_
 refine Home.go (fun _ => XS.icmpNo X28.here hx rfl (hb hby d8_111) rfl (flt (by decide)).1) ?_
 refine Home.run X28 hx hby sg8_114_8 (pc' := 127) (L' := #[.val (.ref o0), .val (.ref b3), .val (.int (4 : Int32)), .val (.int v30), .val (.int (2 : Int32)), .val (.int (3 : Int32)), .val (.int v29)]) (S' := [(.int (((v30.toUInt32 >>> ((4 : Int32) &&& 31).toUInt32).toInt32).toInt8.toInt32)), (.int (1 : Int32)), (.ref b3)]) rfl ?_
 have q31 := ((V17.ext E20).ext E26)
 obtain ⟨cl32, Ar32, q32, S32, M32, H32, G32⟩ := id q31
 refine Home.wr (stB X28 hx hZ e28 Ar32 (j := (1 : Int32)) (inb_of S32 ⟨by decide, by decide⟩) rfl rfl (hb hby d8_127)) fun T32 h32 X32 e32 W32 => ?_
 have W32' := Wr.to W32 (congrArg Value.int (nar_byte_id (bnd_i2b ((v30.toUInt32 >>> ((4 : Int32) &&& 31).toUInt32).toInt32)) (by decide +kernel) (by decide +kernel)))
 have V32 : Arv Z h32 b3 k3 .byte (4 : Int32) [(.int (((v15.toUInt32 >>> ((2 : Int32) &&& 31).toUInt32).toInt32).toInt8.toInt32)), (.int (((v30.toUInt32 >>> ((4 : Int32) &&& 31).toUInt32).toInt32).toInt8.toInt32)), (.int (0 : Int32)), (.int (0 : Int32))] (.int (0 : Int32)) := Arv.set Ar32 q32 S32 M32 H32 G32 (fits_byte_b (bnd_i2b ((v30.toUInt32 >>> ((4 : Int32) &&& 31).toUInt32).toInt32)) (by decide +kernel) (by decide +kernel)) W32' 1 rfl (Nat.le_of_ble_eq_true rfl)
 have O32 := O26.wr W32 g_b3
 have K32 : Keep h0 h32 ([] : List Addr) := Keep.wr K26 W32 (Or.inr (Nat.le_trans (Nat.le_refl _) (Nat.le_of_eq g3.symm)))
 have Cd32 := Cold.wr Cd26 W32 (Cold.safe Cd26 (List.mem_of_getElem? (i := 0) rfl))
 have N32 := Fr.snoc X32 N17 g_b3
 show Home T32 (mkF m 128 #[.val (.ref o0), .val (.ref b3), .val (.int (4 : Int32)), .val (.int v30), .val (.int (2 : Int32)), .val (.int (3 : Int32)), .val (.int v29)] [])
 refine Home.run X32 hx hby sg8_128_8 (pc' := 136) (L' := #[.val (.ref o0), .val (.ref b3), .val (.int (4 : Int32)), .val (.int (v30 &&& (15 : Int32))), .val (.int (2 : Int32)), .val (.int (3 : Int32)), .val (.int v29)]) (S' := []) rfl ?_
 obtain ⟨v33, hv33⟩ : ∃ z, z = (v30 &&& (15 : Int32)) := ⟨_, rfl⟩
 rw [← hv33]
 have bv33 : ¬ v33 < (0 : Int32) ∧ ¬ (15 : Int32) < v33 := by rw [hv33]; exact (bnd_and v30 (15 : Int32) (by decide))
 refine Home.run X32 hx hby sg8_136_4 (pc' := 55) (L' := #[.val (.ref o0), .val (.ref b3), .val (.int (4 : Int32)), .val (.int v33), .val (.int (2 : Int32)), .val (.int (4 : Int32)), .val (.int v29)]) (S' := [(.ref o0), (.int (4 : Int32))]) rfl ?_
 refine Home.st (own_pure (own_virtual X32 hx hZ hown (own_w41 hw) (own_w42 hw) (notFace_of_selects (args := #[]) (mvT hZ (own_w44 hw))) (own_w44 hw) (own_w43 hw) (own_w10 hw) (own_w45 hw) (by decide) (rm9_5 l Z a0 hw [] o0 p2 k_p2 u1 u2 u3 u4 u5 u6 u7 sv_COMPACT_STRINGS h32 n0 O32 (F_value_o0.keep K32 nin0) (V_p2.keep K32 nin0) (E_o0.keep K32) S_COMPACT_STRINGS (F_coder_o0.keep K32 nin0) hCS) e32 (E_o0.keep K32) rfl (by rw [hml]; rfl) (argsL := []) (rest := [(.int (4 : Int32))]) (lenOf own_pd4 rfl) rfl rfl (W := 1) (by exact hW0) (by decide) (by decide) (hb hby d8_55) (by decide) (by decide))) fun T34 X34 e34 => ?_
 refine Home.go (fun _ => XS.icmpNo X34.here hx rfl (hb hby d8_58) rfl (tlt (by decide)).2.1) ?_
 obtain ⟨ad35, b35, k35, T35, h35, X35, e35, E35, hZ, hown, Cd35, Ea35, Fc35, Fv35, V35, la35, lb35, hne35, st35⟩ := own_ldcW X34 hx hZ hown (own_hEL hw) Cd32 (own_w51 hw) (own_wS hw) e34 (List.mem_of_getElem? (i := 0) rfl) (vs := own_T0) (z := (32 : Int32)) ⟨by decide, by rfl⟩ (by decide) (by decide) (g := (mkF m 61 #[.val (.ref o0), .val (.ref b3), .val (.int (4 : Int32)), .val (.int v33), .val (.int (2 : Int32)), .val (.int (4 : Int32)), .val (.int v29)] [])) rfl (hb hby d8_61) (n := 128) (by decide) (by decide) (by decide) (by decide)
 refine Home.go st35 ?_
 have O35 := O32.ext E35
 have K35 : Keep h0 h35 ([] : List Addr) := Keep.ext K32 E35
 refine Home.run X35 hx hby sg8_63_2 (pc' := 66) (L' := #[.val (.ref o0), .val (.ref b3), .val (.int (4 : Int32)), .val (.int v33), .val (.int (2 : Int32)), .val (.int (4 : Int32)), .val (.int v29)]) (S' := [(.int (4 : Int32)), (.ref o0), (.ref ad35)]) rfl ?_
 refine Home.st (own_pure (own_virtual X35 hx hZ hown (own_w54 hw) (own_w55 hw) (notFace_of_selects (args := #[]) (mvT hZ (own_w57 hw))) (own_w57 hw) (own_w56 hw) (own_w10 hw) (own_w58 hw) (by decide) (rm11_3 l Z a0 hw [] o0 (4 : Int32) sv_COMPACT_STRINGS p2 k_p2 u1 u2 u3 u4 u5 u6 u7 sv_SIOOBE_FORMATTER h35 n0 O35 (bnd_mono (bnd_lit (4 : Int32)) (by decide +kernel) (by decide +kernel)) (E_o0.keep K35) S_COMPACT_STRINGS (F_coder_o0.keep K35 nin0) hCS (F_value_o0.keep K35 nin0) (V_p2.keep K35 nin0) S_SIOOBE_FORMATTER bnd_u1 bnd_u2 bnd_u3 bnd_u4 bnd_u5 bnd_u6 bnd_u7 isr_sv_SIOOBE_FORMATTER) e35 (E_o0.keep K35) rfl (by rw [hml]; rfl) (argsL := [(.int (4 : Int32))]) (rest := [(.ref ad35)]) (lenOf own_pd14 rfl) rfl rfl (W := 1) (by exact hW0) (by decide) (by decide) (hb hby d8_66) (by decide) (by decide))) fun T36 X36 e36 => ?_
 show Home T36 (mkF m 69 #[.val (.ref o0), .val (.ref b3), .val (.int (4 : Int32)), .val (.int v33), .val (.int (2 : Int32)), .val (.int (4 : Int32)), .val (.int v29)] [(.int (u5 &&& (255 : Int32))), (.ref ad35)])
 refine Home.st (own_pure (own_virtual X36 hx hZ hown (own_w76 hw) (own_w77 hw) (notFace_of_selects (args := #[]) (mvT hZ (own_w79 hw))) (own_w79 hw) (own_w78 hw) (own_w10 hw) (own_w80 hw) (by decide) (rm16_0 l Z a0 hw [] ad35 (u5 &&& (255 : Int32)) sv_COMPACT_STRINGS b35 k35 h35 n0 O35 (bnd_and (own_at [u1, u2, u3, u4, u5, u6, u7] (4 : Int32)) (255 : Int32) (by decide)) Ea35 S_COMPACT_STRINGS Fc35 Fv35 V35 hCS) e36 Ea35 rfl (by rw [hml]; rfl) (argsL := [(.int (u5 &&& (255 : Int32)))]) (rest := []) (lenOf own_pd18 rfl) rfl rfl (W := 0) (by exact hW0) (by decide) (by decide) (hb hby d8_69) (by decide) (by decide))) fun T37 X37 e37 => ?_
 refine Home.run X37 hx hby sg8_72_1 (pc' := 74) (L' := #[.val (.ref o0), .val (.ref b3), .val (.int (4 : Int32)), .val (.int v33), .val (.int (2 : Int32)), .val (.int (4 : Int32)), .val (.int (f_rm22_0 (u5 &&& (255 : Int32))))]) (S' := []) rfl ?_
 obtain ⟨v38, hv38⟩ : ∃ z, z = (f_rm22_0 (u5 &&& (255 : Int32))) := ⟨_, rfl⟩
 rw [← hv38]
 refine Home.run X37 hx hby sg8_74_1 (pc' := 76) (L' := #[.val (.ref o0), .val (.ref b3), .val (.int (4 : Int32)), .val (.int v33), .val (.int (2 : Int32)), .val (.int (4 : Int32)), .val (.int v38)]) (S' := [(.int v38)]) rfl ?_
 refine Home.go (fun _ => XS.ifYes X37.here hx rfl (pc0 := 76) (pc' := 98) rfl (hb hby d8_76) rfl ((if0 _ _).trans (flt (by rw [hv38]; exact nn804)).2.1) (by decide) (by decide)) ?_
 refine Home.run X37 hx hby sg8_98_6 (pc' := 105) (L' := #[.val (.ref o0), .val (.ref b3), .val (.int (4 : Int32)), .val (.int ((v33 <<< ((5 : Int32) &&& 31)) ||| v38)), .val (.int (2 : Int32)), .val (.int (4 : Int32)), .val (.int v38)]) (S' := []) rfl ?_
 obtain ⟨v39, hv39⟩ : ∃ z, z = ((v33 <<< ((5 : Int32) &&& 31)) ||| v38) := ⟨_, rfl⟩
 rw [← hv39]
 refine Home.run X37 hx hby sg8_105_3 (pc' := 111) (L' := #[.val (.ref o0), .val (.ref b3), .val (.int (9 : Int32)), .val (.int v39), .val (.int (2 : Int32)), .val (.int (4 : Int32)), .val (.int v38)]) (S' := [(.int (8 : Int32)), (.int (9 : Int32))]) rfl ?_
 refine Home.go (fun _ => XS.icmpNo X37.here hx rfl (hb hby d8_111) rfl (flt (by decide)).1) ?_
 refine Home.run X37 hx hby sg8_114_8 (pc' := 127) (L' := #[.val (.ref o0), .val (.ref b3), .val (.int (1 : Int32)), .val (.int v39), .val (.int (3 : Int32)), .val (.int (4 : Int32)), .val (.int v38)]) (S' := [(.int (((v39.toUInt32 >>> ((1 : Int32) &&& 31).toUInt32).toInt32).toInt8.toInt32)), (.int (2 : Int32)), (.ref b3)]) rfl ?_
 have q40 := (V32.ext E35)
 obtain ⟨cl41, Ar41, q41, S41, M41, H41, G41⟩ := id q40
 refine Home.wr (stB X37 hx hZ e37 Ar41 (j := (2 : Int32)) (inb_of S41 ⟨by decide, by decide⟩) rfl rfl (hb hby d8_127)) fun T41 h41 X41 e41 W41 => ?_
 have W41' := Wr.to W41 (congrArg Value.int (nar_byte_id (bnd_i2b ((v39.toUInt32 >>> ((1 : Int32) &&& 31).toUInt32).toInt32)) (by decide +kernel) (by decide +kernel)))
 have V41 : Arv Z h41 b3 k3 .byte (4 : Int32) [(.int (((v15.toUInt32 >>> ((2 : Int32) &&& 31).toUInt32).toInt32).toInt8.toInt32)), (.int (((v30.toUInt32 >>> ((4 : Int32) &&& 31).toUInt32).toInt32).toInt8.toInt32)), (.int (((v39.toUInt32 >>> ((1 : Int32) &&& 31).toUInt32).toInt32).toInt8.toInt32)), (.int (0 : Int32))] (.int (0 : Int32)) := Arv.set Ar41 q41 S41 M41 H41 G41 (fits_byte_b (bnd_i2b ((v39.toUInt32 >>> ((1 : Int32) &&& 31).toUInt32).toInt32)) (by decide +kernel) (by decide +kernel)) W41' 2 rfl (Nat.le_of_ble_eq_true rfl)
 have O41 := O35.wr W41 g_b3
 have K41 : Keep h0 h41 ([] : List Addr) := Keep.wr K35 W41 (Or.inr (Nat.le_trans (Nat.le_refl _) (Nat.le_of_eq g3.symm)))
 have Cd41 := Cold.wr Cd35 W41 (Cold.safe Cd35 (List.mem_of_getElem? (i := 0) rfl))
 have N41 := Fr.snoc X41 N32 g_b3
 show Home T41 (mkF m 128 #[.val (.ref o0), .val (.ref b3), .val (.int (1 : Int32)), .val (.int v39), .val (.int (3 : Int32)), .val (.int (4 : Int32)), .val (.int v38)] [])
 refine Home.run X41 hx hby sg8_128_8 (pc' := 136) (L' := #[.val (.ref o0), .val (.ref b3), .val (.int (1 : Int32)), .val (.int (v39 &&& (1 : Int32))), .val (.int (3 : Int32)), .val (.int (4 : Int32)), .val (.int v38)]) (S' := []) rfl ?_
 obtain ⟨v42, hv42⟩ : ∃ z, z = (v39 &&& (1 : Int32)) := ⟨_, rfl⟩
 rw [← hv42]
 have bv42 : ¬ v42 < (0 : Int32) ∧ ¬ (1 : Int32) < v42 := by rw [hv42]; exact (bnd_and v39 (1 : Int32) (by decide))
 refine Home.run X41 hx hby sg8_136_4 (pc' := 55) (L' := #[.val (.ref o0), .val (.ref b3), .val (.int (1 : Int32)), .val (.int v42), .val (.int (3 : Int32)), .val (.int (5 : Int32)), .val (.int v38)]) (S' := [(.ref o0), (.int (5 : Int32))]) rfl ?_
 refine Home.st (own_pure (own_virtual X41 hx hZ hown (own_w41 hw) (own_w42 hw) (notFace_of_selects (args := #[]) (mvT hZ (own_w44 hw))) (own_w44 hw) (own_w43 hw) (own_w10 hw) (own_w45 hw) (by decide) (rm9_5 l Z a0 hw [] o0 p2 k_p2 u1 u2 u3 u4 u5 u6 u7 sv_COMPACT_STRINGS h41 n0 O41 (F_value_o0.keep K41 nin0) (V_p2.keep K41 nin0) (E_o0.keep K41) S_COMPACT_STRINGS (F_coder_o0.keep K41 nin0) hCS) e41 (E_o0.keep K41) rfl (by rw [hml]; rfl) (argsL := []) (rest := [(.int (5 : Int32))]) (lenOf own_pd4 rfl) rfl rfl (W := 1) (by exact hW0) (by decide) (by decide) (hb hby d8_55) (by decide) (by decide))) fun T43 X43 e43 => ?_
 refine Home.go (fun _ => XS.icmpNo X43.here hx rfl (hb hby d8_58) rfl (tlt (by decide)).2.1) ?_
 obtain ⟨ad44, b44, k44, T44, h44, X44, e44, E44, hZ, hown, Cd44, Ea44, Fc44, Fv44, V44, la44, lb44, hne44, st44⟩ := own_ldcW X43 hx hZ hown (own_hEL hw) Cd41 (own_w51 hw) (own_wS hw) e43 (List.mem_of_getElem? (i := 0) rfl) (vs := own_T0) (z := (32 : Int32)) ⟨by decide, by rfl⟩ (by decide) (by decide) (g := (mkF m 61 #[.val (.ref o0), .val (.ref b3), .val (.int (1 : Int32)), .val (.int v42), .val (.int (3 : Int32)), .val (.int (5 : Int32)), .val (.int v38)] [])) rfl (hb hby d8_61) (n := 128) (by decide) (by decide) (by decide) (by decide)
 refine Home.go st44 ?_
 have O44 := O41.ext E44
 have K44 : Keep h0 h44 ([] : List Addr) := Keep.ext K41 E44
 refine Home.run X44 hx hby sg8_63_2 (pc' := 66) (L' := #[.val (.ref o0), .val (.ref b3), .val (.int (1 : Int32)), .val (.int v42), .val (.int (3 : Int32)), .val (.int (5 : Int32)), .val (.int v38)]) (S' := [(.int (5 : Int32)), (.ref o0), (.ref ad44)]) rfl ?_
 refine Home.st (own_pure (own_virtual X44 hx hZ hown (own_w54 hw) (own_w55 hw) (notFace_of_selects (args := #[]) (mvT hZ (own_w57 hw))) (own_w57 hw) (own_w56 hw) (own_w10 hw) (own_w58 hw) (by decide) (rm11_3 l Z a0 hw [] o0 (5 : Int32) sv_COMPACT_STRINGS p2 k_p2 u1 u2 u3 u4 u5 u6 u7 sv_SIOOBE_FORMATTER h44 n0 O44 (bnd_mono (bnd_lit (5 : Int32)) (by decide +kernel) (by decide +kernel)) (E_o0.keep K44) S_COMPACT_STRINGS (F_coder_o0.keep K44 nin0) hCS (F_value_o0.keep K44 nin0) (V_p2.keep K44 nin0) S_SIOOBE_FORMATTER bnd_u1 bnd_u2 bnd_u3 bnd_u4 bnd_u5 bnd_u6 bnd_u7 isr_sv_SIOOBE_FORMATTER) e44 (E_o0.keep K44) rfl (by rw [hml]; rfl) (argsL := [(.int (5 : Int32))]) (rest := [(.ref ad44)]) (lenOf own_pd14 rfl) rfl rfl (W := 1) (by exact hW0) (by decide) (by decide) (hb hby d8_66) (by decide) (by decide))) fun T45 X45 e45 => ?_
 show Home T45 (mkF m 69 #[.val (.ref o0), .val (.ref b3), .val (.int (1 : Int32)), .val (.int v42), .val (.int (3 : Int32)), .val (.int (5 : Int32)), .val (.int v38)] [(.int (u6 &&& (255 : Int32))), (.ref ad44)])
 refine Home.st (own_pure (own_virtual X45 hx hZ hown (own_w76 hw) (own_w77 hw) (notFace_of_selects (args := #[]) (mvT hZ (own_w79 hw))) (own_w79 hw) (own_w78 hw) (own_w10 hw) (own_w80 hw) (by decide) (rm16_0 l Z a0 hw [] ad44 (u6 &&& (255 : Int32)) sv_COMPACT_STRINGS b44 k44 h44 n0 O44 (bnd_and (own_at [u1, u2, u3, u4, u5, u6, u7] (5 : Int32)) (255 : Int32) (by decide)) Ea44 S_COMPACT_STRINGS Fc44 Fv44 V44 hCS) e45 Ea44 rfl (by rw [hml]; rfl) (argsL := [(.int (u6 &&& (255 : Int32)))]) (rest := []) (lenOf own_pd18 rfl) rfl rfl (W := 0) (by exact hW0) (by decide) (by decide) (hb hby d8_69) (by decide) (by decide))) fun T46 X46 e46 => ?_
 refine Home.run X46 hx hby sg8_72_1 (pc' := 74) (L' := #[.val (.ref o0), .val (.ref b3), .val (.int (1 : Int32)), .val (.int v42), .val (.int (3 : Int32)), .val (.int (5 : Int32)), .val (.int (f_rm22_0 (u6 &&& (255 : Int32))))]) (S' := []) rfl ?_
 obtain ⟨v47, hv47⟩ : ∃ z, z = (f_rm22_0 (u6 &&& (255 : Int32))) := ⟨_, rfl⟩
 rw [← hv47]
 refine Home.run X46 hx hby sg8_74_1 (pc' := 76) (L' := #[.val (.ref o0), .val (.ref b3), .val (.int (1 : Int32)), .val (.int v42), .val (.int (3 : Int32)), .val (.int (5 : Int32)), .val (.int v47)]) (S' := [(.int v47)]) rfl ?_
 refine Home.go (fun _ => XS.ifYes X46.here hx rfl (pc0 := 76) (pc' := 98) rfl (hb hby d8_76) rfl ((if0 _ _).trans (flt (by rw [hv47]; exact nn805)).2.1) (by decide) (by decide)) ?_
 refine Home.run X46 hx hby sg8_98_6 (pc' := 105) (L' := #[.val (.ref o0), .val (.ref b3), .val (.int (1 : Int32)), .val (.int ((v42 <<< ((5 : Int32) &&& 31)) ||| v47)), .val (.int (3 : Int32)), .val (.int (5 : Int32)), .val (.int v47)]) (S' := []) rfl ?_
 obtain ⟨v48, hv48⟩ : ∃ z, z = ((v42 <<< ((5 : Int32) &&& 31)) ||| v47) := ⟨_, rfl⟩
 rw [← hv48]
 refine Home.run X46 hx hby sg8_105_3 (pc' := 111) (L' := #[.val (.ref o0), .val (.ref b3), .val (.int (6 : Int32)), .val (.int v48), .val (.int (3 : Int32)), .val (.int (5 : Int32)), .val (.int v47)]) (S' := [(.int (8 : Int32)), (.int (6 : Int32))]) rfl ?_
 refine Home.go (fun _ => XS.icmpYes X46.here hx rfl (pc0 := 111) (pc' := 136) rfl (hb hby d8_111) rfl (tlt (by decide)).1 (by decide) (by decide)) ?_
 refine Home.run X46 hx hby sg8_136_4 (pc' := 55) (L' := #[.val (.ref o0), .val (.ref b3), .val (.int (6 : Int32)), .val (.int v48), .val (.int (3 : Int32)), .val (.int (6 : Int32)), .val (.int v47)]) (S' := [(.ref o0), (.int (6 : Int32))]) rfl ?_
 refine Home.st (own_pure (own_virtual X46 hx hZ hown (own_w41 hw) (own_w42 hw) (notFace_of_selects (args := #[]) (mvT hZ (own_w44 hw))) (own_w44 hw) (own_w43 hw) (own_w10 hw) (own_w45 hw) (by decide) (rm9_5 l Z a0 hw [] o0 p2 k_p2 u1 u2 u3 u4 u5 u6 u7 sv_COMPACT_STRINGS h44 n0 O44 (F_value_o0.keep K44 nin0) (V_p2.keep K44 nin0) (E_o0.keep K44) S_COMPACT_STRINGS (F_coder_o0.keep K44 nin0) hCS) e46 (E_o0.keep K44) rfl (by rw [hml]; rfl) (argsL := []) (rest := [(.int (6 : Int32))]) (lenOf own_pd4 rfl) rfl rfl (W := 1) (by exact hW0) (by decide) (by decide) (hb hby d8_55) (by decide) (by decide))) fun T49 X49 e49 => ?_
 refine Home.go (fun _ => XS.icmpNo X49.here hx rfl (hb hby d8_58) rfl (tlt (by decide)).2.1) ?_
 obtain ⟨ad50, b50, k50, T50, h50, X50, e50, E50, hZ, hown, Cd50, Ea50, Fc50, Fv50, V50, la50, lb50, hne50, st50⟩ := own_ldcW X49 hx hZ hown (own_hEL hw) Cd44 (own_w51 hw) (own_wS hw) e49 (List.mem_of_getElem? (i := 0) rfl) (vs := own_T0) (z := (32 : Int32)) ⟨by decide, by rfl⟩ (by decide) (by decide) (g := (mkF m 61 #[.val (.ref o0), .val (.ref b3), .val (.int (6 : Int32)), .val (.int v48), .val (.int (3 : Int32)), .val (.int (6 : Int32)), .val (.int v47)] [])) rfl (hb hby d8_61) (n := 128) (by decide) (by decide) (by decide) (by decide)
 refine Home.go st50 ?_
 have O50 := O44.ext E50
 have K50 : Keep h0 h50 ([] : List Addr) := Keep.ext K44 E50
 show Home T50 (mkF m 63 #[.val (.ref o0), .val (.ref b3), .val (.int (6 : Int32)), .val (.int v48), .val (.int (3 : Int32)), .val (.int (6 : Int32)), .val (.int v47)] [(.ref ad50)])
 refine Home.run X50 hx hby sg8_63_2 (pc' := 66) (L' := #[.val (.ref o0), .val (.ref b3), .val (.int (6 : Int32)), .val (.int v48), .val (.int (3 : Int32)), .val (.int (6 : Int32)), .val (.int v47)]) (S' := [(.int (6 : Int32)), (.ref o0), (.ref ad50)]) rfl ?_
 refine Home.st (own_pure (own_virtual X50 hx hZ hown (own_w54 hw) (own_w55 hw) (notFace_of_selects (args := #[]) (mvT hZ (own_w57 hw))) (own_w57 hw) (own_w56 hw) (own_w10 hw) (own_w58 hw) (by decide) (rm11_3 l Z a0 hw [] o0 (6 : Int32) sv_COMPACT_STRINGS p2 k_p2 u1 u2 u3 u4 u5 u6 u7 sv_SIOOBE_FORMATTER h50 n0 O50 (bnd_mono (bnd_lit (6 : Int32)) (by decide +kernel) (by decide +kernel)) (E_o0.keep K50) S_COMPACT_STRINGS (F_coder_o0.keep K50 nin0) hCS (F_value_o0.keep K50 nin0) (V_p2.keep K50 nin0) S_SIOOBE_FORMATTER bnd_u1 bnd_u2 bnd_u3 bnd_u4 bnd_u5 bnd_u6 bnd_u7 isr_sv_SIOOBE_FORMATTER) e50 (E_o0.keep K50) rfl (by rw [hml]; rfl) (argsL := [(.int (6 : Int32))]) (rest := [(.ref ad50)]) (lenOf own_pd14 rfl) rfl rfl (W := 1) (by exact hW0) (by decide) (by decide) (hb hby d8_66) (by decide) (by decide))) fun T51 X51 e51 => ?_
 show Home T51 (mkF m 69 #[.val (.ref o0), .val (.ref b3), .val (.int (6 : Int32)), .val (.int v48), .val (.int (3 : Int32)), .val (.int (6 : Int32)), .val (.int v47)] [(.int (u7 &&& (255 : Int32))), (.ref ad50)])
 refine Home.st (own_pure (own_virtual X51 hx hZ hown (own_w76 hw) (own_w77 hw) (notFace_of_selects (args := #[]) (mvT hZ (own_w79 hw))) (own_w79 hw) (own_w78 hw) (own_w10 hw) (own_w80 hw) (by decide) (rm16_0 l Z a0 hw [] ad50 (u7 &&& (255 : Int32)) sv_COMPACT_STRINGS b50 k50 h50 n0 O50 (bnd_and (own_at [u1, u2, u3, u4, u5, u6, u7] (6 : Int32)) (255 : Int32) (by decide)) Ea50 S_COMPACT_STRINGS Fc50 Fv50 V50 hCS) e51 Ea50 rfl (by rw [hml]; rfl) (argsL := [(.int (u7 &&& (255 : Int32)))]) (rest := []) (lenOf own_pd18 rfl) rfl rfl (W := 0) (by exact hW0) (by decide) (by decide) (hb hby d8_69) (by decide) (by decide))) fun T52 X52 e52 => ?_
 refine Home.run X52 hx hby sg8_72_1 (pc' := 74) (L' := #[.val (.ref o0), .val (.ref b3), .val (.int (6 : Int32)), .val (.int v48), .val (.int (3 : Int32)), .val (.int (6 : Int32)), .val (.int (f_rm22_0 (u7 &&& (255 : Int32))))]) (S' := []) rfl ?_
 obtain ⟨v53, hv53⟩ : ∃ z, z = (f_rm22_0 (u7 &&& (255 : Int32))) := ⟨_, rfl⟩
 rw [← hv53]
 refine Home.run X52 hx hby sg8_74_1 (pc' := 76) (L' := #[.val (.ref o0), .val (.ref b3), .val (.int (6 : Int32)), .val (.int v48), .val (.int (3 : Int32)), .val (.int (6 : Int32)), .val (.int v53)]) (S' := [(.int v53)]) rfl ?_
 refine Home.go (fun _ => XS.ifYes X52.here hx rfl (pc0 := 76) (pc' := 98) rfl (hb hby d8_76) rfl ((if0 _ _).trans (flt (by rw [hv53]; exact nn806)).2.1) (by decide) (by decide)) ?_
 refine Home.run X52 hx hby sg8_98_6 (pc' := 105) (L' := #[.val (.ref o0), .val (.ref b3), .val (.int (6 : Int32)), .val (.int ((v48 <<< ((5 : Int32) &&& 31)) ||| v53)), .val (.int (3 : Int32)), .val (.int (6 : Int32)), .val (.int v53)]) (S' := []) rfl ?_
 obtain ⟨v54, hv54⟩ : ∃ z, z = ((v48 <<< ((5 : Int32) &&& 31)) ||| v53) := ⟨_, rfl⟩
 rw [← hv54]
 refine Home.run X52 hx hby sg8_105_3 (pc' := 111) (L' := #[.val (.ref o0), .val (.ref b3), .val (.int (11 : Int32)), .val (.int v54), .val (.int (3 : Int32)), .val (.int (6 : Int32)), .val (.int v53)]) (S' := [(.int (8 : Int32)), (.int (11 : Int32))]) rfl ?_
 refine Home.go (fun _ => XS.icmpNo X52.here hx rfl (hb hby d8_111) rfl (flt (by decide)).1) ?_
 refine Home.run X52 hx hby sg8_114_8 (pc' := 127) (L' := #[.val (.ref o0), .val (.ref b3), .val (.int (3 : Int32)), .val (.int v54), .val (.int (4 : Int32)), .val (.int (6 : Int32)), .val (.int v53)]) (S' := [(.int (((v54.toUInt32 >>> ((3 : Int32) &&& 31).toUInt32).toInt32).toInt8.toInt32)), (.int (3 : Int32)), (.ref b3)]) rfl ?_
 have q55 := ((V41.ext E44).ext E50)
 obtain ⟨cl56, Ar56, q56, S56, M56, H56, G56⟩ := id q55
 refine Home.wr (stB X52 hx hZ e52 Ar56 (j := (3 : Int32)) (inb_of S56 ⟨by decide, by decide⟩) rfl rfl (hb hby d8_127)) fun T56 h56 X56 e56 W56 => ?_
 have W56' := Wr.to W56 (congrArg Value.int (nar_byte_id (bnd_i2b ((v54.toUInt32 >>> ((3 : Int32) &&& 31).toUInt32).toInt32)) (by decide +kernel) (by decide +kernel)))
 have V56 : Arv Z h56 b3 k3 .byte (4 : Int32) [(.int (((v15.toUInt32 >>> ((2 : Int32) &&& 31).toUInt32).toInt32).toInt8.toInt32)), (.int (((v30.toUInt32 >>> ((4 : Int32) &&& 31).toUInt32).toInt32).toInt8.toInt32)), (.int (((v39.toUInt32 >>> ((1 : Int32) &&& 31).toUInt32).toInt32).toInt8.toInt32)), (.int (((v54.toUInt32 >>> ((3 : Int32) &&& 31).toUInt32).toInt32).toInt8.toInt32))] (.int (0 : Int32)) := Arv.set Ar56 q56 S56 M56 H56 G56 (fits_byte_b (bnd_i2b ((v54.toUInt32 >>> ((3 : Int32) &&& 31).toUInt32).toInt32)) (by decide +kernel) (by decide +kernel)) W56' 3 rfl (Nat.le_of_ble_eq_true rfl)
 have O56 := O50.wr W56 g_b3
 have K56 : Keep h0 h56 ([] : List Addr) := Keep.wr K50 W56 (Or.inr (Nat.le_trans (Nat.le_refl _) (Nat.le_of_eq g3.symm)))
 have Cd56 := Cold.wr Cd50 W56 (Cold.safe Cd50 (List.mem_of_getElem? (i := 0) rfl))
 have N56 := Fr.snoc X56 N41 g_b3
 show Home T56 (mkF m 128 #[.val (.ref o0), .val (.ref b3), .val (.int (3 : Int32)), .val (.int v54), .val (.int (4 : Int32)), .val (.int (6 : Int32)), .val (.int v53)] [])
 refine Home.run X56 hx hby sg8_128_8 (pc' := 136) (L' := #[.val (.ref o0), .val (.ref b3), .val (.int (3 : Int32)), .val (.int (v54 &&& (7 : Int32))), .val (.int (4 : Int32)), .val (.int (6 : Int32)), .val (.int v53)]) (S' := []) rfl ?_
 obtain ⟨v57, hv57⟩ : ∃ z, z = (v54 &&& (7 : Int32)) := ⟨_, rfl⟩
 rw [← hv57]
 have bv57 : ¬ v57 < (0 : Int32) ∧ ¬ (7 : Int32) < v57 := by rw [hv57]; exact (bnd_and v54 (7 : Int32) (by decide))
 refine Home.run X56 hx hby sg8_136_4 (pc' := 55) (L' := #[.val (.ref o0), .val (.ref b3), .val (.int (3 : Int32)), .val (.int v57), .val (.int (4 : Int32)), .val (.int (7 : Int32)), .val (.int v53)]) (S' := [(.ref o0), (.int (7 : Int32))]) rfl ?_
 refine Home.st (own_pure (own_virtual X56 hx hZ hown (own_w41 hw) (own_w42 hw) (notFace_of_selects (args := #[]) (mvT hZ (own_w44 hw))) (own_w44 hw) (own_w43 hw) (own_w10 hw) (own_w45 hw) (by decide) (rm9_5 l Z a0 hw [] o0 p2 k_p2 u1 u2 u3 u4 u5 u6 u7 sv_COMPACT_STRINGS h56 n0 O56 (F_value_o0.keep K56 nin0) (V_p2.keep K56 nin0) (E_o0.keep K56) S_COMPACT_STRINGS (F_coder_o0.keep K56 nin0) hCS) e56 (E_o0.keep K56) rfl (by rw [hml]; rfl) (argsL := []) (rest := [(.int (7 : Int32))]) (lenOf own_pd4 rfl) rfl rfl (W := 1) (by exact hW0) (by decide) (by decide) (hb hby d8_55) (by decide) (by decide))) fun T58 X58 e58 => ?_
 refine Home.go (fun _ => XS.icmpYes X58.here hx rfl (pc0 := 58) (pc' := 142) rfl (hb hby d8_58) rfl (flt (by decide)).2.1 (by decide) (by decide)) ?_
 refine Home.run X58 hx hby sg8_142_1 (pc' := 143) (L' := #[.val (.ref o0), .val (.ref b3), .val (.int (3 : Int32)), .val (.int v57), .val (.int (4 : Int32)), .val (.int (7 : Int32)), .val (.int v53)]) (S' := [(.int v57)]) rfl ?_
 refine Home.go (fun _ => XS.ifYes X58.here hx rfl (pc0 := 143) (pc' := 156) rfl (hb hby d8_143) rfl ((if0 _ _).trans (teq (by rw [hv57, hv54, hv48, hv42, hv39, hv33, hv30, hv24, hv18, hv15, hv9, hv8, hv14, hv23, hv29, hv38, hv47, hv53]; exact nn807)).1) (by decide) (by decide)) ?_
 refine Home.run X58 hx hby sg8_156_1 (pc' := 157) (L' := #[.val (.ref o0), .val (.ref b3), .val (.int (3 : Int32)), .val (.int v57), .val (.int (4 : Int32)), .val (.int (7 : Int32)), .val (.int v53)]) (S' := [(.ref b3)]) rfl ?_
 subst hv57
 subst hv54
 subst hv53
 subst hv48
 subst hv47
 subst hv42
 subst hv39
 subst hv38
 subst hv33
 subst hv30
 subst hv29
 subst hv24
 subst hv23
 subst hv18
 subst hv15
 subst hv14
 subst hv9
 subst hv8
 exact HomeW.retR X58 hx hlk hZ (own_hEL hw) e58 Cd56 (fun _ _ q => by cases q; exact (List.mem_of_getElem? (i := 0) rfl)) hret rfl rfl (hb hby d8_157) (by rw [show T58.heap = h56 from e58]; exact ⟨b3, k3, rfl, N56, (Nat.le_trans (Nat.le_refl _) (Nat.le_of_eq g3.symm)), K56, V56⟩) (by decide) (by decide)
theorem rm23_4 (l : Launch) (Z : State) (a0 : Array Value) (hw : HW a0 Z) (ws : List Jvm.Cond) (o0 : Addr) (j1 : Int64) (i3 : Int32) (k_o0 : ClassId) (u1 u2 u3 u4 : Int32) (h0 : Heap) (n0 : Nat) (O0 : Old Z n0 h0) (bnd_i3 : ¬ i3 < (0 : Int32) ∧ ¬ (4 : Int32) < i3) (V_o0 : Arv Z h0 o0 k_o0 .byte (4 : Int32) [(.int u1), (.int u2), (.int u3), (.int u4)] (.int (0 : Int32))) :
    Con l Z (⟨"com/example/tryst/tryst/encoding/Base32DecodePinLaw", "byteOk", "([BJII)Z"⟩ : MethodName) method_3_code 5 (some .boolean) ws ({ frames := 0, cells := 0, slots := 0, locals := 0 } : Room) #[(.ref o0), (.long j1), (.int (4 : Int32)), (.int i3)] h0 (Pur (some (.int (f_rm23_4 j1 i3 u1 u2 u3 u4))) h0) := by
 refine own_body (plainFor_of_name own_pn0) (fun m => ef_rm23_4 m o0 j1 (4 : Int32) i3) ?_
 intro p e s m below meth c s₁ hx hby hlk hml hret hZ hown hnm X0 e0
 have N0 := Fr.nil n0
 refine Home.run X0 hx hby sg23_0_2 (pc' := 3) (L' := #[.val (.ref o0), .val (.long j1), .second, .val (.int (4 : Int32)), .val (.int i3)]) (S' := [(.int (4 : Int32)), (.int i3)]) rfl ?_
 by_cases c1 : i3 < (4 : Int32)
 ·
  refine Home.go (fun _ => XS.icmpYes X0.here hx rfl (pc0 := 3) (pc' := 8) rfl (hb hby d23_3) rfl (tlt c1).1 (by decide) (by decide)) ?_
  have bd2 : ¬ i3 < (0 : Int32) ∧ ¬ (3 : Int32) < i3 := ⟨bnd_i3.1, (bnd_dn c1 (by decide +kernel))⟩
  refine Home.run X0 hx hby sg23_8_2 (pc' := 11) (L' := #[.val (.ref o0), .val (.long j1), .second, .val (.int (4 : Int32)), .val (.int i3)]) (S' := [(.int i3), (.ref o0)]) rfl ?_
  obtain ⟨cl4, Ar4, q4, S4, M4, H4, G4⟩ := id V_o0
  have ib4 : ¬ (i3 < 0 ∨ cl4.slots.size ≤ (i3).toNatClampNeg) := inb_of S4 ⟨(bnd_nlt bd2 (bnd_lit (0 : Int32)) (by decide +kernel)), c1⟩
  refine Home.go (X0.baloadBytes hx (j := i3) (v := .int (own_at [u1, u2, u3, u4] i3)) (by rw [e0]; exact Ar4.1) (State.isArrayOf_alike hZ.alike Ar4.2.1) Ar4.2.2 ib4 (Has.at H4 ib4 (own_getD [u1, u2, u3, u4] _)) rfl rfl (hb hby d23_11)) ?_
  refine Home.run X0 hx hby sg23_12_9 (pc' := 24) (L' := #[.val (.ref o0), .val (.long j1), .second, .val (.int (4 : Int32)), .val (.int i3)]) (S' := [(.int ((((j1.toUInt64 >>> (((32 : Int32) - ((8 : Int32) * i3)) &&& 0x3f).toInt64.toUInt64).toInt64).toInt32).toInt8.toInt32)), (.int (own_at [u1, u2, u3, u4] i3))]) rfl ?_
  suffices J6 : ∀ {T : State} (X : Stand p l e ({ frames := 0, cells := 0, slots := 0, locals := 0 } : Room) s m #[(.ref o0), (.long j1), (.int (4 : Int32)), (.int i3)] below meth c T [] 0 0) (eT : T.heap = h0) (v7 : Int32) (hv7 : v7 = (if (own_at [u1, u2, u3, u4] i3) = ((((j1.toUInt64 >>> (((32 : Int32) - ((8 : Int32) * i3)) &&& 0x3f).toInt64.toUInt64).toInt64).toInt32).toInt8.toInt32) then (1 : Int32) else (0 : Int32))), @Home p e below _ T (mkF m 32 #[.val (.ref o0), .val (.long j1), .second, .val (.int (4 : Int32)), .val (.int i3)] [(.int v7)]) by
   by_cases c5 : (own_at [u1, u2, u3, u4] i3) = ((((j1.toUInt64 >>> (((32 : Int32) - ((8 : Int32) * i3)) &&& 0x3f).toInt64.toUInt64).toInt64).toInt32).toInt8.toInt32)
   ·
    refine Home.go (fun _ => XS.icmpNo X0.here hx rfl (hb hby d23_24) rfl (teq c5).2) ?_
    refine Home.run X0 hx hby sg23_27_2 (pc' := 32) (L' := #[.val (.ref o0), .val (.long j1), .second, .val (.int (4 : Int32)), .val (.int i3)]) (S' := [(.int (1 : Int32))]) rfl ?_
    exact J6 X0 e0 _ (by simp only [if_pos c5])
   ·
    refine Home.go (fun _ => XS.icmpYes X0.here hx rfl (pc0 := 24) (pc' := 31) rfl (hb hby d23_24) rfl (feq c5).2 (by decide) (by decide)) ?_
    refine Home.run X0 hx hby sg23_31_1 (pc' := 32) (L' := #[.val (.ref o0), .val (.long j1), .second, .val (.int (4 : Int32)), .val (.int i3)]) (S' := [(.int (0 : Int32))]) rfl ?_
    exact J6 X0 e0 _ (by simp only [if_neg c5])
  intro TJ6 XJ6 eJ6 v7 hv7
  have bv7 : ¬ v7 < (0 : Int32) ∧ ¬ (1 : Int32) < v7 := by rw [hv7]; exact (bnd_ite (bnd_mono (bnd_lit (1 : Int32)) (by decide +kernel) (by decide +kernel)) (bnd_mono (bnd_lit (0 : Int32)) (by decide +kernel) (by decide +kernel)))
  show Home TJ6 (mkF m 32 #[.val (.ref o0), .val (.long j1), .second, .val (.int (4 : Int32)), .val (.int i3)] [(.int v7)])
  exact Home.retN XJ6 hx hlk (t := .boolean) hret (by simp) (hb hby d23_32) ⟨congrArg some (congrArg Value.int (by subst hv7; first | rfl | (simp only [f_rm23_4, if_pos c1, nar_bool_id bv7 (by decide +kernel) (by decide +kernel), nar_i2c, nar_i2b] <;> rfl) | (simp [f_rm23_4, if_pos c1, nar_bool_id bv7 (by decide +kernel) (by decide +kernel)]; done))), rfl, eJ6⟩ (by decide) (by decide)
 ·
  refine Home.go (fun _ => XS.icmpNo X0.here hx rfl (hb hby d23_3) rfl (flt c1).1) ?_
  have bd3 : ¬ i3 < (4 : Int32) ∧ ¬ (4 : Int32) < i3 := ⟨c1, bnd_i3.2⟩
  refine Home.run X0 hx hby sg23_6_1 (pc' := 7) (L' := #[.val (.ref o0), .val (.long j1), .second, .val (.int (4 : Int32)), .val (.int i3)]) (S' := [(.int (1 : Int32))]) rfl ?_
  exact Home.retN X0 hx hlk (t := .boolean) hret (by simp) (hb hby d23_7) ⟨congrArg some (congrArg Value.int (by first | rfl | (simp only [f_rm23_4, if_neg c1, nar_i2c, nar_i2b] <;> rfl) | (simp [f_rm23_4, if_neg c1]; done))), rfl, e0⟩ (by decide) (by decide)
theorem f_rm23_4_bnd (j1 : Int64) (i3 : Int32) (u1 : Int32) (u2 : Int32) (u3 : Int32) (u4 : Int32) (bnd_i3 : ¬ i3 < (0 : Int32) ∧ ¬ (4 : Int32) < i3) : ¬ (f_rm23_4 j1 i3 u1 u2 u3 u4) < (0 : Int32) ∧ ¬ (1 : Int32) < (f_rm23_4 j1 i3 u1 u2 u3 u4) := by unfold f_rm23_4; (repeat' split) <;> first | exact bnd_mono (bnd_lit (1 : Int32)) (by decide +kernel) (by decide +kernel) | exact bnd_mono (bnd_lit (0 : Int32)) (by decide +kernel) (by decide +kernel)
theorem rm6_4 (l : Launch) (Z : State) (a0 : Array Value) (hw : HW a0 Z) (ws : List Jvm.Cond) (o0 o2 : Addr) (k_o0 : ClassId) (u1 u2 u3 u4 u5 u6 u7 u8 : Int32) (k_o2 : ClassId) (h0 : Heap) (n0 : Nat) (O0 : Old Z n0 h0) (V_o0 : Arv Z h0 o0 k_o0 .char (8 : Int32) [(.int u1), (.int u2), (.int u3), (.int u4), (.int u5), (.int u6), (.int u7), (.int u8)] (.int (0 : Int32))) (bnd_u1 : ¬ u1 < (50 : Int32) ∧ ¬ (122 : Int32) < u1) (V_o2 : Arv Z h0 o2 k_o2 .byte (8 : Int32) [(.int (0 : Int32)), (.int (0 : Int32)), (.int (0 : Int32)), (.int (0 : Int32)), (.int (0 : Int32)), (.int (0 : Int32)), (.int (0 : Int32)), (.int (0 : Int32))] (.int (0 : Int32))) (g_o2 : n0 ≤ o2) (ne_o0_o2 : o0 ≠ o2) (bnd_u2 : ¬ u2 < (50 : Int32) ∧ ¬ (122 : Int32) < u2) (bnd_u3 : ¬ u3 < (50 : Int32) ∧ ¬ (122 : Int32) < u3) (bnd_u4 : ¬ u4 < (50 : Int32) ∧ ¬ (122 : Int32) < u4) (bnd_u5 : ¬ u5 < (50 : Int32) ∧ ¬ (122 : Int32) < u5) (bnd_u6 : ¬ u6 < (50 : Int32) ∧ ¬ (122 : Int32) < u6) (bnd_u7 : ¬ u7 < (50 : Int32) ∧ ¬ (122 : Int32) < u7) (bnd_u8 : ¬ u8 < (50 : Int32) ∧ ¬ (122 : Int32) < u8) :
    Con l Z (⟨"java/lang/StringUTF16", "compress", "([CI[BII)I"⟩ : MethodName) jdk_52_method_21_code 7 (some .int) ws ({ frames := 0, cells := 0, slots := 0, locals := 0 } : Room) #[(.ref o0), (.int (0 : Int32)), (.ref o2), (.int (0 : Int32)), (.int (8 : Int32))] h0 (fun v h L => v = some (.int (8 : Int32)) ∧ Fr n0 L ∧ Keep h0 h [o2] ∧ Arv Z h o2 k_o2 .byte (8 : Int32) [(.int u1), (.int u2), (.int u3), (.int u4), (.int u5), (.int u6), (.int u7), (.int u8)] (.int (0 : Int32))) := by
 refine own_body (plainFor_of_name own_pn3) (fun m => ef_rm6_4 m o0 (0 : Int32) o2 (8 : Int32)) ?_
 intro p e s m below meth c s₁ hx hby hlk hml hret hZ hown hnm X0 e0
 have N0 := Fr.nil n0
 refine Home.run X0 hx hby sg6_0_4 (pc' := 7) (L' := #[.val (.ref o0), .val (.int (0 : Int32)), .val (.ref o2), .val (.int (0 : Int32)), .val (.int (8 : Int32)), .val (.int (0 : Int32)), .unset]) (S' := [(.int (8 : Int32)), (.int (0 : Int32))]) rfl ?_
 refine Home.go (fun _ => XS.icmpNo X0.here hx rfl (hb hby d6_7) rfl (tlt (by decide)).2.1) ?_
 refine Home.run X0 hx hby sg6_10_2 (pc' := 12) (L' := #[.val (.ref o0), .val (.int (0 : Int32)), .val (.ref o2), .val (.int (0 : Int32)), .val (.int (8 : Int32)), .val (.int (0 : Int32)), .unset]) (S' := [(.int (0 : Int32)), (.ref o0)]) rfl ?_
 obtain ⟨cl1, Ar1, q1, S1, M1, H1, G1⟩ := id V_o0
 have ib1 : ¬ ((0 : Int32) < 0 ∨ cl1.slots.size ≤ ((0 : Int32)).toNatClampNeg) := inb_of S1 ⟨by decide, by decide⟩
 refine Home.go (X0.caload hx (j := (0 : Int32)) (v := (.int u1)) (by rw [e0]; exact Ar1.1) (State.isArrayOf_alike hZ.alike Ar1.2.1) Ar1.2.2 ib1 (Has.at H1 ib1 rfl) rfl rfl (hb hby d6_12)) ?_
 refine Home.run X0 hx hby sg6_13_3 (pc' := 20) (L' := #[.val (.ref o0), .val (.int (0 : Int32)), .val (.ref o2), .val (.int (0 : Int32)), .val (.int (8 : Int32)), .val (.int (0 : Int32)), .val (.int u1)]) (S' := [(.int (255 : Int32)), (.int u1)]) rfl ?_
 refine Home.go (fun _ => XS.icmpYes X0.here hx rfl (pc0 := 20) (pc' := 26) rfl (hb hby d6_20) rfl (flt (bnd_nlt (bnd_lit (255 : Int32)) bnd_u1 (by decide +kernel))).2.2.2 (by decide) (by decide)) ?_
 refine Home.run X0 hx hby sg6_26_4 (pc' := 31) (L' := #[.val (.ref o0), .val (.int (0 : Int32)), .val (.ref o2), .val (.int (0 : Int32)), .val (.int (8 : Int32)), .val (.int (0 : Int32)), .val (.int u1)]) (S' := [(.int (u1.toInt8.toInt32)), (.int (0 : Int32)), (.ref o2)]) rfl ?_
 rw [i2b_id bnd_u1 (by decide +kernel) (by decide +kernel)]
 obtain ⟨cl2, Ar2, q2, S2, M2, H2, G2⟩ := id V_o2
 refine Home.wr (stB X0 hx hZ e0 Ar2 (j := (0 : Int32)) (inb_of S2 ⟨by decide, by decide⟩) rfl rfl (hb hby d6_31)) fun T2 h2 X2 e2 W2 => ?_
 have W2' := Wr.to W2 (congrArg Value.int (nar_byte_id bnd_u1 (by decide +kernel) (by decide +kernel)))
 have V2 : Arv Z h2 o2 k_o2 .byte (8 : Int32) [(.int u1), (.int (0 : Int32)), (.int (0 : Int32)), (.int (0 : Int32)), (.int (0 : Int32)), (.int (0 : Int32)), (.int (0 : Int32)), (.int (0 : Int32))] (.int (0 : Int32)) := Arv.set Ar2 q2 S2 M2 H2 G2 (fits_byte_b bnd_u1 (by decide +kernel) (by decide +kernel)) W2' 0 rfl (Nat.le_of_ble_eq_true rfl)
 have O2 := O0.wr W2 g_o2
 have K2 : Keep h0 h2 ([o2] : List Addr) := Keep.wr (Keep.refl h0 ([o2] : List Addr)) W2 (Or.inl (List.mem_of_getElem? (i := 0) rfl))
 have N2 := Fr.snoc X2 N0 g_o2
 show Home T2 (mkF m 32 #[.val (.ref o0), .val (.int (0 : Int32)), .val (.ref o2), .val (.int (0 : Int32)), .val (.int (8 : Int32)), .val (.int (0 : Int32)), .val (.int u1)] [])
 refine Home.run X2 hx hby sg6_32_6 (pc' := 7) (L' := #[.val (.ref o0), .val (.int (1 : Int32)), .val (.ref o2), .val (.int (1 : Int32)), .val (.int (8 : Int32)), .val (.int (1 : Int32)), .val (.int u1)]) (S' := [(.int (8 : Int32)), (.int (1 : Int32))]) rfl ?_
 refine Home.go (fun _ => XS.icmpNo X2.here hx rfl (hb hby d6_7) rfl (tlt (by decide)).2.1) ?_
 refine Home.run X2 hx hby sg6_10_2 (pc' := 12) (L' := #[.val (.ref o0), .val (.int (1 : Int32)), .val (.ref o2), .val (.int (1 : Int32)), .val (.int (8 : Int32)), .val (.int (1 : Int32)), .val (.int u1)]) (S' := [(.int (1 : Int32)), (.ref o0)]) rfl ?_
 have q3 := (V_o0.other W2 ne_o0_o2)
 obtain ⟨cl4, Ar4, q4, S4, M4, H4, G4⟩ := id q3
 have ib4 : ¬ ((1 : Int32) < 0 ∨ cl4.slots.size ≤ ((1 : Int32)).toNatClampNeg) := inb_of S4 ⟨by decide, by decide⟩
 refine Home.go (X2.caload hx (j := (1 : Int32)) (v := (.int u2)) (by rw [e2]; exact Ar4.1) (State.isArrayOf_alike hZ.alike Ar4.2.1) Ar4.2.2 ib4 (Has.at H4 ib4 rfl) rfl rfl (hb hby d6_12)) ?_
 refine Home.run X2 hx hby sg6_13_3 (pc' := 20) (L' := #[.val (.ref o0), .val (.int (1 : Int32)), .val (.ref o2), .val (.int (1 : Int32)), .val (.int (8 : Int32)), .val (.int (1 : Int32)), .val (.int u2)]) (S' := [(.int (255 : Int32)), (.int u2)]) rfl ?_
 refine Home.go (fun _ => XS.icmpYes X2.here hx rfl (pc0 := 20) (pc' := 26) rfl (hb hby d6_20) rfl (flt (bnd_nlt (bnd_lit (255 : Int32)) bnd_u2 (by decide +kernel))).2.2.2 (by decide) (by decide)) ?_
 refine Home.run X2 hx hby sg6_26_4 (pc' := 31) (L' := #[.val (.ref o0), .val (.int (1 : Int32)), .val (.ref o2), .val (.int (1 : Int32)), .val (.int (8 : Int32)), .val (.int (1 : Int32)), .val (.int u2)]) (S' := [(.int (u2.toInt8.toInt32)), (.int (1 : Int32)), (.ref o2)]) rfl ?_
 rw [i2b_id bnd_u2 (by decide +kernel) (by decide +kernel)]
 obtain ⟨cl5, Ar5, q5, S5, M5, H5, G5⟩ := id V2
 refine Home.wr (stB X2 hx hZ e2 Ar5 (j := (1 : Int32)) (inb_of S5 ⟨by decide, by decide⟩) rfl rfl (hb hby d6_31)) fun T5 h5 X5 e5 W5 => ?_
 have W5' := Wr.to W5 (congrArg Value.int (nar_byte_id bnd_u2 (by decide +kernel) (by decide +kernel)))
 have V5 : Arv Z h5 o2 k_o2 .byte (8 : Int32) [(.int u1), (.int u2), (.int (0 : Int32)), (.int (0 : Int32)), (.int (0 : Int32)), (.int (0 : Int32)), (.int (0 : Int32)), (.int (0 : Int32))] (.int (0 : Int32)) := Arv.set Ar5 q5 S5 M5 H5 G5 (fits_byte_b bnd_u2 (by decide +kernel) (by decide +kernel)) W5' 1 rfl (Nat.le_of_ble_eq_true rfl)
 have O5 := O2.wr W5 g_o2
 have K5 : Keep h0 h5 ([o2] : List Addr) := Keep.wr K2 W5 (Or.inl (List.mem_of_getElem? (i := 0) rfl))
 have N5 := Fr.snoc X5 N2 g_o2
 show Home T5 (mkF m 32 #[.val (.ref o0), .val (.int (1 : Int32)), .val (.ref o2), .val (.int (1 : Int32)), .val (.int (8 : Int32)), .val (.int (1 : Int32)), .val (.int u2)] [])
 refine Home.run X5 hx hby sg6_32_6 (pc' := 7) (L' := #[.val (.ref o0), .val (.int (2 : Int32)), .val (.ref o2), .val (.int (2 : Int32)), .val (.int (8 : Int32)), .val (.int (2 : Int32)), .val (.int u2)]) (S' := [(.int (8 : Int32)), (.int (2 : Int32))]) rfl ?_
 refine Home.go (fun _ => XS.icmpNo X5.here hx rfl (hb hby d6_7) rfl (tlt (by decide)).2.1) ?_
 refine Home.run X5 hx hby sg6_10_2 (pc' := 12) (L' := #[.val (.ref o0), .val (.int (2 : Int32)), .val (.ref o2), .val (.int (2 : Int32)), .val (.int (8 : Int32)), .val (.int (2 : Int32)), .val (.int u2)]) (S' := [(.int (2 : Int32)), (.ref o0)]) rfl ?_
 have q6 := (q3.other W5 ne_o0_o2)
 obtain ⟨cl7, Ar7, q7, S7, M7, H7, G7⟩ := id q6
 have ib7 : ¬ ((2 : Int32) < 0 ∨ cl7.slots.size ≤ ((2 : Int32)).toNatClampNeg) := inb_of S7 ⟨by decide, by decide⟩
 refine Home.go (X5.caload hx (j := (2 : Int32)) (v := (.int u3)) (by rw [e5]; exact Ar7.1) (State.isArrayOf_alike hZ.alike Ar7.2.1) Ar7.2.2 ib7 (Has.at H7 ib7 rfl) rfl rfl (hb hby d6_12)) ?_
 refine Home.run X5 hx hby sg6_13_3 (pc' := 20) (L' := #[.val (.ref o0), .val (.int (2 : Int32)), .val (.ref o2), .val (.int (2 : Int32)), .val (.int (8 : Int32)), .val (.int (2 : Int32)), .val (.int u3)]) (S' := [(.int (255 : Int32)), (.int u3)]) rfl ?_
 refine Home.go (fun _ => XS.icmpYes X5.here hx rfl (pc0 := 20) (pc' := 26) rfl (hb hby d6_20) rfl (flt (bnd_nlt (bnd_lit (255 : Int32)) bnd_u3 (by decide +kernel))).2.2.2 (by decide) (by decide)) ?_
 refine Home.run X5 hx hby sg6_26_4 (pc' := 31) (L' := #[.val (.ref o0), .val (.int (2 : Int32)), .val (.ref o2), .val (.int (2 : Int32)), .val (.int (8 : Int32)), .val (.int (2 : Int32)), .val (.int u3)]) (S' := [(.int (u3.toInt8.toInt32)), (.int (2 : Int32)), (.ref o2)]) rfl ?_
 rw [i2b_id bnd_u3 (by decide +kernel) (by decide +kernel)]
 obtain ⟨cl8, Ar8, q8, S8, M8, H8, G8⟩ := id V5
 refine Home.wr (stB X5 hx hZ e5 Ar8 (j := (2 : Int32)) (inb_of S8 ⟨by decide, by decide⟩) rfl rfl (hb hby d6_31)) fun T8 h8 X8 e8 W8 => ?_
 have W8' := Wr.to W8 (congrArg Value.int (nar_byte_id bnd_u3 (by decide +kernel) (by decide +kernel)))
 have V8 : Arv Z h8 o2 k_o2 .byte (8 : Int32) [(.int u1), (.int u2), (.int u3), (.int (0 : Int32)), (.int (0 : Int32)), (.int (0 : Int32)), (.int (0 : Int32)), (.int (0 : Int32))] (.int (0 : Int32)) := Arv.set Ar8 q8 S8 M8 H8 G8 (fits_byte_b bnd_u3 (by decide +kernel) (by decide +kernel)) W8' 2 rfl (Nat.le_of_ble_eq_true rfl)
 have O8 := O5.wr W8 g_o2
 have K8 : Keep h0 h8 ([o2] : List Addr) := Keep.wr K5 W8 (Or.inl (List.mem_of_getElem? (i := 0) rfl))
 have N8 := Fr.snoc X8 N5 g_o2
 show Home T8 (mkF m 32 #[.val (.ref o0), .val (.int (2 : Int32)), .val (.ref o2), .val (.int (2 : Int32)), .val (.int (8 : Int32)), .val (.int (2 : Int32)), .val (.int u3)] [])
 refine Home.run X8 hx hby sg6_32_6 (pc' := 7) (L' := #[.val (.ref o0), .val (.int (3 : Int32)), .val (.ref o2), .val (.int (3 : Int32)), .val (.int (8 : Int32)), .val (.int (3 : Int32)), .val (.int u3)]) (S' := [(.int (8 : Int32)), (.int (3 : Int32))]) rfl ?_
 refine Home.go (fun _ => XS.icmpNo X8.here hx rfl (hb hby d6_7) rfl (tlt (by decide)).2.1) ?_
 refine Home.run X8 hx hby sg6_10_2 (pc' := 12) (L' := #[.val (.ref o0), .val (.int (3 : Int32)), .val (.ref o2), .val (.int (3 : Int32)), .val (.int (8 : Int32)), .val (.int (3 : Int32)), .val (.int u3)]) (S' := [(.int (3 : Int32)), (.ref o0)]) rfl ?_
 have q9 := (q6.other W8 ne_o0_o2)
 obtain ⟨cl10, Ar10, q10, S10, M10, H10, G10⟩ := id q9
 have ib10 : ¬ ((3 : Int32) < 0 ∨ cl10.slots.size ≤ ((3 : Int32)).toNatClampNeg) := inb_of S10 ⟨by decide, by decide⟩
 refine Home.go (X8.caload hx (j := (3 : Int32)) (v := (.int u4)) (by rw [e8]; exact Ar10.1) (State.isArrayOf_alike hZ.alike Ar10.2.1) Ar10.2.2 ib10 (Has.at H10 ib10 rfl) rfl rfl (hb hby d6_12)) ?_
 refine Home.run X8 hx hby sg6_13_3 (pc' := 20) (L' := #[.val (.ref o0), .val (.int (3 : Int32)), .val (.ref o2), .val (.int (3 : Int32)), .val (.int (8 : Int32)), .val (.int (3 : Int32)), .val (.int u4)]) (S' := [(.int (255 : Int32)), (.int u4)]) rfl ?_
 refine Home.go (fun _ => XS.icmpYes X8.here hx rfl (pc0 := 20) (pc' := 26) rfl (hb hby d6_20) rfl (flt (bnd_nlt (bnd_lit (255 : Int32)) bnd_u4 (by decide +kernel))).2.2.2 (by decide) (by decide)) ?_
 refine Home.run X8 hx hby sg6_26_4 (pc' := 31) (L' := #[.val (.ref o0), .val (.int (3 : Int32)), .val (.ref o2), .val (.int (3 : Int32)), .val (.int (8 : Int32)), .val (.int (3 : Int32)), .val (.int u4)]) (S' := [(.int (u4.toInt8.toInt32)), (.int (3 : Int32)), (.ref o2)]) rfl ?_
 rw [i2b_id bnd_u4 (by decide +kernel) (by decide +kernel)]
 obtain ⟨cl11, Ar11, q11, S11, M11, H11, G11⟩ := id V8
 refine Home.wr (stB X8 hx hZ e8 Ar11 (j := (3 : Int32)) (inb_of S11 ⟨by decide, by decide⟩) rfl rfl (hb hby d6_31)) fun T11 h11 X11 e11 W11 => ?_
 have W11' := Wr.to W11 (congrArg Value.int (nar_byte_id bnd_u4 (by decide +kernel) (by decide +kernel)))
 have V11 : Arv Z h11 o2 k_o2 .byte (8 : Int32) [(.int u1), (.int u2), (.int u3), (.int u4), (.int (0 : Int32)), (.int (0 : Int32)), (.int (0 : Int32)), (.int (0 : Int32))] (.int (0 : Int32)) := Arv.set Ar11 q11 S11 M11 H11 G11 (fits_byte_b bnd_u4 (by decide +kernel) (by decide +kernel)) W11' 3 rfl (Nat.le_of_ble_eq_true rfl)
 have O11 := O8.wr W11 g_o2
 have K11 : Keep h0 h11 ([o2] : List Addr) := Keep.wr K8 W11 (Or.inl (List.mem_of_getElem? (i := 0) rfl))
 have N11 := Fr.snoc X11 N8 g_o2
 show Home T11 (mkF m 32 #[.val (.ref o0), .val (.int (3 : Int32)), .val (.ref o2), .val (.int (3 : Int32)), .val (.int (8 : Int32)), .val (.int (3 : Int32)), .val (.int u4)] [])
 refine Home.run X11 hx hby sg6_32_6 (pc' := 7) (L' := #[.val (.ref o0), .val (.int (4 : Int32)), .val (.ref o2), .val (.int (4 : Int32)), .val (.int (8 : Int32)), .val (.int (4 : Int32)), .val (.int u4)]) (S' := [(.int (8 : Int32)), (.int (4 : Int32))]) rfl ?_
 refine Home.go (fun _ => XS.icmpNo X11.here hx rfl (hb hby d6_7) rfl (tlt (by decide)).2.1) ?_
 refine Home.run X11 hx hby sg6_10_2 (pc' := 12) (L' := #[.val (.ref o0), .val (.int (4 : Int32)), .val (.ref o2), .val (.int (4 : Int32)), .val (.int (8 : Int32)), .val (.int (4 : Int32)), .val (.int u4)]) (S' := [(.int (4 : Int32)), (.ref o0)]) rfl ?_
 have q12 := (q9.other W11 ne_o0_o2)
 obtain ⟨cl13, Ar13, q13, S13, M13, H13, G13⟩ := id q12
 have ib13 : ¬ ((4 : Int32) < 0 ∨ cl13.slots.size ≤ ((4 : Int32)).toNatClampNeg) := inb_of S13 ⟨by decide, by decide⟩
 refine Home.go (X11.caload hx (j := (4 : Int32)) (v := (.int u5)) (by rw [e11]; exact Ar13.1) (State.isArrayOf_alike hZ.alike Ar13.2.1) Ar13.2.2 ib13 (Has.at H13 ib13 rfl) rfl rfl (hb hby d6_12)) ?_
 refine Home.run X11 hx hby sg6_13_3 (pc' := 20) (L' := #[.val (.ref o0), .val (.int (4 : Int32)), .val (.ref o2), .val (.int (4 : Int32)), .val (.int (8 : Int32)), .val (.int (4 : Int32)), .val (.int u5)]) (S' := [(.int (255 : Int32)), (.int u5)]) rfl ?_
 refine Home.go (fun _ => XS.icmpYes X11.here hx rfl (pc0 := 20) (pc' := 26) rfl (hb hby d6_20) rfl (flt (bnd_nlt (bnd_lit (255 : Int32)) bnd_u5 (by decide +kernel))).2.2.2 (by decide) (by decide)) ?_
 refine Home.run X11 hx hby sg6_26_4 (pc' := 31) (L' := #[.val (.ref o0), .val (.int (4 : Int32)), .val (.ref o2), .val (.int (4 : Int32)), .val (.int (8 : Int32)), .val (.int (4 : Int32)), .val (.int u5)]) (S' := [(.int (u5.toInt8.toInt32)), (.int (4 : Int32)), (.ref o2)]) rfl ?_
 rw [i2b_id bnd_u5 (by decide +kernel) (by decide +kernel)]
 obtain ⟨cl14, Ar14, q14, S14, M14, H14, G14⟩ := id V11
 refine Home.wr (stB X11 hx hZ e11 Ar14 (j := (4 : Int32)) (inb_of S14 ⟨by decide, by decide⟩) rfl rfl (hb hby d6_31)) fun T14 h14 X14 e14 W14 => ?_
 have W14' := Wr.to W14 (congrArg Value.int (nar_byte_id bnd_u5 (by decide +kernel) (by decide +kernel)))
 have V14 : Arv Z h14 o2 k_o2 .byte (8 : Int32) [(.int u1), (.int u2), (.int u3), (.int u4), (.int u5), (.int (0 : Int32)), (.int (0 : Int32)), (.int (0 : Int32))] (.int (0 : Int32)) := Arv.set Ar14 q14 S14 M14 H14 G14 (fits_byte_b bnd_u5 (by decide +kernel) (by decide +kernel)) W14' 4 rfl (Nat.le_of_ble_eq_true rfl)
 have O14 := O11.wr W14 g_o2
 have K14 : Keep h0 h14 ([o2] : List Addr) := Keep.wr K11 W14 (Or.inl (List.mem_of_getElem? (i := 0) rfl))
 have N14 := Fr.snoc X14 N11 g_o2
 show Home T14 (mkF m 32 #[.val (.ref o0), .val (.int (4 : Int32)), .val (.ref o2), .val (.int (4 : Int32)), .val (.int (8 : Int32)), .val (.int (4 : Int32)), .val (.int u5)] [])
 refine Home.run X14 hx hby sg6_32_6 (pc' := 7) (L' := #[.val (.ref o0), .val (.int (5 : Int32)), .val (.ref o2), .val (.int (5 : Int32)), .val (.int (8 : Int32)), .val (.int (5 : Int32)), .val (.int u5)]) (S' := [(.int (8 : Int32)), (.int (5 : Int32))]) rfl ?_
 refine Home.go (fun _ => XS.icmpNo X14.here hx rfl (hb hby d6_7) rfl (tlt (by decide)).2.1) ?_
 refine Home.run X14 hx hby sg6_10_2 (pc' := 12) (L' := #[.val (.ref o0), .val (.int (5 : Int32)), .val (.ref o2), .val (.int (5 : Int32)), .val (.int (8 : Int32)), .val (.int (5 : Int32)), .val (.int u5)]) (S' := [(.int (5 : Int32)), (.ref o0)]) rfl ?_
 have q15 := (q12.other W14 ne_o0_o2)
 obtain ⟨cl16, Ar16, q16, S16, M16, H16, G16⟩ := id q15
 have ib16 : ¬ ((5 : Int32) < 0 ∨ cl16.slots.size ≤ ((5 : Int32)).toNatClampNeg) := inb_of S16 ⟨by decide, by decide⟩
 refine Home.go (X14.caload hx (j := (5 : Int32)) (v := (.int u6)) (by rw [e14]; exact Ar16.1) (State.isArrayOf_alike hZ.alike Ar16.2.1) Ar16.2.2 ib16 (Has.at H16 ib16 rfl) rfl rfl (hb hby d6_12)) ?_
 refine Home.run X14 hx hby sg6_13_3 (pc' := 20) (L' := #[.val (.ref o0), .val (.int (5 : Int32)), .val (.ref o2), .val (.int (5 : Int32)), .val (.int (8 : Int32)), .val (.int (5 : Int32)), .val (.int u6)]) (S' := [(.int (255 : Int32)), (.int u6)]) rfl ?_
 refine Home.go (fun _ => XS.icmpYes X14.here hx rfl (pc0 := 20) (pc' := 26) rfl (hb hby d6_20) rfl (flt (bnd_nlt (bnd_lit (255 : Int32)) bnd_u6 (by decide +kernel))).2.2.2 (by decide) (by decide)) ?_
 refine Home.run X14 hx hby sg6_26_4 (pc' := 31) (L' := #[.val (.ref o0), .val (.int (5 : Int32)), .val (.ref o2), .val (.int (5 : Int32)), .val (.int (8 : Int32)), .val (.int (5 : Int32)), .val (.int u6)]) (S' := [(.int (u6.toInt8.toInt32)), (.int (5 : Int32)), (.ref o2)]) rfl ?_
 rw [i2b_id bnd_u6 (by decide +kernel) (by decide +kernel)]
 obtain ⟨cl17, Ar17, q17, S17, M17, H17, G17⟩ := id V14
 refine Home.wr (stB X14 hx hZ e14 Ar17 (j := (5 : Int32)) (inb_of S17 ⟨by decide, by decide⟩) rfl rfl (hb hby d6_31)) fun T17 h17 X17 e17 W17 => ?_
 have W17' := Wr.to W17 (congrArg Value.int (nar_byte_id bnd_u6 (by decide +kernel) (by decide +kernel)))
 have V17 : Arv Z h17 o2 k_o2 .byte (8 : Int32) [(.int u1), (.int u2), (.int u3), (.int u4), (.int u5), (.int u6), (.int (0 : Int32)), (.int (0 : Int32))] (.int (0 : Int32)) := Arv.set Ar17 q17 S17 M17 H17 G17 (fits_byte_b bnd_u6 (by decide +kernel) (by decide +kernel)) W17' 5 rfl (Nat.le_of_ble_eq_true rfl)
 have O17 := O14.wr W17 g_o2
 have K17 : Keep h0 h17 ([o2] : List Addr) := Keep.wr K14 W17 (Or.inl (List.mem_of_getElem? (i := 0) rfl))
 have N17 := Fr.snoc X17 N14 g_o2
 show Home T17 (mkF m 32 #[.val (.ref o0), .val (.int (5 : Int32)), .val (.ref o2), .val (.int (5 : Int32)), .val (.int (8 : Int32)), .val (.int (5 : Int32)), .val (.int u6)] [])
 refine Home.run X17 hx hby sg6_32_6 (pc' := 7) (L' := #[.val (.ref o0), .val (.int (6 : Int32)), .val (.ref o2), .val (.int (6 : Int32)), .val (.int (8 : Int32)), .val (.int (6 : Int32)), .val (.int u6)]) (S' := [(.int (8 : Int32)), (.int (6 : Int32))]) rfl ?_
 refine Home.go (fun _ => XS.icmpNo X17.here hx rfl (hb hby d6_7) rfl (tlt (by decide)).2.1) ?_
 refine Home.run X17 hx hby sg6_10_2 (pc' := 12) (L' := #[.val (.ref o0), .val (.int (6 : Int32)), .val (.ref o2), .val (.int (6 : Int32)), .val (.int (8 : Int32)), .val (.int (6 : Int32)), .val (.int u6)]) (S' := [(.int (6 : Int32)), (.ref o0)]) rfl ?_
 have q18 := (q15.other W17 ne_o0_o2)
 obtain ⟨cl19, Ar19, q19, S19, M19, H19, G19⟩ := id q18
 have ib19 : ¬ ((6 : Int32) < 0 ∨ cl19.slots.size ≤ ((6 : Int32)).toNatClampNeg) := inb_of S19 ⟨by decide, by decide⟩
 refine Home.go (X17.caload hx (j := (6 : Int32)) (v := (.int u7)) (by rw [e17]; exact Ar19.1) (State.isArrayOf_alike hZ.alike Ar19.2.1) Ar19.2.2 ib19 (Has.at H19 ib19 rfl) rfl rfl (hb hby d6_12)) ?_
 refine Home.run X17 hx hby sg6_13_3 (pc' := 20) (L' := #[.val (.ref o0), .val (.int (6 : Int32)), .val (.ref o2), .val (.int (6 : Int32)), .val (.int (8 : Int32)), .val (.int (6 : Int32)), .val (.int u7)]) (S' := [(.int (255 : Int32)), (.int u7)]) rfl ?_
 refine Home.go (fun _ => XS.icmpYes X17.here hx rfl (pc0 := 20) (pc' := 26) rfl (hb hby d6_20) rfl (flt (bnd_nlt (bnd_lit (255 : Int32)) bnd_u7 (by decide +kernel))).2.2.2 (by decide) (by decide)) ?_
 refine Home.run X17 hx hby sg6_26_4 (pc' := 31) (L' := #[.val (.ref o0), .val (.int (6 : Int32)), .val (.ref o2), .val (.int (6 : Int32)), .val (.int (8 : Int32)), .val (.int (6 : Int32)), .val (.int u7)]) (S' := [(.int (u7.toInt8.toInt32)), (.int (6 : Int32)), (.ref o2)]) rfl ?_
 rw [i2b_id bnd_u7 (by decide +kernel) (by decide +kernel)]
 obtain ⟨cl20, Ar20, q20, S20, M20, H20, G20⟩ := id V17
 refine Home.wr (stB X17 hx hZ e17 Ar20 (j := (6 : Int32)) (inb_of S20 ⟨by decide, by decide⟩) rfl rfl (hb hby d6_31)) fun T20 h20 X20 e20 W20 => ?_
 have W20' := Wr.to W20 (congrArg Value.int (nar_byte_id bnd_u7 (by decide +kernel) (by decide +kernel)))
 have V20 : Arv Z h20 o2 k_o2 .byte (8 : Int32) [(.int u1), (.int u2), (.int u3), (.int u4), (.int u5), (.int u6), (.int u7), (.int (0 : Int32))] (.int (0 : Int32)) := Arv.set Ar20 q20 S20 M20 H20 G20 (fits_byte_b bnd_u7 (by decide +kernel) (by decide +kernel)) W20' 6 rfl (Nat.le_of_ble_eq_true rfl)
 have O20 := O17.wr W20 g_o2
 have K20 : Keep h0 h20 ([o2] : List Addr) := Keep.wr K17 W20 (Or.inl (List.mem_of_getElem? (i := 0) rfl))
 have N20 := Fr.snoc X20 N17 g_o2
 show Home T20 (mkF m 32 #[.val (.ref o0), .val (.int (6 : Int32)), .val (.ref o2), .val (.int (6 : Int32)), .val (.int (8 : Int32)), .val (.int (6 : Int32)), .val (.int u7)] [])
 refine Home.run X20 hx hby sg6_32_6 (pc' := 7) (L' := #[.val (.ref o0), .val (.int (7 : Int32)), .val (.ref o2), .val (.int (7 : Int32)), .val (.int (8 : Int32)), .val (.int (7 : Int32)), .val (.int u7)]) (S' := [(.int (8 : Int32)), (.int (7 : Int32))]) rfl ?_
 refine Home.go (fun _ => XS.icmpNo X20.here hx rfl (hb hby d6_7) rfl (tlt (by decide)).2.1) ?_
 refine Home.run X20 hx hby sg6_10_2 (pc' := 12) (L' := #[.val (.ref o0), .val (.int (7 : Int32)), .val (.ref o2), .val (.int (7 : Int32)), .val (.int (8 : Int32)), .val (.int (7 : Int32)), .val (.int u7)]) (S' := [(.int (7 : Int32)), (.ref o0)]) rfl ?_
 have q21 := (q18.other W20 ne_o0_o2)
 obtain ⟨cl22, Ar22, q22, S22, M22, H22, G22⟩ := id q21
 have ib22 : ¬ ((7 : Int32) < 0 ∨ cl22.slots.size ≤ ((7 : Int32)).toNatClampNeg) := inb_of S22 ⟨by decide, by decide⟩
 refine Home.go (X20.caload hx (j := (7 : Int32)) (v := (.int u8)) (by rw [e20]; exact Ar22.1) (State.isArrayOf_alike hZ.alike Ar22.2.1) Ar22.2.2 ib22 (Has.at H22 ib22 rfl) rfl rfl (hb hby d6_12)) ?_
 refine Home.run X20 hx hby sg6_13_3 (pc' := 20) (L' := #[.val (.ref o0), .val (.int (7 : Int32)), .val (.ref o2), .val (.int (7 : Int32)), .val (.int (8 : Int32)), .val (.int (7 : Int32)), .val (.int u8)]) (S' := [(.int (255 : Int32)), (.int u8)]) rfl ?_
 refine Home.go (fun _ => XS.icmpYes X20.here hx rfl (pc0 := 20) (pc' := 26) rfl (hb hby d6_20) rfl (flt (bnd_nlt (bnd_lit (255 : Int32)) bnd_u8 (by decide +kernel))).2.2.2 (by decide) (by decide)) ?_
 refine Home.run X20 hx hby sg6_26_4 (pc' := 31) (L' := #[.val (.ref o0), .val (.int (7 : Int32)), .val (.ref o2), .val (.int (7 : Int32)), .val (.int (8 : Int32)), .val (.int (7 : Int32)), .val (.int u8)]) (S' := [(.int (u8.toInt8.toInt32)), (.int (7 : Int32)), (.ref o2)]) rfl ?_
 rw [i2b_id bnd_u8 (by decide +kernel) (by decide +kernel)]
 obtain ⟨cl23, Ar23, q23, S23, M23, H23, G23⟩ := id V20
 refine Home.wr (stB X20 hx hZ e20 Ar23 (j := (7 : Int32)) (inb_of S23 ⟨by decide, by decide⟩) rfl rfl (hb hby d6_31)) fun T23 h23 X23 e23 W23 => ?_
 have W23' := Wr.to W23 (congrArg Value.int (nar_byte_id bnd_u8 (by decide +kernel) (by decide +kernel)))
 have V23 : Arv Z h23 o2 k_o2 .byte (8 : Int32) [(.int u1), (.int u2), (.int u3), (.int u4), (.int u5), (.int u6), (.int u7), (.int u8)] (.int (0 : Int32)) := Arv.set Ar23 q23 S23 M23 H23 G23 (fits_byte_b bnd_u8 (by decide +kernel) (by decide +kernel)) W23' 7 rfl (Nat.le_of_ble_eq_true rfl)
 have O23 := O20.wr W23 g_o2
 have K23 : Keep h0 h23 ([o2] : List Addr) := Keep.wr K20 W23 (Or.inl (List.mem_of_getElem? (i := 0) rfl))
 have N23 := Fr.snoc X23 N20 g_o2
 show Home T23 (mkF m 32 #[.val (.ref o0), .val (.int (7 : Int32)), .val (.ref o2), .val (.int (7 : Int32)), .val (.int (8 : Int32)), .val (.int (7 : Int32)), .val (.int u8)] [])
 refine Home.run X23 hx hby sg6_32_6 (pc' := 7) (L' := #[.val (.ref o0), .val (.int (8 : Int32)), .val (.ref o2), .val (.int (8 : Int32)), .val (.int (8 : Int32)), .val (.int (8 : Int32)), .val (.int u8)]) (S' := [(.int (8 : Int32)), (.int (8 : Int32))]) rfl ?_
 refine Home.go (fun _ => XS.icmpYes X23.here hx rfl (pc0 := 7) (pc' := 44) rfl (hb hby d6_7) rfl (flt (by decide)).2.1 (by decide) (by decide)) ?_
 refine Home.run X23 hx hby sg6_44_1 (pc' := 46) (L' := #[.val (.ref o0), .val (.int (8 : Int32)), .val (.ref o2), .val (.int (8 : Int32)), .val (.int (8 : Int32)), .val (.int (8 : Int32)), .val (.int u8)]) (S' := [(.int (8 : Int32))]) rfl ?_
 exact Home.retI X23 hx hlk hret (hb hby d6_46) (by rw [show T23.heap = h23 from e23]; exact ⟨rfl, N23, K23, V23⟩) (by decide) (by decide)
theorem rm5_4 (l : Launch) (Z : State) (a0 : Array Value) (hw : HW a0 Z) (ws : List Jvm.Cond) (o0 : Addr) (k_o0 : ClassId) (u1 u2 u3 u4 u5 u6 u7 u8 : Int32) (h0 : Heap) (n0 : Nat) (O0 : Old Z n0 h0) (V_o0 : Arv Z h0 o0 k_o0 .char (8 : Int32) [(.int u1), (.int u2), (.int u3), (.int u4), (.int u5), (.int u6), (.int u7), (.int u8)] (.int (0 : Int32))) (bnd_u1 : ¬ u1 < (50 : Int32) ∧ ¬ (122 : Int32) < u1) (bnd_u2 : ¬ u2 < (50 : Int32) ∧ ¬ (122 : Int32) < u2) (bnd_u3 : ¬ u3 < (50 : Int32) ∧ ¬ (122 : Int32) < u3) (bnd_u4 : ¬ u4 < (50 : Int32) ∧ ¬ (122 : Int32) < u4) (bnd_u5 : ¬ u5 < (50 : Int32) ∧ ¬ (122 : Int32) < u5) (bnd_u6 : ¬ u6 < (50 : Int32) ∧ ¬ (122 : Int32) < u6) (bnd_u7 : ¬ u7 < (50 : Int32) ∧ ¬ (122 : Int32) < u7) (bnd_u8 : ¬ u8 < (50 : Int32) ∧ ¬ (122 : Int32) < u8) :
    Con l Z (⟨"java/lang/StringUTF16", "compress", "([CII)[B"⟩ : MethodName) jdk_52_method_16_code 6 (some (.array .byte)) ws ({ frames := 1, cells := 1, slots := 8, locals := 18 } : Room) #[(.ref o0), (.int (0 : Int32)), (.int (8 : Int32))] h0 (fun v h L => ∃ (b1 : Addr), ∃ (k1 : ClassId), v = some (.ref b1) ∧ Fr n0 L ∧ h0.size ≤ b1 ∧ Keep h0 h [] ∧ Arv Z h b1 k1 .byte (8 : Int32) [(.int u1), (.int u2), (.int u3), (.int u4), (.int u5), (.int u6), (.int u7), (.int u8)] (.int (0 : Int32))) := by
 refine own_body (plainFor_of_name own_pn3) (fun m => ef_rm5_4 m o0 (0 : Int32) (8 : Int32)) ?_
 intro p e s m below meth c s₁ hx hby hlk hml hret hZ hown hnm X0 e0
 have N0 := Fr.nil n0
 refine Home.run X0 hx hby sg5_0_1 (pc' := 1) (L' := #[.val (.ref o0), .val (.int (0 : Int32)), .val (.int (8 : Int32)), .unset, .unset, .unset]) (S' := [(.int (8 : Int32))]) rfl ?_
 refine Home.na (own_newP (aty := .byte) X0 hx hZ (own_w26 hw) e0 (g := (mkF m 1 #[.val (.ref o0), .val (.int (0 : Int32)), .val (.int (8 : Int32)), .unset, .unset, .unset] [(.int (8 : Int32))])) rfl (hb hby d5_1) rfl (by decide) (cap := 8) (by decide) (by decide) (by decide) (by decide)) fun T1 h1 k1 b1 g1 X1 e1 E1 A1 => ?_
 have g_b1 : n0 ≤ b1 := Nat.le_trans (Old.le O0) (Nat.le_of_eq g1.symm)
 have V1 : Arv Z h1 b1 k1 .byte (8 : Int32) [(.int (0 : Int32)), (.int (0 : Int32)), (.int (0 : Int32)), (.int (0 : Int32)), (.int (0 : Int32)), (.int (0 : Int32)), (.int (0 : Int32)), (.int (0 : Int32))] (.int (0 : Int32)) := (Arv.new A1 (by decide)).pad (pad_rep [] (.int (0 : Int32)) 8)
 have O1 := O0.ext E1
 have K1 : Keep h0 h1 ([] : List Addr) := Keep.ext (Keep.refl h0 ([] : List Addr)) E1
 refine Home.run X1 hx hby sg5_3_6 (pc' := 9) (L' := #[.val (.ref o0), .val (.int (0 : Int32)), .val (.int (8 : Int32)), .val (.ref b1), .unset, .unset]) (S' := [(.int (8 : Int32)), (.int (0 : Int32)), (.ref b1), (.int (0 : Int32)), (.ref o0)]) rfl ?_
 have ne2 : o0 ≠ b1 := (Nat.ne_of_lt (Nat.lt_of_lt_of_le V_o0.lt (Nat.le_trans (Nat.le_refl _) (Nat.le_of_eq g1.symm))))
 refine Home.call (own_static X1 hx hZ hown (own_w27 hw) (own_w28 hw) (own_w24 hw) (own_w29 hw) (by decide) (rm6_4 l Z a0 hw [] o0 b1 k_o0 u1 u2 u3 u4 u5 u6 u7 u8 k1 h1 n0 O1 (V_o0.keep K1 nin0) bnd_u1 V1 g_b1 ne2 bnd_u2 bnd_u3 bnd_u4 bnd_u5 bnd_u6 bnd_u7 bnd_u8) e1 rfl (by rw [hml]; rfl) (argsL := [(.ref o0), (.int (0 : Int32)), (.ref b1), (.int (0 : Int32)), (.int (8 : Int32))]) (rest := []) (lenOf own_pd7 rfl) rfl rfl (W := 0) (by exact hW0) (by decide) (by decide) (hb hby d5_9) (by decide) (by decide)) ?_
 rintro _ T3 L3 X3 ⟨rfl, N3q, K3q, P3_0⟩
 have O3 := Old.keep O1 K3q (allS g_b1 all0)
 have K3 : Keep h0 T3.heap ([] : List Addr) := Keep.trans K1 K3q (allS (Or.inr (Nat.le_trans (Nat.le_refl _) (Nat.le_of_eq g1.symm))) all0)
 have N3 := Fr.app N0 N3q
 refine Home.run X3 hx hby sg5_12_3 (pc' := 17) (L' := #[.val (.ref o0), .val (.int (0 : Int32)), .val (.int (8 : Int32)), .val (.ref b1), .val (.int (8 : Int32)), .unset]) (S' := [(.int (8 : Int32)), (.int (8 : Int32))]) rfl ?_
 refine Home.go (fun _ => XS.icmpYes X3.here hx rfl (pc0 := 17) (pc' := 57) rfl (hb hby d5_17) rfl (teq (by decide)).1 (by decide) (by decide)) ?_
 refine Home.run X3 hx hby sg5_57_1 (pc' := 58) (L' := #[.val (.ref o0), .val (.int (0 : Int32)), .val (.int (8 : Int32)), .val (.ref b1), .val (.int (8 : Int32)), .unset]) (S' := [(.ref b1)]) rfl ?_
 exact Home.retR X3 hx hlk hret rfl rfl (hb hby d5_58) ⟨b1, k1, rfl, N3, (Nat.le_trans (Nat.le_refl _) (Nat.le_of_eq g1.symm)), K3, P3_0⟩ (by decide) (by decide)
theorem rm7_4 (l : Launch) (Z : State) (a0 : Array Value) (hw : HW a0 Z) (ws : List Jvm.Cond) (o0 : Addr) (k_o0 : ClassId) (u1 u2 u3 u4 u5 u6 u7 u8 : Int32) (h0 : Heap) (n0 : Nat) (O0 : Old Z n0 h0) (V_o0 : Arv Z h0 o0 k_o0 .byte (8 : Int32) [(.int u1), (.int u2), (.int u3), (.int u4), (.int u5), (.int u6), (.int u7), (.int u8)] (.int (0 : Int32))) :
    Con l Z (⟨"java/lang/StringUTF16", "coderFromArrayLen", "([BI)B"⟩ : MethodName) jdk_52_method_15_code 2 (some .byte) ws ({ frames := 0, cells := 0, slots := 0, locals := 0 } : Room) #[(.ref o0), (.int (8 : Int32))] h0 (Pur (some (.int (0 : Int32))) h0) := by
 refine own_body (plainFor_of_name own_pn3) (fun m => ef_rm7_4 m o0 (8 : Int32)) ?_
 intro p e s m below meth c s₁ hx hby hlk hml hret hZ hown hnm X0 e0
 have N0 := Fr.nil n0
 refine Home.run X0 hx hby sg7_0_2 (pc' := 2) (L' := #[.val (.ref o0), .val (.int (8 : Int32))]) (S' := [(.ref o0), (.int (8 : Int32))]) rfl ?_
 obtain ⟨cl1, Ar1, q1, S1, M1, H1, G1⟩ := id V_o0
 refine Home.go (own_alen X0 hx hZ e0 Ar1 S1 M1 rfl rfl (hb hby d7_2)) ?_
 refine Home.run X0 hx hby sg7_3_4 (pc' := 8) (L' := #[.val (.ref o0), .val (.int (8 : Int32))]) (S' := [(.int (0 : Int32))]) rfl ?_
 exact Home.retN X0 hx hlk (t := .byte) hret (by simp) (hb hby d7_8) ⟨congrArg some (congrArg Value.int (by first | rfl | exact nar_i2c _ | exact nar_i2b _)), rfl, e0⟩ (by decide) (by decide)
theorem rm3_5 (l : Launch) (Z : State) (a0 : Array Value) (hw : HW a0 Z) (ws : List Jvm.Cond) (o0 o1 : Addr) (sv_COMPACT_STRINGS : Int32) (k_o1 : ClassId) (u1 u2 u3 u4 u5 u6 u7 u8 : Int32) (h0 : Heap) (n0 : Nat) (O0 : Old Z n0 h0) (S_COMPACT_STRINGS : Sta Z Z.heap "java/lang/String" "COMPACT_STRINGS" "Z" (.int sv_COMPACT_STRINGS)) (hCS : ¬ (sv_COMPACT_STRINGS = (0 : Int32))) (V_o1 : Arv Z h0 o1 k_o1 .char (8 : Int32) [(.int u1), (.int u2), (.int u3), (.int u4), (.int u5), (.int u6), (.int u7), (.int u8)] (.int (0 : Int32))) (bnd_u1 : ¬ u1 < (50 : Int32) ∧ ¬ (122 : Int32) < u1) (bnd_u2 : ¬ u2 < (50 : Int32) ∧ ¬ (122 : Int32) < u2) (bnd_u3 : ¬ u3 < (50 : Int32) ∧ ¬ (122 : Int32) < u3) (bnd_u4 : ¬ u4 < (50 : Int32) ∧ ¬ (122 : Int32) < u4) (bnd_u5 : ¬ u5 < (50 : Int32) ∧ ¬ (122 : Int32) < u5) (bnd_u6 : ¬ u6 < (50 : Int32) ∧ ¬ (122 : Int32) < u6) (bnd_u7 : ¬ u7 < (50 : Int32) ∧ ¬ (122 : Int32) < u7) (bnd_u8 : ¬ u8 < (50 : Int32) ∧ ¬ (122 : Int32) < u8) (E_o0 : Exa Z h0 o0 "java/lang/String") (F_coder_o0 : Fld Z h0 o0 "java/lang/String" "coder" "B" (.int (0 : Int32))) (g_o0 : n0 ≤ o0) (F_value_o0 : Fld Z h0 o0 "java/lang/String" "value" "[B" .null) :
    Con l Z (⟨"java/lang/String", "<init>", "([CIILjava/lang/Void;)V"⟩ : MethodName) jdk_42_method_149_code 6 none ws ({ frames := 2, cells := 1, slots := 8, locals := 35 } : Room) #[(.ref o0), (.ref o1), (.int (0 : Int32)), (.int (8 : Int32)), .null] h0 (fun v h L => ∃ (b1_3 : Addr), ∃ (k1_3 : ClassId), v = none ∧ Fr n0 L ∧ h0.size ≤ b1_3 ∧ Keep h0 h [o0] ∧ Exa Z h o0 "java/lang/String" ∧ Fld Z h o0 "java/lang/String" "coder" "B" (.int (0 : Int32)) ∧ Fld Z h o0 "java/lang/String" "value" "[B" (.ref b1_3) ∧ Arv Z h b1_3 k1_3 .byte (8 : Int32) [(.int u1), (.int u2), (.int u3), (.int u4), (.int u5), (.int u6), (.int u7), (.int u8)] (.int (0 : Int32))) := by
 refine own_body (plainFor_of_name own_pn1) (fun m => ef_rm3_5 m o0 o1 (0 : Int32) (8 : Int32)) ?_
 intro p e s m below meth c s₁ hx hby hlk hml hret hZ hown hnm X0 e0
 have N0 := Fr.nil n0
 refine Home.run X0 hx hby sg3_0_1 (pc' := 1) (L' := #[.val (.ref o0), .val (.ref o1), .val (.int (0 : Int32)), .val (.int (8 : Int32)), .val .null, .unset]) (S' := [(.ref o0)]) rfl ?_
 refine Home.st (initO X0 hx hZ hown (own_w18 hw) (own_w19 hw) (own_w20 hw) e0 rfl (by rw [hml]; rfl) rfl (hb hby d3_1) (by decide) (W := 0) (by exact hW0) (by decide)) fun T1 X1 e1 => ?_
 refine Home.run X1 hx hby sg3_4_1 (pc' := 5) (L' := #[.val (.ref o0), .val (.ref o1), .val (.int (0 : Int32)), .val (.int (8 : Int32)), .val .null, .unset]) (S' := [(.int (8 : Int32))]) rfl ?_
 refine Home.go (fun _ => XS.ifYes X1.here hx rfl (pc0 := 5) (pc' := 27) rfl (hb hby d3_5) rfl ((if0 _ _).trans (feq (by decide)).2) (by decide) (by decide)) ?_
 refine Home.st (getS2 X1 hx hZ hown (host := "") (Or.inl (own_w21 hw)) Via.refl e1 (S_COMPACT_STRINGS.ext O0.2) rfl (hb hby d3_27)) fun T2 X2 e2 => ?_
 refine Home.go (fun _ => XS.ifNo X2.here hx rfl (hb hby d3_30) rfl ((if0 _ _).trans (feq hCS).1)) ?_
 refine Home.run X2 hx hby sg3_33_3 (pc' := 36) (L' := #[.val (.ref o0), .val (.ref o1), .val (.int (0 : Int32)), .val (.int (8 : Int32)), .val .null, .unset]) (S' := [(.int (8 : Int32)), (.int (0 : Int32)), (.ref o1)]) rfl ?_
 refine Home.call (own_static X2 hx hZ hown (own_w22 hw) (own_w23 hw) (own_w24 hw) (own_w25 hw) (by decide) (rm5_4 l Z a0 hw [] o1 k_o1 u1 u2 u3 u4 u5 u6 u7 u8 h0 n0 O0 V_o1 bnd_u1 bnd_u2 bnd_u3 bnd_u4 bnd_u5 bnd_u6 bnd_u7 bnd_u8) e2 rfl (by rw [hml]; rfl) (argsL := [(.ref o1), (.int (0 : Int32)), (.int (8 : Int32))]) (rest := []) (lenOf own_pd8 rfl) rfl rfl (W := 0) (by exact hW0) (by decide) (by decide) (hb hby d3_36) (by decide) (by decide)) ?_
 rintro _ T3 L3 X3 ⟨b1_3, k1_3, rfl, N3q, sz_b1_3, K3q, P3_0⟩
 have g_b1_3 : n0 ≤ b1_3 := Nat.le_trans (Old.le O0) sz_b1_3
 have O3 := Old.keep O0 K3q all0
 have K3 : Keep h0 T3.heap ([o0] : List Addr) := Keep.trans (Keep.refl h0 ([o0] : List Addr)) K3q all0
 have N3 := Fr.app N0 N3q
 refine Home.run X3 hx hby sg3_39_4 (pc' := 45) (L' := #[.val (.ref o0), .val (.ref o1), .val (.int (0 : Int32)), .val (.int (8 : Int32)), .val .null, .val (.ref b1_3)]) (S' := [(.int (8 : Int32)), (.ref b1_3), (.ref o0)]) rfl ?_
 refine Home.st (own_pure (own_static X3 hx hZ hown (own_w30 hw) (own_w31 hw) (own_w24 hw) (own_w32 hw) (by decide) (rm7_4 l Z a0 hw [] b1_3 k1_3 u1 u2 u3 u4 u5 u6 u7 u8 T3.heap n0 O3 P3_0) rfl rfl (by rw [hml]; rfl) (argsL := [(.ref b1_3), (.int (8 : Int32))]) (rest := [(.ref o0)]) (lenOf own_pd9 rfl) rfl rfl (W := 1) (by exact hW0) (by decide) (by decide) (hb hby d3_45) (by decide) (by decide))) fun T4 X4 e4 => ?_
 show Home T4 (mkF m 48 #[.val (.ref o0), .val (.ref o1), .val (.int (0 : Int32)), .val (.int (8 : Int32)), .val .null, .val (.ref b1_3)] [(.int (0 : Int32)), (.ref o0)])
 have q5 := (F_coder_o0.keep K3q nin0)
 refine Home.wr (putFN X4 hx hZ hown (own_w33 hw) Via.refl e4 q5 (E_o0.keep K3) (Or.inr ⟨(own_w34 hw), rfl, hnm⟩) (own_w9 hw) (ty := .byte) (v := (.int (0 : Int32))) (v' := (.int (0 : Int32))) (by decide) rfl rfl rfl rfl (hb hby d3_48)) fun T6 h6 X6 e6 W6 => ?_
 have Fw6 := q5.same W6
 have O6 := O3.wr W6 g_o0
 have K6 : Keep h0 h6 ([o0] : List Addr) := Keep.wr K3 W6 (Or.inl (List.mem_of_getElem? (i := 0) rfl))
 have N6 := Fr.snoc X6 N3 g_o0
 refine Home.run X6 hx hby sg3_51_2 (pc' := 54) (L' := #[.val (.ref o0), .val (.ref o1), .val (.int (0 : Int32)), .val (.int (8 : Int32)), .val .null, .val (.ref b1_3)]) (S' := [(.ref b1_3), (.ref o0)]) rfl ?_
 have q7 := ((F_value_o0.keep K3q nin0).other W6 (Or.inr (slot_ne (Or.inr (own_w36 hw)) (Or.inr (own_w34 hw)) (by decide) (t := (.array .byte)) (t' := .byte) (by decide) (by decide))))
 refine Home.wr (putF X6 hx hZ hown (host := "") (Or.inl (own_w35 hw)) Via.refl e6 q7 (E_o0.keep K6) (Or.inr ⟨(own_w36 hw), rfl, hnm⟩) (own_w9 hw) (ty := (.array .byte)) (by decide) rfl rfl rfl rfl (hb hby d3_54)) fun T8 h8 X8 e8 W8 => ?_
 have Fw8 := q7.same W8
 have O8 := O6.wr W8 g_o0
 have K8 : Keep h0 h8 ([o0] : List Addr) := Keep.wr K6 W8 (Or.inl (List.mem_of_getElem? (i := 0) rfl))
 have N8 := Fr.snoc X8 N6 g_o0
 have q9 := (Fw6.other W8 (Or.inr (slot_ne (Or.inr (own_w34 hw)) (Or.inr (own_w36 hw)) (by decide) (t := .byte) (t' := (.array .byte)) (by decide) (by decide))))
 have ne10 : b1_3 ≠ o0 := (Ne.symm (Nat.ne_of_lt (Nat.lt_of_lt_of_le E_o0.lt (Nat.le_trans (Nat.le_refl _) sz_b1_3))))
 have q11 := ((P3_0.other W6 ne10).other W8 ne10)
 exact Home.ret0 X8 hx hlk hret (hb hby d3_57) (by rw [show T8.heap = h8 from e8]; exact ⟨b1_3, k1_3, rfl, N8, (Nat.le_trans (Nat.le_refl _) sz_b1_3), K8, (E_o0.keep K8), q9, Fw8, q11⟩) (by decide) (by decide)
theorem rm2_5 (l : Launch) (Z : State) (a0 : Array Value) (hw : HW a0 Z) (ws : List Jvm.Cond) (o0 o1 : Addr) (k_o1 : ClassId) (u1 u2 u3 u4 u5 u6 u7 u8 sv_COMPACT_STRINGS : Int32) (h0 : Heap) (n0 : Nat) (O0 : Old Z n0 h0) (V_o1 : Arv Z h0 o1 k_o1 .char (8 : Int32) [(.int u1), (.int u2), (.int u3), (.int u4), (.int u5), (.int u6), (.int u7), (.int u8)] (.int (0 : Int32))) (S_COMPACT_STRINGS : Sta Z Z.heap "java/lang/String" "COMPACT_STRINGS" "Z" (.int sv_COMPACT_STRINGS)) (E_o0 : Exa Z h0 o0 "java/lang/String") (F_coder_o0 : Fld Z h0 o0 "java/lang/String" "coder" "B" (.int (0 : Int32))) (F_value_o0 : Fld Z h0 o0 "java/lang/String" "value" "[B" .null) (bnd_u1 : ¬ u1 < (50 : Int32) ∧ ¬ (122 : Int32) < u1) (bnd_u2 : ¬ u2 < (50 : Int32) ∧ ¬ (122 : Int32) < u2) (bnd_u3 : ¬ u3 < (50 : Int32) ∧ ¬ (122 : Int32) < u3) (bnd_u4 : ¬ u4 < (50 : Int32) ∧ ¬ (122 : Int32) < u4) (bnd_u5 : ¬ u5 < (50 : Int32) ∧ ¬ (122 : Int32) < u5) (bnd_u6 : ¬ u6 < (50 : Int32) ∧ ¬ (122 : Int32) < u6) (bnd_u7 : ¬ u7 < (50 : Int32) ∧ ¬ (122 : Int32) < u7) (bnd_u8 : ¬ u8 < (50 : Int32) ∧ ¬ (122 : Int32) < u8) (g_o0 : n0 ≤ o0) (hCS : ¬ (sv_COMPACT_STRINGS = (0 : Int32))) :
    Con l Z (⟨"java/lang/String", "<init>", "([C)V"⟩ : MethodName) jdk_42_method_3_code 2 none ws ({ frames := 3, cells := 1, slots := 8, locals := 52 } : Room) #[(.ref o0), (.ref o1)] h0 (fun v h L => ∃ (b1_3_2 : Addr), ∃ (k1_3_2 : ClassId), v = none ∧ Fr n0 L ∧ h0.size ≤ b1_3_2 ∧ Keep h0 h [o0] ∧ Exa Z h o0 "java/lang/String" ∧ Fld Z h o0 "java/lang/String" "coder" "B" (.int (0 : Int32)) ∧ Fld Z h o0 "java/lang/String" "value" "[B" (.ref b1_3_2) ∧ Arv Z h b1_3_2 k1_3_2 .byte (8 : Int32) [(.int u1), (.int u2), (.int u3), (.int u4), (.int u5), (.int u6), (.int u7), (.int u8)] (.int (0 : Int32))) := by
 refine own_body (plainFor_of_name own_pn1) (fun m => ef_rm2_5 m o0 o1) ?_
 intro p e s m below meth c s₁ hx hby hlk hml hret hZ hown hnm X0 e0
 have N0 := Fr.nil n0
 refine Home.run X0 hx hby sg2_0_4 (pc' := 4) (L' := #[.val (.ref o0), .val (.ref o1)]) (S' := [(.ref o1), (.int (0 : Int32)), (.ref o1), (.ref o0)]) rfl ?_
 obtain ⟨cl1, Ar1, q1, S1, M1, H1, G1⟩ := id V_o1
 refine Home.go (own_alen X0 hx hZ e0 Ar1 S1 M1 rfl rfl (hb hby d2_4)) ?_
 refine Home.run X0 hx hby sg2_5_1 (pc' := 6) (L' := #[.val (.ref o0), .val (.ref o1)]) (S' := [.null, (.int (8 : Int32)), (.int (0 : Int32)), (.ref o1), (.ref o0)]) rfl ?_
 refine Home.call (own_special X0 hx hZ hown rfl (own_w14 hw) (own_w15 hw) (own_w10 hw) (own_w17 hw) (by decide) (rm3_5 l Z a0 hw [] o0 o1 sv_COMPACT_STRINGS k_o1 u1 u2 u3 u4 u5 u6 u7 u8 h0 n0 O0 S_COMPACT_STRINGS hCS V_o1 bnd_u1 bnd_u2 bnd_u3 bnd_u4 bnd_u5 bnd_u6 bnd_u7 bnd_u8 E_o0 F_coder_o0 g_o0 F_value_o0) e0 rfl (by rw [hml]; rfl) (a := o0) (argsL := [(.ref o1), (.int (0 : Int32)), (.int (8 : Int32)), .null]) (rest := []) (lenOf own_pd1 rfl) rfl rfl (W := 0) (by exact hW0) (by decide) (by decide) (hb hby d2_6) (by decide) (by decide)) ?_
 rintro _ T2 L2 X2 ⟨b1_3_2, k1_3_2, rfl, N2q, sz_b1_3_2, K2q, P2_0, P2_1, P2_2, P2_3⟩
 have g_b1_3_2 : n0 ≤ b1_3_2 := Nat.le_trans (Old.le O0) sz_b1_3_2
 have O2 := Old.keep O0 K2q (allS g_o0 all0)
 have K2 : Keep h0 T2.heap ([o0] : List Addr) := Keep.trans (Keep.refl h0 ([o0] : List Addr)) K2q (allS (Or.inl (List.mem_of_getElem? (i := 0) rfl)) all0)
 have N2 := Fr.app N0 N2q
 exact Home.ret0 X2 hx hlk hret (hb hby d2_9) ⟨b1_3_2, k1_3_2, rfl, N2, (Nat.le_trans (Nat.le_refl _) sz_b1_3_2), K2, P2_0, P2_1, P2_2, P2_3⟩ (by decide) (by decide)
theorem rm9_6 (l : Launch) (Z : State) (a0 : Array Value) (hw : HW a0 Z) (ws : List Jvm.Cond) (o0 p2 : Addr) (k_p2 : ClassId) (u1 u2 u3 u4 u5 u6 u7 u8 sv_COMPACT_STRINGS : Int32) (h0 : Heap) (n0 : Nat) (O0 : Old Z n0 h0) (F_value_o0 : Fld Z h0 o0 "java/lang/String" "value" "[B" (.ref p2)) (V_p2 : Arv Z h0 p2 k_p2 .byte (8 : Int32) [(.int u1), (.int u2), (.int u3), (.int u4), (.int u5), (.int u6), (.int u7), (.int u8)] (.int (0 : Int32))) (E_o0 : Exa Z h0 o0 "java/lang/String") (S_COMPACT_STRINGS : Sta Z Z.heap "java/lang/String" "COMPACT_STRINGS" "Z" (.int sv_COMPACT_STRINGS)) (F_coder_o0 : Fld Z h0 o0 "java/lang/String" "coder" "B" (.int (0 : Int32))) (hCS : ¬ (sv_COMPACT_STRINGS = (0 : Int32))) :
    Con l Z (⟨"java/lang/String", "length", "()I"⟩ : MethodName) jdk_42_method_54_code 1 (some .int) ws ({ frames := 1, cells := 0, slots := 0, locals := 13 } : Room) #[(.ref o0)] h0 (Pur (some (.int (8 : Int32))) h0) := by
 refine own_body (plainFor_of_name own_pn1) (fun m => ef_rm9_6 m o0) ?_
 intro p e s m below meth c s₁ hx hby hlk hml hret hZ hown hnm X0 e0
 have N0 := Fr.nil n0
 refine Home.run X0 hx hby sg9_0_1 (pc' := 1) (L' := #[.val (.ref o0)]) (S' := [(.ref o0)]) rfl ?_
 refine Home.st (getF X0 hx hZ hown (host := "") (Or.inl (own_w35 hw)) Via.refl e0 F_value_o0 rfl rfl (hb hby d9_1)) fun T1 X1 e1 => ?_
 obtain ⟨cl2, Ar2, q2, S2, M2, H2, G2⟩ := id V_p2
 refine Home.go (own_alen X1 hx hZ e1 Ar2 S2 M2 rfl rfl (hb hby d9_4)) ?_
 refine Home.run X1 hx hby sg9_5_1 (pc' := 6) (L' := #[.val (.ref o0)]) (S' := [(.ref o0), (.int (8 : Int32))]) rfl ?_
 refine Home.st (own_pure (own_virtual X1 hx hZ hown (own_w46 hw) (own_w47 hw) (notFace_of_selects (args := #[]) (mvT hZ (own_w49 hw))) (own_w49 hw) (own_w48 hw) (own_w10 hw) (own_w50 hw) (by decide) (rm10_0 l Z a0 hw [] o0 sv_COMPACT_STRINGS h0 n0 O0 S_COMPACT_STRINGS hCS F_coder_o0) e1 E_o0 rfl (by rw [hml]; rfl) (argsL := []) (rest := [(.int (8 : Int32))]) (lenOf own_pd3 rfl) rfl rfl (W := 1) (by exact hW0) (by decide) (by decide) (hb hby d9_6) (by decide) (by decide))) fun T3 X3 e3 => ?_
 refine Home.run X3 hx hby sg9_9_1 (pc' := 10) (L' := #[.val (.ref o0)]) (S' := [(.int (8 : Int32))]) rfl ?_
 exact Home.retI X3 hx hlk hret (hb hby d9_10) ⟨rfl, rfl, e3⟩ (by decide) (by decide)
theorem rm15_4 (l : Launch) (Z : State) (a0 : Array Value) (hw : HW a0 Z) (ws : List Jvm.Cond) (i0 : Int32) (o2 : Value) (h0 : Heap) (n0 : Nat) (O0 : Old Z n0 h0) (bnd_i0 : ¬ i0 < (0 : Int32) ∧ ¬ (7 : Int32) < i0) (isr_o2 : o2.isRef = true) :
    Con l Z (⟨"jdk/internal/util/Preconditions", "checkIndex", "(IILjava/util/function/BiFunction;)I"⟩ : MethodName) jdk_41_method_11_code 3 (some .int) ws ({ frames := 0, cells := 0, slots := 0, locals := 0 } : Room) #[(.int i0), (.int (8 : Int32)), o2] h0 (Pur (some (.int i0)) h0) := by
 refine own_body (plainFor_of_name own_pn4) (fun m => ef_rm15_4 m i0 (8 : Int32) o2 (isr_o2)) ?_
 intro p e s m below meth c s₁ hx hby hlk hml hret hZ hown hnm X0 e0
 have N0 := Fr.nil n0
 refine Home.run X0 hx hby sg15_0_1 (pc' := 1) (L' := #[.val (.int i0), .val (.int (8 : Int32)), .val o2]) (S' := [(.int i0)]) rfl ?_
 refine Home.go (fun _ => XS.ifNo X0.here hx rfl (hb hby d15_1) rfl ((if0 _ _).trans (flt (bnd_nlt bnd_i0 (bnd_lit (0 : Int32)) (by decide +kernel))).1)) ?_
 refine Home.run X0 hx hby sg15_4_2 (pc' := 6) (L' := #[.val (.int i0), .val (.int (8 : Int32)), .val o2]) (S' := [(.int (8 : Int32)), (.int i0)]) rfl ?_
 refine Home.go (fun _ => XS.icmpYes X0.here hx rfl (pc0 := 6) (pc' := 16) rfl (hb hby d15_6) rfl (tlt (bnd_lt bnd_i0 (bnd_lit (8 : Int32)) (by decide +kernel))).1 (by decide) (by decide)) ?_
 refine Home.run X0 hx hby sg15_16_1 (pc' := 17) (L' := #[.val (.int i0), .val (.int (8 : Int32)), .val o2]) (S' := [(.int i0)]) rfl ?_
 exact Home.retI X0 hx hlk hret (hb hby d15_17) ⟨rfl, rfl, e0⟩ (by decide) (by decide)
theorem rm14_4 (l : Launch) (Z : State) (a0 : Array Value) (hw : HW a0 Z) (ws : List Jvm.Cond) (i0 : Int32) (sv_SIOOBE_FORMATTER : Value) (h0 : Heap) (n0 : Nat) (O0 : Old Z n0 h0) (bnd_i0 : ¬ i0 < (0 : Int32) ∧ ¬ (7 : Int32) < i0) (S_SIOOBE_FORMATTER : Sta Z Z.heap "jdk/internal/util/Preconditions" "SIOOBE_FORMATTER" "Ljava/util/function/BiFunction;" sv_SIOOBE_FORMATTER) (isr_sv_SIOOBE_FORMATTER : sv_SIOOBE_FORMATTER.isRef = true) :
    Con l Z (⟨"java/lang/String", "checkIndex", "(II)V"⟩ : MethodName) jdk_42_method_155_code 2 none ws ({ frames := 1, cells := 0, slots := 0, locals := 14 } : Room) #[(.int i0), (.int (8 : Int32))] h0 (Pur none h0) := by
 refine own_body (plainFor_of_name own_pn1) (fun m => ef_rm14_4 m i0 (8 : Int32)) ?_
 intro p e s m below meth c s₁ hx hby hlk hml hret hZ hown hnm X0 e0
 have N0 := Fr.nil n0
 refine Home.run X0 hx hby sg14_0_2 (pc' := 2) (L' := #[.val (.int i0), .val (.int (8 : Int32))]) (S' := [(.int (8 : Int32)), (.int i0)]) rfl ?_
 refine Home.st (getS2 X0 hx hZ hown (host := "") (Or.inl (own_w71 hw)) Via.refl e0 (S_SIOOBE_FORMATTER.ext O0.2) rfl (hb hby d14_2)) fun T1 X1 e1 => ?_
 refine Home.st (own_pure (own_static X1 hx hZ hown (own_w73 hw) (own_w74 hw) (own_w72 hw) (own_w75 hw) (by decide) (rm15_4 l Z a0 hw [] i0 sv_SIOOBE_FORMATTER h0 n0 O0 bnd_i0 isr_sv_SIOOBE_FORMATTER) e1 rfl (by rw [hml]; rfl) (argsL := [(.int i0), (.int (8 : Int32)), sv_SIOOBE_FORMATTER]) (rest := []) (lenOf own_pd11 rfl) rfl rfl (W := 0) (by exact hW0) (by decide) (by decide) (hb hby d14_5) (by decide) (by decide))) fun T2 X2 e2 => ?_
 refine Home.run X2 hx hby sg14_8_1 (pc' := 9) (L' := #[.val (.int i0), .val (.int (8 : Int32))]) (S' := []) rfl ?_
 exact Home.ret0 X2 hx hlk hret (hb hby d14_9) ⟨rfl, rfl, e2⟩ (by decide) (by decide)
theorem rm13_4 (l : Launch) (Z : State) (a0 : Array Value) (hw : HW a0 Z) (ws : List Jvm.Cond) (o0 : Addr) (i1 : Int32) (k_o0 : ClassId) (u1 u2 u3 u4 u5 u6 u7 u8 : Int32) (sv_SIOOBE_FORMATTER : Value) (h0 : Heap) (n0 : Nat) (O0 : Old Z n0 h0) (bnd_i1 : ¬ i1 < (0 : Int32) ∧ ¬ (7 : Int32) < i1) (V_o0 : Arv Z h0 o0 k_o0 .byte (8 : Int32) [(.int u1), (.int u2), (.int u3), (.int u4), (.int u5), (.int u6), (.int u7), (.int u8)] (.int (0 : Int32))) (S_SIOOBE_FORMATTER : Sta Z Z.heap "jdk/internal/util/Preconditions" "SIOOBE_FORMATTER" "Ljava/util/function/BiFunction;" sv_SIOOBE_FORMATTER) (isr_sv_SIOOBE_FORMATTER : sv_SIOOBE_FORMATTER.isRef = true) (bnd_u1 : ¬ u1 < (50 : Int32) ∧ ¬ (122 : Int32) < u1) (bnd_u2 : ¬ u2 < (50 : Int32) ∧ ¬ (122 : Int32) < u2) (bnd_u3 : ¬ u3 < (50 : Int32) ∧ ¬ (122 : Int32) < u3) (bnd_u4 : ¬ u4 < (50 : Int32) ∧ ¬ (122 : Int32) < u4) (bnd_u5 : ¬ u5 < (50 : Int32) ∧ ¬ (122 : Int32) < u5) (bnd_u6 : ¬ u6 < (50 : Int32) ∧ ¬ (122 : Int32) < u6) (bnd_u7 : ¬ u7 < (50 : Int32) ∧ ¬ (122 : Int32) < u7) (bnd_u8 : ¬ u8 < (50 : Int32) ∧ ¬ (122 : Int32) < u8) :
    Con l Z (⟨"java/lang/StringLatin1", "charAt", "([BI)C"⟩ : MethodName) jdk_43_method_2_code 2 (some .char) ws ({ frames := 2, cells := 0, slots := 0, locals := 27 } : Room) #[(.ref o0), (.int i1)] h0 (Pur (some (.int ((own_at [u1, u2, u3, u4, u5, u6, u7, u8] i1) &&& (255 : Int32)))) h0) := by
 refine own_body (plainFor_of_name own_pn5) (fun m => ef_rm13_4 m o0 i1) ?_
 intro p e s m below meth c s₁ hx hby hlk hml hret hZ hown hnm X0 e0
 have N0 := Fr.nil n0
 refine Home.run X0 hx hby sg13_0_2 (pc' := 2) (L' := #[.val (.ref o0), .val (.int i1)]) (S' := [(.ref o0), (.int i1)]) rfl ?_
 obtain ⟨cl1, Ar1, q1, S1, M1, H1, G1⟩ := id V_o0
 refine Home.go (own_alen X0 hx hZ e0 Ar1 S1 M1 rfl rfl (hb hby d13_2)) ?_
 refine Home.st (own_pure (own_static X0 hx hZ hown (own_w68 hw) (own_w69 hw) (own_w10 hw) (own_w70 hw) (by decide) (rm14_4 l Z a0 hw [] i1 sv_SIOOBE_FORMATTER h0 n0 O0 bnd_i1 S_SIOOBE_FORMATTER isr_sv_SIOOBE_FORMATTER) e0 rfl (by rw [hml]; rfl) (argsL := [(.int i1), (.int (8 : Int32))]) (rest := []) (lenOf own_pd12 rfl) rfl rfl (W := 0) (by exact hW0) (by decide) (by decide) (hb hby d13_3) (by decide) (by decide))) fun T2 X2 e2 => ?_
 refine Home.run X2 hx hby sg13_6_2 (pc' := 8) (L' := #[.val (.ref o0), .val (.int i1)]) (S' := [(.int i1), (.ref o0)]) rfl ?_
 obtain ⟨cl3, Ar3, q3, S3, M3, H3, G3⟩ := id V_o0
 have ib3 : ¬ (i1 < 0 ∨ cl3.slots.size ≤ (i1).toNatClampNeg) := inb_of S3 ⟨(bnd_nlt bnd_i1 (bnd_lit (0 : Int32)) (by decide +kernel)), (bnd_lt bnd_i1 (bnd_lit (8 : Int32)) (by decide +kernel))⟩
 refine Home.go (X2.baloadBytes hx (j := i1) (v := .int (own_at [u1, u2, u3, u4, u5, u6, u7, u8] i1)) (by rw [e2]; exact Ar3.1) (State.isArrayOf_alike hZ.alike Ar3.2.1) Ar3.2.2 ib3 (Has.at H3 ib3 (own_getD [u1, u2, u3, u4, u5, u6, u7, u8] _)) rfl rfl (hb hby d13_8)) ?_
 refine Home.run X2 hx hby sg13_9_3 (pc' := 14) (L' := #[.val (.ref o0), .val (.int i1)]) (S' := [(.int (((own_at [u1, u2, u3, u4, u5, u6, u7, u8] i1) &&& (255 : Int32)).toUInt32.toUInt16.toUInt32.toInt32))]) rfl ?_
 rw [i2c_id (bnd_and (own_at [u1, u2, u3, u4, u5, u6, u7, u8] i1) (255 : Int32) (by decide)) (by decide +kernel) (by decide +kernel)]
 exact Home.retN X2 hx hlk (t := .char) hret (by simp) (hb hby d13_14) ⟨congrArg some (congrArg Value.int (by first | rfl | exact nar_i2c _ | exact nar_i2b _ | exact nar_char_id (bnd_and (own_at [u1, u2, u3, u4, u5, u6, u7, u8] i1) (255 : Int32) (by decide)) (by decide +kernel) (by decide +kernel))), rfl, e2⟩ (by decide) (by decide)
theorem rm11_4 (l : Launch) (Z : State) (a0 : Array Value) (hw : HW a0 Z) (ws : List Jvm.Cond) (o0 : Addr) (i1 sv_COMPACT_STRINGS : Int32) (p2 : Addr) (k_p2 : ClassId) (u1 u2 u3 u4 u5 u6 u7 u8 : Int32) (sv_SIOOBE_FORMATTER : Value) (h0 : Heap) (n0 : Nat) (O0 : Old Z n0 h0) (bnd_i1 : ¬ i1 < (0 : Int32) ∧ ¬ (7 : Int32) < i1) (E_o0 : Exa Z h0 o0 "java/lang/String") (S_COMPACT_STRINGS : Sta Z Z.heap "java/lang/String" "COMPACT_STRINGS" "Z" (.int sv_COMPACT_STRINGS)) (F_coder_o0 : Fld Z h0 o0 "java/lang/String" "coder" "B" (.int (0 : Int32))) (hCS : ¬ (sv_COMPACT_STRINGS = (0 : Int32))) (F_value_o0 : Fld Z h0 o0 "java/lang/String" "value" "[B" (.ref p2)) (V_p2 : Arv Z h0 p2 k_p2 .byte (8 : Int32) [(.int u1), (.int u2), (.int u3), (.int u4), (.int u5), (.int u6), (.int u7), (.int u8)] (.int (0 : Int32))) (S_SIOOBE_FORMATTER : Sta Z Z.heap "jdk/internal/util/Preconditions" "SIOOBE_FORMATTER" "Ljava/util/function/BiFunction;" sv_SIOOBE_FORMATTER) (bnd_u1 : ¬ u1 < (50 : Int32) ∧ ¬ (122 : Int32) < u1) (bnd_u2 : ¬ u2 < (50 : Int32) ∧ ¬ (122 : Int32) < u2) (bnd_u3 : ¬ u3 < (50 : Int32) ∧ ¬ (122 : Int32) < u3) (bnd_u4 : ¬ u4 < (50 : Int32) ∧ ¬ (122 : Int32) < u4) (bnd_u5 : ¬ u5 < (50 : Int32) ∧ ¬ (122 : Int32) < u5) (bnd_u6 : ¬ u6 < (50 : Int32) ∧ ¬ (122 : Int32) < u6) (bnd_u7 : ¬ u7 < (50 : Int32) ∧ ¬ (122 : Int32) < u7) (bnd_u8 : ¬ u8 < (50 : Int32) ∧ ¬ (122 : Int32) < u8) (isr_sv_SIOOBE_FORMATTER : sv_SIOOBE_FORMATTER.isRef = true) :
    Con l Z (⟨"java/lang/String", "charAt", "(I)C"⟩ : MethodName) jdk_42_method_56_code 2 (some .char) ws ({ frames := 3, cells := 0, slots := 0, locals := 40 } : Room) #[(.ref o0), (.int i1)] h0 (Pur (some (.int ((own_at [u1, u2, u3, u4, u5, u6, u7, u8] i1) &&& (255 : Int32)))) h0) := by
 refine own_body (plainFor_of_name own_pn1) (fun m => ef_rm11_4 m o0 i1) ?_
 intro p e s m below meth c s₁ hx hby hlk hml hret hZ hown hnm X0 e0
 have N0 := Fr.nil n0
 refine Home.run X0 hx hby sg11_0_1 (pc' := 1) (L' := #[.val (.ref o0), .val (.int i1)]) (S' := [(.ref o0)]) rfl ?_
 refine Home.st (own_pure (own_virtual X0 hx hZ hown (own_w59 hw) (own_w60 hw) (notFace_of_selects (args := #[]) (mvT hZ (own_w62 hw))) (own_w62 hw) (own_w61 hw) (own_w10 hw) (own_w63 hw) (by decide) (rm12_0 l Z a0 hw [] o0 sv_COMPACT_STRINGS h0 n0 O0 S_COMPACT_STRINGS hCS F_coder_o0) e0 E_o0 rfl (by rw [hml]; rfl) (argsL := []) (rest := []) (lenOf own_pd10 rfl) rfl rfl (W := 0) (by exact hW0) (by decide) (by decide) (hb hby d11_1) (by decide) (by decide))) fun T1 X1 e1 => ?_
 refine Home.go (fun _ => XS.ifNo X1.here hx rfl (hb hby d11_4) rfl ((if0 _ _).trans (feq (by decide)).1)) ?_
 refine Home.run X1 hx hby sg11_7_1 (pc' := 8) (L' := #[.val (.ref o0), .val (.int i1)]) (S' := [(.ref o0)]) rfl ?_
 refine Home.st (getF X1 hx hZ hown (host := "") (Or.inl (own_w35 hw)) Via.refl e1 F_value_o0 rfl rfl (hb hby d11_8)) fun T2 X2 e2 => ?_
 refine Home.run X2 hx hby sg11_11_1 (pc' := 12) (L' := #[.val (.ref o0), .val (.int i1)]) (S' := [(.int i1), (.ref p2)]) rfl ?_
 refine Home.st (own_pure (own_static X2 hx hZ hown (own_w64 hw) (own_w65 hw) (own_w66 hw) (own_w67 hw) (by decide) (rm13_4 l Z a0 hw [] p2 i1 k_p2 u1 u2 u3 u4 u5 u6 u7 u8 sv_SIOOBE_FORMATTER h0 n0 O0 bnd_i1 V_p2 S_SIOOBE_FORMATTER isr_sv_SIOOBE_FORMATTER bnd_u1 bnd_u2 bnd_u3 bnd_u4 bnd_u5 bnd_u6 bnd_u7 bnd_u8) e2 rfl (by rw [hml]; rfl) (argsL := [(.ref p2), (.int i1)]) (rest := []) (lenOf own_pd13 rfl) rfl rfl (W := 0) (by exact hW0) (by decide) (by decide) (hb hby d11_12) (by decide) (by decide))) fun T3 X3 e3 => ?_
 exact Home.retN X3 hx hlk (t := .char) hret (by simp) (hb hby d11_15) ⟨congrArg some (congrArg Value.int (by first | rfl | exact nar_i2c _ | exact nar_i2b _ | exact nar_char_id (bnd_and (own_at [u1, u2, u3, u4, u5, u6, u7, u8] i1) (255 : Int32) (by decide)) (by decide +kernel) (by decide +kernel))), rfl, e3⟩ (by decide) (by decide)
theorem rm8_5 (l : Launch) (Z : State) (a0 : Array Value) (hw : HW a0 Z) (ws : List Jvm.Cond) (o0 p2 : Addr) (k_p2 : ClassId) (u1 u2 u3 u4 u5 u6 u7 u8 sv_COMPACT_STRINGS : Int32) (sv_SIOOBE_FORMATTER : Value) (h0 : Heap) (n0 : Nat) (O0 : Old Z n0 h0) (E_o0 : Exa Z h0 o0 "java/lang/String") (F_value_o0 : Fld Z h0 o0 "java/lang/String" "value" "[B" (.ref p2)) (V_p2 : Arv Z h0 p2 k_p2 .byte (8 : Int32) [(.int u1), (.int u2), (.int u3), (.int u4), (.int u5), (.int u6), (.int u7), (.int u8)] (.int (0 : Int32))) (S_COMPACT_STRINGS : Sta Z Z.heap "java/lang/String" "COMPACT_STRINGS" "Z" (.int sv_COMPACT_STRINGS)) (F_coder_o0 : Fld Z h0 o0 "java/lang/String" "coder" "B" (.int (0 : Int32))) (hCS : ¬ (sv_COMPACT_STRINGS = (0 : Int32))) (S_SIOOBE_FORMATTER : Sta Z Z.heap "jdk/internal/util/Preconditions" "SIOOBE_FORMATTER" "Ljava/util/function/BiFunction;" sv_SIOOBE_FORMATTER) (bnd_u1 : ¬ u1 < (50 : Int32) ∧ ¬ (122 : Int32) < u1) (bnd_u2 : ¬ u2 < (50 : Int32) ∧ ¬ (122 : Int32) < u2) (bnd_u3 : ¬ u3 < (50 : Int32) ∧ ¬ (122 : Int32) < u3) (bnd_u4 : ¬ u4 < (50 : Int32) ∧ ¬ (122 : Int32) < u4) (bnd_u5 : ¬ u5 < (50 : Int32) ∧ ¬ (122 : Int32) < u5) (bnd_u6 : ¬ u6 < (50 : Int32) ∧ ¬ (122 : Int32) < u6) (bnd_u7 : ¬ u7 < (50 : Int32) ∧ ¬ (122 : Int32) < u7) (bnd_u8 : ¬ u8 < (50 : Int32) ∧ ¬ (122 : Int32) < u8) (isr_sv_SIOOBE_FORMATTER : sv_SIOOBE_FORMATTER.isRef = true) (nn800 : ¬ ((f_rm22_0 (u1 &&& (255 : Int32))) < (0 : Int32))) (nn801 : ¬ ((f_rm22_0 (u2 &&& (255 : Int32))) < (0 : Int32))) (nn802 : ¬ ((f_rm22_0 (u3 &&& (255 : Int32))) < (0 : Int32))) (nn803 : ¬ ((f_rm22_0 (u4 &&& (255 : Int32))) < (0 : Int32))) (nn804 : ¬ ((f_rm22_0 (u5 &&& (255 : Int32))) < (0 : Int32))) (nn805 : ¬ ((f_rm22_0 (u6 &&& (255 : Int32))) < (0 : Int32))) (nn806 : ¬ ((f_rm22_0 (u7 &&& (255 : Int32))) < (0 : Int32))) (nn807 : ¬ ((f_rm22_0 (u8 &&& (255 : Int32))) < (0 : Int32))) (nn808 : (((((((((((((((((((((0 : Int32) ||| (f_rm22_0 (u1 &&& (255 : Int32)))) <<< ((5 : Int32) &&& 31)) ||| (f_rm22_0 (u2 &&& (255 : Int32)))) &&& (3 : Int32)) <<< ((5 : Int32) &&& 31)) ||| (f_rm22_0 (u3 &&& (255 : Int32)))) <<< ((5 : Int32) &&& 31)) ||| (f_rm22_0 (u4 &&& (255 : Int32)))) &&& (15 : Int32)) <<< ((5 : Int32) &&& 31)) ||| (f_rm22_0 (u5 &&& (255 : Int32)))) &&& (1 : Int32)) <<< ((5 : Int32) &&& 31)) ||| (f_rm22_0 (u6 &&& (255 : Int32)))) <<< ((5 : Int32) &&& 31)) ||| (f_rm22_0 (u7 &&& (255 : Int32)))) &&& (7 : Int32)) <<< ((5 : Int32) &&& 31)) ||| (f_rm22_0 (u8 &&& (255 : Int32)))) &&& (0 : Int32)) = (0 : Int32)) :
    ConW l Z own_EL ([] : List Addr) true (⟨"com/example/tryst/tryst/encoding/Base32", "decode", "(Ljava/lang/String;)[B"⟩ : MethodName) prog_8_method_2_code 7 (some (.array .byte)) ws ({ frames := 4, cells := 17, slots := 1061, locals := 59 } : Room) #[(.ref o0)] h0 (fun v h L => ∃ (b3 : Addr), ∃ (k3 : ClassId), v = some (.ref b3) ∧ Fr n0 L ∧ h0.size ≤ b3 ∧ Keep h0 h [] ∧ Arv Z h b3 k3 .byte (5 : Int32) [(.int (((((((0 : Int32) ||| (f_rm22_0 (u1 &&& (255 : Int32)))) <<< ((5 : Int32) &&& 31)) ||| (f_rm22_0 (u2 &&& (255 : Int32)))).toUInt32 >>> ((2 : Int32) &&& 31).toUInt32).toInt32).toInt8.toInt32)), (.int ((((((((((((0 : Int32) ||| (f_rm22_0 (u1 &&& (255 : Int32)))) <<< ((5 : Int32) &&& 31)) ||| (f_rm22_0 (u2 &&& (255 : Int32)))) &&& (3 : Int32)) <<< ((5 : Int32) &&& 31)) ||| (f_rm22_0 (u3 &&& (255 : Int32)))) <<< ((5 : Int32) &&& 31)) ||| (f_rm22_0 (u4 &&& (255 : Int32)))).toUInt32 >>> ((4 : Int32) &&& 31).toUInt32).toInt32).toInt8.toInt32)), (.int (((((((((((((((0 : Int32) ||| (f_rm22_0 (u1 &&& (255 : Int32)))) <<< ((5 : Int32) &&& 31)) ||| (f_rm22_0 (u2 &&& (255 : Int32)))) &&& (3 : Int32)) <<< ((5 : Int32) &&& 31)) ||| (f_rm22_0 (u3 &&& (255 : Int32)))) <<< ((5 : Int32) &&& 31)) ||| (f_rm22_0 (u4 &&& (255 : Int32)))) &&& (15 : Int32)) <<< ((5 : Int32) &&& 31)) ||| (f_rm22_0 (u5 &&& (255 : Int32)))).toUInt32 >>> ((1 : Int32) &&& 31).toUInt32).toInt32).toInt8.toInt32)), (.int ((((((((((((((((((((0 : Int32) ||| (f_rm22_0 (u1 &&& (255 : Int32)))) <<< ((5 : Int32) &&& 31)) ||| (f_rm22_0 (u2 &&& (255 : Int32)))) &&& (3 : Int32)) <<< ((5 : Int32) &&& 31)) ||| (f_rm22_0 (u3 &&& (255 : Int32)))) <<< ((5 : Int32) &&& 31)) ||| (f_rm22_0 (u4 &&& (255 : Int32)))) &&& (15 : Int32)) <<< ((5 : Int32) &&& 31)) ||| (f_rm22_0 (u5 &&& (255 : Int32)))) &&& (1 : Int32)) <<< ((5 : Int32) &&& 31)) ||| (f_rm22_0 (u6 &&& (255 : Int32)))) <<< ((5 : Int32) &&& 31)) ||| (f_rm22_0 (u7 &&& (255 : Int32)))).toUInt32 >>> ((3 : Int32) &&& 31).toUInt32).toInt32).toInt8.toInt32)), (.int (((((((((((((((((((((((0 : Int32) ||| (f_rm22_0 (u1 &&& (255 : Int32)))) <<< ((5 : Int32) &&& 31)) ||| (f_rm22_0 (u2 &&& (255 : Int32)))) &&& (3 : Int32)) <<< ((5 : Int32) &&& 31)) ||| (f_rm22_0 (u3 &&& (255 : Int32)))) <<< ((5 : Int32) &&& 31)) ||| (f_rm22_0 (u4 &&& (255 : Int32)))) &&& (15 : Int32)) <<< ((5 : Int32) &&& 31)) ||| (f_rm22_0 (u5 &&& (255 : Int32)))) &&& (1 : Int32)) <<< ((5 : Int32) &&& 31)) ||| (f_rm22_0 (u6 &&& (255 : Int32)))) <<< ((5 : Int32) &&& 31)) ||| (f_rm22_0 (u7 &&& (255 : Int32)))) &&& (7 : Int32)) <<< ((5 : Int32) &&& 31)) ||| (f_rm22_0 (u8 &&& (255 : Int32)))).toUInt32 >>> ((0 : Int32) &&& 31).toUInt32).toInt32).toInt8.toInt32))] (.int (0 : Int32))) := by
 refine own_bodyW (plainFor_of_name own_pn2) (fun m => ef_rm8_5 m o0) ?_
 intro p e s m below meth c s₁ hx hby hlk hml hret hZ hown hnm X0 e0 Cd0
 have N0 := Fr.nil n0
 refine Home.run X0 hx hby sg8_0_1 (pc' := 1) (L' := #[.val (.ref o0), .unset, .unset, .unset, .unset, .unset, .unset]) (S' := [(.ref o0)]) rfl ?_
 refine Home.st (own_pure (own_virtual X0 hx hZ hown (own_w41 hw) (own_w42 hw) (notFace_of_selects (args := #[]) (mvT hZ (own_w44 hw))) (own_w44 hw) (own_w43 hw) (own_w10 hw) (own_w45 hw) (by decide) (rm9_6 l Z a0 hw [] o0 p2 k_p2 u1 u2 u3 u4 u5 u6 u7 u8 sv_COMPACT_STRINGS h0 n0 O0 F_value_o0 V_p2 E_o0 S_COMPACT_STRINGS F_coder_o0 hCS) e0 E_o0 rfl (by rw [hml]; rfl) (argsL := []) (rest := []) (lenOf own_pd4 rfl) rfl rfl (W := 0) (by exact hW0) (by decide) (by decide) (hb hby d8_1) (by decide) (by decide))) fun T1 X1 e1 => ?_
 refine Home.run X1 hx hby sg8_4_3 (pc' := 8) (L' := #[.val (.ref o0), .unset, .unset, .unset, .unset, .unset, .unset]) (S' := [(.int (8 : Int32)), (.int (40 : Int32))]) rfl ?_
 refine Home.go (fun _ => iremM X1 hx rfl (hb hby d8_8) rfl (by decide)) ?_
 rw [show ((40 : Int32) % (8 : Int32)) = (0 : Int32) from by decide]
 refine Home.run X1 hx hby sg8_9_1 (pc' := 10) (L' := #[.val (.ref o0), .unset, .unset, .unset, .unset, .unset, .unset]) (S' := [(.int (5 : Int32)), (.int (0 : Int32))]) rfl ?_
 refine Home.go (fun _ => XS.icmpYes X1.here hx rfl (pc0 := 10) (pc' := 30) rfl (hb hby d8_10) rfl (tlt (by decide)).1 (by decide) (by decide)) ?_
 refine Home.run X1 hx hby sg8_30_1 (pc' := 31) (L' := #[.val (.ref o0), .unset, .unset, .unset, .unset, .unset, .unset]) (S' := [(.ref o0)]) rfl ?_
 refine Home.st (own_pure (own_virtual X1 hx hZ hown (own_w41 hw) (own_w42 hw) (notFace_of_selects (args := #[]) (mvT hZ (own_w44 hw))) (own_w44 hw) (own_w43 hw) (own_w10 hw) (own_w45 hw) (by decide) (rm9_6 l Z a0 hw [] o0 p2 k_p2 u1 u2 u3 u4 u5 u6 u7 u8 sv_COMPACT_STRINGS h0 n0 O0 F_value_o0 V_p2 E_o0 S_COMPACT_STRINGS F_coder_o0 hCS) e1 E_o0 rfl (by rw [hml]; rfl) (argsL := []) (rest := []) (lenOf own_pd4 rfl) rfl rfl (W := 0) (by exact hW0) (by decide) (by decide) (hb hby d8_31) (by decide) (by decide))) fun T2 X2 e2 => ?_
 refine Home.run X2 hx hby sg8_34_3 (pc' := 38) (L' := #[.val (.ref o0), .unset, .unset, .unset, .unset, .unset, .unset]) (S' := [(.int (8 : Int32)), (.int (40 : Int32))]) rfl ?_
 refine Home.go (fun _ => XS.idiv X2.here hx rfl (hb hby d8_38) rfl (by decide)) ?_
 rw [show ((40 : Int32) / (8 : Int32)) = (5 : Int32) from by decide]
 refine Home.na (own_newP (aty := .byte) X2 hx hZ (own_w26 hw) e2 (g := (mkF m 39 #[.val (.ref o0), .unset, .unset, .unset, .unset, .unset, .unset] [(.int (5 : Int32))])) rfl (hb hby d8_39) rfl (by decide) (cap := 5) (by decide) (by decide) (by decide) (by decide)) fun T3 h3 k3 b3 g3 X3 e3 E3 A3 => ?_
 have g_b3 : n0 ≤ b3 := Nat.le_trans (Old.le O0) (Nat.le_of_eq g3.symm)
 have V3 : Arv Z h3 b3 k3 .byte (5 : Int32) [(.int (0 : Int32)), (.int (0 : Int32)), (.int (0 : Int32)), (.int (0 : Int32)), (.int (0 : Int32))] (.int (0 : Int32)) := (Arv.new A3 (by decide)).pad (pad_rep [] (.int (0 : Int32)) 5)
 have O3 := O0.ext E3
 have K3 : Keep h0 h3 ([] : List Addr) := Keep.ext (Keep.refl h0 ([] : List Addr)) E3
 have Cd3 := Cold.add Cd0 E3 (Nat.le_of_eq g3.symm) V3.lt
 show Home T3 (mkF m 41 #[.val (.ref o0), .unset, .unset, .unset, .unset, .unset, .unset] [(.ref b3)])
 refine Home.run X3 hx hby sg8_41_11 (pc' := 55) (L' := #[.val (.ref o0), .val (.ref b3), .val (.int (0 : Int32)), .val (.int (0 : Int32)), .val (.int (0 : Int32)), .val (.int (0 : Int32)), .unset]) (S' := [(.ref o0), (.int (0 : Int32))]) rfl ?_
 refine Home.st (own_pure (own_virtual X3 hx hZ hown (own_w41 hw) (own_w42 hw) (notFace_of_selects (args := #[]) (mvT hZ (own_w44 hw))) (own_w44 hw) (own_w43 hw) (own_w10 hw) (own_w45 hw) (by decide) (rm9_6 l Z a0 hw [] o0 p2 k_p2 u1 u2 u3 u4 u5 u6 u7 u8 sv_COMPACT_STRINGS h3 n0 O3 (F_value_o0.keep K3 nin0) (V_p2.keep K3 nin0) (E_o0.keep K3) S_COMPACT_STRINGS (F_coder_o0.keep K3 nin0) hCS) e3 (E_o0.keep K3) rfl (by rw [hml]; rfl) (argsL := []) (rest := [(.int (0 : Int32))]) (lenOf own_pd4 rfl) rfl rfl (W := 1) (by exact hW0) (by decide) (by decide) (hb hby d8_55) (by decide) (by decide))) fun T4 X4 e4 => ?_
 refine Home.go (fun _ => XS.icmpNo X4.here hx rfl (hb hby d8_58) rfl (tlt (by decide)).2.1) ?_
 obtain ⟨ad5, b5, k5, T5, h5, X5, e5, E5, hZ, hown, Cd5, Ea5, Fc5, Fv5, V5, la5, lb5, hne5, st5⟩ := own_ldcW X4 hx hZ hown (own_hEL hw) Cd3 (own_w51 hw) (own_wS hw) e4 (List.mem_of_getElem? (i := 0) rfl) (vs := own_T0) (z := (32 : Int32)) ⟨by decide, by rfl⟩ (by decide) (by decide) (g := (mkF m 61 #[.val (.ref o0), .val (.ref b3), .val (.int (0 : Int32)), .val (.int (0 : Int32)), .val (.int (0 : Int32)), .val (.int (0 : Int32)), .unset] [])) rfl (hb hby d8_61) (n := 128) (by decide) (by decide) (by decide) (by decide)
 refine Home.go st5 ?_
 have O5 := O3.ext E5
 have K5 : Keep h0 h5 ([] : List Addr) := Keep.ext K3 E5
 refine Home.run X5 hx hby sg8_63_2 (pc' := 66) (L' := #[.val (.ref o0), .val (.ref b3), .val (.int (0 : Int32)), .val (.int (0 : Int32)), .val (.int (0 : Int32)), .val (.int (0 : Int32)), .unset]) (S' := [(.int (0 : Int32)), (.ref o0), (.ref ad5)]) rfl ?_
 refine Home.st (own_pure (own_virtual X5 hx hZ hown (own_w54 hw) (own_w55 hw) (notFace_of_selects (args := #[]) (mvT hZ (own_w57 hw))) (own_w57 hw) (own_w56 hw) (own_w10 hw) (own_w58 hw) (by decide) (rm11_4 l Z a0 hw [] o0 (0 : Int32) sv_COMPACT_STRINGS p2 k_p2 u1 u2 u3 u4 u5 u6 u7 u8 sv_SIOOBE_FORMATTER h5 n0 O5 (bnd_mono (bnd_lit (0 : Int32)) (by decide +kernel) (by decide +kernel)) (E_o0.keep K5) S_COMPACT_STRINGS (F_coder_o0.keep K5 nin0) hCS (F_value_o0.keep K5 nin0) (V_p2.keep K5 nin0) S_SIOOBE_FORMATTER bnd_u1 bnd_u2 bnd_u3 bnd_u4 bnd_u5 bnd_u6 bnd_u7 bnd_u8 isr_sv_SIOOBE_FORMATTER) e5 (E_o0.keep K5) rfl (by rw [hml]; rfl) (argsL := [(.int (0 : Int32))]) (rest := [(.ref ad5)]) (lenOf own_pd14 rfl) rfl rfl (W := 1) (by exact hW0) (by decide) (by decide) (hb hby d8_66) (by decide) (by decide))) fun T6 X6 e6 => ?_
 show Home T6 (mkF m 69 #[.val (.ref o0), .val (.ref b3), .val (.int (0 : Int32)), .val (.int (0 : Int32)), .val (.int (0 : Int32)), .val (.int (0 : Int32)), .unset] [(.int (u1 &&& (255 : Int32))), (.ref ad5)])
 refine Home.st (own_pure (own_virtual X6 hx hZ hown (own_w76 hw) (own_w77 hw) (notFace_of_selects (args := #[]) (mvT hZ (own_w79 hw))) (own_w79 hw) (own_w78 hw) (own_w10 hw) (own_w80 hw) (by decide) (rm16_0 l Z a0 hw [] ad5 (u1 &&& (255 : Int32)) sv_COMPACT_STRINGS b5 k5 h5 n0 O5 (bnd_and (own_at [u1, u2, u3, u4, u5, u6, u7, u8] (0 : Int32)) (255 : Int32) (by decide)) Ea5 S_COMPACT_STRINGS Fc5 Fv5 V5 hCS) e6 Ea5 rfl (by rw [hml]; rfl) (argsL := [(.int (u1 &&& (255 : Int32)))]) (rest := []) (lenOf own_pd18 rfl) rfl rfl (W := 0) (by exact hW0) (by decide) (by decide) (hb hby d8_69) (by decide) (by decide))) fun T7 X7 e7 => ?_
 refine Home.run X7 hx hby sg8_72_1 (pc' := 74) (L' := #[.val (.ref o0), .val (.ref b3), .val (.int (0 : Int32)), .val (.int (0 : Int32)), .val (.int (0 : Int32)), .val (.int (0 : Int32)), .val (.int (f_rm22_0 (u1 &&& (255 : Int32))))]) (S' := []) rfl ?_
 obtain ⟨v8, hv8⟩ : ∃ z, z = (f_rm22_0 (u1 &&& (255 : Int32))) := ⟨_, rfl⟩
 rw [← hv8]
 refine Home.run X7 hx hby sg8_74_1 (pc' := 76) (L' := #[.val (.ref o0), .val (.ref b3), .val (.int (0 : Int32)), .val (.int (0 : Int32)), .val (.int (0 : Int32)), .val (.int (0 : Int32)), .val (.int v8)]) (S' := [(.int v8)]) rfl ?_
 refine Home.go (fun _ => XS.ifYes X7.here hx rfl (pc0 := 76) (pc' := 98) rfl (hb hby d8_76) rfl ((if0 _ _).trans (flt (by rw [hv8]; exact nn800)).2.1) (by decide) (by decide)) ?_
 refine Home.run X7 hx hby sg8_98_6 (pc' := 105) (L' := #[.val (.ref o0), .val (.ref b3), .val (.int (0 : Int32)), .val (.int ((0 : Int32) ||| v8)), .val (.int (0 : Int32)), .val (.int (0 : Int32)), .val (.int v8)]) (S' := []) rfl ?_
 obtain ⟨v9, hv9⟩ : ∃ z, z = ((0 : Int32) ||| v8) := ⟨_, rfl⟩
 rw [← hv9]
 refine Home.run X7 hx hby sg8_105_3 (pc' := 111) (L' := #[.val (.ref o0), .val (.ref b3), .val (.int (5 : Int32)), .val (.int v9), .val (.int (0 : Int32)), .val (.int (0 : Int32)), .val (.int v8)]) (S' := [(.int (8 : Int32)), (.int (5 : Int32))]) rfl ?_
 refine Home.go (fun _ => XS.icmpYes X7.here hx rfl (pc0 := 111) (pc' := 136) rfl (hb hby d8_111) rfl (tlt (by decide)).1 (by decide) (by decide)) ?_
 refine Home.run X7 hx hby sg8_136_4 (pc' := 55) (L' := #[.val (.ref o0), .val (.ref b3), .val (.int (5 : Int32)), .val (.int v9), .val (.int (0 : Int32)), .val (.int (1 : Int32)), .val (.int v8)]) (S' := [(.ref o0), (.int (1 : Int32))]) rfl ?_
 refine Home.st (own_pure (own_virtual X7 hx hZ hown (own_w41 hw) (own_w42 hw) (notFace_of_selects (args := #[]) (mvT hZ (own_w44 hw))) (own_w44 hw) (own_w43 hw) (own_w10 hw) (own_w45 hw) (by decide) (rm9_6 l Z a0 hw [] o0 p2 k_p2 u1 u2 u3 u4 u5 u6 u7 u8 sv_COMPACT_STRINGS h5 n0 O5 (F_value_o0.keep K5 nin0) (V_p2.keep K5 nin0) (E_o0.keep K5) S_COMPACT_STRINGS (F_coder_o0.keep K5 nin0) hCS) e7 (E_o0.keep K5) rfl (by rw [hml]; rfl) (argsL := []) (rest := [(.int (1 : Int32))]) (lenOf own_pd4 rfl) rfl rfl (W := 1) (by exact hW0) (by decide) (by decide) (hb hby d8_55) (by decide) (by decide))) fun T10 X10 e10 => ?_
 refine Home.go (fun _ => XS.icmpNo X10.here hx rfl (hb hby d8_58) rfl (tlt (by decide)).2.1) ?_
 obtain ⟨ad11, b11, k11, T11, h11, X11, e11, E11, hZ, hown, Cd11, Ea11, Fc11, Fv11, V11, la11, lb11, hne11, st11⟩ := own_ldcW X10 hx hZ hown (own_hEL hw) Cd5 (own_w51 hw) (own_wS hw) e10 (List.mem_of_getElem? (i := 0) rfl) (vs := own_T0) (z := (32 : Int32)) ⟨by decide, by rfl⟩ (by decide) (by decide) (g := (mkF m 61 #[.val (.ref o0), .val (.ref b3), .val (.int (5 : Int32)), .val (.int v9), .val (.int (0 : Int32)), .val (.int (1 : Int32)), .val (.int v8)] [])) rfl (hb hby d8_61) (n := 128) (by decide) (by decide) (by decide) (by decide)
 refine Home.go st11 ?_
 have O11 := O5.ext E11
 have K11 : Keep h0 h11 ([] : List Addr) := Keep.ext K5 E11
 show Home T11 (mkF m 63 #[.val (.ref o0), .val (.ref b3), .val (.int (5 : Int32)), .val (.int v9), .val (.int (0 : Int32)), .val (.int (1 : Int32)), .val (.int v8)] [(.ref ad11)])
 refine Home.run X11 hx hby sg8_63_2 (pc' := 66) (L' := #[.val (.ref o0), .val (.ref b3), .val (.int (5 : Int32)), .val (.int v9), .val (.int (0 : Int32)), .val (.int (1 : Int32)), .val (.int v8)]) (S' := [(.int (1 : Int32)), (.ref o0), (.ref ad11)]) rfl ?_
 refine Home.st (own_pure (own_virtual X11 hx hZ hown (own_w54 hw) (own_w55 hw) (notFace_of_selects (args := #[]) (mvT hZ (own_w57 hw))) (own_w57 hw) (own_w56 hw) (own_w10 hw) (own_w58 hw) (by decide) (rm11_4 l Z a0 hw [] o0 (1 : Int32) sv_COMPACT_STRINGS p2 k_p2 u1 u2 u3 u4 u5 u6 u7 u8 sv_SIOOBE_FORMATTER h11 n0 O11 (bnd_mono (bnd_lit (1 : Int32)) (by decide +kernel) (by decide +kernel)) (E_o0.keep K11) S_COMPACT_STRINGS (F_coder_o0.keep K11 nin0) hCS (F_value_o0.keep K11 nin0) (V_p2.keep K11 nin0) S_SIOOBE_FORMATTER bnd_u1 bnd_u2 bnd_u3 bnd_u4 bnd_u5 bnd_u6 bnd_u7 bnd_u8 isr_sv_SIOOBE_FORMATTER) e11 (E_o0.keep K11) rfl (by rw [hml]; rfl) (argsL := [(.int (1 : Int32))]) (rest := [(.ref ad11)]) (lenOf own_pd14 rfl) rfl rfl (W := 1) (by exact hW0) (by decide) (by decide) (hb hby d8_66) (by decide) (by decide))) fun T12 X12 e12 => ?_
 show Home T12 (mkF m 69 #[.val (.ref o0), .val (.ref b3), .val (.int (5 : Int32)), .val (.int v9), .val (.int (0 : Int32)), .val (.int (1 : Int32)), .val (.int v8)] [(.int (u2 &&& (255 : Int32))), (.ref ad11)])
 refine Home.st (own_pure (own_virtual X12 hx hZ hown (own_w76 hw) (own_w77 hw) (notFace_of_selects (args := #[]) (mvT hZ (own_w79 hw))) (own_w79 hw) (own_w78 hw) (own_w10 hw) (own_w80 hw) (by decide) (rm16_0 l Z a0 hw [] ad11 (u2 &&& (255 : Int32)) sv_COMPACT_STRINGS b11 k11 h11 n0 O11 (bnd_and (own_at [u1, u2, u3, u4, u5, u6, u7, u8] (1 : Int32)) (255 : Int32) (by decide)) Ea11 S_COMPACT_STRINGS Fc11 Fv11 V11 hCS) e12 Ea11 rfl (by rw [hml]; rfl) (argsL := [(.int (u2 &&& (255 : Int32)))]) (rest := []) (lenOf own_pd18 rfl) rfl rfl (W := 0) (by exact hW0) (by decide) (by decide) (hb hby d8_69) (by decide) (by decide))) fun T13 X13 e13 => ?_
 refine Home.run X13 hx hby sg8_72_1 (pc' := 74) (L' := #[.val (.ref o0), .val (.ref b3), .val (.int (5 : Int32)), .val (.int v9), .val (.int (0 : Int32)), .val (.int (1 : Int32)), .val (.int (f_rm22_0 (u2 &&& (255 : Int32))))]) (S' := []) rfl ?_
 obtain ⟨v14, hv14⟩ : ∃ z, z = (f_rm22_0 (u2 &&& (255 : Int32))) := ⟨_, rfl⟩
 rw [← hv14]
 refine Home.run X13 hx hby sg8_74_1 (pc' := 76) (L' := #[.val (.ref o0), .val (.ref b3), .val (.int (5 : Int32)), .val (.int v9), .val (.int (0 : Int32)), .val (.int (1 : Int32)), .val (.int v14)]) (S' := [(.int v14)]) rfl ?_
 refine Home.go (fun _ => XS.ifYes X13.here hx rfl (pc0 := 76) (pc' := 98) rfl (hb hby d8_76) rfl ((if0 _ _).trans (flt (by rw [hv14]; exact nn801)).2.1) (by decide) (by decide)) ?_
 refine Home.run X13 hx hby sg8_98_6 (pc' := 105) (L' := #[.val (.ref o0), .val (.ref b3), .val (.int (5 : Int32)), .val (.int ((v9 <<< ((5 : Int32) &&& 31)) ||| v14)), .val (.int (0 : Int32)), .val (.int (1 : Int32)), .val (.int v14)]) (S' := []) rfl ?_
 obtain ⟨v15, hv15⟩ : ∃ z, z = ((v9 <<< ((5 : Int32) &&& 31)) ||| v14) := ⟨_, rfl⟩
 rw [← hv15]
 refine Home.run X13 hx hby sg8_105_3 (pc' := 111) (L' := #[.val (.ref o0), .val (.ref b3), .val (.int (10 : Int32)), .val (.int v15), .val (.int (0 : Int32)), .val (.int (1 : Int32)), .val (.int v14)]) (S' := [(.int (8 : Int32)), (.int (10 : Int32))]) rfl ?_
 refine Home.go (fun _ => XS.icmpNo X13.here hx rfl (hb hby d8_111) rfl (flt (by decide)).1) ?_
 refine Home.run X13 hx hby sg8_114_8 (pc' := 127) (L' := #[.val (.ref o0), .val (.ref b3), .val (.int (2 : Int32)), .val (.int v15), .val (.int (1 : Int32)), .val (.int (1 : Int32)), .val (.int v14)]) (S' := [(.int (((v15.toUInt32 >>> ((2 : Int32) &&& 31).toUInt32).toInt32).toInt8.toInt32)), (.int (0 : Int32)), (.ref b3)]) rfl ?_
 have q16 := ((V3.ext E5).ext E11)
 obtain ⟨cl17, Ar17, q17, S17, M17, H17, G17⟩ := id q16
 refine Home.wr (stB X13 hx hZ e13 Ar17 (j := (0 : Int32)) (inb_of S17 ⟨by decide, by decide⟩) rfl rfl (hb hby d8_127)) fun T17 h17 X17 e17 W17 => ?_
 have W17' := Wr.to W17 (congrArg Value.int (nar_byte_id (bnd_i2b ((v15.toUInt32 >>> ((2 : Int32) &&& 31).toUInt32).toInt32)) (by decide +kernel) (by decide +kernel)))
 have V17 : Arv Z h17 b3 k3 .byte (5 : Int32) [(.int (((v15.toUInt32 >>> ((2 : Int32) &&& 31).toUInt32).toInt32).toInt8.toInt32)), (.int (0 : Int32)), (.int (0 : Int32)), (.int (0 : Int32)), (.int (0 : Int32))] (.int (0 : Int32)) := Arv.set Ar17 q17 S17 M17 H17 G17 (fits_byte_b (bnd_i2b ((v15.toUInt32 >>> ((2 : Int32) &&& 31).toUInt32).toInt32)) (by decide +kernel) (by decide +kernel)) W17' 0 rfl (Nat.le_of_ble_eq_true rfl)
 have O17 := O11.wr W17 g_b3
 have K17 : Keep h0 h17 ([] : List Addr) := Keep.wr K11 W17 (Or.inr (Nat.le_trans (Nat.le_refl _) (Nat.le_of_eq g3.symm)))
 have Cd17 := Cold.wr Cd11 W17 (Cold.safe Cd11 (List.mem_of_getElem? (i := 0) rfl))
 have N17 := Fr.snoc X17 N0 g_b3
 show Home T17 (mkF m 128 #[.val (.ref o0), .val (.ref b3), .val (.int (2 : Int32)), .val (.int v15), .val (.int (1 : Int32)), .val (.int (1 : Int32)), .val (.int v14)] [])
 refine Home.run X17 hx hby sg8_128_8 (pc' := 136) (L' := #[.val (.ref o0), .val (.ref b3), .val (.int (2 : Int32)), .val (.int (v15 &&& (3 : Int32))), .val (.int (1 : Int32)), .val (.int (1 : Int32)), .val (.int v14)]) (S' := []) rfl ?_
 obtain ⟨v18, hv18⟩ : ∃ z, z = (v15 &&& (3 : Int32)) := ⟨_, rfl⟩
 rw [← hv18]
 have bv18 : ¬ v18 < (0 : Int32) ∧ ¬ (3 : Int32) < v18 := by rw [hv18]; exact (bnd_and v15 (3 : Int32) (by decide))
 refine Home.run X17 hx hby sg8_136_4 (pc' := 55) (L' := #[.val (.ref o0), .val (.ref b3), .val (.int (2 : Int32)), .val (.int v18), .val (.int (1 : Int32)), .val (.int (2 : Int32)), .val (.int v14)]) (S' := [(.ref o0), (.int (2 : Int32))]) rfl ?_
 refine Home.st (own_pure (own_virtual X17 hx hZ hown (own_w41 hw) (own_w42 hw) (notFace_of_selects (args := #[]) (mvT hZ (own_w44 hw))) (own_w44 hw) (own_w43 hw) (own_w10 hw) (own_w45 hw) (by decide) (rm9_6 l Z a0 hw [] o0 p2 k_p2 u1 u2 u3 u4 u5 u6 u7 u8 sv_COMPACT_STRINGS h17 n0 O17 (F_value_o0.keep K17 nin0) (V_p2.keep K17 nin0) (E_o0.keep K17) S_COMPACT_STRINGS (F_coder_o0.keep K17 nin0) hCS) e17 (E_o0.keep K17) rfl (by rw [hml]; rfl) (argsL := []) (rest := [(.int (2 : Int32))]) (lenOf own_pd4 rfl) rfl rfl (W := 1) (by exact hW0) (by decide) (by decide) (hb hby d8_55) (by decide) (by decide))) fun T19 X19 e19 => ?_
 refine Home.go (fun _ => XS.icmpNo X19.here hx rfl (hb hby d8_58) rfl (tlt (by decide)).2.1) ?_
 obtain ⟨ad20, b20, k20, T20, h20, X20, e20, E20, hZ, hown, Cd20, Ea20, Fc20, Fv20, V20, la20, lb20, hne20, st20⟩ := own_ldcW X19 hx hZ hown (own_hEL hw) Cd17 (own_w51 hw) (own_wS hw) e19 (List.mem_of_getElem? (i := 0) rfl) (vs := own_T0) (z := (32 : Int32)) ⟨by decide, by rfl⟩ (by decide) (by decide) (g := (mkF m 61 #[.val (.ref o0), .val (.ref b3), .val (.int (2 : Int32)), .val (.int v18), .val (.int (1 : Int32)), .val (.int (2 : Int32)), .val (.int v14)] [])) rfl (hb hby d8_61) (n := 128) (by decide) (by decide) (by decide) (by decide)
 refine Home.go st20 ?_
 have O20 := O17.ext E20
 have K20 : Keep h0 h20 ([] : List Addr) := Keep.ext K17 E20
 refine Home.run X20 hx hby sg8_63_2 (pc' := 66) (L' := #[.val (.ref o0), .val (.ref b3), .val (.int (2 : Int32)), .val (.int v18), .val (.int (1 : Int32)), .val (.int (2 : Int32)), .val (.int v14)]) (S' := [(.int (2 : Int32)), (.ref o0), (.ref ad20)]) rfl ?_
 refine Home.st (own_pure (own_virtual X20 hx hZ hown (own_w54 hw) (own_w55 hw) (notFace_of_selects (args := #[]) (mvT hZ (own_w57 hw))) (own_w57 hw) (own_w56 hw) (own_w10 hw) (own_w58 hw) (by decide) (rm11_4 l Z a0 hw [] o0 (2 : Int32) sv_COMPACT_STRINGS p2 k_p2 u1 u2 u3 u4 u5 u6 u7 u8 sv_SIOOBE_FORMATTER h20 n0 O20 (bnd_mono (bnd_lit (2 : Int32)) (by decide +kernel) (by decide +kernel)) (E_o0.keep K20) S_COMPACT_STRINGS (F_coder_o0.keep K20 nin0) hCS (F_value_o0.keep K20 nin0) (V_p2.keep K20 nin0) S_SIOOBE_FORMATTER bnd_u1 bnd_u2 bnd_u3 bnd_u4 bnd_u5 bnd_u6 bnd_u7 bnd_u8 isr_sv_SIOOBE_FORMATTER) e20 (E_o0.keep K20) rfl (by rw [hml]; rfl) (argsL := [(.int (2 : Int32))]) (rest := [(.ref ad20)]) (lenOf own_pd14 rfl) rfl rfl (W := 1) (by exact hW0) (by decide) (by decide) (hb hby d8_66) (by decide) (by decide))) fun T21 X21 e21 => ?_
 show Home T21 (mkF m 69 #[.val (.ref o0), .val (.ref b3), .val (.int (2 : Int32)), .val (.int v18), .val (.int (1 : Int32)), .val (.int (2 : Int32)), .val (.int v14)] [(.int (u3 &&& (255 : Int32))), (.ref ad20)])
 refine Home.st (own_pure (own_virtual X21 hx hZ hown (own_w76 hw) (own_w77 hw) (notFace_of_selects (args := #[]) (mvT hZ (own_w79 hw))) (own_w79 hw) (own_w78 hw) (own_w10 hw) (own_w80 hw) (by decide) (rm16_0 l Z a0 hw [] ad20 (u3 &&& (255 : Int32)) sv_COMPACT_STRINGS b20 k20 h20 n0 O20 (bnd_and (own_at [u1, u2, u3, u4, u5, u6, u7, u8] (2 : Int32)) (255 : Int32) (by decide)) Ea20 S_COMPACT_STRINGS Fc20 Fv20 V20 hCS) e21 Ea20 rfl (by rw [hml]; rfl) (argsL := [(.int (u3 &&& (255 : Int32)))]) (rest := []) (lenOf own_pd18 rfl) rfl rfl (W := 0) (by exact hW0) (by decide) (by decide) (hb hby d8_69) (by decide) (by decide))) fun T22 X22 e22 => ?_
 refine Home.run X22 hx hby sg8_72_1 (pc' := 74) (L' := #[.val (.ref o0), .val (.ref b3), .val (.int (2 : Int32)), .val (.int v18), .val (.int (1 : Int32)), .val (.int (2 : Int32)), .val (.int (f_rm22_0 (u3 &&& (255 : Int32))))]) (S' := []) rfl ?_
 obtain ⟨v23, hv23⟩ : ∃ z, z = (f_rm22_0 (u3 &&& (255 : Int32))) := ⟨_, rfl⟩
 rw [← hv23]
 refine Home.run X22 hx hby sg8_74_1 (pc' := 76) (L' := #[.val (.ref o0), .val (.ref b3), .val (.int (2 : Int32)), .val (.int v18), .val (.int (1 : Int32)), .val (.int (2 : Int32)), .val (.int v23)]) (S' := [(.int v23)]) rfl ?_
 refine Home.go (fun _ => XS.ifYes X22.here hx rfl (pc0 := 76) (pc' := 98) rfl (hb hby d8_76) rfl ((if0 _ _).trans (flt (by rw [hv23]; exact nn802)).2.1) (by decide) (by decide)) ?_
 refine Home.run X22 hx hby sg8_98_6 (pc' := 105) (L' := #[.val (.ref o0), .val (.ref b3), .val (.int (2 : Int32)), .val (.int ((v18 <<< ((5 : Int32) &&& 31)) ||| v23)), .val (.int (1 : Int32)), .val (.int (2 : Int32)), .val (.int v23)]) (S' := []) rfl ?_
 obtain ⟨v24, hv24⟩ : ∃ z, z = ((v18 <<< ((5 : Int32) &&& 31)) ||| v23) := ⟨_, rfl⟩
 rw [← hv24]
 refine Home.run X22 hx hby sg8_105_3 (pc' := 111) (L' := #[.val (.ref o0), .val (.ref b3), .val (.int (7 : Int32)), .val (.int v24), .val (.int (1 : Int32)), .val (.int (2 : Int32)), .val (.int v23)]) (S' := [(.int (8 : Int32)), (.int (7 : Int32))]) rfl ?_
 refine Home.go (fun _ => XS.icmpYes X22.here hx rfl (pc0 := 111) (pc' := 136) rfl (hb hby d8_111) rfl (tlt (by decide)).1 (by decide) (by decide)) ?_
 refine Home.run X22 hx hby sg8_136_4 (pc' := 55) (L' := #[.val (.ref o0), .val (.ref b3), .val (.int (7 : Int32)), .val (.int v24), .val (.int (1 : Int32)), .val (.int (3 : Int32)), .val (.int v23)]) (S' := [(.ref o0), (.int (3 : Int32))]) rfl ?_
 refine Home.st (own_pure (own_virtual X22 hx hZ hown (own_w41 hw) (own_w42 hw) (notFace_of_selects (args := #[]) (mvT hZ (own_w44 hw))) (own_w44 hw) (own_w43 hw) (own_w10 hw) (own_w45 hw) (by decide) (rm9_6 l Z a0 hw [] o0 p2 k_p2 u1 u2 u3 u4 u5 u6 u7 u8 sv_COMPACT_STRINGS h20 n0 O20 (F_value_o0.keep K20 nin0) (V_p2.keep K20 nin0) (E_o0.keep K20) S_COMPACT_STRINGS (F_coder_o0.keep K20 nin0) hCS) e22 (E_o0.keep K20) rfl (by rw [hml]; rfl) (argsL := []) (rest := [(.int (3 : Int32))]) (lenOf own_pd4 rfl) rfl rfl (W := 1) (by exact hW0) (by decide) (by decide) (hb hby d8_55) (by decide) (by decide))) fun T25 X25 e25 => ?_
 refine Home.go (fun _ => XS.icmpNo X25.here hx rfl (hb hby d8_58) rfl (tlt (by decide)).2.1) ?_
 obtain ⟨ad26, b26, k26, T26, h26, X26, e26, E26, hZ, hown, Cd26, Ea26, Fc26, Fv26, V26, la26, lb26, hne26, st26⟩ := own_ldcW X25 hx hZ hown (own_hEL hw) Cd20 (own_w51 hw) (own_wS hw) e25 (List.mem_of_getElem? (i := 0) rfl) (vs := own_T0) (z := (32 : Int32)) ⟨by decide, by rfl⟩ (by decide) (by decide) (g := (mkF m 61 #[.val (.ref o0), .val (.ref b3), .val (.int (7 : Int32)), .val (.int v24), .val (.int (1 : Int32)), .val (.int (3 : Int32)), .val (.int v23)] [])) rfl (hb hby d8_61) (n := 128) (by decide) (by decide) (by decide) (by decide)
 refine Home.go st26 ?_
 have O26 := O20.ext E26
 have K26 : Keep h0 h26 ([] : List Addr) := Keep.ext K20 E26
 show Home T26 (mkF m 63 #[.val (.ref o0), .val (.ref b3), .val (.int (7 : Int32)), .val (.int v24), .val (.int (1 : Int32)), .val (.int (3 : Int32)), .val (.int v23)] [(.ref ad26)])
 refine Home.run X26 hx hby sg8_63_2 (pc' := 66) (L' := #[.val (.ref o0), .val (.ref b3), .val (.int (7 : Int32)), .val (.int v24), .val (.int (1 : Int32)), .val (.int (3 : Int32)), .val (.int v23)]) (S' := [(.int (3 : Int32)), (.ref o0), (.ref ad26)]) rfl ?_
 refine Home.st (own_pure (own_virtual X26 hx hZ hown (own_w54 hw) (own_w55 hw) (notFace_of_selects (args := #[]) (mvT hZ (own_w57 hw))) (own_w57 hw) (own_w56 hw) (own_w10 hw) (own_w58 hw) (by decide) (rm11_4 l Z a0 hw [] o0 (3 : Int32) sv_COMPACT_STRINGS p2 k_p2 u1 u2 u3 u4 u5 u6 u7 u8 sv_SIOOBE_FORMATTER h26 n0 O26 (bnd_mono (bnd_lit (3 : Int32)) (by decide +kernel) (by decide +kernel)) (E_o0.keep K26) S_COMPACT_STRINGS (F_coder_o0.keep K26 nin0) hCS (F_value_o0.keep K26 nin0) (V_p2.keep K26 nin0) S_SIOOBE_FORMATTER bnd_u1 bnd_u2 bnd_u3 bnd_u4 bnd_u5 bnd_u6 bnd_u7 bnd_u8 isr_sv_SIOOBE_FORMATTER) e26 (E_o0.keep K26) rfl (by rw [hml]; rfl) (argsL := [(.int (3 : Int32))]) (rest := [(.ref ad26)]) (lenOf own_pd14 rfl) rfl rfl (W := 1) (by exact hW0) (by decide) (by decide) (hb hby d8_66) (by decide) (by decide))) fun T27 X27 e27 => ?_
 show Home T27 (mkF m 69 #[.val (.ref o0), .val (.ref b3), .val (.int (7 : Int32)), .val (.int v24), .val (.int (1 : Int32)), .val (.int (3 : Int32)), .val (.int v23)] [(.int (u4 &&& (255 : Int32))), (.ref ad26)])
 refine Home.st (own_pure (own_virtual X27 hx hZ hown (own_w76 hw) (own_w77 hw) (notFace_of_selects (args := #[]) (mvT hZ (own_w79 hw))) (own_w79 hw) (own_w78 hw) (own_w10 hw) (own_w80 hw) (by decide) (rm16_0 l Z a0 hw [] ad26 (u4 &&& (255 : Int32)) sv_COMPACT_STRINGS b26 k26 h26 n0 O26 (bnd_and (own_at [u1, u2, u3, u4, u5, u6, u7, u8] (3 : Int32)) (255 : Int32) (by decide)) Ea26 S_COMPACT_STRINGS Fc26 Fv26 V26 hCS) e27 Ea26 rfl (by rw [hml]; rfl) (argsL := [(.int (u4 &&& (255 : Int32)))]) (rest := []) (lenOf own_pd18 rfl) rfl rfl (W := 0) (by exact hW0) (by decide) (by decide) (hb hby d8_69) (by decide) (by decide))) fun T28 X28 e28 => ?_
 refine Home.run X28 hx hby sg8_72_1 (pc' := 74) (L' := #[.val (.ref o0), .val (.ref b3), .val (.int (7 : Int32)), .val (.int v24), .val (.int (1 : Int32)), .val (.int (3 : Int32)), .val (.int (f_rm22_0 (u4 &&& (255 : Int32))))]) (S' := []) rfl ?_
 obtain ⟨v29, hv29⟩ : ∃ z, z = (f_rm22_0 (u4 &&& (255 : Int32))) := ⟨_, rfl⟩
 rw [← hv29]
 refine Home.run X28 hx hby sg8_74_1 (pc' := 76) (L' := #[.val (.ref o0), .val (.ref b3), .val (.int (7 : Int32)), .val (.int v24), .val (.int (1 : Int32)), .val (.int (3 : Int32)), .val (.int v29)]) (S' := [(.int v29)]) rfl ?_
 refine Home.go (fun _ => XS.ifYes X28.here hx rfl (pc0 := 76) (pc' := 98) rfl (hb hby d8_76) rfl ((if0 _ _).trans (flt (by rw [hv29]; exact nn803)).2.1) (by decide) (by decide)) ?_
 refine Home.run X28 hx hby sg8_98_6 (pc' := 105) (L' := #[.val (.ref o0), .val (.ref b3), .val (.int (7 : Int32)), .val (.int ((v24 <<< ((5 : Int32) &&& 31)) ||| v29)), .val (.int (1 : Int32)), .val (.int (3 : Int32)), .val (.int v29)]) (S' := []) rfl ?_
 obtain ⟨v30, hv30⟩ : ∃ z, z = ((v24 <<< ((5 : Int32) &&& 31)) ||| v29) := ⟨_, rfl⟩
 rw [← hv30]
 refine Home.run X28 hx hby sg8_105_3 (pc' := 111) (L' := #[.val (.ref o0), .val (.ref b3), .val (.int (12 : Int32)), .val (.int v30), .val (.int (1 : Int32)), .val (.int (3 : Int32)), .val (.int v29)]) (S' := [(.int (8 : Int32)), (.int (12 : Int32))]) rfl ?_
 refine Home.go (fun _ => XS.icmpNo X28.here hx rfl (hb hby d8_111) rfl (flt (by decide)).1) ?_
 refine Home.run X28 hx hby sg8_114_8 (pc' := 127) (L' := #[.val (.ref o0), .val (.ref b3), .val (.int (4 : Int32)), .val (.int v30), .val (.int (2 : Int32)), .val (.int (3 : Int32)), .val (.int v29)]) (S' := [(.int (((v30.toUInt32 >>> ((4 : Int32) &&& 31).toUInt32).toInt32).toInt8.toInt32)), (.int (1 : Int32)), (.ref b3)]) rfl ?_
 have q31 := ((V17.ext E20).ext E26)
 obtain ⟨cl32, Ar32, q32, S32, M32, H32, G32⟩ := id q31
 refine Home.wr (stB X28 hx hZ e28 Ar32 (j := (1 : Int32)) (inb_of S32 ⟨by decide, by decide⟩) rfl rfl (hb hby d8_127)) fun T32 h32 X32 e32 W32 => ?_
 have W32' := Wr.to W32 (congrArg Value.int (nar_byte_id (bnd_i2b ((v30.toUInt32 >>> ((4 : Int32) &&& 31).toUInt32).toInt32)) (by decide +kernel) (by decide +kernel)))
 have V32 : Arv Z h32 b3 k3 .byte (5 : Int32) [(.int (((v15.toUInt32 >>> ((2 : Int32) &&& 31).toUInt32).toInt32).toInt8.toInt32)), (.int (((v30.toUInt32 >>> ((4 : Int32) &&& 31).toUInt32).toInt32).toInt8.toInt32)), (.int (0 : Int32)), (.int (0 : Int32)), (.int (0 : Int32))] (.int (0 : Int32)) := Arv.set Ar32 q32 S32 M32 H32 G32 (fits_byte_b (bnd_i2b ((v30.toUInt32 >>> ((4 : Int32) &&& 31).toUInt32).toInt32)) (by decide +kernel) (by decide +kernel)) W32' 1 rfl (Nat.le_of_ble_eq_true rfl)
 have O32 := O26.wr W32 g_b3
 have K32 : Keep h0 h32 ([] : List Addr) := Keep.wr K26 W32 (Or.inr (Nat.le_trans (Nat.le_refl _) (Nat.le_of_eq g3.symm)))
 have Cd32 := Cold.wr Cd26 W32 (Cold.safe Cd26 (List.mem_of_getElem? (i := 0) rfl))
 have N32 := Fr.snoc X32 N17 g_b3
 show Home T32 (mkF m 128 #[.val (.ref o0), .val (.ref b3), .val (.int (4 : Int32)), .val (.int v30), .val (.int (2 : Int32)), .val (.int (3 : Int32)), .val (.int v29)] [])
 refine Home.run X32 hx hby sg8_128_8 (pc' := 136) (L' := #[.val (.ref o0), .val (.ref b3), .val (.int (4 : Int32)), .val (.int (v30 &&& (15 : Int32))), .val (.int (2 : Int32)), .val (.int (3 : Int32)), .val (.int v29)]) (S' := []) rfl ?_
 obtain ⟨v33, hv33⟩ : ∃ z, z = (v30 &&& (15 : Int32)) := ⟨_, rfl⟩
 rw [← hv33]
 have bv33 : ¬ v33 < (0 : Int32) ∧ ¬ (15 : Int32) < v33 := by rw [hv33]; exact (bnd_and v30 (15 : Int32) (by decide))
 refine Home.run X32 hx hby sg8_136_4 (pc' := 55) (L' := #[.val (.ref o0), .val (.ref b3), .val (.int (4 : Int32)), .val (.int v33), .val (.int (2 : Int32)), .val (.int (4 : Int32)), .val (.int v29)]) (S' := [(.ref o0), (.int (4 : Int32))]) rfl ?_
 refine Home.st (own_pure (own_virtual X32 hx hZ hown (own_w41 hw) (own_w42 hw) (notFace_of_selects (args := #[]) (mvT hZ (own_w44 hw))) (own_w44 hw) (own_w43 hw) (own_w10 hw) (own_w45 hw) (by decide) (rm9_6 l Z a0 hw [] o0 p2 k_p2 u1 u2 u3 u4 u5 u6 u7 u8 sv_COMPACT_STRINGS h32 n0 O32 (F_value_o0.keep K32 nin0) (V_p2.keep K32 nin0) (E_o0.keep K32) S_COMPACT_STRINGS (F_coder_o0.keep K32 nin0) hCS) e32 (E_o0.keep K32) rfl (by rw [hml]; rfl) (argsL := []) (rest := [(.int (4 : Int32))]) (lenOf own_pd4 rfl) rfl rfl (W := 1) (by exact hW0) (by decide) (by decide) (hb hby d8_55) (by decide) (by decide))) fun T34 X34 e34 => ?_
 refine Home.go (fun _ => XS.icmpNo X34.here hx rfl (hb hby d8_58) rfl (tlt (by decide)).2.1) ?_
 obtain ⟨ad35, b35, k35, T35, h35, X35, e35, E35, hZ, hown, Cd35, Ea35, Fc35, Fv35, V35, la35, lb35, hne35, st35⟩ := own_ldcW X34 hx hZ hown (own_hEL hw) Cd32 (own_w51 hw) (own_wS hw) e34 (List.mem_of_getElem? (i := 0) rfl) (vs := own_T0) (z := (32 : Int32)) ⟨by decide, by rfl⟩ (by decide) (by decide) (g := (mkF m 61 #[.val (.ref o0), .val (.ref b3), .val (.int (4 : Int32)), .val (.int v33), .val (.int (2 : Int32)), .val (.int (4 : Int32)), .val (.int v29)] [])) rfl (hb hby d8_61) (n := 128) (by decide) (by decide) (by decide) (by decide)
 refine Home.go st35 ?_
 have O35 := O32.ext E35
 have K35 : Keep h0 h35 ([] : List Addr) := Keep.ext K32 E35
 refine Home.run X35 hx hby sg8_63_2 (pc' := 66) (L' := #[.val (.ref o0), .val (.ref b3), .val (.int (4 : Int32)), .val (.int v33), .val (.int (2 : Int32)), .val (.int (4 : Int32)), .val (.int v29)]) (S' := [(.int (4 : Int32)), (.ref o0), (.ref ad35)]) rfl ?_
 refine Home.st (own_pure (own_virtual X35 hx hZ hown (own_w54 hw) (own_w55 hw) (notFace_of_selects (args := #[]) (mvT hZ (own_w57 hw))) (own_w57 hw) (own_w56 hw) (own_w10 hw) (own_w58 hw) (by decide) (rm11_4 l Z a0 hw [] o0 (4 : Int32) sv_COMPACT_STRINGS p2 k_p2 u1 u2 u3 u4 u5 u6 u7 u8 sv_SIOOBE_FORMATTER h35 n0 O35 (bnd_mono (bnd_lit (4 : Int32)) (by decide +kernel) (by decide +kernel)) (E_o0.keep K35) S_COMPACT_STRINGS (F_coder_o0.keep K35 nin0) hCS (F_value_o0.keep K35 nin0) (V_p2.keep K35 nin0) S_SIOOBE_FORMATTER bnd_u1 bnd_u2 bnd_u3 bnd_u4 bnd_u5 bnd_u6 bnd_u7 bnd_u8 isr_sv_SIOOBE_FORMATTER) e35 (E_o0.keep K35) rfl (by rw [hml]; rfl) (argsL := [(.int (4 : Int32))]) (rest := [(.ref ad35)]) (lenOf own_pd14 rfl) rfl rfl (W := 1) (by exact hW0) (by decide) (by decide) (hb hby d8_66) (by decide) (by decide))) fun T36 X36 e36 => ?_
 show Home T36 (mkF m 69 #[.val (.ref o0), .val (.ref b3), .val (.int (4 : Int32)), .val (.int v33), .val (.int (2 : Int32)), .val (.int (4 : Int32)), .val (.int v29)] [(.int (u5 &&& (255 : Int32))), (.ref ad35)])
 refine Home.st (own_pure (own_virtual X36 hx hZ hown (own_w76 hw) (own_w77 hw) (notFace_of_selects (args := #[]) (mvT hZ (own_w79 hw))) (own_w79 hw) (own_w78 hw) (own_w10 hw) (own_w80 hw) (by decide) (rm16_0 l Z a0 hw [] ad35 (u5 &&& (255 : Int32)) sv_COMPACT_STRINGS b35 k35 h35 n0 O35 (bnd_and (own_at [u1, u2, u3, u4, u5, u6, u7, u8] (4 : Int32)) (255 : Int32) (by decide)) Ea35 S_COMPACT_STRINGS Fc35 Fv35 V35 hCS) e36 Ea35 rfl (by rw [hml]; rfl) (argsL := [(.int (u5 &&& (255 : Int32)))]) (rest := []) (lenOf own_pd18 rfl) rfl rfl (W := 0) (by exact hW0) (by decide) (by decide) (hb hby d8_69) (by decide) (by decide))) fun T37 X37 e37 => ?_
 refine Home.run X37 hx hby sg8_72_1 (pc' := 74) (L' := #[.val (.ref o0), .val (.ref b3), .val (.int (4 : Int32)), .val (.int v33), .val (.int (2 : Int32)), .val (.int (4 : Int32)), .val (.int (f_rm22_0 (u5 &&& (255 : Int32))))]) (S' := []) rfl ?_
 obtain ⟨v38, hv38⟩ : ∃ z, z = (f_rm22_0 (u5 &&& (255 : Int32))) := ⟨_, rfl⟩
 rw [← hv38]
 refine Home.run X37 hx hby sg8_74_1 (pc' := 76) (L' := #[.val (.ref o0), .val (.ref b3), .val (.int (4 : Int32)), .val (.int v33), .val (.int (2 : Int32)), .val (.int (4 : Int32)), .val (.int v38)]) (S' := [(.int v38)]) rfl ?_
 refine Home.go (fun _ => XS.ifYes X37.here hx rfl (pc0 := 76) (pc' := 98) rfl (hb hby d8_76) rfl ((if0 _ _).trans (flt (by rw [hv38]; exact nn804)).2.1) (by decide) (by decide)) ?_
 refine Home.run X37 hx hby sg8_98_6 (pc' := 105) (L' := #[.val (.ref o0), .val (.ref b3), .val (.int (4 : Int32)), .val (.int ((v33 <<< ((5 : Int32) &&& 31)) ||| v38)), .val (.int (2 : Int32)), .val (.int (4 : Int32)), .val (.int v38)]) (S' := []) rfl ?_
 obtain ⟨v39, hv39⟩ : ∃ z, z = ((v33 <<< ((5 : Int32) &&& 31)) ||| v38) := ⟨_, rfl⟩
 rw [← hv39]
 refine Home.run X37 hx hby sg8_105_3 (pc' := 111) (L' := #[.val (.ref o0), .val (.ref b3), .val (.int (9 : Int32)), .val (.int v39), .val (.int (2 : Int32)), .val (.int (4 : Int32)), .val (.int v38)]) (S' := [(.int (8 : Int32)), (.int (9 : Int32))]) rfl ?_
 refine Home.go (fun _ => XS.icmpNo X37.here hx rfl (hb hby d8_111) rfl (flt (by decide)).1) ?_
 refine Home.run X37 hx hby sg8_114_8 (pc' := 127) (L' := #[.val (.ref o0), .val (.ref b3), .val (.int (1 : Int32)), .val (.int v39), .val (.int (3 : Int32)), .val (.int (4 : Int32)), .val (.int v38)]) (S' := [(.int (((v39.toUInt32 >>> ((1 : Int32) &&& 31).toUInt32).toInt32).toInt8.toInt32)), (.int (2 : Int32)), (.ref b3)]) rfl ?_
 have q40 := (V32.ext E35)
 obtain ⟨cl41, Ar41, q41, S41, M41, H41, G41⟩ := id q40
 refine Home.wr (stB X37 hx hZ e37 Ar41 (j := (2 : Int32)) (inb_of S41 ⟨by decide, by decide⟩) rfl rfl (hb hby d8_127)) fun T41 h41 X41 e41 W41 => ?_
 have W41' := Wr.to W41 (congrArg Value.int (nar_byte_id (bnd_i2b ((v39.toUInt32 >>> ((1 : Int32) &&& 31).toUInt32).toInt32)) (by decide +kernel) (by decide +kernel)))
 have V41 : Arv Z h41 b3 k3 .byte (5 : Int32) [(.int (((v15.toUInt32 >>> ((2 : Int32) &&& 31).toUInt32).toInt32).toInt8.toInt32)), (.int (((v30.toUInt32 >>> ((4 : Int32) &&& 31).toUInt32).toInt32).toInt8.toInt32)), (.int (((v39.toUInt32 >>> ((1 : Int32) &&& 31).toUInt32).toInt32).toInt8.toInt32)), (.int (0 : Int32)), (.int (0 : Int32))] (.int (0 : Int32)) := Arv.set Ar41 q41 S41 M41 H41 G41 (fits_byte_b (bnd_i2b ((v39.toUInt32 >>> ((1 : Int32) &&& 31).toUInt32).toInt32)) (by decide +kernel) (by decide +kernel)) W41' 2 rfl (Nat.le_of_ble_eq_true rfl)
 have O41 := O35.wr W41 g_b3
 have K41 : Keep h0 h41 ([] : List Addr) := Keep.wr K35 W41 (Or.inr (Nat.le_trans (Nat.le_refl _) (Nat.le_of_eq g3.symm)))
 have Cd41 := Cold.wr Cd35 W41 (Cold.safe Cd35 (List.mem_of_getElem? (i := 0) rfl))
 have N41 := Fr.snoc X41 N32 g_b3
 show Home T41 (mkF m 128 #[.val (.ref o0), .val (.ref b3), .val (.int (1 : Int32)), .val (.int v39), .val (.int (3 : Int32)), .val (.int (4 : Int32)), .val (.int v38)] [])
 refine Home.run X41 hx hby sg8_128_8 (pc' := 136) (L' := #[.val (.ref o0), .val (.ref b3), .val (.int (1 : Int32)), .val (.int (v39 &&& (1 : Int32))), .val (.int (3 : Int32)), .val (.int (4 : Int32)), .val (.int v38)]) (S' := []) rfl ?_
 obtain ⟨v42, hv42⟩ : ∃ z, z = (v39 &&& (1 : Int32)) := ⟨_, rfl⟩
 rw [← hv42]
 have bv42 : ¬ v42 < (0 : Int32) ∧ ¬ (1 : Int32) < v42 := by rw [hv42]; exact (bnd_and v39 (1 : Int32) (by decide))
 refine Home.run X41 hx hby sg8_136_4 (pc' := 55) (L' := #[.val (.ref o0), .val (.ref b3), .val (.int (1 : Int32)), .val (.int v42), .val (.int (3 : Int32)), .val (.int (5 : Int32)), .val (.int v38)]) (S' := [(.ref o0), (.int (5 : Int32))]) rfl ?_
 refine Home.st (own_pure (own_virtual X41 hx hZ hown (own_w41 hw) (own_w42 hw) (notFace_of_selects (args := #[]) (mvT hZ (own_w44 hw))) (own_w44 hw) (own_w43 hw) (own_w10 hw) (own_w45 hw) (by decide) (rm9_6 l Z a0 hw [] o0 p2 k_p2 u1 u2 u3 u4 u5 u6 u7 u8 sv_COMPACT_STRINGS h41 n0 O41 (F_value_o0.keep K41 nin0) (V_p2.keep K41 nin0) (E_o0.keep K41) S_COMPACT_STRINGS (F_coder_o0.keep K41 nin0) hCS) e41 (E_o0.keep K41) rfl (by rw [hml]; rfl) (argsL := []) (rest := [(.int (5 : Int32))]) (lenOf own_pd4 rfl) rfl rfl (W := 1) (by exact hW0) (by decide) (by decide) (hb hby d8_55) (by decide) (by decide))) fun T43 X43 e43 => ?_
 refine Home.go (fun _ => XS.icmpNo X43.here hx rfl (hb hby d8_58) rfl (tlt (by decide)).2.1) ?_
 obtain ⟨ad44, b44, k44, T44, h44, X44, e44, E44, hZ, hown, Cd44, Ea44, Fc44, Fv44, V44, la44, lb44, hne44, st44⟩ := own_ldcW X43 hx hZ hown (own_hEL hw) Cd41 (own_w51 hw) (own_wS hw) e43 (List.mem_of_getElem? (i := 0) rfl) (vs := own_T0) (z := (32 : Int32)) ⟨by decide, by rfl⟩ (by decide) (by decide) (g := (mkF m 61 #[.val (.ref o0), .val (.ref b3), .val (.int (1 : Int32)), .val (.int v42), .val (.int (3 : Int32)), .val (.int (5 : Int32)), .val (.int v38)] [])) rfl (hb hby d8_61) (n := 128) (by decide) (by decide) (by decide) (by decide)
 refine Home.go st44 ?_
 have O44 := O41.ext E44
 have K44 : Keep h0 h44 ([] : List Addr) := Keep.ext K41 E44
 refine Home.run X44 hx hby sg8_63_2 (pc' := 66) (L' := #[.val (.ref o0), .val (.ref b3), .val (.int (1 : Int32)), .val (.int v42), .val (.int (3 : Int32)), .val (.int (5 : Int32)), .val (.int v38)]) (S' := [(.int (5 : Int32)), (.ref o0), (.ref ad44)]) rfl ?_
 refine Home.st (own_pure (own_virtual X44 hx hZ hown (own_w54 hw) (own_w55 hw) (notFace_of_selects (args := #[]) (mvT hZ (own_w57 hw))) (own_w57 hw) (own_w56 hw) (own_w10 hw) (own_w58 hw) (by decide) (rm11_4 l Z a0 hw [] o0 (5 : Int32) sv_COMPACT_STRINGS p2 k_p2 u1 u2 u3 u4 u5 u6 u7 u8 sv_SIOOBE_FORMATTER h44 n0 O44 (bnd_mono (bnd_lit (5 : Int32)) (by decide +kernel) (by decide +kernel)) (E_o0.keep K44) S_COMPACT_STRINGS (F_coder_o0.keep K44 nin0) hCS (F_value_o0.keep K44 nin0) (V_p2.keep K44 nin0) S_SIOOBE_FORMATTER bnd_u1 bnd_u2 bnd_u3 bnd_u4 bnd_u5 bnd_u6 bnd_u7 bnd_u8 isr_sv_SIOOBE_FORMATTER) e44 (E_o0.keep K44) rfl (by rw [hml]; rfl) (argsL := [(.int (5 : Int32))]) (rest := [(.ref ad44)]) (lenOf own_pd14 rfl) rfl rfl (W := 1) (by exact hW0) (by decide) (by decide) (hb hby d8_66) (by decide) (by decide))) fun T45 X45 e45 => ?_
 show Home T45 (mkF m 69 #[.val (.ref o0), .val (.ref b3), .val (.int (1 : Int32)), .val (.int v42), .val (.int (3 : Int32)), .val (.int (5 : Int32)), .val (.int v38)] [(.int (u6 &&& (255 : Int32))), (.ref ad44)])
 refine Home.st (own_pure (own_virtual X45 hx hZ hown (own_w76 hw) (own_w77 hw) (notFace_of_selects (args := #[]) (mvT hZ (own_w79 hw))) (own_w79 hw) (own_w78 hw) (own_w10 hw) (own_w80 hw) (by decide) (rm16_0 l Z a0 hw [] ad44 (u6 &&& (255 : Int32)) sv_COMPACT_STRINGS b44 k44 h44 n0 O44 (bnd_and (own_at [u1, u2, u3, u4, u5, u6, u7, u8] (5 : Int32)) (255 : Int32) (by decide)) Ea44 S_COMPACT_STRINGS Fc44 Fv44 V44 hCS) e45 Ea44 rfl (by rw [hml]; rfl) (argsL := [(.int (u6 &&& (255 : Int32)))]) (rest := []) (lenOf own_pd18 rfl) rfl rfl (W := 0) (by exact hW0) (by decide) (by decide) (hb hby d8_69) (by decide) (by decide))) fun T46 X46 e46 => ?_
 refine Home.run X46 hx hby sg8_72_1 (pc' := 74) (L' := #[.val (.ref o0), .val (.ref b3), .val (.int (1 : Int32)), .val (.int v42), .val (.int (3 : Int32)), .val (.int (5 : Int32)), .val (.int (f_rm22_0 (u6 &&& (255 : Int32))))]) (S' := []) rfl ?_
 obtain ⟨v47, hv47⟩ : ∃ z, z = (f_rm22_0 (u6 &&& (255 : Int32))) := ⟨_, rfl⟩
 rw [← hv47]
 refine Home.run X46 hx hby sg8_74_1 (pc' := 76) (L' := #[.val (.ref o0), .val (.ref b3), .val (.int (1 : Int32)), .val (.int v42), .val (.int (3 : Int32)), .val (.int (5 : Int32)), .val (.int v47)]) (S' := [(.int v47)]) rfl ?_
 refine Home.go (fun _ => XS.ifYes X46.here hx rfl (pc0 := 76) (pc' := 98) rfl (hb hby d8_76) rfl ((if0 _ _).trans (flt (by rw [hv47]; exact nn805)).2.1) (by decide) (by decide)) ?_
 refine Home.run X46 hx hby sg8_98_6 (pc' := 105) (L' := #[.val (.ref o0), .val (.ref b3), .val (.int (1 : Int32)), .val (.int ((v42 <<< ((5 : Int32) &&& 31)) ||| v47)), .val (.int (3 : Int32)), .val (.int (5 : Int32)), .val (.int v47)]) (S' := []) rfl ?_
 obtain ⟨v48, hv48⟩ : ∃ z, z = ((v42 <<< ((5 : Int32) &&& 31)) ||| v47) := ⟨_, rfl⟩
 rw [← hv48]
 refine Home.run X46 hx hby sg8_105_3 (pc' := 111) (L' := #[.val (.ref o0), .val (.ref b3), .val (.int (6 : Int32)), .val (.int v48), .val (.int (3 : Int32)), .val (.int (5 : Int32)), .val (.int v47)]) (S' := [(.int (8 : Int32)), (.int (6 : Int32))]) rfl ?_
 refine Home.go (fun _ => XS.icmpYes X46.here hx rfl (pc0 := 111) (pc' := 136) rfl (hb hby d8_111) rfl (tlt (by decide)).1 (by decide) (by decide)) ?_
 refine Home.run X46 hx hby sg8_136_4 (pc' := 55) (L' := #[.val (.ref o0), .val (.ref b3), .val (.int (6 : Int32)), .val (.int v48), .val (.int (3 : Int32)), .val (.int (6 : Int32)), .val (.int v47)]) (S' := [(.ref o0), (.int (6 : Int32))]) rfl ?_
 refine Home.st (own_pure (own_virtual X46 hx hZ hown (own_w41 hw) (own_w42 hw) (notFace_of_selects (args := #[]) (mvT hZ (own_w44 hw))) (own_w44 hw) (own_w43 hw) (own_w10 hw) (own_w45 hw) (by decide) (rm9_6 l Z a0 hw [] o0 p2 k_p2 u1 u2 u3 u4 u5 u6 u7 u8 sv_COMPACT_STRINGS h44 n0 O44 (F_value_o0.keep K44 nin0) (V_p2.keep K44 nin0) (E_o0.keep K44) S_COMPACT_STRINGS (F_coder_o0.keep K44 nin0) hCS) e46 (E_o0.keep K44) rfl (by rw [hml]; rfl) (argsL := []) (rest := [(.int (6 : Int32))]) (lenOf own_pd4 rfl) rfl rfl (W := 1) (by exact hW0) (by decide) (by decide) (hb hby d8_55) (by decide) (by decide))) fun T49 X49 e49 => ?_
 refine Home.go (fun _ => XS.icmpNo X49.here hx rfl (hb hby d8_58) rfl (tlt (by decide)).2.1) ?_
 obtain ⟨ad50, b50, k50, T50, h50, X50, e50, E50, hZ, hown, Cd50, Ea50, Fc50, Fv50, V50, la50, lb50, hne50, st50⟩ := own_ldcW X49 hx hZ hown (own_hEL hw) Cd44 (own_w51 hw) (own_wS hw) e49 (List.mem_of_getElem? (i := 0) rfl) (vs := own_T0) (z := (32 : Int32)) ⟨by decide, by rfl⟩ (by decide) (by decide) (g := (mkF m 61 #[.val (.ref o0), .val (.ref b3), .val (.int (6 : Int32)), .val (.int v48), .val (.int (3 : Int32)), .val (.int (6 : Int32)), .val (.int v47)] [])) rfl (hb hby d8_61) (n := 128) (by decide) (by decide) (by decide) (by decide)
 refine Home.go st50 ?_
 have O50 := O44.ext E50
 have K50 : Keep h0 h50 ([] : List Addr) := Keep.ext K44 E50
 show Home T50 (mkF m 63 #[.val (.ref o0), .val (.ref b3), .val (.int (6 : Int32)), .val (.int v48), .val (.int (3 : Int32)), .val (.int (6 : Int32)), .val (.int v47)] [(.ref ad50)])
 refine Home.run X50 hx hby sg8_63_2 (pc' := 66) (L' := #[.val (.ref o0), .val (.ref b3), .val (.int (6 : Int32)), .val (.int v48), .val (.int (3 : Int32)), .val (.int (6 : Int32)), .val (.int v47)]) (S' := [(.int (6 : Int32)), (.ref o0), (.ref ad50)]) rfl ?_
 refine Home.st (own_pure (own_virtual X50 hx hZ hown (own_w54 hw) (own_w55 hw) (notFace_of_selects (args := #[]) (mvT hZ (own_w57 hw))) (own_w57 hw) (own_w56 hw) (own_w10 hw) (own_w58 hw) (by decide) (rm11_4 l Z a0 hw [] o0 (6 : Int32) sv_COMPACT_STRINGS p2 k_p2 u1 u2 u3 u4 u5 u6 u7 u8 sv_SIOOBE_FORMATTER h50 n0 O50 (bnd_mono (bnd_lit (6 : Int32)) (by decide +kernel) (by decide +kernel)) (E_o0.keep K50) S_COMPACT_STRINGS (F_coder_o0.keep K50 nin0) hCS (F_value_o0.keep K50 nin0) (V_p2.keep K50 nin0) S_SIOOBE_FORMATTER bnd_u1 bnd_u2 bnd_u3 bnd_u4 bnd_u5 bnd_u6 bnd_u7 bnd_u8 isr_sv_SIOOBE_FORMATTER) e50 (E_o0.keep K50) rfl (by rw [hml]; rfl) (argsL := [(.int (6 : Int32))]) (rest := [(.ref ad50)]) (lenOf own_pd14 rfl) rfl rfl (W := 1) (by exact hW0) (by decide) (by decide) (hb hby d8_66) (by decide) (by decide))) fun T51 X51 e51 => ?_
 show Home T51 (mkF m 69 #[.val (.ref o0), .val (.ref b3), .val (.int (6 : Int32)), .val (.int v48), .val (.int (3 : Int32)), .val (.int (6 : Int32)), .val (.int v47)] [(.int (u7 &&& (255 : Int32))), (.ref ad50)])
 refine Home.st (own_pure (own_virtual X51 hx hZ hown (own_w76 hw) (own_w77 hw) (notFace_of_selects (args := #[]) (mvT hZ (own_w79 hw))) (own_w79 hw) (own_w78 hw) (own_w10 hw) (own_w80 hw) (by decide) (rm16_0 l Z a0 hw [] ad50 (u7 &&& (255 : Int32)) sv_COMPACT_STRINGS b50 k50 h50 n0 O50 (bnd_and (own_at [u1, u2, u3, u4, u5, u6, u7, u8] (6 : Int32)) (255 : Int32) (by decide)) Ea50 S_COMPACT_STRINGS Fc50 Fv50 V50 hCS) e51 Ea50 rfl (by rw [hml]; rfl) (argsL := [(.int (u7 &&& (255 : Int32)))]) (rest := []) (lenOf own_pd18 rfl) rfl rfl (W := 0) (by exact hW0) (by decide) (by decide) (hb hby d8_69) (by decide) (by decide))) fun T52 X52 e52 => ?_
 refine Home.run X52 hx hby sg8_72_1 (pc' := 74) (L' := #[.val (.ref o0), .val (.ref b3), .val (.int (6 : Int32)), .val (.int v48), .val (.int (3 : Int32)), .val (.int (6 : Int32)), .val (.int (f_rm22_0 (u7 &&& (255 : Int32))))]) (S' := []) rfl ?_
 obtain ⟨v53, hv53⟩ : ∃ z, z = (f_rm22_0 (u7 &&& (255 : Int32))) := ⟨_, rfl⟩
 rw [← hv53]
 refine Home.run X52 hx hby sg8_74_1 (pc' := 76) (L' := #[.val (.ref o0), .val (.ref b3), .val (.int (6 : Int32)), .val (.int v48), .val (.int (3 : Int32)), .val (.int (6 : Int32)), .val (.int v53)]) (S' := [(.int v53)]) rfl ?_
 refine Home.go (fun _ => XS.ifYes X52.here hx rfl (pc0 := 76) (pc' := 98) rfl (hb hby d8_76) rfl ((if0 _ _).trans (flt (by rw [hv53]; exact nn806)).2.1) (by decide) (by decide)) ?_
 refine Home.run X52 hx hby sg8_98_6 (pc' := 105) (L' := #[.val (.ref o0), .val (.ref b3), .val (.int (6 : Int32)), .val (.int ((v48 <<< ((5 : Int32) &&& 31)) ||| v53)), .val (.int (3 : Int32)), .val (.int (6 : Int32)), .val (.int v53)]) (S' := []) rfl ?_
 obtain ⟨v54, hv54⟩ : ∃ z, z = ((v48 <<< ((5 : Int32) &&& 31)) ||| v53) := ⟨_, rfl⟩
 rw [← hv54]
 refine Home.run X52 hx hby sg8_105_3 (pc' := 111) (L' := #[.val (.ref o0), .val (.ref b3), .val (.int (11 : Int32)), .val (.int v54), .val (.int (3 : Int32)), .val (.int (6 : Int32)), .val (.int v53)]) (S' := [(.int (8 : Int32)), (.int (11 : Int32))]) rfl ?_
 refine Home.go (fun _ => XS.icmpNo X52.here hx rfl (hb hby d8_111) rfl (flt (by decide)).1) ?_
 refine Home.run X52 hx hby sg8_114_8 (pc' := 127) (L' := #[.val (.ref o0), .val (.ref b3), .val (.int (3 : Int32)), .val (.int v54), .val (.int (4 : Int32)), .val (.int (6 : Int32)), .val (.int v53)]) (S' := [(.int (((v54.toUInt32 >>> ((3 : Int32) &&& 31).toUInt32).toInt32).toInt8.toInt32)), (.int (3 : Int32)), (.ref b3)]) rfl ?_
 have q55 := ((V41.ext E44).ext E50)
 obtain ⟨cl56, Ar56, q56, S56, M56, H56, G56⟩ := id q55
 refine Home.wr (stB X52 hx hZ e52 Ar56 (j := (3 : Int32)) (inb_of S56 ⟨by decide, by decide⟩) rfl rfl (hb hby d8_127)) fun T56 h56 X56 e56 W56 => ?_
 have W56' := Wr.to W56 (congrArg Value.int (nar_byte_id (bnd_i2b ((v54.toUInt32 >>> ((3 : Int32) &&& 31).toUInt32).toInt32)) (by decide +kernel) (by decide +kernel)))
 have V56 : Arv Z h56 b3 k3 .byte (5 : Int32) [(.int (((v15.toUInt32 >>> ((2 : Int32) &&& 31).toUInt32).toInt32).toInt8.toInt32)), (.int (((v30.toUInt32 >>> ((4 : Int32) &&& 31).toUInt32).toInt32).toInt8.toInt32)), (.int (((v39.toUInt32 >>> ((1 : Int32) &&& 31).toUInt32).toInt32).toInt8.toInt32)), (.int (((v54.toUInt32 >>> ((3 : Int32) &&& 31).toUInt32).toInt32).toInt8.toInt32)), (.int (0 : Int32))] (.int (0 : Int32)) := Arv.set Ar56 q56 S56 M56 H56 G56 (fits_byte_b (bnd_i2b ((v54.toUInt32 >>> ((3 : Int32) &&& 31).toUInt32).toInt32)) (by decide +kernel) (by decide +kernel)) W56' 3 rfl (Nat.le_of_ble_eq_true rfl)
 have O56 := O50.wr W56 g_b3
 have K56 : Keep h0 h56 ([] : List Addr) := Keep.wr K50 W56 (Or.inr (Nat.le_trans (Nat.le_refl _) (Nat.le_of_eq g3.symm)))
 have Cd56 := Cold.wr Cd50 W56 (Cold.safe Cd50 (List.mem_of_getElem? (i := 0) rfl))
 have N56 := Fr.snoc X56 N41 g_b3
 show Home T56 (mkF m 128 #[.val (.ref o0), .val (.ref b3), .val (.int (3 : Int32)), .val (.int v54), .val (.int (4 : Int32)), .val (.int (6 : Int32)), .val (.int v53)] [])
 refine Home.run X56 hx hby sg8_128_8 (pc' := 136) (L' := #[.val (.ref o0), .val (.ref b3), .val (.int (3 : Int32)), .val (.int (v54 &&& (7 : Int32))), .val (.int (4 : Int32)), .val (.int (6 : Int32)), .val (.int v53)]) (S' := []) rfl ?_
 obtain ⟨v57, hv57⟩ : ∃ z, z = (v54 &&& (7 : Int32)) := ⟨_, rfl⟩
 rw [← hv57]
 have bv57 : ¬ v57 < (0 : Int32) ∧ ¬ (7 : Int32) < v57 := by rw [hv57]; exact (bnd_and v54 (7 : Int32) (by decide))
 refine Home.run X56 hx hby sg8_136_4 (pc' := 55) (L' := #[.val (.ref o0), .val (.ref b3), .val (.int (3 : Int32)), .val (.int v57), .val (.int (4 : Int32)), .val (.int (7 : Int32)), .val (.int v53)]) (S' := [(.ref o0), (.int (7 : Int32))]) rfl ?_
 refine Home.st (own_pure (own_virtual X56 hx hZ hown (own_w41 hw) (own_w42 hw) (notFace_of_selects (args := #[]) (mvT hZ (own_w44 hw))) (own_w44 hw) (own_w43 hw) (own_w10 hw) (own_w45 hw) (by decide) (rm9_6 l Z a0 hw [] o0 p2 k_p2 u1 u2 u3 u4 u5 u6 u7 u8 sv_COMPACT_STRINGS h56 n0 O56 (F_value_o0.keep K56 nin0) (V_p2.keep K56 nin0) (E_o0.keep K56) S_COMPACT_STRINGS (F_coder_o0.keep K56 nin0) hCS) e56 (E_o0.keep K56) rfl (by rw [hml]; rfl) (argsL := []) (rest := [(.int (7 : Int32))]) (lenOf own_pd4 rfl) rfl rfl (W := 1) (by exact hW0) (by decide) (by decide) (hb hby d8_55) (by decide) (by decide))) fun T58 X58 e58 => ?_
 refine Home.go (fun _ => XS.icmpNo X58.here hx rfl (hb hby d8_58) rfl (tlt (by decide)).2.1) ?_
 obtain ⟨ad59, b59, k59, T59, h59, X59, e59, E59, hZ, hown, Cd59, Ea59, Fc59, Fv59, V59, la59, lb59, hne59, st59⟩ := own_ldcW X58 hx hZ hown (own_hEL hw) Cd56 (own_w51 hw) (own_wS hw) e58 (List.mem_of_getElem? (i := 0) rfl) (vs := own_T0) (z := (32 : Int32)) ⟨by decide, by rfl⟩ (by decide) (by decide) (g := (mkF m 61 #[.val (.ref o0), .val (.ref b3), .val (.int (3 : Int32)), .val (.int v57), .val (.int (4 : Int32)), .val (.int (7 : Int32)), .val (.int v53)] [])) rfl (hb hby d8_61) (n := 128) (by decide) (by decide) (by decide) (by decide)
 refine Home.go st59 ?_
 have O59 := O56.ext E59
 have K59 : Keep h0 h59 ([] : List Addr) := Keep.ext K56 E59
 refine Home.run X59 hx hby sg8_63_2 (pc' := 66) (L' := #[.val (.ref o0), .val (.ref b3), .val (.int (3 : Int32)), .val (.int v57), .val (.int (4 : Int32)), .val (.int (7 : Int32)), .val (.int v53)]) (S' := [(.int (7 : Int32)), (.ref o0), (.ref ad59)]) rfl ?_
 refine Home.st (own_pure (own_virtual X59 hx hZ hown (own_w54 hw) (own_w55 hw) (notFace_of_selects (args := #[]) (mvT hZ (own_w57 hw))) (own_w57 hw) (own_w56 hw) (own_w10 hw) (own_w58 hw) (by decide) (rm11_4 l Z a0 hw [] o0 (7 : Int32) sv_COMPACT_STRINGS p2 k_p2 u1 u2 u3 u4 u5 u6 u7 u8 sv_SIOOBE_FORMATTER h59 n0 O59 (bnd_mono (bnd_lit (7 : Int32)) (by decide +kernel) (by decide +kernel)) (E_o0.keep K59) S_COMPACT_STRINGS (F_coder_o0.keep K59 nin0) hCS (F_value_o0.keep K59 nin0) (V_p2.keep K59 nin0) S_SIOOBE_FORMATTER bnd_u1 bnd_u2 bnd_u3 bnd_u4 bnd_u5 bnd_u6 bnd_u7 bnd_u8 isr_sv_SIOOBE_FORMATTER) e59 (E_o0.keep K59) rfl (by rw [hml]; rfl) (argsL := [(.int (7 : Int32))]) (rest := [(.ref ad59)]) (lenOf own_pd14 rfl) rfl rfl (W := 1) (by exact hW0) (by decide) (by decide) (hb hby d8_66) (by decide) (by decide))) fun T60 X60 e60 => ?_
 show Home T60 (mkF m 69 #[.val (.ref o0), .val (.ref b3), .val (.int (3 : Int32)), .val (.int v57), .val (.int (4 : Int32)), .val (.int (7 : Int32)), .val (.int v53)] [(.int (u8 &&& (255 : Int32))), (.ref ad59)])
 refine Home.st (own_pure (own_virtual X60 hx hZ hown (own_w76 hw) (own_w77 hw) (notFace_of_selects (args := #[]) (mvT hZ (own_w79 hw))) (own_w79 hw) (own_w78 hw) (own_w10 hw) (own_w80 hw) (by decide) (rm16_0 l Z a0 hw [] ad59 (u8 &&& (255 : Int32)) sv_COMPACT_STRINGS b59 k59 h59 n0 O59 (bnd_and (own_at [u1, u2, u3, u4, u5, u6, u7, u8] (7 : Int32)) (255 : Int32) (by decide)) Ea59 S_COMPACT_STRINGS Fc59 Fv59 V59 hCS) e60 Ea59 rfl (by rw [hml]; rfl) (argsL := [(.int (u8 &&& (255 : Int32)))]) (rest := []) (lenOf own_pd18 rfl) rfl rfl (W := 0) (by exact hW0) (by decide) (by decide) (hb hby d8_69) (by decide) (by decide))) fun T61 X61 e61 => ?_
 refine Home.run X61 hx hby sg8_72_1 (pc' := 74) (L' := #[.val (.ref o0), .val (.ref b3), .val (.int (3 : Int32)), .val (.int v57), .val (.int (4 : Int32)), .val (.int (7 : Int32)), .val (.int (f_rm22_0 (u8 &&& (255 : Int32))))]) (S' := []) rfl ?_
 obtain ⟨v62, hv62⟩ : ∃ z, z = (f_rm22_0 (u8 &&& (255 : Int32))) := ⟨_, rfl⟩
 rw [← hv62]
 refine Home.run X61 hx hby sg8_74_1 (pc' := 76) (L' := #[.val (.ref o0), .val (.ref b3), .val (.int (3 : Int32)), .val (.int v57), .val (.int (4 : Int32)), .val (.int (7 : Int32)), .val (.int v62)]) (S' := [(.int v62)]) rfl ?_
 refine Home.go (fun _ => XS.ifYes X61.here hx rfl (pc0 := 76) (pc' := 98) rfl (hb hby d8_76) rfl ((if0 _ _).trans (flt (by rw [hv62]; exact nn807)).2.1) (by decide) (by decide)) ?_
 refine Home.run X61 hx hby sg8_98_6 (pc' := 105) (L' := #[.val (.ref o0), .val (.ref b3), .val (.int (3 : Int32)), .val (.int ((v57 <<< ((5 : Int32) &&& 31)) ||| v62)), .val (.int (4 : Int32)), .val (.int (7 : Int32)), .val (.int v62)]) (S' := []) rfl ?_
 obtain ⟨v63, hv63⟩ : ∃ z, z = ((v57 <<< ((5 : Int32) &&& 31)) ||| v62) := ⟨_, rfl⟩
 rw [← hv63]
 refine Home.run X61 hx hby sg8_105_3 (pc' := 111) (L' := #[.val (.ref o0), .val (.ref b3), .val (.int (8 : Int32)), .val (.int v63), .val (.int (4 : Int32)), .val (.int (7 : Int32)), .val (.int v62)]) (S' := [(.int (8 : Int32)), (.int (8 : Int32))]) rfl ?_
 refine Home.go (fun _ => XS.icmpNo X61.here hx rfl (hb hby d8_111) rfl (flt (by decide)).1) ?_
 refine Home.run X61 hx hby sg8_114_8 (pc' := 127) (L' := #[.val (.ref o0), .val (.ref b3), .val (.int (0 : Int32)), .val (.int v63), .val (.int (5 : Int32)), .val (.int (7 : Int32)), .val (.int v62)]) (S' := [(.int (((v63.toUInt32 >>> ((0 : Int32) &&& 31).toUInt32).toInt32).toInt8.toInt32)), (.int (4 : Int32)), (.ref b3)]) rfl ?_
 have q64 := (V56.ext E59)
 obtain ⟨cl65, Ar65, q65, S65, M65, H65, G65⟩ := id q64
 refine Home.wr (stB X61 hx hZ e61 Ar65 (j := (4 : Int32)) (inb_of S65 ⟨by decide, by decide⟩) rfl rfl (hb hby d8_127)) fun T65 h65 X65 e65 W65 => ?_
 have W65' := Wr.to W65 (congrArg Value.int (nar_byte_id (bnd_i2b ((v63.toUInt32 >>> ((0 : Int32) &&& 31).toUInt32).toInt32)) (by decide +kernel) (by decide +kernel)))
 have V65 : Arv Z h65 b3 k3 .byte (5 : Int32) [(.int (((v15.toUInt32 >>> ((2 : Int32) &&& 31).toUInt32).toInt32).toInt8.toInt32)), (.int (((v30.toUInt32 >>> ((4 : Int32) &&& 31).toUInt32).toInt32).toInt8.toInt32)), (.int (((v39.toUInt32 >>> ((1 : Int32) &&& 31).toUInt32).toInt32).toInt8.toInt32)), (.int (((v54.toUInt32 >>> ((3 : Int32) &&& 31).toUInt32).toInt32).toInt8.toInt32)), (.int (((v63.toUInt32 >>> ((0 : Int32) &&& 31).toUInt32).toInt32).toInt8.toInt32))] (.int (0 : Int32)) := Arv.set Ar65 q65 S65 M65 H65 G65 (fits_byte_b (bnd_i2b ((v63.toUInt32 >>> ((0 : Int32) &&& 31).toUInt32).toInt32)) (by decide +kernel) (by decide +kernel)) W65' 4 rfl (Nat.le_of_ble_eq_true rfl)
 have O65 := O59.wr W65 g_b3
 have K65 : Keep h0 h65 ([] : List Addr) := Keep.wr K59 W65 (Or.inr (Nat.le_trans (Nat.le_refl _) (Nat.le_of_eq g3.symm)))
 have Cd65 := Cold.wr Cd59 W65 (Cold.safe Cd59 (List.mem_of_getElem? (i := 0) rfl))
 have N65 := Fr.snoc X65 N56 g_b3
 show Home T65 (mkF m 128 #[.val (.ref o0), .val (.ref b3), .val (.int (0 : Int32)), .val (.int v63), .val (.int (5 : Int32)), .val (.int (7 : Int32)), .val (.int v62)] [])
 refine Home.run X65 hx hby sg8_128_8 (pc' := 136) (L' := #[.val (.ref o0), .val (.ref b3), .val (.int (0 : Int32)), .val (.int (v63 &&& (0 : Int32))), .val (.int (5 : Int32)), .val (.int (7 : Int32)), .val (.int v62)]) (S' := []) rfl ?_
 obtain ⟨v66, hv66⟩ : ∃ z, z = (v63 &&& (0 : Int32)) := ⟨_, rfl⟩
 rw [← hv66]
 have bv66 : ¬ v66 < (0 : Int32) ∧ ¬ (0 : Int32) < v66 := by rw [hv66]; exact (bnd_and v63 (0 : Int32) (by decide))
 refine Home.run X65 hx hby sg8_136_4 (pc' := 55) (L' := #[.val (.ref o0), .val (.ref b3), .val (.int (0 : Int32)), .val (.int v66), .val (.int (5 : Int32)), .val (.int (8 : Int32)), .val (.int v62)]) (S' := [(.ref o0), (.int (8 : Int32))]) rfl ?_
 refine Home.st (own_pure (own_virtual X65 hx hZ hown (own_w41 hw) (own_w42 hw) (notFace_of_selects (args := #[]) (mvT hZ (own_w44 hw))) (own_w44 hw) (own_w43 hw) (own_w10 hw) (own_w45 hw) (by decide) (rm9_6 l Z a0 hw [] o0 p2 k_p2 u1 u2 u3 u4 u5 u6 u7 u8 sv_COMPACT_STRINGS h65 n0 O65 (F_value_o0.keep K65 nin0) (V_p2.keep K65 nin0) (E_o0.keep K65) S_COMPACT_STRINGS (F_coder_o0.keep K65 nin0) hCS) e65 (E_o0.keep K65) rfl (by rw [hml]; rfl) (argsL := []) (rest := [(.int (8 : Int32))]) (lenOf own_pd4 rfl) rfl rfl (W := 1) (by exact hW0) (by decide) (by decide) (hb hby d8_55) (by decide) (by decide))) fun T67 X67 e67 => ?_
 refine Home.go (fun _ => XS.icmpYes X67.here hx rfl (pc0 := 58) (pc' := 142) rfl (hb hby d8_58) rfl (flt (by decide)).2.1 (by decide) (by decide)) ?_
 refine Home.run X67 hx hby sg8_142_1 (pc' := 143) (L' := #[.val (.ref o0), .val (.ref b3), .val (.int (0 : Int32)), .val (.int v66), .val (.int (5 : Int32)), .val (.int (8 : Int32)), .val (.int v62)]) (S' := [(.int v66)]) rfl ?_
 refine Home.go (fun _ => XS.ifYes X67.here hx rfl (pc0 := 143) (pc' := 156) rfl (hb hby d8_143) rfl ((if0 _ _).trans (teq (by rw [hv66, hv63, hv57, hv54, hv48, hv42, hv39, hv33, hv30, hv24, hv18, hv15, hv9, hv8, hv14, hv23, hv29, hv38, hv47, hv53, hv62]; exact nn808)).1) (by decide) (by decide)) ?_
 refine Home.run X67 hx hby sg8_156_1 (pc' := 157) (L' := #[.val (.ref o0), .val (.ref b3), .val (.int (0 : Int32)), .val (.int v66), .val (.int (5 : Int32)), .val (.int (8 : Int32)), .val (.int v62)]) (S' := [(.ref b3)]) rfl ?_
 subst hv66
 subst hv63
 subst hv62
 subst hv57
 subst hv54
 subst hv53
 subst hv48
 subst hv47
 subst hv42
 subst hv39
 subst hv38
 subst hv33
 subst hv30
 subst hv29
 subst hv24
 subst hv23
 subst hv18
 subst hv15
 subst hv14
 subst hv9
 subst hv8
 exact HomeW.retR X67 hx hlk hZ (own_hEL hw) e67 Cd65 (fun _ _ q => by cases q; exact (List.mem_of_getElem? (i := 0) rfl)) hret rfl rfl (hb hby d8_157) (by rw [show T67.heap = h65 from e67]; exact ⟨b3, k3, rfl, N65, (Nat.le_trans (Nat.le_refl _) (Nat.le_of_eq g3.symm)), K65, V65⟩) (by decide) (by decide)
theorem rm23_5 (l : Launch) (Z : State) (a0 : Array Value) (hw : HW a0 Z) (ws : List Jvm.Cond) (o0 : Addr) (j1 : Int64) (i3 : Int32) (k_o0 : ClassId) (u1 u2 u3 u4 u5 : Int32) (h0 : Heap) (n0 : Nat) (O0 : Old Z n0 h0) (bnd_i3 : ¬ i3 < (0 : Int32) ∧ ¬ (4 : Int32) < i3) (V_o0 : Arv Z h0 o0 k_o0 .byte (5 : Int32) [(.int u1), (.int u2), (.int u3), (.int u4), (.int u5)] (.int (0 : Int32))) :
    Con l Z (⟨"com/example/tryst/tryst/encoding/Base32DecodePinLaw", "byteOk", "([BJII)Z"⟩ : MethodName) method_3_code 5 (some .boolean) ws ({ frames := 0, cells := 0, slots := 0, locals := 0 } : Room) #[(.ref o0), (.long j1), (.int (5 : Int32)), (.int i3)] h0 (Pur (some (.int (f_rm23_5 j1 i3 u1 u2 u3 u4 u5))) h0) := by
 refine own_body (plainFor_of_name own_pn0) (fun m => ef_rm23_5 m o0 j1 (5 : Int32) i3) ?_
 intro p e s m below meth c s₁ hx hby hlk hml hret hZ hown hnm X0 e0
 have N0 := Fr.nil n0
 refine Home.run X0 hx hby sg23_0_2 (pc' := 3) (L' := #[.val (.ref o0), .val (.long j1), .second, .val (.int (5 : Int32)), .val (.int i3)]) (S' := [(.int (5 : Int32)), (.int i3)]) rfl ?_
 refine Home.go (fun _ => XS.icmpYes X0.here hx rfl (pc0 := 3) (pc' := 8) rfl (hb hby d23_3) rfl (tlt (bnd_lt bnd_i3 (bnd_lit (5 : Int32)) (by decide +kernel))).1 (by decide) (by decide)) ?_
 refine Home.run X0 hx hby sg23_8_2 (pc' := 11) (L' := #[.val (.ref o0), .val (.long j1), .second, .val (.int (5 : Int32)), .val (.int i3)]) (S' := [(.int i3), (.ref o0)]) rfl ?_
 obtain ⟨cl1, Ar1, q1, S1, M1, H1, G1⟩ := id V_o0
 have ib1 : ¬ (i3 < 0 ∨ cl1.slots.size ≤ (i3).toNatClampNeg) := inb_of S1 ⟨(bnd_nlt bnd_i3 (bnd_lit (0 : Int32)) (by decide +kernel)), (bnd_lt bnd_i3 (bnd_lit (5 : Int32)) (by decide +kernel))⟩
 refine Home.go (X0.baloadBytes hx (j := i3) (v := .int (own_at [u1, u2, u3, u4, u5] i3)) (by rw [e0]; exact Ar1.1) (State.isArrayOf_alike hZ.alike Ar1.2.1) Ar1.2.2 ib1 (Has.at H1 ib1 (own_getD [u1, u2, u3, u4, u5] _)) rfl rfl (hb hby d23_11)) ?_
 refine Home.run X0 hx hby sg23_12_9 (pc' := 24) (L' := #[.val (.ref o0), .val (.long j1), .second, .val (.int (5 : Int32)), .val (.int i3)]) (S' := [(.int ((((j1.toUInt64 >>> (((32 : Int32) - ((8 : Int32) * i3)) &&& 0x3f).toInt64.toUInt64).toInt64).toInt32).toInt8.toInt32)), (.int (own_at [u1, u2, u3, u4, u5] i3))]) rfl ?_
 suffices J3 : ∀ {T : State} (X : Stand p l e ({ frames := 0, cells := 0, slots := 0, locals := 0 } : Room) s m #[(.ref o0), (.long j1), (.int (5 : Int32)), (.int i3)] below meth c T [] 0 0) (eT : T.heap = h0) (v4 : Int32) (hv4 : v4 = (if (own_at [u1, u2, u3, u4, u5] i3) = ((((j1.toUInt64 >>> (((32 : Int32) - ((8 : Int32) * i3)) &&& 0x3f).toInt64.toUInt64).toInt64).toInt32).toInt8.toInt32) then (1 : Int32) else (0 : Int32))), @Home p e below _ T (mkF m 32 #[.val (.ref o0), .val (.long j1), .second, .val (.int (5 : Int32)), .val (.int i3)] [(.int v4)]) by
  by_cases c2 : (own_at [u1, u2, u3, u4, u5] i3) = ((((j1.toUInt64 >>> (((32 : Int32) - ((8 : Int32) * i3)) &&& 0x3f).toInt64.toUInt64).toInt64).toInt32).toInt8.toInt32)
  ·
   refine Home.go (fun _ => XS.icmpNo X0.here hx rfl (hb hby d23_24) rfl (teq c2).2) ?_
   refine Home.run X0 hx hby sg23_27_2 (pc' := 32) (L' := #[.val (.ref o0), .val (.long j1), .second, .val (.int (5 : Int32)), .val (.int i3)]) (S' := [(.int (1 : Int32))]) rfl ?_
   exact J3 X0 e0 _ (by simp only [if_pos c2])
  ·
   refine Home.go (fun _ => XS.icmpYes X0.here hx rfl (pc0 := 24) (pc' := 31) rfl (hb hby d23_24) rfl (feq c2).2 (by decide) (by decide)) ?_
   refine Home.run X0 hx hby sg23_31_1 (pc' := 32) (L' := #[.val (.ref o0), .val (.long j1), .second, .val (.int (5 : Int32)), .val (.int i3)]) (S' := [(.int (0 : Int32))]) rfl ?_
   exact J3 X0 e0 _ (by simp only [if_neg c2])
 intro TJ3 XJ3 eJ3 v4 hv4
 have bv4 : ¬ v4 < (0 : Int32) ∧ ¬ (1 : Int32) < v4 := by rw [hv4]; exact (bnd_ite (bnd_mono (bnd_lit (1 : Int32)) (by decide +kernel) (by decide +kernel)) (bnd_mono (bnd_lit (0 : Int32)) (by decide +kernel) (by decide +kernel)))
 show Home TJ3 (mkF m 32 #[.val (.ref o0), .val (.long j1), .second, .val (.int (5 : Int32)), .val (.int i3)] [(.int v4)])
 exact Home.retN XJ3 hx hlk (t := .boolean) hret (by simp) (hb hby d23_32) ⟨congrArg some (congrArg Value.int (by subst hv4; first | rfl | (simp only [f_rm23_5, nar_bool_id bv4 (by decide +kernel) (by decide +kernel), nar_i2c, nar_i2b] <;> rfl) | (simp [f_rm23_5, nar_bool_id bv4 (by decide +kernel) (by decide +kernel)]; done))), rfl, eJ3⟩ (by decide) (by decide)
theorem f_rm23_5_bnd (j1 : Int64) (i3 : Int32) (u1 : Int32) (u2 : Int32) (u3 : Int32) (u4 : Int32) (u5 : Int32) (bnd_i3 : ¬ i3 < (0 : Int32) ∧ ¬ (4 : Int32) < i3) : ¬ (f_rm23_5 j1 i3 u1 u2 u3 u4 u5) < (0 : Int32) ∧ ¬ (1 : Int32) < (f_rm23_5 j1 i3 u1 u2 u3 u4 u5) := by unfold f_rm23_5; (repeat' split) <;> first | exact bnd_mono (bnd_lit (1 : Int32)) (by decide +kernel) (by decide +kernel) | exact bnd_mono (bnd_lit (0 : Int32)) (by decide +kernel) (by decide +kernel)
theorem own_digN : ∀ n < 32, f_rm22_0 ((if Int32.ofNat n < (26 : Int32) then ((97 : Int32) + Int32.ofNat n) else ((50 : Int32) + (Int32.ofNat n - (26 : Int32)))) &&& (255 : Int32)) = Int32.ofNat n := by decide +kernel
/-- the value of a digit -/
def own_dg (v : Int64) (i : Int32) : Int32 := ((((v.toUInt64 >>> (((35 : Int32) - ((5 : Int32) * i)) &&& 0x3f).toInt64.toUInt64).toInt64) &&& (31 : Int64)).toInt32)
theorem own_dg_b (v : Int64) (i : Int32) : ∃ n, n < 32 ∧ own_dg v i = Int32.ofNat n := by
  have h : ¬ own_dg v i < (0 : Int32) ∧ ¬ (31 : Int32) < own_dg v i := bnd_l2i _ (by decide) (by decide)
  generalize own_dg v i = x at h
  simp only [Int32.lt_iff_toInt_lt] at h
  have e0 : (0 : Int32).toInt = 0 := rfl
  have e1 : (31 : Int32).toInt = 31 := rfl
  rw [e0, e1] at h
  refine ⟨x.toInt.toNat, by omega, ?_⟩
  rw [← Int32.toInt_inj, Int32.toInt_ofNat_small (by omega)]
  omega
theorem own_dv (v : Int64) (i : Int32) : f_rm22_0 ((f_rm1_0 v i) &&& (255 : Int32)) = own_dg v i := by
  show f_rm22_0 ((if own_dg v i < (26 : Int32) then ((97 : Int32) + own_dg v i) else ((50 : Int32) + (own_dg v i - (26 : Int32)))) &&& (255 : Int32)) = own_dg v i
  obtain ⟨n, hn, e⟩ := own_dg_b v i
  rw [e]; exact own_digN n hn
theorem own_dig (v : Int64) (i : Int32) : ¬ ((f_rm22_0 ((f_rm1_0 v i) &&& (255 : Int32))) < (0 : Int32)) := by
  rw [own_dv]
  exact (bnd_l2i _ (k := (31 : Int64)) (m := (31 : Int32)) (by decide) (by decide)).1
/-- numbers that are no greater than the machine's -/
theorem own_shl (n : Nat) : Int32.ofNat n <<< ((5 : Int32) &&& 31) = Int32.ofNat (n * 32) := by
  rw [show ((5 : Int32) &&& 31) = 5 from by decide]
  apply Int32.toBitVec_inj.mp
  apply BitVec.eq_of_toNat_eq
  simp [Int32.toBitVec_shiftLeft, BitVec.toNat_shiftLeft, Nat.shiftLeft_eq]
theorem own_or {n m : Nat} (hm : m < 32) (hn : n * 32 + m < 4294967296) : (Int32.ofNat (n * 32) ||| Int32.ofNat m) = Int32.ofNat (n * 32 + m) := by
  apply Int32.toBitVec_inj.mp
  apply BitVec.eq_of_toNat_eq
  have e : (n * 32) ||| m = n * 32 + m := by
    have := Nat.two_pow_add_eq_or_of_lt (i := 5) (b := m) (by simpa using hm) n
    rw [show 2 ^ 5 * n = n * 32 from by omega] at this; exact this.symm
  simp only [Int32.toBitVec_or, Int32.toBitVec_ofNat', BitVec.toNat_or, BitVec.toNat_ofNat]
  rw [Nat.mod_eq_of_lt (by omega), Nat.mod_eq_of_lt (by omega), Nat.mod_eq_of_lt (by omega), e]
theorem own_or0 (x : Int32) : (0 : Int32) ||| x = x := by simp
theorem own_mask {n : Nat} {k : Nat} {m : Int32} (hn : n < 4294967296) (hk : k < 31) (hm : m = Int32.ofNat (2 ^ k - 1)) : Int32.ofNat n &&& m = Int32.ofNat (n % 2 ^ k) := by
  subst hm
  have h2 : 2 ^ k < 2 ^ 31 := Nat.pow_lt_pow_right (by omega) hk
  have h3 : n % 2 ^ k < 2 ^ k := Nat.mod_lt _ (Nat.two_pow_pos k)
  apply Int32.toBitVec_inj.mp
  apply BitVec.eq_of_toNat_eq
  simp only [Int32.toBitVec_and, Int32.toBitVec_ofNat', BitVec.toNat_and, BitVec.toNat_ofNat]
  rw [Nat.mod_eq_of_lt hn, Nat.mod_eq_of_lt (by omega), Nat.mod_eq_of_lt (by omega), Nat.and_two_pow_sub_one_eq_mod]
theorem own_ushr {n k : Nat} {q : Int32} (hn : n < 4294967296) (hk : k < 32) (hq : (q &&& 31).toUInt32 = UInt32.ofNat k) : ((Int32.ofNat n).toUInt32 >>> (q &&& 31).toUInt32).toInt32 = Int32.ofNat (n / 2 ^ k) := by
  rw [hq]
  have h3 : n / 2 ^ k ≤ n := Nat.div_le_self _ _
  apply Int32.toBitVec_inj.mp
  apply BitVec.eq_of_toNat_eq
  simp [Nat.shiftRight_eq_div_pow, Nat.mod_eq_of_lt hn, Nat.mod_eq_of_lt hk, Nat.mod_eq_of_lt (show k < 4294967296 by omega), Nat.mod_eq_of_lt (show n / 2 ^ k < 4294967296 by omega)]
theorem own_i8 {n m : Nat} (h : n % 256 = m % 256) : (Int32.ofNat n).toInt8.toInt32 = (Int32.ofNat m).toInt8.toInt32 := by
  have : (Int32.ofNat n).toInt8 = (Int32.ofNat m).toInt8 := by
    apply Int8.toBitVec_inj.mp
    apply BitVec.eq_of_toNat_eq
    simp; omega
  rw [this]
theorem own_dgN (v : Int64) (i : Int32) {k : Nat} (hk : (((35 : Int32) - ((5 : Int32) * i)) &&& 0x3f).toInt64.toUInt64 = UInt64.ofNat k) (h : k < 64) : own_dg v i = Int32.ofNat (v.toBitVec.toNat / 2 ^ k % 32) := by
  unfold own_dg
  rw [hk]
  apply Int32.toBitVec_inj.mp
  apply BitVec.eq_of_toNat_eq
  have l := v.toBitVec.isLt
  have a := Nat.and_two_pow_sub_one_eq_mod (v.toBitVec.toNat / 2 ^ k) 5
  simp [Nat.shiftRight_eq_div_pow, Nat.mod_eq_of_lt h, Nat.mod_eq_of_lt (show k < 18446744073709551616 by omega)]
  rw [BitVec.signExtend_eq_setWidth_of_le _ (by decide)]
  have b := Nat.and_two_pow_sub_one_eq_mod (v.toBitVec.toNat / 2 ^ k % 4294967296) 5
  simp at b
  simp [Nat.shiftRight_eq_div_pow]
  rw [b]; omega
theorem own_ex (v : Int64) (i : Int32) {k : Nat} (hk : (((32 : Int32) - ((8 : Int32) * i)) &&& 0x3f).toInt64.toUInt64 = UInt64.ofNat k) (h : k < 64) : (((v.toUInt64 >>> (((32 : Int32) - ((8 : Int32) * i)) &&& 0x3f).toInt64.toUInt64).toInt64).toInt32) = Int32.ofNat (v.toBitVec.toNat / 2 ^ k) := by
  rw [hk]
  apply Int32.toBitVec_inj.mp
  apply BitVec.eq_of_toNat_eq
  simp [Nat.shiftRight_eq_div_pow, Nat.mod_eq_of_lt h, Nat.mod_eq_of_lt (show k < 18446744073709551616 by omega)]
  rw [BitVec.signExtend_eq_setWidth_of_le _ (by decide)]
  simp [Nat.shiftRight_eq_div_pow]
theorem own_N40 {v j m : Int64} (h : v = ((j &&& (1099511627775 : Int64)) &&& m)) : v.toBitVec.toNat < 1099511627776 := by
  subst h
  simp only [Int64.toBitVec_and, BitVec.toNat_and]
  have a : (j.toBitVec.toNat &&& (1099511627775 : Int64).toBitVec.toNat) &&& m.toBitVec.toNat ≤ j.toBitVec.toNat &&& (1099511627775 : Int64).toBitVec.toNat := Nat.and_le_left
  have b : j.toBitVec.toNat &&& (1099511627775 : Int64).toBitVec.toNat ≤ (1099511627775 : Int64).toBitVec.toNat := Nat.and_le_right
  have c : (1099511627775 : Int64).toBitVec.toNat = 1099511627775 := by decide
  omega
theorem own_Nmod {v j m : Int64} (h : v = ((j &&& (1099511627775 : Int64)) &&& m)) {k : Nat} (hm : m.toBitVec.toNat % 2 ^ k = 0) : v.toBitVec.toNat % 2 ^ k = 0 := by
  subst h
  simp only [Int64.toBitVec_and, BitVec.toNat_and]
  rw [Nat.and_mod_two_pow, hm]; simp
theorem own_g0 {v : Int64} {r : Int32} (h : r = (f_rm1_0 v (0 : Int32))) : f_rm22_0 (r &&& (255 : Int32)) = Int32.ofNat (v.toBitVec.toNat / 34359738368 % 32) := by
  rw [h, own_dv]; exact own_dgN v _ (k := 35) (by decide) (by decide)
theorem own_g1 {v : Int64} {r : Int32} (h : r = (f_rm1_0 v (1 : Int32))) : f_rm22_0 (r &&& (255 : Int32)) = Int32.ofNat (v.toBitVec.toNat / 1073741824 % 32) := by
  rw [h, own_dv]; exact own_dgN v _ (k := 30) (by decide) (by decide)
theorem own_g2 {v : Int64} {r : Int32} (h : r = (f_rm1_0 v (2 : Int32))) : f_rm22_0 (r &&& (255 : Int32)) = Int32.ofNat (v.toBitVec.toNat / 33554432 % 32) := by
  rw [h, own_dv]; exact own_dgN v _ (k := 25) (by decide) (by decide)
theorem own_g3 {v : Int64} {r : Int32} (h : r = (f_rm1_0 v (3 : Int32))) : f_rm22_0 (r &&& (255 : Int32)) = Int32.ofNat (v.toBitVec.toNat / 1048576 % 32) := by
  rw [h, own_dv]; exact own_dgN v _ (k := 20) (by decide) (by decide)
theorem own_g4 {v : Int64} {r : Int32} (h : r = (f_rm1_0 v (4 : Int32))) : f_rm22_0 (r &&& (255 : Int32)) = Int32.ofNat (v.toBitVec.toNat / 32768 % 32) := by
  rw [h, own_dv]; exact own_dgN v _ (k := 15) (by decide) (by decide)
theorem own_g5 {v : Int64} {r : Int32} (h : r = (f_rm1_0 v (5 : Int32))) : f_rm22_0 (r &&& (255 : Int32)) = Int32.ofNat (v.toBitVec.toNat / 1024 % 32) := by
  rw [h, own_dv]; exact own_dgN v _ (k := 10) (by decide) (by decide)
theorem own_g6 {v : Int64} {r : Int32} (h : r = (f_rm1_0 v (6 : Int32))) : f_rm22_0 (r &&& (255 : Int32)) = Int32.ofNat (v.toBitVec.toNat / 32 % 32) := by
  rw [h, own_dv]; exact own_dgN v _ (k := 5) (by decide) (by decide)
theorem own_g7 {v : Int64} {r : Int32} (h : r = (f_rm1_0 v (7 : Int32))) : f_rm22_0 (r &&& (255 : Int32)) = Int32.ofNat (v.toBitVec.toNat / 1 % 32) := by
  rw [h, own_dv]; exact own_dgN v _ (k := 0) (by decide) (by decide)
theorem own_fst {a : Int32} {x : Nat} (h : a = Int32.ofNat x) : ((0 : Int32) ||| a) = Int32.ofNat x := by rw [h]; exact own_or0 _
theorem own_one {M a : Int32} {e x : Nat} (hM : M = Int32.ofNat e) (h : a = Int32.ofNat x) (he : e < 1024) (hx : x < 32) : ((M <<< ((5 : Int32) &&& 31)) ||| a) = Int32.ofNat (e * 32 + x) := by
  rw [hM, h, own_shl]; exact own_or hx (by omega)
theorem own_msk {B : Int32} {e : Nat} (k : Nat) (m : Int32) (hB : B = Int32.ofNat e) (he : e < 65536) (hk : k < 31) (hm : m = Int32.ofNat (2 ^ k - 1)) : (B &&& m) = Int32.ofNat (e % 2 ^ k) := by
  rw [hB]; exact own_mask (by omega) hk hm
theorem own_byt {B : Int32} {e : Nat} (k : Nat) (q : Int32) (hB : B = Int32.ofNat e) (he : e < 65536) (hk : k < 32) (hq : (q &&& 31).toUInt32 = UInt32.ofNat k) : ((B.toUInt32 >>> (q &&& 31).toUInt32).toInt32) = Int32.ofNat (e / 2 ^ k) := by
  rw [hB]; exact own_ushr (by omega) hk hq
theorem own_i8c {E r : Int32} {e m : Nat} (h : r = E.toInt8.toInt32) (hE : E = Int32.ofNat e) (q : e % 256 = m % 256) : r = (Int32.ofNat m).toInt8.toInt32 := by
  rw [h, hE]; exact own_i8 q
theorem own_nn51 (j0 : Int64) (i1 : Int32) (sv_COMPACT_STRINGS : Int32) (v1 : Int32) (hv1 : v1 = ((i1 &&& (2147483647 : Int32)) % (6 : Int32))) (v6 : Int64) (hv6 : v6 = (if v1 = (0 : Int32) then (0 : Int64) else ((((1 : Int64) <<< (((8 : Int32) * v1) &&& 0x3f).toInt64) - (1 : Int64)) <<< (((40 : Int32) - ((8 : Int32) * v1)) &&& 0x3f).toInt64))) (v7 : Int64) (hv7 : v7 = ((j0 &&& (1099511627775 : Int64)) &&& v6)) (r9 : Int32) (hr9 : r9 = (f_rm1_0 v7 (0 : Int32))) (r11 : Int32) (hr11 : r11 = (f_rm1_0 v7 (1 : Int32))) (r13 : Int32) (hr13 : r13 = (f_rm1_0 v7 (2 : Int32))) (r15 : Int32) (hr15 : r15 = (f_rm1_0 v7 (3 : Int32))) (r17 : Int32) (hr17 : r17 = (f_rm1_0 v7 (4 : Int32))) (r19 : Int32) (hr19 : r19 = (f_rm1_0 v7 (5 : Int32))) (r21 : Int32) (hr21 : r21 = (f_rm1_0 v7 (6 : Int32))) (r23 : Int32) (hr23 : r23 = (f_rm1_0 v7 (7 : Int32))) (c24 : ¬ (v1 = (0 : Int32))) (c39 : v1 = (1 : Int32)) : (((((0 : Int32) ||| (f_rm22_0 (r9 &&& (255 : Int32)))) <<< ((5 : Int32) &&& 31)) ||| (f_rm22_0 (r11 &&& (255 : Int32)))) &&& (3 : Int32)) = (0 : Int32) := by
  have N4 := own_N40 hv7
  have g0 := own_g0 hr9
  have g1 := own_g1 hr11
  obtain ⟨N, hN⟩ : ∃ z, z = v7.toBitVec.toNat := ⟨_, rfl⟩
  rw [← hN] at g0 g1 N4
  have b0 := own_fst g0
  have b1 := own_one b0 g1 (by omega) (by omega)
  have m0 := own_msk 2 (3 : Int32) b1 (by omega) (by decide) (by decide)
  have Nm : N % 4294967296 = 0 := by rw [hN]; exact own_Nmod hv7 (k := 32) (by rw [show v6 = (1095216660480 : Int64) from by rw [hv6, c39]; decide]; decide)
  exact m0.trans (congrArg Int32.ofNat (show _ = 0 by omega))
theorem own_nn94 (j0 : Int64) (i1 : Int32) (sv_COMPACT_STRINGS : Int32) (v1 : Int32) (hv1 : v1 = ((i1 &&& (2147483647 : Int32)) % (6 : Int32))) (v6 : Int64) (hv6 : v6 = (if v1 = (0 : Int32) then (0 : Int64) else ((((1 : Int64) <<< (((8 : Int32) * v1) &&& 0x3f).toInt64) - (1 : Int64)) <<< (((40 : Int32) - ((8 : Int32) * v1)) &&& 0x3f).toInt64))) (v7 : Int64) (hv7 : v7 = ((j0 &&& (1099511627775 : Int64)) &&& v6)) (r9 : Int32) (hr9 : r9 = (f_rm1_0 v7 (0 : Int32))) (r11 : Int32) (hr11 : r11 = (f_rm1_0 v7 (1 : Int32))) (r13 : Int32) (hr13 : r13 = (f_rm1_0 v7 (2 : Int32))) (r15 : Int32) (hr15 : r15 = (f_rm1_0 v7 (3 : Int32))) (r17 : Int32) (hr17 : r17 = (f_rm1_0 v7 (4 : Int32))) (r19 : Int32) (hr19 : r19 = (f_rm1_0 v7 (5 : Int32))) (r21 : Int32) (hr21 : r21 = (f_rm1_0 v7 (6 : Int32))) (r23 : Int32) (hr23 : r23 = (f_rm1_0 v7 (7 : Int32))) (c24 : ¬ (v1 = (0 : Int32))) (c39 : ¬ (v1 = (1 : Int32))) (c78 : v1 = (2 : Int32)) : ((((((((((0 : Int32) ||| (f_rm22_0 (r9 &&& (255 : Int32)))) <<< ((5 : Int32) &&& 31)) ||| (f_rm22_0 (r11 &&& (255 : Int32)))) &&& (3 : Int32)) <<< ((5 : Int32) &&& 31)) ||| (f_rm22_0 (r13 &&& (255 : Int32)))) <<< ((5 : Int32) &&& 31)) ||| (f_rm22_0 (r15 &&& (255 : Int32)))) &&& (15 : Int32)) = (0 : Int32) := by
  have N4 := own_N40 hv7
  have g0 := own_g0 hr9
  have g1 := own_g1 hr11
  have g2 := own_g2 hr13
  have g3 := own_g3 hr15
  obtain ⟨N, hN⟩ : ∃ z, z = v7.toBitVec.toNat := ⟨_, rfl⟩
  rw [← hN] at g0 g1 g2 g3 N4
  have b0 := own_fst g0
  have b1 := own_one b0 g1 (by omega) (by omega)
  have m0 := own_msk 2 (3 : Int32) b1 (by omega) (by decide) (by decide)
  have b2 := own_one m0 g2 (by omega) (by omega)
  have b3 := own_one b2 g3 (by omega) (by omega)
  have m1 := own_msk 4 (15 : Int32) b3 (by omega) (by decide) (by decide)
  have Nm : N % 16777216 = 0 := by rw [hN]; exact own_Nmod hv7 (k := 24) (by rw [show v6 = (1099494850560 : Int64) from by rw [hv6, c78]; decide]; decide)
  exact m1.trans (congrArg Int32.ofNat (show _ = 0 by omega))
theorem own_nn140 (j0 : Int64) (i1 : Int32) (sv_COMPACT_STRINGS : Int32) (v1 : Int32) (hv1 : v1 = ((i1 &&& (2147483647 : Int32)) % (6 : Int32))) (v6 : Int64) (hv6 : v6 = (if v1 = (0 : Int32) then (0 : Int64) else ((((1 : Int64) <<< (((8 : Int32) * v1) &&& 0x3f).toInt64) - (1 : Int64)) <<< (((40 : Int32) - ((8 : Int32) * v1)) &&& 0x3f).toInt64))) (v7 : Int64) (hv7 : v7 = ((j0 &&& (1099511627775 : Int64)) &&& v6)) (r9 : Int32) (hr9 : r9 = (f_rm1_0 v7 (0 : Int32))) (r11 : Int32) (hr11 : r11 = (f_rm1_0 v7 (1 : Int32))) (r13 : Int32) (hr13 : r13 = (f_rm1_0 v7 (2 : Int32))) (r15 : Int32) (hr15 : r15 = (f_rm1_0 v7 (3 : Int32))) (r17 : Int32) (hr17 : r17 = (f_rm1_0 v7 (4 : Int32))) (r19 : Int32) (hr19 : r19 = (f_rm1_0 v7 (5 : Int32))) (r21 : Int32) (hr21 : r21 = (f_rm1_0 v7 (6 : Int32))) (r23 : Int32) (hr23 : r23 = (f_rm1_0 v7 (7 : Int32))) (c24 : ¬ (v1 = (0 : Int32))) (c39 : ¬ (v1 = (1 : Int32))) (c78 : ¬ (v1 = (2 : Int32))) (c122 : v1 = (3 : Int32)) : (((((((((((((0 : Int32) ||| (f_rm22_0 (r9 &&& (255 : Int32)))) <<< ((5 : Int32) &&& 31)) ||| (f_rm22_0 (r11 &&& (255 : Int32)))) &&& (3 : Int32)) <<< ((5 : Int32) &&& 31)) ||| (f_rm22_0 (r13 &&& (255 : Int32)))) <<< ((5 : Int32) &&& 31)) ||| (f_rm22_0 (r15 &&& (255 : Int32)))) &&& (15 : Int32)) <<< ((5 : Int32) &&& 31)) ||| (f_rm22_0 (r17 &&& (255 : Int32)))) &&& (1 : Int32)) = (0 : Int32) := by
  have N4 := own_N40 hv7
  have g0 := own_g0 hr9
  have g1 := own_g1 hr11
  have g2 := own_g2 hr13
  have g3 := own_g3 hr15
  have g4 := own_g4 hr17
  obtain ⟨N, hN⟩ : ∃ z, z = v7.toBitVec.toNat := ⟨_, rfl⟩
  rw [← hN] at g0 g1 g2 g3 g4 N4
  have b0 := own_fst g0
  have b1 := own_one b0 g1 (by omega) (by omega)
  have m0 := own_msk 2 (3 : Int32) b1 (by omega) (by decide) (by decide)
  have b2 := own_one m0 g2 (by omega) (by omega)
  have b3 := own_one b2 g3 (by omega) (by omega)
  have m1 := own_msk 4 (15 : Int32) b3 (by omega) (by decide) (by decide)
  have b4 := own_one m1 g4 (by omega) (by omega)
  have m2 := own_msk 1 (1 : Int32) b4 (by omega) (by decide) (by decide)
  have Nm : N % 65536 = 0 := by rw [hN]; exact own_Nmod hv7 (k := 16) (by rw [show v6 = (1099511562240 : Int64) from by rw [hv6, c122]; decide]; decide)
  exact m2.trans (congrArg Int32.ofNat (show _ = 0 by omega))
theorem own_nn192 (j0 : Int64) (i1 : Int32) (sv_COMPACT_STRINGS : Int32) (v1 : Int32) (hv1 : v1 = ((i1 &&& (2147483647 : Int32)) % (6 : Int32))) (v6 : Int64) (hv6 : v6 = (if v1 = (0 : Int32) then (0 : Int64) else ((((1 : Int64) <<< (((8 : Int32) * v1) &&& 0x3f).toInt64) - (1 : Int64)) <<< (((40 : Int32) - ((8 : Int32) * v1)) &&& 0x3f).toInt64))) (v7 : Int64) (hv7 : v7 = ((j0 &&& (1099511627775 : Int64)) &&& v6)) (r9 : Int32) (hr9 : r9 = (f_rm1_0 v7 (0 : Int32))) (r11 : Int32) (hr11 : r11 = (f_rm1_0 v7 (1 : Int32))) (r13 : Int32) (hr13 : r13 = (f_rm1_0 v7 (2 : Int32))) (r15 : Int32) (hr15 : r15 = (f_rm1_0 v7 (3 : Int32))) (r17 : Int32) (hr17 : r17 = (f_rm1_0 v7 (4 : Int32))) (r19 : Int32) (hr19 : r19 = (f_rm1_0 v7 (5 : Int32))) (r21 : Int32) (hr21 : r21 = (f_rm1_0 v7 (6 : Int32))) (r23 : Int32) (hr23 : r23 = (f_rm1_0 v7 (7 : Int32))) (c24 : ¬ (v1 = (0 : Int32))) (c39 : ¬ (v1 = (1 : Int32))) (c78 : ¬ (v1 = (2 : Int32))) (c122 : ¬ (v1 = (3 : Int32))) (c169 : v1 = (4 : Int32)) : ((((((((((((((((((0 : Int32) ||| (f_rm22_0 (r9 &&& (255 : Int32)))) <<< ((5 : Int32) &&& 31)) ||| (f_rm22_0 (r11 &&& (255 : Int32)))) &&& (3 : Int32)) <<< ((5 : Int32) &&& 31)) ||| (f_rm22_0 (r13 &&& (255 : Int32)))) <<< ((5 : Int32) &&& 31)) ||| (f_rm22_0 (r15 &&& (255 : Int32)))) &&& (15 : Int32)) <<< ((5 : Int32) &&& 31)) ||| (f_rm22_0 (r17 &&& (255 : Int32)))) &&& (1 : Int32)) <<< ((5 : Int32) &&& 31)) ||| (f_rm22_0 (r19 &&& (255 : Int32)))) <<< ((5 : Int32) &&& 31)) ||| (f_rm22_0 (r21 &&& (255 : Int32)))) &&& (7 : Int32)) = (0 : Int32) := by
  have N4 := own_N40 hv7
  have g0 := own_g0 hr9
  have g1 := own_g1 hr11
  have g2 := own_g2 hr13
  have g3 := own_g3 hr15
  have g4 := own_g4 hr17
  have g5 := own_g5 hr19
  have g6 := own_g6 hr21
  obtain ⟨N, hN⟩ : ∃ z, z = v7.toBitVec.toNat := ⟨_, rfl⟩
  rw [← hN] at g0 g1 g2 g3 g4 g5 g6 N4
  have b0 := own_fst g0
  have b1 := own_one b0 g1 (by omega) (by omega)
  have m0 := own_msk 2 (3 : Int32) b1 (by omega) (by decide) (by decide)
  have b2 := own_one m0 g2 (by omega) (by omega)
  have b3 := own_one b2 g3 (by omega) (by omega)
  have m1 := own_msk 4 (15 : Int32) b3 (by omega) (by decide) (by decide)
  have b4 := own_one m1 g4 (by omega) (by omega)
  have m2 := own_msk 1 (1 : Int32) b4 (by omega) (by decide) (by decide)
  have b5 := own_one m2 g5 (by omega) (by omega)
  have b6 := own_one b5 g6 (by omega) (by omega)
  have m3 := own_msk 3 (7 : Int32) b6 (by omega) (by decide) (by decide)
  have Nm : N % 256 = 0 := by rw [hN]; exact own_Nmod hv7 (k := 8) (by rw [show v6 = (1099511627520 : Int64) from by rw [hv6, c169]; decide]; decide)
  exact m3.trans (congrArg Int32.ofNat (show _ = 0 by omega))
theorem own_nn242 (j0 : Int64) (i1 : Int32) (sv_COMPACT_STRINGS : Int32) (v1 : Int32) (hv1 : v1 = ((i1 &&& (2147483647 : Int32)) % (6 : Int32))) (v6 : Int64) (hv6 : v6 = (if v1 = (0 : Int32) then (0 : Int64) else ((((1 : Int64) <<< (((8 : Int32) * v1) &&& 0x3f).toInt64) - (1 : Int64)) <<< (((40 : Int32) - ((8 : Int32) * v1)) &&& 0x3f).toInt64))) (v7 : Int64) (hv7 : v7 = ((j0 &&& (1099511627775 : Int64)) &&& v6)) (r9 : Int32) (hr9 : r9 = (f_rm1_0 v7 (0 : Int32))) (r11 : Int32) (hr11 : r11 = (f_rm1_0 v7 (1 : Int32))) (r13 : Int32) (hr13 : r13 = (f_rm1_0 v7 (2 : Int32))) (r15 : Int32) (hr15 : r15 = (f_rm1_0 v7 (3 : Int32))) (r17 : Int32) (hr17 : r17 = (f_rm1_0 v7 (4 : Int32))) (r19 : Int32) (hr19 : r19 = (f_rm1_0 v7 (5 : Int32))) (r21 : Int32) (hr21 : r21 = (f_rm1_0 v7 (6 : Int32))) (r23 : Int32) (hr23 : r23 = (f_rm1_0 v7 (7 : Int32))) (c24 : ¬ (v1 = (0 : Int32))) (c39 : ¬ (v1 = (1 : Int32))) (c78 : ¬ (v1 = (2 : Int32))) (c122 : ¬ (v1 = (3 : Int32))) (c169 : ¬ (v1 = (4 : Int32))) : (((((((((((((((((((((0 : Int32) ||| (f_rm22_0 (r9 &&& (255 : Int32)))) <<< ((5 : Int32) &&& 31)) ||| (f_rm22_0 (r11 &&& (255 : Int32)))) &&& (3 : Int32)) <<< ((5 : Int32) &&& 31)) ||| (f_rm22_0 (r13 &&& (255 : Int32)))) <<< ((5 : Int32) &&& 31)) ||| (f_rm22_0 (r15 &&& (255 : Int32)))) &&& (15 : Int32)) <<< ((5 : Int32) &&& 31)) ||| (f_rm22_0 (r17 &&& (255 : Int32)))) &&& (1 : Int32)) <<< ((5 : Int32) &&& 31)) ||| (f_rm22_0 (r19 &&& (255 : Int32)))) <<< ((5 : Int32) &&& 31)) ||| (f_rm22_0 (r21 &&& (255 : Int32)))) &&& (7 : Int32)) <<< ((5 : Int32) &&& 31)) ||| (f_rm22_0 (r23 &&& (255 : Int32)))) &&& (0 : Int32)) = (0 : Int32) := by
  have N4 := own_N40 hv7
  have g0 := own_g0 hr9
  have g1 := own_g1 hr11
  have g2 := own_g2 hr13
  have g3 := own_g3 hr15
  have g4 := own_g4 hr17
  have g5 := own_g5 hr19
  have g6 := own_g6 hr21
  have g7 := own_g7 hr23
  obtain ⟨N, hN⟩ : ∃ z, z = v7.toBitVec.toNat := ⟨_, rfl⟩
  rw [← hN] at g0 g1 g2 g3 g4 g5 g6 g7 N4
  have b0 := own_fst g0
  have b1 := own_one b0 g1 (by omega) (by omega)
  have m0 := own_msk 2 (3 : Int32) b1 (by omega) (by decide) (by decide)
  have b2 := own_one m0 g2 (by omega) (by omega)
  have b3 := own_one b2 g3 (by omega) (by omega)
  have m1 := own_msk 4 (15 : Int32) b3 (by omega) (by decide) (by decide)
  have b4 := own_one m1 g4 (by omega) (by omega)
  have m2 := own_msk 1 (1 : Int32) b4 (by omega) (by decide) (by decide)
  have b5 := own_one m2 g5 (by omega) (by omega)
  have b6 := own_one b5 g6 (by omega) (by omega)
  have m3 := own_msk 3 (7 : Int32) b6 (by omega) (by decide) (by decide)
  have b7 := own_one m3 g7 (by omega) (by omega)
  have m4 := own_msk 0 (0 : Int32) b7 (by omega) (by decide) (by decide)
  exact m4.trans (congrArg Int32.ofNat (show _ = 0 by omega))
theorem own_end5 (j0 : Int64) (i1 : Int32) (sv_COMPACT_STRINGS : Int32) (v1 : Int32) (hv1 : v1 = ((i1 &&& (2147483647 : Int32)) % (6 : Int32))) (v6 : Int64) (hv6 : v6 = (if v1 = (0 : Int32) then (0 : Int64) else ((((1 : Int64) <<< (((8 : Int32) * v1) &&& 0x3f).toInt64) - (1 : Int64)) <<< (((40 : Int32) - ((8 : Int32) * v1)) &&& 0x3f).toInt64))) (v7 : Int64) (hv7 : v7 = ((j0 &&& (1099511627775 : Int64)) &&& v6)) (r9 : Int32) (hr9 : r9 = (f_rm1_0 v7 (0 : Int32))) (r11 : Int32) (hr11 : r11 = (f_rm1_0 v7 (1 : Int32))) (r13 : Int32) (hr13 : r13 = (f_rm1_0 v7 (2 : Int32))) (r15 : Int32) (hr15 : r15 = (f_rm1_0 v7 (3 : Int32))) (r17 : Int32) (hr17 : r17 = (f_rm1_0 v7 (4 : Int32))) (r19 : Int32) (hr19 : r19 = (f_rm1_0 v7 (5 : Int32))) (r21 : Int32) (hr21 : r21 = (f_rm1_0 v7 (6 : Int32))) (r23 : Int32) (hr23 : r23 = (f_rm1_0 v7 (7 : Int32))) (r53 : Int32) (hr53 : r53 = (((((((0 : Int32) ||| (f_rm22_0 (r9 &&& (255 : Int32)))) <<< ((5 : Int32) &&& 31)) ||| (f_rm22_0 (r11 &&& (255 : Int32)))).toUInt32 >>> ((2 : Int32) &&& 31).toUInt32).toInt32).toInt8.toInt32)) (r56 : Int32) (hr56 : r56 = (f_rm23_1 v7 (0 : Int32) r53)) (v77 : Int32) (hv77 : v77 = (if r56 = (0 : Int32) then (0 : Int32) else (if (f_rm23_1 v7 (1 : Int32) r53) = (0 : Int32) then (0 : Int32) else (if (f_rm23_1 v7 (2 : Int32) r53) = (0 : Int32) then (0 : Int32) else (if (f_rm23_1 v7 (3 : Int32) r53) = (0 : Int32) then (0 : Int32) else (if (f_rm23_1 v7 (4 : Int32) r53) = (0 : Int32) then (0 : Int32) else (1 : Int32))))))) (c24 : ¬ (v1 = (0 : Int32))) (c39 : v1 = (1 : Int32)) : nar .boolean v77 = (1 : Int32) := by
  have N4 := own_N40 hv7
  have g0 := own_g0 hr9
  have g1 := own_g1 hr11
  obtain ⟨N, hN⟩ : ∃ z, z = v7.toBitVec.toNat := ⟨_, rfl⟩
  rw [← hN] at g0 g1 N4
  have b0 := own_fst g0
  have b1 := own_one b0 g1 (by omega) (by omega)
  have y0 := own_byt 2 (2 : Int32) b1 (by omega) (by decide) (by decide)
  have w0 := own_i8c (m := N / 4294967296) hr53 y0 (by omega)
  have z0 : (f_rm23_1 v7 (0 : Int32) r53) = (1 : Int32) := by
    have e : own_at [r53] (0 : Int32) = r53 := rfl
    have q := own_ex v7 (0 : Int32) (k := 32) (by decide) (by decide)
    rw [← hN] at q
    unfold f_rm23_1
    rw [q, e, w0, if_pos rfl]; decide
  have z1 : (f_rm23_1 v7 (1 : Int32) r53) = (1 : Int32) := by unfold f_rm23_1; rw [if_neg (by decide)]
  have z2 : (f_rm23_1 v7 (2 : Int32) r53) = (1 : Int32) := by unfold f_rm23_1; rw [if_neg (by decide)]
  have z3 : (f_rm23_1 v7 (3 : Int32) r53) = (1 : Int32) := by unfold f_rm23_1; rw [if_neg (by decide)]
  have z4 : (f_rm23_1 v7 (4 : Int32) r53) = (1 : Int32) := by unfold f_rm23_1; rw [if_neg (by decide)]
  rw [hv77, hr56]
  simp only [z0, z1, z2, z3, z4]
  decide
theorem own_end6 (j0 : Int64) (i1 : Int32) (sv_COMPACT_STRINGS : Int32) (v1 : Int32) (hv1 : v1 = ((i1 &&& (2147483647 : Int32)) % (6 : Int32))) (v6 : Int64) (hv6 : v6 = (if v1 = (0 : Int32) then (0 : Int64) else ((((1 : Int64) <<< (((8 : Int32) * v1) &&& 0x3f).toInt64) - (1 : Int64)) <<< (((40 : Int32) - ((8 : Int32) * v1)) &&& 0x3f).toInt64))) (v7 : Int64) (hv7 : v7 = ((j0 &&& (1099511627775 : Int64)) &&& v6)) (r9 : Int32) (hr9 : r9 = (f_rm1_0 v7 (0 : Int32))) (r11 : Int32) (hr11 : r11 = (f_rm1_0 v7 (1 : Int32))) (r13 : Int32) (hr13 : r13 = (f_rm1_0 v7 (2 : Int32))) (r15 : Int32) (hr15 : r15 = (f_rm1_0 v7 (3 : Int32))) (r17 : Int32) (hr17 : r17 = (f_rm1_0 v7 (4 : Int32))) (r19 : Int32) (hr19 : r19 = (f_rm1_0 v7 (5 : Int32))) (r21 : Int32) (hr21 : r21 = (f_rm1_0 v7 (6 : Int32))) (r23 : Int32) (hr23 : r23 = (f_rm1_0 v7 (7 : Int32))) (r96 : Int32) (hr96 : r96 = (((((((0 : Int32) ||| (f_rm22_0 (r9 &&& (255 : Int32)))) <<< ((5 : Int32) &&& 31)) ||| (f_rm22_0 (r11 &&& (255 : Int32)))).toUInt32 >>> ((2 : Int32) &&& 31).toUInt32).toInt32).toInt8.toInt32)) (r97 : Int32) (hr97 : r97 = ((((((((((((0 : Int32) ||| (f_rm22_0 (r9 &&& (255 : Int32)))) <<< ((5 : Int32) &&& 31)) ||| (f_rm22_0 (r11 &&& (255 : Int32)))) &&& (3 : Int32)) <<< ((5 : Int32) &&& 31)) ||| (f_rm22_0 (r13 &&& (255 : Int32)))) <<< ((5 : Int32) &&& 31)) ||| (f_rm22_0 (r15 &&& (255 : Int32)))).toUInt32 >>> ((4 : Int32) &&& 31).toUInt32).toInt32).toInt8.toInt32)) (r100 : Int32) (hr100 : r100 = (f_rm23_2 v7 (0 : Int32) r96 r97)) (v121 : Int32) (hv121 : v121 = (if r100 = (0 : Int32) then (0 : Int32) else (if (f_rm23_2 v7 (1 : Int32) r96 r97) = (0 : Int32) then (0 : Int32) else (if (f_rm23_2 v7 (2 : Int32) r96 r97) = (0 : Int32) then (0 : Int32) else (if (f_rm23_2 v7 (3 : Int32) r96 r97) = (0 : Int32) then (0 : Int32) else (if (f_rm23_2 v7 (4 : Int32) r96 r97) = (0 : Int32) then (0 : Int32) else (1 : Int32))))))) (c24 : ¬ (v1 = (0 : Int32))) (c39 : ¬ (v1 = (1 : Int32))) (c78 : v1 = (2 : Int32)) : nar .boolean v121 = (1 : Int32) := by
  have N4 := own_N40 hv7
  have g0 := own_g0 hr9
  have g1 := own_g1 hr11
  have g2 := own_g2 hr13
  have g3 := own_g3 hr15
  obtain ⟨N, hN⟩ : ∃ z, z = v7.toBitVec.toNat := ⟨_, rfl⟩
  rw [← hN] at g0 g1 g2 g3 N4
  have b0 := own_fst g0
  have b1 := own_one b0 g1 (by omega) (by omega)
  have y0 := own_byt 2 (2 : Int32) b1 (by omega) (by decide) (by decide)
  have m0 := own_msk 2 (3 : Int32) b1 (by omega) (by decide) (by decide)
  have b2 := own_one m0 g2 (by omega) (by omega)
  have b3 := own_one b2 g3 (by omega) (by omega)
  have y1 := own_byt 4 (4 : Int32) b3 (by omega) (by decide) (by decide)
  have w0 := own_i8c (m := N / 4294967296) hr96 y0 (by omega)
  have w1 := own_i8c (m := N / 16777216) hr97 y1 (by omega)
  have z0 : (f_rm23_2 v7 (0 : Int32) r96 r97) = (1 : Int32) := by
    have e : own_at [r96, r97] (0 : Int32) = r96 := rfl
    have q := own_ex v7 (0 : Int32) (k := 32) (by decide) (by decide)
    rw [← hN] at q
    unfold f_rm23_2
    rw [q, e, w0, if_pos rfl]; decide
  have z1 : (f_rm23_2 v7 (1 : Int32) r96 r97) = (1 : Int32) := by
    have e : own_at [r96, r97] (1 : Int32) = r97 := rfl
    have q := own_ex v7 (1 : Int32) (k := 24) (by decide) (by decide)
    rw [← hN] at q
    unfold f_rm23_2
    rw [q, e, w1, if_pos rfl]; decide
  have z2 : (f_rm23_2 v7 (2 : Int32) r96 r97) = (1 : Int32) := by unfold f_rm23_2; rw [if_neg (by decide)]
  have z3 : (f_rm23_2 v7 (3 : Int32) r96 r97) = (1 : Int32) := by unfold f_rm23_2; rw [if_neg (by decide)]
  have z4 : (f_rm23_2 v7 (4 : Int32) r96 r97) = (1 : Int32) := by unfold f_rm23_2; rw [if_neg (by decide)]
  rw [hv121, hr100]
  simp only [z0, z1, z2, z3, z4]
  decide
theorem own_end7 (j0 : Int64) (i1 : Int32) (sv_COMPACT_STRINGS : Int32) (v1 : Int32) (hv1 : v1 = ((i1 &&& (2147483647 : Int32)) % (6 : Int32))) (v6 : Int64) (hv6 : v6 = (if v1 = (0 : Int32) then (0 : Int64) else ((((1 : Int64) <<< (((8 : Int32) * v1) &&& 0x3f).toInt64) - (1 : Int64)) <<< (((40 : Int32) - ((8 : Int32) * v1)) &&& 0x3f).toInt64))) (v7 : Int64) (hv7 : v7 = ((j0 &&& (1099511627775 : Int64)) &&& v6)) (r9 : Int32) (hr9 : r9 = (f_rm1_0 v7 (0 : Int32))) (r11 : Int32) (hr11 : r11 = (f_rm1_0 v7 (1 : Int32))) (r13 : Int32) (hr13 : r13 = (f_rm1_0 v7 (2 : Int32))) (r15 : Int32) (hr15 : r15 = (f_rm1_0 v7 (3 : Int32))) (r17 : Int32) (hr17 : r17 = (f_rm1_0 v7 (4 : Int32))) (r19 : Int32) (hr19 : r19 = (f_rm1_0 v7 (5 : Int32))) (r21 : Int32) (hr21 : r21 = (f_rm1_0 v7 (6 : Int32))) (r23 : Int32) (hr23 : r23 = (f_rm1_0 v7 (7 : Int32))) (r142 : Int32) (hr142 : r142 = (((((((0 : Int32) ||| (f_rm22_0 (r9 &&& (255 : Int32)))) <<< ((5 : Int32) &&& 31)) ||| (f_rm22_0 (r11 &&& (255 : Int32)))).toUInt32 >>> ((2 : Int32) &&& 31).toUInt32).toInt32).toInt8.toInt32)) (r143 : Int32) (hr143 : r143 = ((((((((((((0 : Int32) ||| (f_rm22_0 (r9 &&& (255 : Int32)))) <<< ((5 : Int32) &&& 31)) ||| (f_rm22_0 (r11 &&& (255 : Int32)))) &&& (3 : Int32)) <<< ((5 : Int32) &&& 31)) ||| (f_rm22_0 (r13 &&& (255 : Int32)))) <<< ((5 : Int32) &&& 31)) ||| (f_rm22_0 (r15 &&& (255 : Int32)))).toUInt32 >>> ((4 : Int32) &&& 31).toUInt32).toInt32).toInt8.toInt32)) (r144 : Int32) (hr144 : r144 = (((((((((((((((0 : Int32) ||| (f_rm22_0 (r9 &&& (255 : Int32)))) <<< ((5 : Int32) &&& 31)) ||| (f_rm22_0 (r11 &&& (255 : Int32)))) &&& (3 : Int32)) <<< ((5 : Int32) &&& 31)) ||| (f_rm22_0 (r13 &&& (255 : Int32)))) <<< ((5 : Int32) &&& 31)) ||| (f_rm22_0 (r15 &&& (255 : Int32)))) &&& (15 : Int32)) <<< ((5 : Int32) &&& 31)) ||| (f_rm22_0 (r17 &&& (255 : Int32)))).toUInt32 >>> ((1 : Int32) &&& 31).toUInt32).toInt32).toInt8.toInt32)) (r147 : Int32) (hr147 : r147 = (f_rm23_3 v7 (0 : Int32) r142 r143 r144)) (v168 : Int32) (hv168 : v168 = (if r147 = (0 : Int32) then (0 : Int32) else (if (f_rm23_3 v7 (1 : Int32) r142 r143 r144) = (0 : Int32) then (0 : Int32) else (if (f_rm23_3 v7 (2 : Int32) r142 r143 r144) = (0 : Int32) then (0 : Int32) else (if (f_rm23_3 v7 (3 : Int32) r142 r143 r144) = (0 : Int32) then (0 : Int32) else (if (f_rm23_3 v7 (4 : Int32) r142 r143 r144) = (0 : Int32) then (0 : Int32) else (1 : Int32))))))) (c24 : ¬ (v1 = (0 : Int32))) (c39 : ¬ (v1 = (1 : Int32))) (c78 : ¬ (v1 = (2 : Int32))) (c122 : v1 = (3 : Int32)) : nar .boolean v168 = (1 : Int32) := by
  have N4 := own_N40 hv7
  have g0 := own_g0 hr9
  have g1 := own_g1 hr11
  have g2 := own_g2 hr13
  have g3 := own_g3 hr15
  have g4 := own_g4 hr17
  obtain ⟨N, hN⟩ : ∃ z, z = v7.toBitVec.toNat := ⟨_, rfl⟩
  rw [← hN] at g0 g1 g2 g3 g4 N4
  have b0 := own_fst g0
  have b1 := own_one b0 g1 (by omega) (by omega)
  have y0 := own_byt 2 (2 : Int32) b1 (by omega) (by decide) (by decide)
  have m0 := own_msk 2 (3 : Int32) b1 (by omega) (by decide) (by decide)
  have b2 := own_one m0 g2 (by omega) (by omega)
  have b3 := own_one b2 g3 (by omega) (by omega)
  have y1 := own_byt 4 (4 : Int32) b3 (by omega) (by decide) (by decide)
  have m1 := own_msk 4 (15 : Int32) b3 (by omega) (by decide) (by decide)
  have b4 := own_one m1 g4 (by omega) (by omega)
  have y2 := own_byt 1 (1 : Int32) b4 (by omega) (by decide) (by decide)
  have w0 := own_i8c (m := N / 4294967296) hr142 y0 (by omega)
  have w1 := own_i8c (m := N / 16777216) hr143 y1 (by omega)
  have w2 := own_i8c (m := N / 65536) hr144 y2 (by omega)
  have z0 : (f_rm23_3 v7 (0 : Int32) r142 r143 r144) = (1 : Int32) := by
    have e : own_at [r142, r143, r144] (0 : Int32) = r142 := rfl
    have q := own_ex v7 (0 : Int32) (k := 32) (by decide) (by decide)
    rw [← hN] at q
    unfold f_rm23_3
    rw [q, e, w0, if_pos rfl]; decide
  have z1 : (f_rm23_3 v7 (1 : Int32) r142 r143 r144) = (1 : Int32) := by
    have e : own_at [r142, r143, r144] (1 : Int32) = r143 := rfl
    have q := own_ex v7 (1 : Int32) (k := 24) (by decide) (by decide)
    rw [← hN] at q
    unfold f_rm23_3
    rw [q, e, w1, if_pos rfl]; decide
  have z2 : (f_rm23_3 v7 (2 : Int32) r142 r143 r144) = (1 : Int32) := by
    have e : own_at [r142, r143, r144] (2 : Int32) = r144 := rfl
    have q := own_ex v7 (2 : Int32) (k := 16) (by decide) (by decide)
    rw [← hN] at q
    unfold f_rm23_3
    rw [q, e, w2, if_pos rfl]; decide
  have z3 : (f_rm23_3 v7 (3 : Int32) r142 r143 r144) = (1 : Int32) := by unfold f_rm23_3; rw [if_neg (by decide)]
  have z4 : (f_rm23_3 v7 (4 : Int32) r142 r143 r144) = (1 : Int32) := by unfold f_rm23_3; rw [if_neg (by decide)]
  rw [hv168, hr147]
  simp only [z0, z1, z2, z3, z4]
  decide
theorem own_end8 (j0 : Int64) (i1 : Int32) (sv_COMPACT_STRINGS : Int32) (v1 : Int32) (hv1 : v1 = ((i1 &&& (2147483647 : Int32)) % (6 : Int32))) (v6 : Int64) (hv6 : v6 = (if v1 = (0 : Int32) then (0 : Int64) else ((((1 : Int64) <<< (((8 : Int32) * v1) &&& 0x3f).toInt64) - (1 : Int64)) <<< (((40 : Int32) - ((8 : Int32) * v1)) &&& 0x3f).toInt64))) (v7 : Int64) (hv7 : v7 = ((j0 &&& (1099511627775 : Int64)) &&& v6)) (r9 : Int32) (hr9 : r9 = (f_rm1_0 v7 (0 : Int32))) (r11 : Int32) (hr11 : r11 = (f_rm1_0 v7 (1 : Int32))) (r13 : Int32) (hr13 : r13 = (f_rm1_0 v7 (2 : Int32))) (r15 : Int32) (hr15 : r15 = (f_rm1_0 v7 (3 : Int32))) (r17 : Int32) (hr17 : r17 = (f_rm1_0 v7 (4 : Int32))) (r19 : Int32) (hr19 : r19 = (f_rm1_0 v7 (5 : Int32))) (r21 : Int32) (hr21 : r21 = (f_rm1_0 v7 (6 : Int32))) (r23 : Int32) (hr23 : r23 = (f_rm1_0 v7 (7 : Int32))) (r194 : Int32) (hr194 : r194 = (((((((0 : Int32) ||| (f_rm22_0 (r9 &&& (255 : Int32)))) <<< ((5 : Int32) &&& 31)) ||| (f_rm22_0 (r11 &&& (255 : Int32)))).toUInt32 >>> ((2 : Int32) &&& 31).toUInt32).toInt32).toInt8.toInt32)) (r195 : Int32) (hr195 : r195 = ((((((((((((0 : Int32) ||| (f_rm22_0 (r9 &&& (255 : Int32)))) <<< ((5 : Int32) &&& 31)) ||| (f_rm22_0 (r11 &&& (255 : Int32)))) &&& (3 : Int32)) <<< ((5 : Int32) &&& 31)) ||| (f_rm22_0 (r13 &&& (255 : Int32)))) <<< ((5 : Int32) &&& 31)) ||| (f_rm22_0 (r15 &&& (255 : Int32)))).toUInt32 >>> ((4 : Int32) &&& 31).toUInt32).toInt32).toInt8.toInt32)) (r196 : Int32) (hr196 : r196 = (((((((((((((((0 : Int32) ||| (f_rm22_0 (r9 &&& (255 : Int32)))) <<< ((5 : Int32) &&& 31)) ||| (f_rm22_0 (r11 &&& (255 : Int32)))) &&& (3 : Int32)) <<< ((5 : Int32) &&& 31)) ||| (f_rm22_0 (r13 &&& (255 : Int32)))) <<< ((5 : Int32) &&& 31)) ||| (f_rm22_0 (r15 &&& (255 : Int32)))) &&& (15 : Int32)) <<< ((5 : Int32) &&& 31)) ||| (f_rm22_0 (r17 &&& (255 : Int32)))).toUInt32 >>> ((1 : Int32) &&& 31).toUInt32).toInt32).toInt8.toInt32)) (r197 : Int32) (hr197 : r197 = ((((((((((((((((((((0 : Int32) ||| (f_rm22_0 (r9 &&& (255 : Int32)))) <<< ((5 : Int32) &&& 31)) ||| (f_rm22_0 (r11 &&& (255 : Int32)))) &&& (3 : Int32)) <<< ((5 : Int32) &&& 31)) ||| (f_rm22_0 (r13 &&& (255 : Int32)))) <<< ((5 : Int32) &&& 31)) ||| (f_rm22_0 (r15 &&& (255 : Int32)))) &&& (15 : Int32)) <<< ((5 : Int32) &&& 31)) ||| (f_rm22_0 (r17 &&& (255 : Int32)))) &&& (1 : Int32)) <<< ((5 : Int32) &&& 31)) ||| (f_rm22_0 (r19 &&& (255 : Int32)))) <<< ((5 : Int32) &&& 31)) ||| (f_rm22_0 (r21 &&& (255 : Int32)))).toUInt32 >>> ((3 : Int32) &&& 31).toUInt32).toInt32).toInt8.toInt32)) (r200 : Int32) (hr200 : r200 = (f_rm23_4 v7 (0 : Int32) r194 r195 r196 r197)) (v221 : Int32) (hv221 : v221 = (if r200 = (0 : Int32) then (0 : Int32) else (if (f_rm23_4 v7 (1 : Int32) r194 r195 r196 r197) = (0 : Int32) then (0 : Int32) else (if (f_rm23_4 v7 (2 : Int32) r194 r195 r196 r197) = (0 : Int32) then (0 : Int32) else (if (f_rm23_4 v7 (3 : Int32) r194 r195 r196 r197) = (0 : Int32) then (0 : Int32) else (if (f_rm23_4 v7 (4 : Int32) r194 r195 r196 r197) = (0 : Int32) then (0 : Int32) else (1 : Int32))))))) (c24 : ¬ (v1 = (0 : Int32))) (c39 : ¬ (v1 = (1 : Int32))) (c78 : ¬ (v1 = (2 : Int32))) (c122 : ¬ (v1 = (3 : Int32))) (c169 : v1 = (4 : Int32)) : nar .boolean v221 = (1 : Int32) := by
  have N4 := own_N40 hv7
  have g0 := own_g0 hr9
  have g1 := own_g1 hr11
  have g2 := own_g2 hr13
  have g3 := own_g3 hr15
  have g4 := own_g4 hr17
  have g5 := own_g5 hr19
  have g6 := own_g6 hr21
  obtain ⟨N, hN⟩ : ∃ z, z = v7.toBitVec.toNat := ⟨_, rfl⟩
  rw [← hN] at g0 g1 g2 g3 g4 g5 g6 N4
  have b0 := own_fst g0
  have b1 := own_one b0 g1 (by omega) (by omega)
  have y0 := own_byt 2 (2 : Int32) b1 (by omega) (by decide) (by decide)
  have m0 := own_msk 2 (3 : Int32) b1 (by omega) (by decide) (by decide)
  have b2 := own_one m0 g2 (by omega) (by omega)
  have b3 := own_one b2 g3 (by omega) (by omega)
  have y1 := own_byt 4 (4 : Int32) b3 (by omega) (by decide) (by decide)
  have m1 := own_msk 4 (15 : Int32) b3 (by omega) (by decide) (by decide)
  have b4 := own_one m1 g4 (by omega) (by omega)
  have y2 := own_byt 1 (1 : Int32) b4 (by omega) (by decide) (by decide)
  have m2 := own_msk 1 (1 : Int32) b4 (by omega) (by decide) (by decide)
  have b5 := own_one m2 g5 (by omega) (by omega)
  have b6 := own_one b5 g6 (by omega) (by omega)
  have y3 := own_byt 3 (3 : Int32) b6 (by omega) (by decide) (by decide)
  have w0 := own_i8c (m := N / 4294967296) hr194 y0 (by omega)
  have w1 := own_i8c (m := N / 16777216) hr195 y1 (by omega)
  have w2 := own_i8c (m := N / 65536) hr196 y2 (by omega)
  have w3 := own_i8c (m := N / 256) hr197 y3 (by omega)
  have z0 : (f_rm23_4 v7 (0 : Int32) r194 r195 r196 r197) = (1 : Int32) := by
    have e : own_at [r194, r195, r196, r197] (0 : Int32) = r194 := rfl
    have q := own_ex v7 (0 : Int32) (k := 32) (by decide) (by decide)
    rw [← hN] at q
    unfold f_rm23_4
    rw [q, e, w0, if_pos rfl]; decide
  have z1 : (f_rm23_4 v7 (1 : Int32) r194 r195 r196 r197) = (1 : Int32) := by
    have e : own_at [r194, r195, r196, r197] (1 : Int32) = r195 := rfl
    have q := own_ex v7 (1 : Int32) (k := 24) (by decide) (by decide)
    rw [← hN] at q
    unfold f_rm23_4
    rw [q, e, w1, if_pos rfl]; decide
  have z2 : (f_rm23_4 v7 (2 : Int32) r194 r195 r196 r197) = (1 : Int32) := by
    have e : own_at [r194, r195, r196, r197] (2 : Int32) = r196 := rfl
    have q := own_ex v7 (2 : Int32) (k := 16) (by decide) (by decide)
    rw [← hN] at q
    unfold f_rm23_4
    rw [q, e, w2, if_pos rfl]; decide
  have z3 : (f_rm23_4 v7 (3 : Int32) r194 r195 r196 r197) = (1 : Int32) := by
    have e : own_at [r194, r195, r196, r197] (3 : Int32) = r197 := rfl
    have q := own_ex v7 (3 : Int32) (k := 8) (by decide) (by decide)
    rw [← hN] at q
    unfold f_rm23_4
    rw [q, e, w3, if_pos rfl]; decide
  have z4 : (f_rm23_4 v7 (4 : Int32) r194 r195 r196 r197) = (1 : Int32) := by unfold f_rm23_4; rw [if_neg (by decide)]
  rw [hv221, hr200]
  simp only [z0, z1, z2, z3, z4]
  decide
theorem own_end9 (j0 : Int64) (i1 : Int32) (sv_COMPACT_STRINGS : Int32) (v1 : Int32) (hv1 : v1 = ((i1 &&& (2147483647 : Int32)) % (6 : Int32))) (v6 : Int64) (hv6 : v6 = (if v1 = (0 : Int32) then (0 : Int64) else ((((1 : Int64) <<< (((8 : Int32) * v1) &&& 0x3f).toInt64) - (1 : Int64)) <<< (((40 : Int32) - ((8 : Int32) * v1)) &&& 0x3f).toInt64))) (v7 : Int64) (hv7 : v7 = ((j0 &&& (1099511627775 : Int64)) &&& v6)) (r9 : Int32) (hr9 : r9 = (f_rm1_0 v7 (0 : Int32))) (r11 : Int32) (hr11 : r11 = (f_rm1_0 v7 (1 : Int32))) (r13 : Int32) (hr13 : r13 = (f_rm1_0 v7 (2 : Int32))) (r15 : Int32) (hr15 : r15 = (f_rm1_0 v7 (3 : Int32))) (r17 : Int32) (hr17 : r17 = (f_rm1_0 v7 (4 : Int32))) (r19 : Int32) (hr19 : r19 = (f_rm1_0 v7 (5 : Int32))) (r21 : Int32) (hr21 : r21 = (f_rm1_0 v7 (6 : Int32))) (r23 : Int32) (hr23 : r23 = (f_rm1_0 v7 (7 : Int32))) (r244 : Int32) (hr244 : r244 = (((((((0 : Int32) ||| (f_rm22_0 (r9 &&& (255 : Int32)))) <<< ((5 : Int32) &&& 31)) ||| (f_rm22_0 (r11 &&& (255 : Int32)))).toUInt32 >>> ((2 : Int32) &&& 31).toUInt32).toInt32).toInt8.toInt32)) (r245 : Int32) (hr245 : r245 = ((((((((((((0 : Int32) ||| (f_rm22_0 (r9 &&& (255 : Int32)))) <<< ((5 : Int32) &&& 31)) ||| (f_rm22_0 (r11 &&& (255 : Int32)))) &&& (3 : Int32)) <<< ((5 : Int32) &&& 31)) ||| (f_rm22_0 (r13 &&& (255 : Int32)))) <<< ((5 : Int32) &&& 31)) ||| (f_rm22_0 (r15 &&& (255 : Int32)))).toUInt32 >>> ((4 : Int32) &&& 31).toUInt32).toInt32).toInt8.toInt32)) (r246 : Int32) (hr246 : r246 = (((((((((((((((0 : Int32) ||| (f_rm22_0 (r9 &&& (255 : Int32)))) <<< ((5 : Int32) &&& 31)) ||| (f_rm22_0 (r11 &&& (255 : Int32)))) &&& (3 : Int32)) <<< ((5 : Int32) &&& 31)) ||| (f_rm22_0 (r13 &&& (255 : Int32)))) <<< ((5 : Int32) &&& 31)) ||| (f_rm22_0 (r15 &&& (255 : Int32)))) &&& (15 : Int32)) <<< ((5 : Int32) &&& 31)) ||| (f_rm22_0 (r17 &&& (255 : Int32)))).toUInt32 >>> ((1 : Int32) &&& 31).toUInt32).toInt32).toInt8.toInt32)) (r247 : Int32) (hr247 : r247 = ((((((((((((((((((((0 : Int32) ||| (f_rm22_0 (r9 &&& (255 : Int32)))) <<< ((5 : Int32) &&& 31)) ||| (f_rm22_0 (r11 &&& (255 : Int32)))) &&& (3 : Int32)) <<< ((5 : Int32) &&& 31)) ||| (f_rm22_0 (r13 &&& (255 : Int32)))) <<< ((5 : Int32) &&& 31)) ||| (f_rm22_0 (r15 &&& (255 : Int32)))) &&& (15 : Int32)) <<< ((5 : Int32) &&& 31)) ||| (f_rm22_0 (r17 &&& (255 : Int32)))) &&& (1 : Int32)) <<< ((5 : Int32) &&& 31)) ||| (f_rm22_0 (r19 &&& (255 : Int32)))) <<< ((5 : Int32) &&& 31)) ||| (f_rm22_0 (r21 &&& (255 : Int32)))).toUInt32 >>> ((3 : Int32) &&& 31).toUInt32).toInt32).toInt8.toInt32)) (r248 : Int32) (hr248 : r248 = (((((((((((((((((((((((0 : Int32) ||| (f_rm22_0 (r9 &&& (255 : Int32)))) <<< ((5 : Int32) &&& 31)) ||| (f_rm22_0 (r11 &&& (255 : Int32)))) &&& (3 : Int32)) <<< ((5 : Int32) &&& 31)) ||| (f_rm22_0 (r13 &&& (255 : Int32)))) <<< ((5 : Int32) &&& 31)) ||| (f_rm22_0 (r15 &&& (255 : Int32)))) &&& (15 : Int32)) <<< ((5 : Int32) &&& 31)) ||| (f_rm22_0 (r17 &&& (255 : Int32)))) &&& (1 : Int32)) <<< ((5 : Int32) &&& 31)) ||| (f_rm22_0 (r19 &&& (255 : Int32)))) <<< ((5 : Int32) &&& 31)) ||| (f_rm22_0 (r21 &&& (255 : Int32)))) &&& (7 : Int32)) <<< ((5 : Int32) &&& 31)) ||| (f_rm22_0 (r23 &&& (255 : Int32)))).toUInt32 >>> ((0 : Int32) &&& 31).toUInt32).toInt32).toInt8.toInt32)) (r251 : Int32) (hr251 : r251 = (f_rm23_5 v7 (0 : Int32) r244 r245 r246 r247 r248)) (v272 : Int32) (hv272 : v272 = (if r251 = (0 : Int32) then (0 : Int32) else (if (f_rm23_5 v7 (1 : Int32) r244 r245 r246 r247 r248) = (0 : Int32) then (0 : Int32) else (if (f_rm23_5 v7 (2 : Int32) r244 r245 r246 r247 r248) = (0 : Int32) then (0 : Int32) else (if (f_rm23_5 v7 (3 : Int32) r244 r245 r246 r247 r248) = (0 : Int32) then (0 : Int32) else (if (f_rm23_5 v7 (4 : Int32) r244 r245 r246 r247 r248) = (0 : Int32) then (0 : Int32) else (1 : Int32))))))) (c24 : ¬ (v1 = (0 : Int32))) (c39 : ¬ (v1 = (1 : Int32))) (c78 : ¬ (v1 = (2 : Int32))) (c122 : ¬ (v1 = (3 : Int32))) (c169 : ¬ (v1 = (4 : Int32))) : nar .boolean v272 = (1 : Int32) := by
  have N4 := own_N40 hv7
  have g0 := own_g0 hr9
  have g1 := own_g1 hr11
  have g2 := own_g2 hr13
  have g3 := own_g3 hr15
  have g4 := own_g4 hr17
  have g5 := own_g5 hr19
  have g6 := own_g6 hr21
  have g7 := own_g7 hr23
  obtain ⟨N, hN⟩ : ∃ z, z = v7.toBitVec.toNat := ⟨_, rfl⟩
  rw [← hN] at g0 g1 g2 g3 g4 g5 g6 g7 N4
  have b0 := own_fst g0
  have b1 := own_one b0 g1 (by omega) (by omega)
  have y0 := own_byt 2 (2 : Int32) b1 (by omega) (by decide) (by decide)
  have m0 := own_msk 2 (3 : Int32) b1 (by omega) (by decide) (by decide)
  have b2 := own_one m0 g2 (by omega) (by omega)
  have b3 := own_one b2 g3 (by omega) (by omega)
  have y1 := own_byt 4 (4 : Int32) b3 (by omega) (by decide) (by decide)
  have m1 := own_msk 4 (15 : Int32) b3 (by omega) (by decide) (by decide)
  have b4 := own_one m1 g4 (by omega) (by omega)
  have y2 := own_byt 1 (1 : Int32) b4 (by omega) (by decide) (by decide)
  have m2 := own_msk 1 (1 : Int32) b4 (by omega) (by decide) (by decide)
  have b5 := own_one m2 g5 (by omega) (by omega)
  have b6 := own_one b5 g6 (by omega) (by omega)
  have y3 := own_byt 3 (3 : Int32) b6 (by omega) (by decide) (by decide)
  have m3 := own_msk 3 (7 : Int32) b6 (by omega) (by decide) (by decide)
  have b7 := own_one m3 g7 (by omega) (by omega)
  have y4 := own_byt 0 (0 : Int32) b7 (by omega) (by decide) (by decide)
  have w0 := own_i8c (m := N / 4294967296) hr244 y0 (by omega)
  have w1 := own_i8c (m := N / 16777216) hr245 y1 (by omega)
  have w2 := own_i8c (m := N / 65536) hr246 y2 (by omega)
  have w3 := own_i8c (m := N / 256) hr247 y3 (by omega)
  have w4 := own_i8c (m := N / 1) hr248 y4 (by omega)
  have z0 : (f_rm23_5 v7 (0 : Int32) r244 r245 r246 r247 r248) = (1 : Int32) := by
    have e : own_at [r244, r245, r246, r247, r248] (0 : Int32) = r244 := rfl
    have q := own_ex v7 (0 : Int32) (k := 32) (by decide) (by decide)
    rw [← hN] at q
    unfold f_rm23_5
    rw [q, e, w0, if_pos rfl]
  have z1 : (f_rm23_5 v7 (1 : Int32) r244 r245 r246 r247 r248) = (1 : Int32) := by
    have e : own_at [r244, r245, r246, r247, r248] (1 : Int32) = r245 := rfl
    have q := own_ex v7 (1 : Int32) (k := 24) (by decide) (by decide)
    rw [← hN] at q
    unfold f_rm23_5
    rw [q, e, w1, if_pos rfl]
  have z2 : (f_rm23_5 v7 (2 : Int32) r244 r245 r246 r247 r248) = (1 : Int32) := by
    have e : own_at [r244, r245, r246, r247, r248] (2 : Int32) = r246 := rfl
    have q := own_ex v7 (2 : Int32) (k := 16) (by decide) (by decide)
    rw [← hN] at q
    unfold f_rm23_5
    rw [q, e, w2, if_pos rfl]
  have z3 : (f_rm23_5 v7 (3 : Int32) r244 r245 r246 r247 r248) = (1 : Int32) := by
    have e : own_at [r244, r245, r246, r247, r248] (3 : Int32) = r247 := rfl
    have q := own_ex v7 (3 : Int32) (k := 8) (by decide) (by decide)
    rw [← hN] at q
    unfold f_rm23_5
    rw [q, e, w3, if_pos rfl]
  have z4 : (f_rm23_5 v7 (4 : Int32) r244 r245 r246 r247 r248) = (1 : Int32) := by
    have e : own_at [r244, r245, r246, r247, r248] (4 : Int32) = r248 := rfl
    have q := own_ex v7 (4 : Int32) (k := 0) (by decide) (by decide)
    rw [← hN] at q
    unfold f_rm23_5
    rw [q, e, w4, if_pos rfl]
  rw [hv272, hr251]
  simp only [z0, z1, z2, z3, z4]
  decide
theorem rm0 (l : Launch) (Z : State) (a0 : Array Value) (hw : HW a0 Z) (ws : List Jvm.Cond) (j0 : Int64) (i1 sv_COMPACT_STRINGS : Int32) (sv_SIOOBE_FORMATTER : Value) (h0 : Heap) (n0 : Nat) (O0 : Old Z n0 h0) (S_COMPACT_STRINGS : Sta Z Z.heap "java/lang/String" "COMPACT_STRINGS" "Z" (.int sv_COMPACT_STRINGS)) (hCS : ¬ (sv_COMPACT_STRINGS = (0 : Int32))) (S_SIOOBE_FORMATTER : Sta Z Z.heap "jdk/internal/util/Preconditions" "SIOOBE_FORMATTER" "Ljava/util/function/BiFunction;" sv_SIOOBE_FORMATTER) (isr_sv_SIOOBE_FORMATTER : sv_SIOOBE_FORMATTER.isRef = true) :
    ConW l Z own_EL ([] : List Addr) false x code maxLocals ret ws room_1 #[(.long j0), (.int i1)] h0 (fun v h L => v = some (.int (1 : Int32)) ∧ Fr n0 L) := by
 refine own_bodyW (plainFor_of_name own_pn0) (fun m => ef_rm0 m j0 i1) ?_
 intro p e s m below meth c s₁ hx hby hlk hml hret hZ hown hnm X0 e0 Cd0
 have N0 := Fr.nil n0
 refine Home.run X0 hx hby sg0_0_1 (pc' := 1) (L' := #[.val (.long j0), .second, .val (.int i1), .unset, .unset, .unset, .unset, .unset, .unset, .unset, .unset, .unset, .unset, .unset, .unset, .unset, .unset, .unset]) (S' := [(.int i1)]) rfl ?_
 refine Home.go (X0.ldcInt hx hown (mvT hZ (own_w0 hw)) rfl (hb hby at_1)) ?_
 refine Home.run X0 hx hby sg0_3_2 (pc' := 6) (L' := #[.val (.long j0), .second, .val (.int i1), .unset, .unset, .unset, .unset, .unset, .unset, .unset, .unset, .unset, .unset, .unset, .unset, .unset, .unset, .unset]) (S' := [(.int (6 : Int32)), (.int (i1 &&& (2147483647 : Int32)))]) rfl ?_
 refine Home.go (fun _ => iremM X0 hx rfl (hb hby at_6) rfl (by decide)) ?_
 refine Home.run X0 hx hby sg0_7_1 (pc' := 8) (L' := #[.val (.long j0), .second, .val (.int i1), .val (.int ((i1 &&& (2147483647 : Int32)) % (6 : Int32))), .unset, .unset, .unset, .unset, .unset, .unset, .unset, .unset, .unset, .unset, .unset, .unset, .unset, .unset]) (S' := []) rfl ?_
 obtain ⟨v1, hv1⟩ : ∃ z, z = ((i1 &&& (2147483647 : Int32)) % (6 : Int32)) := ⟨_, rfl⟩
 rw [← hv1]
 have bv1 : ¬ v1 < (0 : Int32) ∧ ¬ (5 : Int32) < v1 := by rw [hv1]; exact (bnd_rem (bnd_and i1 (2147483647 : Int32) (by decide)) (by decide +kernel) (by decide +kernel))
 refine Home.run X0 hx hby sg0_8_1 (pc' := 9) (L' := #[.val (.long j0), .second, .val (.int i1), .val (.int v1), .unset, .unset, .unset, .unset, .unset, .unset, .unset, .unset, .unset, .unset, .unset, .unset, .unset, .unset]) (S' := [(.int v1)]) rfl ?_
 suffices J5 : ∀ {T : State} (X : Stand p l e room_1 (s.setVm s.vm) m #[(.long j0), (.int i1)] below meth c T [] 0 0) (eT : T.heap = h0) (v6 : Int64) (hv6 : v6 = (if v1 = (0 : Int32) then (0 : Int64) else ((((1 : Int64) <<< (((8 : Int32) * v1) &&& 0x3f).toInt64) - (1 : Int64)) <<< (((40 : Int32) - ((8 : Int32) * v1)) &&& 0x3f).toInt64))), @Home p e below _ T (mkF m 32 #[.val (.long j0), .second, .val (.int i1), .val (.int v1), .unset, .unset, .unset, .unset, .unset, .unset, .unset, .unset, .unset, .unset, .unset, .unset, .unset, .unset] [(.long v6)]) by
  by_cases c2 : v1 = (0 : Int32)
  ·
   refine Home.go (fun _ => XS.ifNo X0.here hx rfl (hb hby at_9) rfl ((if0 _ _).trans (teq c2).2)) ?_
   have bd3 : ¬ v1 < (0 : Int32) ∧ ¬ (0 : Int32) < v1 := ⟨(bnd_eql c2), (bnd_eqr c2)⟩
   refine Home.run X0 hx hby sg0_12_2 (pc' := 32) (L' := #[.val (.long j0), .second, .val (.int i1), .val (.int v1), .unset, .unset, .unset, .unset, .unset, .unset, .unset, .unset, .unset, .unset, .unset, .unset, .unset, .unset]) (S' := [(.long (0 : Int64))]) rfl ?_
   exact J5 X0 e0 _ (by simp only [if_pos c2])
  ·
   refine Home.go (fun _ => XS.ifYes X0.here hx rfl (pc0 := 9) (pc' := 16) rfl (hb hby at_9) rfl ((if0 _ _).trans (feq c2).2) (by decide) (by decide)) ?_
   have bd4 : ¬ v1 < (1 : Int32) ∧ ¬ (5 : Int32) < v1 := ⟨(bnd_nel bv1.1 c2 (by decide +kernel)), bv1.2⟩
   refine Home.run X0 hx hby sg0_16_13 (pc' := 32) (L' := #[.val (.long j0), .second, .val (.int i1), .val (.int v1), .unset, .unset, .unset, .unset, .unset, .unset, .unset, .unset, .unset, .unset, .unset, .unset, .unset, .unset]) (S' := [(.long ((((1 : Int64) <<< (((8 : Int32) * v1) &&& 0x3f).toInt64) - (1 : Int64)) <<< (((40 : Int32) - ((8 : Int32) * v1)) &&& 0x3f).toInt64))]) rfl ?_
   exact J5 X0 e0 _ (by simp only [if_neg c2])
 intro TJ5 XJ5 eJ5 v6 hv6
 show Home TJ5 (mkF m 32 #[.val (.long j0), .second, .val (.int i1), .val (.int v1), .unset, .unset, .unset, .unset, .unset, .unset, .unset, .unset, .unset, .unset, .unset, .unset, .unset, .unset] [(.long v6)])
 refine Home.run XJ5 hx hby sg0_32_2 (pc' := 35) (L' := #[.val (.long j0), .second, .val (.int i1), .val (.int v1), .val (.long v6), .second, .unset, .unset, .unset, .unset, .unset, .unset, .unset, .unset, .unset, .unset, .unset, .unset]) (S' := [(.long j0)]) rfl ?_
 refine Home.go (XJ5.ldc2Long hx hown (mvT hZ (own_w1 hw)) rfl (hb hby at_35)) ?_
 refine Home.run XJ5 hx hby sg0_38_4 (pc' := 44) (L' := #[.val (.long j0), .second, .val (.int i1), .val (.int v1), .val (.long v6), .second, .val (.long ((j0 &&& (1099511627775 : Int64)) &&& v6)), .second, .unset, .unset, .unset, .unset, .unset, .unset, .unset, .unset, .unset, .unset]) (S' := []) rfl ?_
 obtain ⟨v7, hv7⟩ : ∃ z, z = ((j0 &&& (1099511627775 : Int64)) &&& v6) := ⟨_, rfl⟩
 rw [← hv7]
 refine Home.run XJ5 hx hby sg0_44_2 (pc' := 47) (L' := #[.val (.long j0), .second, .val (.int i1), .val (.int v1), .val (.long v6), .second, .val (.long v7), .second, .unset, .unset, .unset, .unset, .unset, .unset, .unset, .unset, .unset, .unset]) (S' := [(.int (0 : Int32)), (.long v7)]) rfl ?_
 refine Home.st (own_pure (own_static XJ5 hx hZ hown (own_w2 hw) (own_w3 hw) (own_w4 hw) (own_w5 hw) (by decide) (rm1_0 l Z a0 hw [] v7 (0 : Int32) h0 n0 O0 (bnd_mono (bnd_lit (0 : Int32)) (by decide +kernel) (by decide +kernel))) eJ5 rfl (by rw [hml]; rfl) (argsL := [(.long v7), (.int (0 : Int32))]) (rest := []) (lenOf own_pd0 rfl) rfl rfl (W := 0) (by exact hW0) (by decide) (by decide) (hb hby at_47) (by decide) (by decide))) fun T8 X8 e8 => ?_
 show Home T8 (mkF m 50 #[.val (.long j0), .second, .val (.int i1), .val (.int v1), .val (.long v6), .second, .val (.long v7), .second, .unset, .unset, .unset, .unset, .unset, .unset, .unset, .unset, .unset, .unset] [(.int (f_rm1_0 v7 (0 : Int32)))])
 obtain ⟨r9, hr9⟩ : ∃ z, z = (f_rm1_0 v7 (0 : Int32)) := ⟨_, rfl⟩
 rw [← hr9]
 have br9 : ¬ r9 < (50 : Int32) ∧ ¬ (122 : Int32) < r9 := by rw [hr9]; exact f_rm1_0_bnd v7 (0 : Int32) (bnd_mono (bnd_lit (0 : Int32)) (by decide +kernel) (by decide +kernel))
 refine Home.run X8 hx hby sg0_50_3 (pc' := 55) (L' := #[.val (.long j0), .second, .val (.int i1), .val (.int v1), .val (.long v6), .second, .val (.long v7), .second, .val (.int r9), .unset, .unset, .unset, .unset, .unset, .unset, .unset, .unset, .unset]) (S' := [(.int (1 : Int32)), (.long v7)]) rfl ?_
 refine Home.st (own_pure (own_static X8 hx hZ hown (own_w2 hw) (own_w3 hw) (own_w4 hw) (own_w5 hw) (by decide) (rm1_0 l Z a0 hw [] v7 (1 : Int32) h0 n0 O0 (bnd_mono (bnd_lit (1 : Int32)) (by decide +kernel) (by decide +kernel))) e8 rfl (by rw [hml]; rfl) (argsL := [(.long v7), (.int (1 : Int32))]) (rest := []) (lenOf own_pd0 rfl) rfl rfl (W := 0) (by exact hW0) (by decide) (by decide) (hb hby at_55) (by decide) (by decide))) fun T10 X10 e10 => ?_
 show Home T10 (mkF m 58 #[.val (.long j0), .second, .val (.int i1), .val (.int v1), .val (.long v6), .second, .val (.long v7), .second, .val (.int r9), .unset, .unset, .unset, .unset, .unset, .unset, .unset, .unset, .unset] [(.int (f_rm1_0 v7 (1 : Int32)))])
 obtain ⟨r11, hr11⟩ : ∃ z, z = (f_rm1_0 v7 (1 : Int32)) := ⟨_, rfl⟩
 rw [← hr11]
 have br11 : ¬ r11 < (50 : Int32) ∧ ¬ (122 : Int32) < r11 := by rw [hr11]; exact f_rm1_0_bnd v7 (1 : Int32) (bnd_mono (bnd_lit (1 : Int32)) (by decide +kernel) (by decide +kernel))
 refine Home.run X10 hx hby sg0_58_3 (pc' := 63) (L' := #[.val (.long j0), .second, .val (.int i1), .val (.int v1), .val (.long v6), .second, .val (.long v7), .second, .val (.int r9), .val (.int r11), .unset, .unset, .unset, .unset, .unset, .unset, .unset, .unset]) (S' := [(.int (2 : Int32)), (.long v7)]) rfl ?_
 refine Home.st (own_pure (own_static X10 hx hZ hown (own_w2 hw) (own_w3 hw) (own_w4 hw) (own_w5 hw) (by decide) (rm1_0 l Z a0 hw [] v7 (2 : Int32) h0 n0 O0 (bnd_mono (bnd_lit (2 : Int32)) (by decide +kernel) (by decide +kernel))) e10 rfl (by rw [hml]; rfl) (argsL := [(.long v7), (.int (2 : Int32))]) (rest := []) (lenOf own_pd0 rfl) rfl rfl (W := 0) (by exact hW0) (by decide) (by decide) (hb hby at_63) (by decide) (by decide))) fun T12 X12 e12 => ?_
 show Home T12 (mkF m 66 #[.val (.long j0), .second, .val (.int i1), .val (.int v1), .val (.long v6), .second, .val (.long v7), .second, .val (.int r9), .val (.int r11), .unset, .unset, .unset, .unset, .unset, .unset, .unset, .unset] [(.int (f_rm1_0 v7 (2 : Int32)))])
 obtain ⟨r13, hr13⟩ : ∃ z, z = (f_rm1_0 v7 (2 : Int32)) := ⟨_, rfl⟩
 rw [← hr13]
 have br13 : ¬ r13 < (50 : Int32) ∧ ¬ (122 : Int32) < r13 := by rw [hr13]; exact f_rm1_0_bnd v7 (2 : Int32) (bnd_mono (bnd_lit (2 : Int32)) (by decide +kernel) (by decide +kernel))
 refine Home.run X12 hx hby sg0_66_3 (pc' := 71) (L' := #[.val (.long j0), .second, .val (.int i1), .val (.int v1), .val (.long v6), .second, .val (.long v7), .second, .val (.int r9), .val (.int r11), .val (.int r13), .unset, .unset, .unset, .unset, .unset, .unset, .unset]) (S' := [(.int (3 : Int32)), (.long v7)]) rfl ?_
 refine Home.st (own_pure (own_static X12 hx hZ hown (own_w2 hw) (own_w3 hw) (own_w4 hw) (own_w5 hw) (by decide) (rm1_0 l Z a0 hw [] v7 (3 : Int32) h0 n0 O0 (bnd_mono (bnd_lit (3 : Int32)) (by decide +kernel) (by decide +kernel))) e12 rfl (by rw [hml]; rfl) (argsL := [(.long v7), (.int (3 : Int32))]) (rest := []) (lenOf own_pd0 rfl) rfl rfl (W := 0) (by exact hW0) (by decide) (by decide) (hb hby at_71) (by decide) (by decide))) fun T14 X14 e14 => ?_
 show Home T14 (mkF m 74 #[.val (.long j0), .second, .val (.int i1), .val (.int v1), .val (.long v6), .second, .val (.long v7), .second, .val (.int r9), .val (.int r11), .val (.int r13), .unset, .unset, .unset, .unset, .unset, .unset, .unset] [(.int (f_rm1_0 v7 (3 : Int32)))])
 obtain ⟨r15, hr15⟩ : ∃ z, z = (f_rm1_0 v7 (3 : Int32)) := ⟨_, rfl⟩
 rw [← hr15]
 have br15 : ¬ r15 < (50 : Int32) ∧ ¬ (122 : Int32) < r15 := by rw [hr15]; exact f_rm1_0_bnd v7 (3 : Int32) (bnd_mono (bnd_lit (3 : Int32)) (by decide +kernel) (by decide +kernel))
 refine Home.run X14 hx hby sg0_74_3 (pc' := 79) (L' := #[.val (.long j0), .second, .val (.int i1), .val (.int v1), .val (.long v6), .second, .val (.long v7), .second, .val (.int r9), .val (.int r11), .val (.int r13), .val (.int r15), .unset, .unset, .unset, .unset, .unset, .unset]) (S' := [(.int (4 : Int32)), (.long v7)]) rfl ?_
 refine Home.st (own_pure (own_static X14 hx hZ hown (own_w2 hw) (own_w3 hw) (own_w4 hw) (own_w5 hw) (by decide) (rm1_0 l Z a0 hw [] v7 (4 : Int32) h0 n0 O0 (bnd_mono (bnd_lit (4 : Int32)) (by decide +kernel) (by decide +kernel))) e14 rfl (by rw [hml]; rfl) (argsL := [(.long v7), (.int (4 : Int32))]) (rest := []) (lenOf own_pd0 rfl) rfl rfl (W := 0) (by exact hW0) (by decide) (by decide) (hb hby at_79) (by decide) (by decide))) fun T16 X16 e16 => ?_
 show Home T16 (mkF m 82 #[.val (.long j0), .second, .val (.int i1), .val (.int v1), .val (.long v6), .second, .val (.long v7), .second, .val (.int r9), .val (.int r11), .val (.int r13), .val (.int r15), .unset, .unset, .unset, .unset, .unset, .unset] [(.int (f_rm1_0 v7 (4 : Int32)))])
 obtain ⟨r17, hr17⟩ : ∃ z, z = (f_rm1_0 v7 (4 : Int32)) := ⟨_, rfl⟩
 rw [← hr17]
 have br17 : ¬ r17 < (50 : Int32) ∧ ¬ (122 : Int32) < r17 := by rw [hr17]; exact f_rm1_0_bnd v7 (4 : Int32) (bnd_mono (bnd_lit (4 : Int32)) (by decide +kernel) (by decide +kernel))
 refine Home.run X16 hx hby sg0_82_3 (pc' := 87) (L' := #[.val (.long j0), .second, .val (.int i1), .val (.int v1), .val (.long v6), .second, .val (.long v7), .second, .val (.int r9), .val (.int r11), .val (.int r13), .val (.int r15), .val (.int r17), .unset, .unset, .unset, .unset, .unset]) (S' := [(.int (5 : Int32)), (.long v7)]) rfl ?_
 refine Home.st (own_pure (own_static X16 hx hZ hown (own_w2 hw) (own_w3 hw) (own_w4 hw) (own_w5 hw) (by decide) (rm1_0 l Z a0 hw [] v7 (5 : Int32) h0 n0 O0 (bnd_mono (bnd_lit (5 : Int32)) (by decide +kernel) (by decide +kernel))) e16 rfl (by rw [hml]; rfl) (argsL := [(.long v7), (.int (5 : Int32))]) (rest := []) (lenOf own_pd0 rfl) rfl rfl (W := 0) (by exact hW0) (by decide) (by decide) (hb hby at_87) (by decide) (by decide))) fun T18 X18 e18 => ?_
 show Home T18 (mkF m 90 #[.val (.long j0), .second, .val (.int i1), .val (.int v1), .val (.long v6), .second, .val (.long v7), .second, .val (.int r9), .val (.int r11), .val (.int r13), .val (.int r15), .val (.int r17), .unset, .unset, .unset, .unset, .unset] [(.int (f_rm1_0 v7 (5 : Int32)))])
 obtain ⟨r19, hr19⟩ : ∃ z, z = (f_rm1_0 v7 (5 : Int32)) := ⟨_, rfl⟩
 rw [← hr19]
 have br19 : ¬ r19 < (50 : Int32) ∧ ¬ (122 : Int32) < r19 := by rw [hr19]; exact f_rm1_0_bnd v7 (5 : Int32) (bnd_mono (bnd_lit (5 : Int32)) (by decide +kernel) (by decide +kernel))
 refine Home.run X18 hx hby sg0_90_3 (pc' := 96) (L' := #[.val (.long j0), .second, .val (.int i1), .val (.int v1), .val (.long v6), .second, .val (.long v7), .second, .val (.int r9), .val (.int r11), .val (.int r13), .val (.int r15), .val (.int r17), .val (.int r19), .unset, .unset, .unset, .unset]) (S' := [(.int (6 : Int32)), (.long v7)]) rfl ?_
 refine Home.st (own_pure (own_static X18 hx hZ hown (own_w2 hw) (own_w3 hw) (own_w4 hw) (own_w5 hw) (by decide) (rm1_0 l Z a0 hw [] v7 (6 : Int32) h0 n0 O0 (bnd_mono (bnd_lit (6 : Int32)) (by decide +kernel) (by decide +kernel))) e18 rfl (by rw [hml]; rfl) (argsL := [(.long v7), (.int (6 : Int32))]) (rest := []) (lenOf own_pd0 rfl) rfl rfl (W := 0) (by exact hW0) (by decide) (by decide) (hb hby at_96) (by decide) (by decide))) fun T20 X20 e20 => ?_
 show Home T20 (mkF m 99 #[.val (.long j0), .second, .val (.int i1), .val (.int v1), .val (.long v6), .second, .val (.long v7), .second, .val (.int r9), .val (.int r11), .val (.int r13), .val (.int r15), .val (.int r17), .val (.int r19), .unset, .unset, .unset, .unset] [(.int (f_rm1_0 v7 (6 : Int32)))])
 obtain ⟨r21, hr21⟩ : ∃ z, z = (f_rm1_0 v7 (6 : Int32)) := ⟨_, rfl⟩
 rw [← hr21]
 have br21 : ¬ r21 < (50 : Int32) ∧ ¬ (122 : Int32) < r21 := by rw [hr21]; exact f_rm1_0_bnd v7 (6 : Int32) (bnd_mono (bnd_lit (6 : Int32)) (by decide +kernel) (by decide +kernel))
 refine Home.run X20 hx hby sg0_99_3 (pc' := 105) (L' := #[.val (.long j0), .second, .val (.int i1), .val (.int v1), .val (.long v6), .second, .val (.long v7), .second, .val (.int r9), .val (.int r11), .val (.int r13), .val (.int r15), .val (.int r17), .val (.int r19), .val (.int r21), .unset, .unset, .unset]) (S' := [(.int (7 : Int32)), (.long v7)]) rfl ?_
 refine Home.st (own_pure (own_static X20 hx hZ hown (own_w2 hw) (own_w3 hw) (own_w4 hw) (own_w5 hw) (by decide) (rm1_0 l Z a0 hw [] v7 (7 : Int32) h0 n0 O0 (bnd_mono (bnd_lit (7 : Int32)) (by decide +kernel) (by decide +kernel))) e20 rfl (by rw [hml]; rfl) (argsL := [(.long v7), (.int (7 : Int32))]) (rest := []) (lenOf own_pd0 rfl) rfl rfl (W := 0) (by exact hW0) (by decide) (by decide) (hb hby at_105) (by decide) (by decide))) fun T22 X22 e22 => ?_
 show Home T22 (mkF m 108 #[.val (.long j0), .second, .val (.int i1), .val (.int v1), .val (.long v6), .second, .val (.long v7), .second, .val (.int r9), .val (.int r11), .val (.int r13), .val (.int r15), .val (.int r17), .val (.int r19), .val (.int r21), .unset, .unset, .unset] [(.int (f_rm1_0 v7 (7 : Int32)))])
 obtain ⟨r23, hr23⟩ : ∃ z, z = (f_rm1_0 v7 (7 : Int32)) := ⟨_, rfl⟩
 rw [← hr23]
 have br23 : ¬ r23 < (50 : Int32) ∧ ¬ (122 : Int32) < r23 := by rw [hr23]; exact f_rm1_0_bnd v7 (7 : Int32) (bnd_mono (bnd_lit (7 : Int32)) (by decide +kernel) (by decide +kernel))
 refine Home.run X22 hx hby sg0_108_2 (pc' := 111) (L' := #[.val (.long j0), .second, .val (.int i1), .val (.int v1), .val (.long v6), .second, .val (.long v7), .second, .val (.int r9), .val (.int r11), .val (.int r13), .val (.int r15), .val (.int r17), .val (.int r19), .val (.int r21), .val (.int r23), .unset, .unset]) (S' := [(.int v1)]) rfl ?_
 by_cases c24 : v1 = (0 : Int32)
 ·
  refine Home.go (fun _ => XS.ifNo X22.here hx rfl (hb hby at_111) rfl ((if0 _ _).trans (teq c24).2)) ?_
  have bd25 : ¬ v1 < (0 : Int32) ∧ ¬ (0 : Int32) < v1 := ⟨(bnd_eql c24), (bnd_eqr c24)⟩
  have fx26 : v1 = (0 : Int32) := bnd_fix bd25
  try rw [fx26]
  show Home T22 (mkF m 114 #[.val (.long j0), .second, .val (.int i1), .val (.int (0 : Int32)), .val (.long v6), .second, .val (.long v7), .second, .val (.int r9), .val (.int r11), .val (.int r13), .val (.int r15), .val (.int r17), .val (.int r19), .val (.int r21), .val (.int r23), .unset, .unset] [])
  refine Home.run X22 hx hby sg0_114_1 (pc' := 115) (L' := #[.val (.long j0), .second, .val (.int i1), .val (.int (0 : Int32)), .val (.long v6), .second, .val (.long v7), .second, .val (.int r9), .val (.int r11), .val (.int r13), .val (.int r15), .val (.int r17), .val (.int r19), .val (.int r21), .val (.int r23), .unset, .unset]) (S' := [(.int (0 : Int32))]) rfl ?_
  refine Home.na (own_newP (aty := .char) X22 hx hZ (own_w7 hw) e22 (g := (mkF m 115 #[.val (.long j0), .second, .val (.int i1), .val (.int (0 : Int32)), .val (.long v6), .second, .val (.long v7), .second, .val (.int r9), .val (.int r11), .val (.int r13), .val (.int r15), .val (.int r17), .val (.int r19), .val (.int r21), .val (.int r23), .unset, .unset] [(.int (0 : Int32))])) rfl (hb hby at_115) rfl (by decide) (cap := 0) (by decide) (by decide) (by decide) (by decide)) fun T28 h28 k28 b28 g28 X28 e28 E28 A28 => ?_
  have g_b28 : n0 ≤ b28 := Nat.le_trans (Old.le O0) (Nat.le_of_eq g28.symm)
  have V28 : Arv Z h28 b28 k28 .char (0 : Int32) [] (.int (0 : Int32)) := Arv.new A28 (by decide)
  have O28 := O0.ext E28
  have K28 : Keep h0 h28 ([] : List Addr) := Keep.ext (Keep.refl h0 ([] : List Addr)) E28
  have Cd28 := Cold.ext Cd0 E28
  refine Home.run X28 hx hby sg0_117_2 (pc' := 314) (L' := #[.val (.long j0), .second, .val (.int i1), .val (.int (0 : Int32)), .val (.long v6), .second, .val (.long v7), .second, .val (.int r9), .val (.int r11), .val (.int r13), .val (.int r15), .val (.int r17), .val (.int r19), .val (.int r21), .val (.int r23), .val (.ref b28), .unset]) (S' := []) rfl ?_
  refine Home.nw (own_newO X28 hx hZ hown (own_w8 hw) (own_w9 hw) (own_w10 hw) e28 rfl (hb hby at_314) (by decide) (by decide)) fun T29 h29 b29 g29 X29 e29 E29 A29 D29 => ?_
  have g_b29 : n0 ≤ b29 := Nat.le_trans (Old.le O28) (Nat.le_of_eq g29.symm)
  have F_coder_b29 : Fld Z h29 b29 "java/lang/String" "coder" "B" (.int (0 : Int32)) := D29 (Or.inr (own_w34 hw)) (ty := .byte) (by decide)
  have F_value_b29 : Fld Z h29 b29 "java/lang/String" "value" "[B" .null := D29 (Or.inr (own_w36 hw)) (ty := (.array .byte)) (by decide)
  have O29 := O28.ext E29
  have K29 : Keep h0 h29 ([] : List Addr) := Keep.ext K28 E29
  have Cd29 := Cold.add Cd28 E29 (Nat.le_of_eq g29.symm) A29.lt
  show Home T29 (mkF m 317 #[.val (.long j0), .second, .val (.int i1), .val (.int (0 : Int32)), .val (.long v6), .second, .val (.long v7), .second, .val (.int r9), .val (.int r11), .val (.int r13), .val (.int r15), .val (.int r17), .val (.int r19), .val (.int r21), .val (.int r23), .val (.ref b28), .unset] [(.ref b29)])
  refine Home.run X29 hx hby sg0_317_2 (pc' := 320) (L' := #[.val (.long j0), .second, .val (.int i1), .val (.int (0 : Int32)), .val (.long v6), .second, .val (.long v7), .second, .val (.int r9), .val (.int r11), .val (.int r13), .val (.int r15), .val (.int r17), .val (.int r19), .val (.int r21), .val (.int r23), .val (.ref b28), .unset]) (S' := [(.ref b28), (.ref b29), (.ref b29)]) rfl ?_
  have q30 := (V28.ext E29)
  refine Home.call (own_specialW X29 hx hZ hown (own_hEL hw) Cd29 (allS (List.mem_of_getElem? (i := 0) rfl) all0) rfl (own_w11 hw) (own_w12 hw) (own_w10 hw) (own_w13 hw) (by decide) (rm2_0 l Z a0 hw [] b29 b28 k28 h29 n0 O29 q30 A29 F_value_b29 F_coder_b29 g_b29) e29 rfl (by rw [hml]; rfl) (a := b29) (argsL := [(.ref b28)]) (rest := [(.ref b29)]) (lenOf own_pd2 rfl) rfl rfl (W := 1) (by exact hW0) (by decide) (by decide) (hb hby at_320) (by decide) (by decide)) ?_
  rintro _ T31 L31 X31 ⟨⟨b2_2_31, k2_2_31, rfl, N31q, K31q, P31_0, P31_1, P31_2, P31_3⟩, hZ, hown, Cd31, sR31⟩
  have O31 := Old.keep O29 K31q (allS g_b29 all0)
  have K31 : Keep h0 T31.heap ([] : List Addr) := Keep.trans K29 K31q (allS (Or.inr (Nat.le_trans E28.1 (Nat.le_of_eq g29.symm))) all0)
  have N31 := Fr.app N0 N31q
  refine Home.call (own_static X31 hx hZ hown (own_w37 hw) (own_w38 hw) (own_w39 hw) (own_w40 hw) (by decide) (rm8_0 l Z a0 hw [] b29 b2_2_31 k2_2_31 sv_COMPACT_STRINGS T31.heap n0 O31 P31_0 P31_1 P31_3 S_COMPACT_STRINGS P31_2 hCS) rfl rfl (by rw [hml]; rfl) (argsL := [(.ref b29)]) (rest := []) (lenOf own_pd5 rfl) rfl rfl (W := 0) (by exact hW0) (by decide) (by decide) (hb hby at_323) (by decide) (by decide)) ?_
  rintro _ T32 L32 X32 ⟨b3_32, k3_32, rfl, N32q, sz_b3_32, K32q, P32_0⟩
  have Cd32 := Cold.keep Cd31 K32q all0
  have Cd32b3_32 := Cold.put Cd32 ⟨Safe.keep K32q all0 Cd31.2.1.1 (Safe.new sz_b3_32), P32_0.lt⟩
  have g_b3_32 : n0 ≤ b3_32 := Nat.le_trans (Old.le O31) sz_b3_32
  have O32 := Old.keep O31 K32q all0
  have K32 : Keep h0 T32.heap ([] : List Addr) := Keep.trans K31 K32q all0
  have N32 := Fr.app N31 N32q
  show Home T32 (mkF m 326 #[.val (.long j0), .second, .val (.int i1), .val (.int (0 : Int32)), .val (.long v6), .second, .val (.long v7), .second, .val (.int r9), .val (.int r11), .val (.int r13), .val (.int r15), .val (.int r17), .val (.int r19), .val (.int r21), .val (.int r23), .val (.ref b28), .unset] [(.ref b3_32)])
  refine Home.run X32 hx hby sg0_326_2 (pc' := 330) (L' := #[.val (.long j0), .second, .val (.int i1), .val (.int (0 : Int32)), .val (.long v6), .second, .val (.long v7), .second, .val (.int r9), .val (.int r11), .val (.int r13), .val (.int r15), .val (.int r17), .val (.int r19), .val (.int r21), .val (.int r23), .val (.ref b28), .val (.ref b3_32)]) (S' := [(.ref b3_32)]) rfl ?_
  obtain ⟨cl33, Ar33, q33, S33, M33, H33, G33⟩ := id P32_0
  refine Home.go (own_alen X32 hx hZ rfl Ar33 S33 M33 rfl rfl (hb hby at_330)) ?_
  refine Home.run X32 hx hby sg0_331_1 (pc' := 332) (L' := #[.val (.long j0), .second, .val (.int i1), .val (.int (0 : Int32)), .val (.long v6), .second, .val (.long v7), .second, .val (.int r9), .val (.int r11), .val (.int r13), .val (.int r15), .val (.int r17), .val (.int r19), .val (.int r21), .val (.int r23), .val (.ref b28), .val (.ref b3_32)]) (S' := [(.int (0 : Int32)), (.int (0 : Int32))]) rfl ?_
  refine Home.go (fun _ => XS.icmpYes X32.here hx rfl (pc0 := 332) (pc' := 337) rfl (hb hby at_332) rfl (teq (by decide)).1 (by decide) (by decide)) ?_
  refine Home.run X32 hx hby sg0_337_4 (pc' := 343) (L' := #[.val (.long j0), .second, .val (.int i1), .val (.int (0 : Int32)), .val (.long v6), .second, .val (.long v7), .second, .val (.int r9), .val (.int r11), .val (.int r13), .val (.int r15), .val (.int r17), .val (.int r19), .val (.int r21), .val (.int r23), .val (.ref b28), .val (.ref b3_32)]) (S' := [(.int (0 : Int32)), (.int (0 : Int32)), (.long v7), (.ref b3_32)]) rfl ?_
  refine Home.st (own_pure (own_static X32 hx hZ hown (own_w103 hw) (own_w104 hw) (own_w4 hw) (own_w105 hw) (by decide) (rm23_0 l Z a0 hw [] b3_32 v7 (0 : Int32) T32.heap n0 O32 (bnd_mono (bnd_lit (0 : Int32)) (by decide +kernel) (by decide +kernel))) rfl rfl (by rw [hml]; rfl) (argsL := [(.ref b3_32), (.long v7), (.int (0 : Int32)), (.int (0 : Int32))]) (rest := []) (lenOf own_pd6 rfl) rfl rfl (W := 0) (by exact hW0) (by decide) (by decide) (hb hby at_343) (by decide) (by decide))) fun T34 X34 e34 => ?_
  refine Home.go (fun _ => XS.ifNo X34.here hx rfl (hb hby at_346) rfl ((if0 _ _).trans (feq (by decide)).1)) ?_
  refine Home.run X34 hx hby sg0_349_4 (pc' := 355) (L' := #[.val (.long j0), .second, .val (.int i1), .val (.int (0 : Int32)), .val (.long v6), .second, .val (.long v7), .second, .val (.int r9), .val (.int r11), .val (.int r13), .val (.int r15), .val (.int r17), .val (.int r19), .val (.int r21), .val (.int r23), .val (.ref b28), .val (.ref b3_32)]) (S' := [(.int (1 : Int32)), (.int (0 : Int32)), (.long v7), (.ref b3_32)]) rfl ?_
  refine Home.st (own_pure (own_static X34 hx hZ hown (own_w103 hw) (own_w104 hw) (own_w4 hw) (own_w105 hw) (by decide) (rm23_0 l Z a0 hw [] b3_32 v7 (1 : Int32) T32.heap n0 O32 (bnd_mono (bnd_lit (1 : Int32)) (by decide +kernel) (by decide +kernel))) e34 rfl (by rw [hml]; rfl) (argsL := [(.ref b3_32), (.long v7), (.int (0 : Int32)), (.int (1 : Int32))]) (rest := []) (lenOf own_pd6 rfl) rfl rfl (W := 0) (by exact hW0) (by decide) (by decide) (hb hby at_355) (by decide) (by decide))) fun T35 X35 e35 => ?_
  refine Home.go (fun _ => XS.ifNo X35.here hx rfl (hb hby at_358) rfl ((if0 _ _).trans (feq (by decide)).1)) ?_
  refine Home.run X35 hx hby sg0_361_4 (pc' := 367) (L' := #[.val (.long j0), .second, .val (.int i1), .val (.int (0 : Int32)), .val (.long v6), .second, .val (.long v7), .second, .val (.int r9), .val (.int r11), .val (.int r13), .val (.int r15), .val (.int r17), .val (.int r19), .val (.int r21), .val (.int r23), .val (.ref b28), .val (.ref b3_32)]) (S' := [(.int (2 : Int32)), (.int (0 : Int32)), (.long v7), (.ref b3_32)]) rfl ?_
  refine Home.st (own_pure (own_static X35 hx hZ hown (own_w103 hw) (own_w104 hw) (own_w4 hw) (own_w105 hw) (by decide) (rm23_0 l Z a0 hw [] b3_32 v7 (2 : Int32) T32.heap n0 O32 (bnd_mono (bnd_lit (2 : Int32)) (by decide +kernel) (by decide +kernel))) e35 rfl (by rw [hml]; rfl) (argsL := [(.ref b3_32), (.long v7), (.int (0 : Int32)), (.int (2 : Int32))]) (rest := []) (lenOf own_pd6 rfl) rfl rfl (W := 0) (by exact hW0) (by decide) (by decide) (hb hby at_367) (by decide) (by decide))) fun T36 X36 e36 => ?_
  refine Home.go (fun _ => XS.ifNo X36.here hx rfl (hb hby at_370) rfl ((if0 _ _).trans (feq (by decide)).1)) ?_
  refine Home.run X36 hx hby sg0_373_4 (pc' := 379) (L' := #[.val (.long j0), .second, .val (.int i1), .val (.int (0 : Int32)), .val (.long v6), .second, .val (.long v7), .second, .val (.int r9), .val (.int r11), .val (.int r13), .val (.int r15), .val (.int r17), .val (.int r19), .val (.int r21), .val (.int r23), .val (.ref b28), .val (.ref b3_32)]) (S' := [(.int (3 : Int32)), (.int (0 : Int32)), (.long v7), (.ref b3_32)]) rfl ?_
  refine Home.st (own_pure (own_static X36 hx hZ hown (own_w103 hw) (own_w104 hw) (own_w4 hw) (own_w105 hw) (by decide) (rm23_0 l Z a0 hw [] b3_32 v7 (3 : Int32) T32.heap n0 O32 (bnd_mono (bnd_lit (3 : Int32)) (by decide +kernel) (by decide +kernel))) e36 rfl (by rw [hml]; rfl) (argsL := [(.ref b3_32), (.long v7), (.int (0 : Int32)), (.int (3 : Int32))]) (rest := []) (lenOf own_pd6 rfl) rfl rfl (W := 0) (by exact hW0) (by decide) (by decide) (hb hby at_379) (by decide) (by decide))) fun T37 X37 e37 => ?_
  show Home T37 (mkF m 382 #[.val (.long j0), .second, .val (.int i1), .val (.int (0 : Int32)), .val (.long v6), .second, .val (.long v7), .second, .val (.int r9), .val (.int r11), .val (.int r13), .val (.int r15), .val (.int r17), .val (.int r19), .val (.int r21), .val (.int r23), .val (.ref b28), .val (.ref b3_32)] [(.int (1 : Int32))])
  refine Home.go (fun _ => XS.ifNo X37.here hx rfl (hb hby at_382) rfl ((if0 _ _).trans (feq (by decide)).1)) ?_
  refine Home.run X37 hx hby sg0_385_4 (pc' := 391) (L' := #[.val (.long j0), .second, .val (.int i1), .val (.int (0 : Int32)), .val (.long v6), .second, .val (.long v7), .second, .val (.int r9), .val (.int r11), .val (.int r13), .val (.int r15), .val (.int r17), .val (.int r19), .val (.int r21), .val (.int r23), .val (.ref b28), .val (.ref b3_32)]) (S' := [(.int (4 : Int32)), (.int (0 : Int32)), (.long v7), (.ref b3_32)]) rfl ?_
  refine Home.st (own_pure (own_static X37 hx hZ hown (own_w103 hw) (own_w104 hw) (own_w4 hw) (own_w105 hw) (by decide) (rm23_0 l Z a0 hw [] b3_32 v7 (4 : Int32) T32.heap n0 O32 (bnd_mono (bnd_lit (4 : Int32)) (by decide +kernel) (by decide +kernel))) e37 rfl (by rw [hml]; rfl) (argsL := [(.ref b3_32), (.long v7), (.int (0 : Int32)), (.int (4 : Int32))]) (rest := []) (lenOf own_pd6 rfl) rfl rfl (W := 0) (by exact hW0) (by decide) (by decide) (hb hby at_391) (by decide) (by decide))) fun T38 X38 e38 => ?_
  refine Home.go (fun _ => XS.ifNo X38.here hx rfl (hb hby at_394) rfl ((if0 _ _).trans (feq (by decide)).1)) ?_
  refine Home.run X38 hx hby sg0_397_2 (pc' := 402) (L' := #[.val (.long j0), .second, .val (.int i1), .val (.int (0 : Int32)), .val (.long v6), .second, .val (.long v7), .second, .val (.int r9), .val (.int r11), .val (.int r13), .val (.int r15), .val (.int r17), .val (.int r19), .val (.int r21), .val (.int r23), .val (.ref b28), .val (.ref b3_32)]) (S' := [(.int (1 : Int32))]) rfl ?_
  exact HomeW.retN X38 hx hlk hZ (own_hEL hw) e38 Cd32b3_32 (t := .boolean) hret (by simp) (hb hby at_402) ⟨rfl, N32⟩ (by decide) (by decide)
 ·
  refine Home.go (fun _ => XS.ifYes X22.here hx rfl (pc0 := 111) (pc' := 122) rfl (hb hby at_111) rfl ((if0 _ _).trans (feq c24).2) (by decide) (by decide)) ?_
  have bd27 : ¬ v1 < (1 : Int32) ∧ ¬ (5 : Int32) < v1 := ⟨(bnd_nel bv1.1 c24 (by decide +kernel)), bv1.2⟩
  refine Home.run X22 hx hby sg0_122_2 (pc' := 124) (L' := #[.val (.long j0), .second, .val (.int i1), .val (.int v1), .val (.long v6), .second, .val (.long v7), .second, .val (.int r9), .val (.int r11), .val (.int r13), .val (.int r15), .val (.int r17), .val (.int r19), .val (.int r21), .val (.int r23), .unset, .unset]) (S' := [(.int (1 : Int32)), (.int v1)]) rfl ?_
  by_cases c39 : v1 = (1 : Int32)
  ·
   refine Home.go (fun _ => XS.icmpNo X22.here hx rfl (hb hby at_124) rfl (teq c39).2) ?_
   have bd40 : ¬ v1 < (1 : Int32) ∧ ¬ (1 : Int32) < v1 := ⟨(bnd_eql c39), (bnd_eqr c39)⟩
   have fx41 : v1 = (1 : Int32) := bnd_fix bd40
   try rw [fx41]
   show Home T22 (mkF m 127 #[.val (.long j0), .second, .val (.int i1), .val (.int (1 : Int32)), .val (.long v6), .second, .val (.long v7), .second, .val (.int r9), .val (.int r11), .val (.int r13), .val (.int r15), .val (.int r17), .val (.int r19), .val (.int r21), .val (.int r23), .unset, .unset] [])
   refine Home.run X22 hx hby sg0_127_1 (pc' := 128) (L' := #[.val (.long j0), .second, .val (.int i1), .val (.int (1 : Int32)), .val (.long v6), .second, .val (.long v7), .second, .val (.int r9), .val (.int r11), .val (.int r13), .val (.int r15), .val (.int r17), .val (.int r19), .val (.int r21), .val (.int r23), .unset, .unset]) (S' := [(.int (2 : Int32))]) rfl ?_
   refine Home.na (own_newP (aty := .char) X22 hx hZ (own_w7 hw) e22 (g := (mkF m 128 #[.val (.long j0), .second, .val (.int i1), .val (.int (1 : Int32)), .val (.long v6), .second, .val (.long v7), .second, .val (.int r9), .val (.int r11), .val (.int r13), .val (.int r15), .val (.int r17), .val (.int r19), .val (.int r21), .val (.int r23), .unset, .unset] [(.int (2 : Int32))])) rfl (hb hby at_128) rfl (by decide) (cap := 2) (by decide) (by decide) (by decide) (by decide)) fun T43 h43 k43 b43 g43 X43 e43 E43 A43 => ?_
   have g_b43 : n0 ≤ b43 := Nat.le_trans (Old.le O0) (Nat.le_of_eq g43.symm)
   have V43 : Arv Z h43 b43 k43 .char (2 : Int32) [(.int (0 : Int32)), (.int (0 : Int32))] (.int (0 : Int32)) := (Arv.new A43 (by decide)).pad (pad_rep [] (.int (0 : Int32)) 2)
   have O43 := O0.ext E43
   have K43 : Keep h0 h43 ([] : List Addr) := Keep.ext (Keep.refl h0 ([] : List Addr)) E43
   have Cd43 := Cold.ext Cd0 E43
   refine Home.run X43 hx hby sg0_130_3 (pc' := 134) (L' := #[.val (.long j0), .second, .val (.int i1), .val (.int (1 : Int32)), .val (.long v6), .second, .val (.long v7), .second, .val (.int r9), .val (.int r11), .val (.int r13), .val (.int r15), .val (.int r17), .val (.int r19), .val (.int r21), .val (.int r23), .unset, .unset]) (S' := [(.int r9), (.int (0 : Int32)), (.ref b43), (.ref b43)]) rfl ?_
   obtain ⟨cl44, Ar44, q44, S44, M44, H44, G44⟩ := id V43
   refine Home.wr (stC X43 hx hZ e43 Ar44 (j := (0 : Int32)) (inb_of S44 ⟨by decide, by decide⟩) rfl rfl (hb hby at_134)) fun T44 h44 X44 e44 W44 => ?_
   have W44' := Wr.to W44 (congrArg Value.int (nar_char_id br9 (by decide +kernel) (by decide +kernel)))
   have V44 : Arv Z h44 b43 k43 .char (2 : Int32) [(.int r9), (.int (0 : Int32))] (.int (0 : Int32)) := Arv.set Ar44 q44 S44 M44 H44 G44 (fits_char_b br9 (by decide +kernel) (by decide +kernel)) W44' 0 rfl (Nat.le_of_ble_eq_true rfl)
   have O44 := O43.wr W44 g_b43
   have K44 : Keep h0 h44 ([] : List Addr) := Keep.wr K43 W44 (Or.inr (Nat.le_trans (Nat.le_refl _) (Nat.le_of_eq g43.symm)))
   have Cd44 := Cold.wr Cd43 W44 (Safe.arv hZ.alike V43 (by simp))
   have N44 := Fr.snoc X44 N0 g_b43
   show Home T44 (mkF m 135 #[.val (.long j0), .second, .val (.int i1), .val (.int (1 : Int32)), .val (.long v6), .second, .val (.long v7), .second, .val (.int r9), .val (.int r11), .val (.int r13), .val (.int r15), .val (.int r17), .val (.int r19), .val (.int r21), .val (.int r23), .unset, .unset] [(.ref b43)])
   refine Home.run X44 hx hby sg0_135_3 (pc' := 139) (L' := #[.val (.long j0), .second, .val (.int i1), .val (.int (1 : Int32)), .val (.long v6), .second, .val (.long v7), .second, .val (.int r9), .val (.int r11), .val (.int r13), .val (.int r15), .val (.int r17), .val (.int r19), .val (.int r21), .val (.int r23), .unset, .unset]) (S' := [(.int r11), (.int (1 : Int32)), (.ref b43), (.ref b43)]) rfl ?_
   obtain ⟨cl45, Ar45, q45, S45, M45, H45, G45⟩ := id V44
   refine Home.wr (stC X44 hx hZ e44 Ar45 (j := (1 : Int32)) (inb_of S45 ⟨by decide, by decide⟩) rfl rfl (hb hby at_139)) fun T45 h45 X45 e45 W45 => ?_
   have W45' := Wr.to W45 (congrArg Value.int (nar_char_id br11 (by decide +kernel) (by decide +kernel)))
   have V45 : Arv Z h45 b43 k43 .char (2 : Int32) [(.int r9), (.int r11)] (.int (0 : Int32)) := Arv.set Ar45 q45 S45 M45 H45 G45 (fits_char_b br11 (by decide +kernel) (by decide +kernel)) W45' 1 rfl (Nat.le_of_ble_eq_true rfl)
   have O45 := O44.wr W45 g_b43
   have K45 : Keep h0 h45 ([] : List Addr) := Keep.wr K44 W45 (Or.inr (Nat.le_trans (Nat.le_refl _) (Nat.le_of_eq g43.symm)))
   have Cd45 := Cold.wr Cd44 W45 (Safe.arv hZ.alike V44 (by simp))
   have N45 := Fr.snoc X45 N44 g_b43
   refine Home.run X45 hx hby sg0_140_2 (pc' := 314) (L' := #[.val (.long j0), .second, .val (.int i1), .val (.int (1 : Int32)), .val (.long v6), .second, .val (.long v7), .second, .val (.int r9), .val (.int r11), .val (.int r13), .val (.int r15), .val (.int r17), .val (.int r19), .val (.int r21), .val (.int r23), .val (.ref b43), .unset]) (S' := []) rfl ?_
   refine Home.nw (own_newO X45 hx hZ hown (own_w8 hw) (own_w9 hw) (own_w10 hw) e45 rfl (hb hby at_314) (by decide) (by decide)) fun T46 h46 b46 g46 X46 e46 E46 A46 D46 => ?_
   have g_b46 : n0 ≤ b46 := Nat.le_trans (Old.le O45) (Nat.le_of_eq g46.symm)
   have F_coder_b46 : Fld Z h46 b46 "java/lang/String" "coder" "B" (.int (0 : Int32)) := D46 (Or.inr (own_w34 hw)) (ty := .byte) (by decide)
   have F_value_b46 : Fld Z h46 b46 "java/lang/String" "value" "[B" .null := D46 (Or.inr (own_w36 hw)) (ty := (.array .byte)) (by decide)
   have O46 := O45.ext E46
   have K46 : Keep h0 h46 ([] : List Addr) := Keep.ext K45 E46
   have Cd46 := Cold.add Cd45 E46 (Nat.le_of_eq g46.symm) A46.lt
   show Home T46 (mkF m 317 #[.val (.long j0), .second, .val (.int i1), .val (.int (1 : Int32)), .val (.long v6), .second, .val (.long v7), .second, .val (.int r9), .val (.int r11), .val (.int r13), .val (.int r15), .val (.int r17), .val (.int r19), .val (.int r21), .val (.int r23), .val (.ref b43), .unset] [(.ref b46)])
   refine Home.run X46 hx hby sg0_317_2 (pc' := 320) (L' := #[.val (.long j0), .second, .val (.int i1), .val (.int (1 : Int32)), .val (.long v6), .second, .val (.long v7), .second, .val (.int r9), .val (.int r11), .val (.int r13), .val (.int r15), .val (.int r17), .val (.int r19), .val (.int r21), .val (.int r23), .val (.ref b43), .unset]) (S' := [(.ref b43), (.ref b46), (.ref b46)]) rfl ?_
   have q47 := (V45.ext E46)
   refine Home.call (own_special X46 hx hZ hown rfl (own_w11 hw) (own_w12 hw) (own_w10 hw) (own_w13 hw) (by decide) (rm2_1 l Z a0 hw [] b46 b43 k43 r9 r11 sv_COMPACT_STRINGS h46 n0 O46 q47 S_COMPACT_STRINGS A46 F_coder_b46 F_value_b46 br9 br11 g_b46 hCS) e46 rfl (by rw [hml]; rfl) (a := b46) (argsL := [(.ref b43)]) (rest := [(.ref b46)]) (lenOf own_pd2 rfl) rfl rfl (W := 1) (by exact hW0) (by decide) (by decide) (hb hby at_320) (by decide) (by decide)) ?_
   rintro _ T48 L48 X48 ⟨b1_3_2_48, k1_3_2_48, rfl, N48q, sz_b1_3_2_48, K48q, P48_0, P48_1, P48_2, P48_3⟩
   have Cd48 := Cold.keep Cd46 K48q (allS (Cold.safe Cd46 (List.mem_of_getElem? (i := 0) rfl)) all0)
   have Cd48b1_3_2_48 := Cold.put Cd48 ⟨Safe.keep K48q (allS (Cold.safe Cd46 (List.mem_of_getElem? (i := 0) rfl)) all0) Cd46.2.1.1 (Safe.new sz_b1_3_2_48), P48_3.lt⟩
   have g_b1_3_2_48 : n0 ≤ b1_3_2_48 := Nat.le_trans (Old.le O46) sz_b1_3_2_48
   have le49 : h0.size ≤ h44.size := Nat.le_trans E43.1 (Nat.le_of_eq W44.size.symm)
   have le50 : h0.size ≤ h45.size := Nat.le_trans le49 (Nat.le_of_eq W45.size.symm)
   have O48 := Old.keep O46 K48q (allS g_b46 all0)
   have K48 : Keep h0 T48.heap ([] : List Addr) := Keep.trans K46 K48q (allS (Or.inr (Nat.le_trans le50 (Nat.le_of_eq g46.symm))) all0)
   have N48 := Fr.app N45 N48q
   refine Home.call (own_staticW X48 hx hZ hown (own_hEL hw) Cd48b1_3_2_48 all0 (own_w37 hw) (own_w38 hw) (own_w39 hw) (own_w40 hw) (by decide) (rm8_1 l Z a0 hw [] b46 b1_3_2_48 k1_3_2_48 r9 r11 sv_COMPACT_STRINGS sv_SIOOBE_FORMATTER T48.heap n0 O48 P48_0 P48_2 P48_3 S_COMPACT_STRINGS P48_1 hCS S_SIOOBE_FORMATTER br9 br11 isr_sv_SIOOBE_FORMATTER (by rw [hr9]; exact own_dig _ _) (by rw [hr11]; exact own_dig _ _) (own_nn51 j0 i1 sv_COMPACT_STRINGS v1 hv1 v6 hv6 v7 hv7 r9 hr9 r11 hr11 r13 hr13 r15 hr15 r17 hr17 r19 hr19 r21 hr21 r23 hr23 c24 c39)) rfl rfl (by rw [hml]; rfl) (argsL := [(.ref b46)]) (rest := []) (lenOf own_pd5 rfl) rfl rfl (W := 0) (by exact hW0) (by decide) (by decide) (hb hby at_323) (by decide) (by decide)) ?_
   rintro _ T52 L52 X52 ⟨⟨b3_52, k3_52, rfl, N52q, sz_b3_52, K52q, P52_0⟩, hZ, hown, Cd52, sR52⟩
   have Ce52 := Cold.put Cd52 (sR52 rfl _ rfl)
   have g_b3_52 : n0 ≤ b3_52 := Nat.le_trans (Old.le O48) sz_b3_52
   have O52 := Old.keep O48 K52q all0
   have K52 : Keep h0 T52.heap ([] : List Addr) := Keep.trans K48 K52q all0
   have N52 := Fr.app N48 N52q
   show Home T52 (mkF m 326 #[.val (.long j0), .second, .val (.int i1), .val (.int (1 : Int32)), .val (.long v6), .second, .val (.long v7), .second, .val (.int r9), .val (.int r11), .val (.int r13), .val (.int r15), .val (.int r17), .val (.int r19), .val (.int r21), .val (.int r23), .val (.ref b43), .unset] [(.ref b3_52)])
   obtain ⟨r53, hr53⟩ : ∃ z, z = (((((((0 : Int32) ||| (f_rm22_0 (r9 &&& (255 : Int32)))) <<< ((5 : Int32) &&& 31)) ||| (f_rm22_0 (r11 &&& (255 : Int32)))).toUInt32 >>> ((2 : Int32) &&& 31).toUInt32).toInt32).toInt8.toInt32) := ⟨_, rfl⟩
   rw [← hr53] at P52_0
   refine Home.run X52 hx hby sg0_326_2 (pc' := 330) (L' := #[.val (.long j0), .second, .val (.int i1), .val (.int (1 : Int32)), .val (.long v6), .second, .val (.long v7), .second, .val (.int r9), .val (.int r11), .val (.int r13), .val (.int r15), .val (.int r17), .val (.int r19), .val (.int r21), .val (.int r23), .val (.ref b43), .val (.ref b3_52)]) (S' := [(.ref b3_52)]) rfl ?_
   obtain ⟨cl54, Ar54, q54, S54, M54, H54, G54⟩ := id P52_0
   refine Home.go (own_alen X52 hx hZ rfl Ar54 S54 M54 rfl rfl (hb hby at_330)) ?_
   refine Home.run X52 hx hby sg0_331_1 (pc' := 332) (L' := #[.val (.long j0), .second, .val (.int i1), .val (.int (1 : Int32)), .val (.long v6), .second, .val (.long v7), .second, .val (.int r9), .val (.int r11), .val (.int r13), .val (.int r15), .val (.int r17), .val (.int r19), .val (.int r21), .val (.int r23), .val (.ref b43), .val (.ref b3_52)]) (S' := [(.int (1 : Int32)), (.int (1 : Int32))]) rfl ?_
   refine Home.go (fun _ => XS.icmpYes X52.here hx rfl (pc0 := 332) (pc' := 337) rfl (hb hby at_332) rfl (teq (by decide)).1 (by decide) (by decide)) ?_
   refine Home.run X52 hx hby sg0_337_4 (pc' := 343) (L' := #[.val (.long j0), .second, .val (.int i1), .val (.int (1 : Int32)), .val (.long v6), .second, .val (.long v7), .second, .val (.int r9), .val (.int r11), .val (.int r13), .val (.int r15), .val (.int r17), .val (.int r19), .val (.int r21), .val (.int r23), .val (.ref b43), .val (.ref b3_52)]) (S' := [(.int (0 : Int32)), (.int (1 : Int32)), (.long v7), (.ref b3_52)]) rfl ?_
   refine Home.st (own_pure (own_static X52 hx hZ hown (own_w103 hw) (own_w104 hw) (own_w4 hw) (own_w105 hw) (by decide) (rm23_1 l Z a0 hw [] b3_52 v7 (0 : Int32) k3_52 r53 T52.heap n0 O52 (bnd_mono (bnd_lit (0 : Int32)) (by decide +kernel) (by decide +kernel)) P52_0) rfl rfl (by rw [hml]; rfl) (argsL := [(.ref b3_52), (.long v7), (.int (1 : Int32)), (.int (0 : Int32))]) (rest := []) (lenOf own_pd6 rfl) rfl rfl (W := 0) (by exact hW0) (by decide) (by decide) (hb hby at_343) (by decide) (by decide))) fun T55 X55 e55 => ?_
   show Home T55 (mkF m 346 #[.val (.long j0), .second, .val (.int i1), .val (.int (1 : Int32)), .val (.long v6), .second, .val (.long v7), .second, .val (.int r9), .val (.int r11), .val (.int r13), .val (.int r15), .val (.int r17), .val (.int r19), .val (.int r21), .val (.int r23), .val (.ref b43), .val (.ref b3_52)] [(.int (f_rm23_1 v7 (0 : Int32) r53))])
   obtain ⟨r56, hr56⟩ : ∃ z, z = (f_rm23_1 v7 (0 : Int32) r53) := ⟨_, rfl⟩
   rw [← hr56]
   have br56 : ¬ r56 < (0 : Int32) ∧ ¬ (1 : Int32) < r56 := by rw [hr56]; exact f_rm23_1_bnd v7 (0 : Int32) r53 (bnd_mono (bnd_lit (0 : Int32)) (by decide +kernel) (by decide +kernel))
   suffices J76 : ∀ {T : State} {lc : List Loc} (X : Stand p l e room_1 (s.setVm T52.vm) m #[(.long j0), (.int i1)] below meth c T lc 8 273) (N : Fr n0 lc) (eT : T.heap = T52.heap) (v77 : Int32) (hv77 : v77 = (if r56 = (0 : Int32) then (0 : Int32) else (if (f_rm23_1 v7 (1 : Int32) r53) = (0 : Int32) then (0 : Int32) else (if (f_rm23_1 v7 (2 : Int32) r53) = (0 : Int32) then (0 : Int32) else (if (f_rm23_1 v7 (3 : Int32) r53) = (0 : Int32) then (0 : Int32) else (if (f_rm23_1 v7 (4 : Int32) r53) = (0 : Int32) then (0 : Int32) else (1 : Int32))))))), @Home p e below _ T (mkF m 402 #[.val (.long j0), .second, .val (.int i1), .val (.int (1 : Int32)), .val (.long v6), .second, .val (.long v7), .second, .val (.int r9), .val (.int r11), .val (.int r13), .val (.int r15), .val (.int r17), .val (.int r19), .val (.int r21), .val (.int r23), .val (.ref b43), .val (.ref b3_52)] [(.int v77)]) by
    by_cases c57 : r56 = (0 : Int32)
    ·
     refine Home.go (fun _ => XS.ifYes X55.here hx rfl (pc0 := 346) (pc' := 401) rfl (hb hby at_346) rfl ((if0 _ _).trans (teq c57).1) (by decide) (by decide)) ?_
     have bd58 : ¬ r56 < (0 : Int32) ∧ ¬ (0 : Int32) < r56 := ⟨(bnd_eql c57), (bnd_eqr c57)⟩
     refine Home.run X55 hx hby sg0_401_1 (pc' := 402) (L' := #[.val (.long j0), .second, .val (.int i1), .val (.int (1 : Int32)), .val (.long v6), .second, .val (.long v7), .second, .val (.int r9), .val (.int r11), .val (.int r13), .val (.int r15), .val (.int r17), .val (.int r19), .val (.int r21), .val (.int r23), .val (.ref b43), .val (.ref b3_52)]) (S' := [(.int (0 : Int32))]) rfl ?_
     exact J76 X55 N52 e55 _ (by simp only [if_pos c57])
    ·
     refine Home.go (fun _ => XS.ifNo X55.here hx rfl (hb hby at_346) rfl ((if0 _ _).trans (feq c57).1)) ?_
     have bd59 : ¬ r56 < (1 : Int32) ∧ ¬ (1 : Int32) < r56 := ⟨(bnd_nel br56.1 c57 (by decide +kernel)), br56.2⟩
     refine Home.run X55 hx hby sg0_349_4 (pc' := 355) (L' := #[.val (.long j0), .second, .val (.int i1), .val (.int (1 : Int32)), .val (.long v6), .second, .val (.long v7), .second, .val (.int r9), .val (.int r11), .val (.int r13), .val (.int r15), .val (.int r17), .val (.int r19), .val (.int r21), .val (.int r23), .val (.ref b43), .val (.ref b3_52)]) (S' := [(.int (1 : Int32)), (.int (1 : Int32)), (.long v7), (.ref b3_52)]) rfl ?_
     refine Home.st (own_pure (own_static X55 hx hZ hown (own_w103 hw) (own_w104 hw) (own_w4 hw) (own_w105 hw) (by decide) (rm23_1 l Z a0 hw [] b3_52 v7 (1 : Int32) k3_52 r53 T52.heap n0 O52 (bnd_mono (bnd_lit (1 : Int32)) (by decide +kernel) (by decide +kernel)) P52_0) e55 rfl (by rw [hml]; rfl) (argsL := [(.ref b3_52), (.long v7), (.int (1 : Int32)), (.int (1 : Int32))]) (rest := []) (lenOf own_pd6 rfl) rfl rfl (W := 0) (by exact hW0) (by decide) (by decide) (hb hby at_355) (by decide) (by decide))) fun T60 X60 e60 => ?_
     by_cases c61 : (f_rm23_1 v7 (1 : Int32) r53) = (0 : Int32)
     ·
      refine Home.go (fun _ => XS.ifYes X60.here hx rfl (pc0 := 358) (pc' := 401) rfl (hb hby at_358) rfl ((if0 _ _).trans (teq c61).1) (by decide) (by decide)) ?_
      have bd62 : ¬ (f_rm23_1 v7 (1 : Int32) r53) < (0 : Int32) ∧ ¬ (0 : Int32) < (f_rm23_1 v7 (1 : Int32) r53) := ⟨(bnd_eql c61), (bnd_eqr c61)⟩
      refine Home.run X60 hx hby sg0_401_1 (pc' := 402) (L' := #[.val (.long j0), .second, .val (.int i1), .val (.int (1 : Int32)), .val (.long v6), .second, .val (.long v7), .second, .val (.int r9), .val (.int r11), .val (.int r13), .val (.int r15), .val (.int r17), .val (.int r19), .val (.int r21), .val (.int r23), .val (.ref b43), .val (.ref b3_52)]) (S' := [(.int (0 : Int32))]) rfl ?_
      exact J76 X60 N52 e60 _ (by simp only [if_neg c57, if_pos c61])
     ·
      refine Home.go (fun _ => XS.ifNo X60.here hx rfl (hb hby at_358) rfl ((if0 _ _).trans (feq c61).1)) ?_
      have bd63 : ¬ (f_rm23_1 v7 (1 : Int32) r53) < (1 : Int32) ∧ ¬ (1 : Int32) < (f_rm23_1 v7 (1 : Int32) r53) := ⟨(bnd_nel (f_rm23_1_bnd v7 (1 : Int32) r53 (bnd_mono (bnd_lit (1 : Int32)) (by decide +kernel) (by decide +kernel))).1 c61 (by decide +kernel)), (f_rm23_1_bnd v7 (1 : Int32) r53 (bnd_mono (bnd_lit (1 : Int32)) (by decide +kernel) (by decide +kernel))).2⟩
      refine Home.run X60 hx hby sg0_361_4 (pc' := 367) (L' := #[.val (.long j0), .second, .val (.int i1), .val (.int (1 : Int32)), .val (.long v6), .second, .val (.long v7), .second, .val (.int r9), .val (.int r11), .val (.int r13), .val (.int r15), .val (.int r17), .val (.int r19), .val (.int r21), .val (.int r23), .val (.ref b43), .val (.ref b3_52)]) (S' := [(.int (2 : Int32)), (.int (1 : Int32)), (.long v7), (.ref b3_52)]) rfl ?_
      refine Home.st (own_pure (own_static X60 hx hZ hown (own_w103 hw) (own_w104 hw) (own_w4 hw) (own_w105 hw) (by decide) (rm23_1 l Z a0 hw [] b3_52 v7 (2 : Int32) k3_52 r53 T52.heap n0 O52 (bnd_mono (bnd_lit (2 : Int32)) (by decide +kernel) (by decide +kernel)) P52_0) e60 rfl (by rw [hml]; rfl) (argsL := [(.ref b3_52), (.long v7), (.int (1 : Int32)), (.int (2 : Int32))]) (rest := []) (lenOf own_pd6 rfl) rfl rfl (W := 0) (by exact hW0) (by decide) (by decide) (hb hby at_367) (by decide) (by decide))) fun T64 X64 e64 => ?_
      by_cases c65 : (f_rm23_1 v7 (2 : Int32) r53) = (0 : Int32)
      ·
       refine Home.go (fun _ => XS.ifYes X64.here hx rfl (pc0 := 370) (pc' := 401) rfl (hb hby at_370) rfl ((if0 _ _).trans (teq c65).1) (by decide) (by decide)) ?_
       have bd66 : ¬ (f_rm23_1 v7 (2 : Int32) r53) < (0 : Int32) ∧ ¬ (0 : Int32) < (f_rm23_1 v7 (2 : Int32) r53) := ⟨(bnd_eql c65), (bnd_eqr c65)⟩
       refine Home.run X64 hx hby sg0_401_1 (pc' := 402) (L' := #[.val (.long j0), .second, .val (.int i1), .val (.int (1 : Int32)), .val (.long v6), .second, .val (.long v7), .second, .val (.int r9), .val (.int r11), .val (.int r13), .val (.int r15), .val (.int r17), .val (.int r19), .val (.int r21), .val (.int r23), .val (.ref b43), .val (.ref b3_52)]) (S' := [(.int (0 : Int32))]) rfl ?_
       exact J76 X64 N52 e64 _ (by simp only [if_neg c57, if_neg c61, if_pos c65])
      ·
       refine Home.go (fun _ => XS.ifNo X64.here hx rfl (hb hby at_370) rfl ((if0 _ _).trans (feq c65).1)) ?_
       have bd67 : ¬ (f_rm23_1 v7 (2 : Int32) r53) < (1 : Int32) ∧ ¬ (1 : Int32) < (f_rm23_1 v7 (2 : Int32) r53) := ⟨(bnd_nel (f_rm23_1_bnd v7 (2 : Int32) r53 (bnd_mono (bnd_lit (2 : Int32)) (by decide +kernel) (by decide +kernel))).1 c65 (by decide +kernel)), (f_rm23_1_bnd v7 (2 : Int32) r53 (bnd_mono (bnd_lit (2 : Int32)) (by decide +kernel) (by decide +kernel))).2⟩
       refine Home.run X64 hx hby sg0_373_4 (pc' := 379) (L' := #[.val (.long j0), .second, .val (.int i1), .val (.int (1 : Int32)), .val (.long v6), .second, .val (.long v7), .second, .val (.int r9), .val (.int r11), .val (.int r13), .val (.int r15), .val (.int r17), .val (.int r19), .val (.int r21), .val (.int r23), .val (.ref b43), .val (.ref b3_52)]) (S' := [(.int (3 : Int32)), (.int (1 : Int32)), (.long v7), (.ref b3_52)]) rfl ?_
       refine Home.st (own_pure (own_static X64 hx hZ hown (own_w103 hw) (own_w104 hw) (own_w4 hw) (own_w105 hw) (by decide) (rm23_1 l Z a0 hw [] b3_52 v7 (3 : Int32) k3_52 r53 T52.heap n0 O52 (bnd_mono (bnd_lit (3 : Int32)) (by decide +kernel) (by decide +kernel)) P52_0) e64 rfl (by rw [hml]; rfl) (argsL := [(.ref b3_52), (.long v7), (.int (1 : Int32)), (.int (3 : Int32))]) (rest := []) (lenOf own_pd6 rfl) rfl rfl (W := 0) (by exact hW0) (by decide) (by decide) (hb hby at_379) (by decide) (by decide))) fun T68 X68 e68 => ?_
       by_cases c69 : (f_rm23_1 v7 (3 : Int32) r53) = (0 : Int32)
       ·
        refine Home.go (fun _ => XS.ifYes X68.here hx rfl (pc0 := 382) (pc' := 401) rfl (hb hby at_382) rfl ((if0 _ _).trans (teq c69).1) (by decide) (by decide)) ?_
        have bd70 : ¬ (f_rm23_1 v7 (3 : Int32) r53) < (0 : Int32) ∧ ¬ (0 : Int32) < (f_rm23_1 v7 (3 : Int32) r53) := ⟨(bnd_eql c69), (bnd_eqr c69)⟩
        refine Home.run X68 hx hby sg0_401_1 (pc' := 402) (L' := #[.val (.long j0), .second, .val (.int i1), .val (.int (1 : Int32)), .val (.long v6), .second, .val (.long v7), .second, .val (.int r9), .val (.int r11), .val (.int r13), .val (.int r15), .val (.int r17), .val (.int r19), .val (.int r21), .val (.int r23), .val (.ref b43), .val (.ref b3_52)]) (S' := [(.int (0 : Int32))]) rfl ?_
        exact J76 X68 N52 e68 _ (by simp only [if_neg c57, if_neg c61, if_neg c65, if_pos c69])
       ·
        refine Home.go (fun _ => XS.ifNo X68.here hx rfl (hb hby at_382) rfl ((if0 _ _).trans (feq c69).1)) ?_
        have bd71 : ¬ (f_rm23_1 v7 (3 : Int32) r53) < (1 : Int32) ∧ ¬ (1 : Int32) < (f_rm23_1 v7 (3 : Int32) r53) := ⟨(bnd_nel (f_rm23_1_bnd v7 (3 : Int32) r53 (bnd_mono (bnd_lit (3 : Int32)) (by decide +kernel) (by decide +kernel))).1 c69 (by decide +kernel)), (f_rm23_1_bnd v7 (3 : Int32) r53 (bnd_mono (bnd_lit (3 : Int32)) (by decide +kernel) (by decide +kernel))).2⟩
        refine Home.run X68 hx hby sg0_385_4 (pc' := 391) (L' := #[.val (.long j0), .second, .val (.int i1), .val (.int (1 : Int32)), .val (.long v6), .second, .val (.long v7), .second, .val (.int r9), .val (.int r11), .val (.int r13), .val (.int r15), .val (.int r17), .val (.int r19), .val (.int r21), .val (.int r23), .val (.ref b43), .val (.ref b3_52)]) (S' := [(.int (4 : Int32)), (.int (1 : Int32)), (.long v7), (.ref b3_52)]) rfl ?_
        refine Home.st (own_pure (own_static X68 hx hZ hown (own_w103 hw) (own_w104 hw) (own_w4 hw) (own_w105 hw) (by decide) (rm23_1 l Z a0 hw [] b3_52 v7 (4 : Int32) k3_52 r53 T52.heap n0 O52 (bnd_mono (bnd_lit (4 : Int32)) (by decide +kernel) (by decide +kernel)) P52_0) e68 rfl (by rw [hml]; rfl) (argsL := [(.ref b3_52), (.long v7), (.int (1 : Int32)), (.int (4 : Int32))]) (rest := []) (lenOf own_pd6 rfl) rfl rfl (W := 0) (by exact hW0) (by decide) (by decide) (hb hby at_391) (by decide) (by decide))) fun T72 X72 e72 => ?_
        by_cases c73 : (f_rm23_1 v7 (4 : Int32) r53) = (0 : Int32)
        ·
         refine Home.go (fun _ => XS.ifYes X72.here hx rfl (pc0 := 394) (pc' := 401) rfl (hb hby at_394) rfl ((if0 _ _).trans (teq c73).1) (by decide) (by decide)) ?_
         have bd74 : ¬ (f_rm23_1 v7 (4 : Int32) r53) < (0 : Int32) ∧ ¬ (0 : Int32) < (f_rm23_1 v7 (4 : Int32) r53) := ⟨(bnd_eql c73), (bnd_eqr c73)⟩
         refine Home.run X72 hx hby sg0_401_1 (pc' := 402) (L' := #[.val (.long j0), .second, .val (.int i1), .val (.int (1 : Int32)), .val (.long v6), .second, .val (.long v7), .second, .val (.int r9), .val (.int r11), .val (.int r13), .val (.int r15), .val (.int r17), .val (.int r19), .val (.int r21), .val (.int r23), .val (.ref b43), .val (.ref b3_52)]) (S' := [(.int (0 : Int32))]) rfl ?_
         exact J76 X72 N52 e72 _ (by simp only [if_neg c57, if_neg c61, if_neg c65, if_neg c69, if_pos c73])
        ·
         refine Home.go (fun _ => XS.ifNo X72.here hx rfl (hb hby at_394) rfl ((if0 _ _).trans (feq c73).1)) ?_
         have bd75 : ¬ (f_rm23_1 v7 (4 : Int32) r53) < (1 : Int32) ∧ ¬ (1 : Int32) < (f_rm23_1 v7 (4 : Int32) r53) := ⟨(bnd_nel (f_rm23_1_bnd v7 (4 : Int32) r53 (bnd_mono (bnd_lit (4 : Int32)) (by decide +kernel) (by decide +kernel))).1 c73 (by decide +kernel)), (f_rm23_1_bnd v7 (4 : Int32) r53 (bnd_mono (bnd_lit (4 : Int32)) (by decide +kernel) (by decide +kernel))).2⟩
         refine Home.run X72 hx hby sg0_397_2 (pc' := 402) (L' := #[.val (.long j0), .second, .val (.int i1), .val (.int (1 : Int32)), .val (.long v6), .second, .val (.long v7), .second, .val (.int r9), .val (.int r11), .val (.int r13), .val (.int r15), .val (.int r17), .val (.int r19), .val (.int r21), .val (.int r23), .val (.ref b43), .val (.ref b3_52)]) (S' := [(.int (1 : Int32))]) rfl ?_
         exact J76 X72 N52 e72 _ (by simp only [if_neg c57, if_neg c61, if_neg c65, if_neg c69, if_neg c73])
   intro TJ76 lcJ76 XJ76 NJ76 eJ76 v77 hv77
   have bv77 : ¬ v77 < (0 : Int32) ∧ ¬ (1 : Int32) < v77 := by rw [hv77]; exact (bnd_ite (bnd_mono (bnd_lit (0 : Int32)) (by decide +kernel) (by decide +kernel)) (bnd_ite (bnd_mono (bnd_lit (0 : Int32)) (by decide +kernel) (by decide +kernel)) (bnd_ite (bnd_mono (bnd_lit (0 : Int32)) (by decide +kernel) (by decide +kernel)) (bnd_ite (bnd_mono (bnd_lit (0 : Int32)) (by decide +kernel) (by decide +kernel)) (bnd_ite (bnd_mono (bnd_lit (0 : Int32)) (by decide +kernel) (by decide +kernel)) (bnd_mono (bnd_lit (1 : Int32)) (by decide +kernel) (by decide +kernel)))))))
   show Home TJ76 (mkF m 402 #[.val (.long j0), .second, .val (.int i1), .val (.int (1 : Int32)), .val (.long v6), .second, .val (.long v7), .second, .val (.int r9), .val (.int r11), .val (.int r13), .val (.int r15), .val (.int r17), .val (.int r19), .val (.int r21), .val (.int r23), .val (.ref b43), .val (.ref b3_52)] [(.int v77)])
   exact HomeW.retN XJ76 hx hlk hZ (own_hEL hw) eJ76 Ce52 (t := .boolean) hret (by simp) (hb hby at_402) ⟨congrArg some (congrArg Value.int (own_end5 j0 i1 sv_COMPACT_STRINGS v1 hv1 v6 hv6 v7 hv7 r9 hr9 r11 hr11 r13 hr13 r15 hr15 r17 hr17 r19 hr19 r21 hr21 r23 hr23 r53 hr53 r56 hr56 v77 hv77 c24 c39)), NJ76⟩ (by decide) (by decide)
  ·
   refine Home.go (fun _ => XS.icmpYes X22.here hx rfl (pc0 := 124) (pc' := 145) rfl (hb hby at_124) rfl (feq c39).2 (by decide) (by decide)) ?_
   have bd42 : ¬ v1 < (2 : Int32) ∧ ¬ (5 : Int32) < v1 := ⟨(bnd_nel bd27.1 c39 (by decide +kernel)), bd27.2⟩
   refine Home.run X22 hx hby sg0_145_2 (pc' := 147) (L' := #[.val (.long j0), .second, .val (.int i1), .val (.int v1), .val (.long v6), .second, .val (.long v7), .second, .val (.int r9), .val (.int r11), .val (.int r13), .val (.int r15), .val (.int r17), .val (.int r19), .val (.int r21), .val (.int r23), .unset, .unset]) (S' := [(.int (2 : Int32)), (.int v1)]) rfl ?_
   by_cases c78 : v1 = (2 : Int32)
   ·
    refine Home.go (fun _ => XS.icmpNo X22.here hx rfl (hb hby at_147) rfl (teq c78).2) ?_
    have bd79 : ¬ v1 < (2 : Int32) ∧ ¬ (2 : Int32) < v1 := ⟨(bnd_eql c78), (bnd_eqr c78)⟩
    have fx80 : v1 = (2 : Int32) := bnd_fix bd79
    try rw [fx80]
    show Home T22 (mkF m 150 #[.val (.long j0), .second, .val (.int i1), .val (.int (2 : Int32)), .val (.long v6), .second, .val (.long v7), .second, .val (.int r9), .val (.int r11), .val (.int r13), .val (.int r15), .val (.int r17), .val (.int r19), .val (.int r21), .val (.int r23), .unset, .unset] [])
    refine Home.run X22 hx hby sg0_150_1 (pc' := 151) (L' := #[.val (.long j0), .second, .val (.int i1), .val (.int (2 : Int32)), .val (.long v6), .second, .val (.long v7), .second, .val (.int r9), .val (.int r11), .val (.int r13), .val (.int r15), .val (.int r17), .val (.int r19), .val (.int r21), .val (.int r23), .unset, .unset]) (S' := [(.int (4 : Int32))]) rfl ?_
    refine Home.na (own_newP (aty := .char) X22 hx hZ (own_w7 hw) e22 (g := (mkF m 151 #[.val (.long j0), .second, .val (.int i1), .val (.int (2 : Int32)), .val (.long v6), .second, .val (.long v7), .second, .val (.int r9), .val (.int r11), .val (.int r13), .val (.int r15), .val (.int r17), .val (.int r19), .val (.int r21), .val (.int r23), .unset, .unset] [(.int (4 : Int32))])) rfl (hb hby at_151) rfl (by decide) (cap := 4) (by decide) (by decide) (by decide) (by decide)) fun T82 h82 k82 b82 g82 X82 e82 E82 A82 => ?_
    have g_b82 : n0 ≤ b82 := Nat.le_trans (Old.le O0) (Nat.le_of_eq g82.symm)
    have V82 : Arv Z h82 b82 k82 .char (4 : Int32) [(.int (0 : Int32)), (.int (0 : Int32)), (.int (0 : Int32)), (.int (0 : Int32))] (.int (0 : Int32)) := (Arv.new A82 (by decide)).pad (pad_rep [] (.int (0 : Int32)) 4)
    have O82 := O0.ext E82
    have K82 : Keep h0 h82 ([] : List Addr) := Keep.ext (Keep.refl h0 ([] : List Addr)) E82
    have Cd82 := Cold.ext Cd0 E82
    refine Home.run X82 hx hby sg0_153_3 (pc' := 157) (L' := #[.val (.long j0), .second, .val (.int i1), .val (.int (2 : Int32)), .val (.long v6), .second, .val (.long v7), .second, .val (.int r9), .val (.int r11), .val (.int r13), .val (.int r15), .val (.int r17), .val (.int r19), .val (.int r21), .val (.int r23), .unset, .unset]) (S' := [(.int r9), (.int (0 : Int32)), (.ref b82), (.ref b82)]) rfl ?_
    obtain ⟨cl83, Ar83, q83, S83, M83, H83, G83⟩ := id V82
    refine Home.wr (stC X82 hx hZ e82 Ar83 (j := (0 : Int32)) (inb_of S83 ⟨by decide, by decide⟩) rfl rfl (hb hby at_157)) fun T83 h83 X83 e83 W83 => ?_
    have W83' := Wr.to W83 (congrArg Value.int (nar_char_id br9 (by decide +kernel) (by decide +kernel)))
    have V83 : Arv Z h83 b82 k82 .char (4 : Int32) [(.int r9), (.int (0 : Int32)), (.int (0 : Int32)), (.int (0 : Int32))] (.int (0 : Int32)) := Arv.set Ar83 q83 S83 M83 H83 G83 (fits_char_b br9 (by decide +kernel) (by decide +kernel)) W83' 0 rfl (Nat.le_of_ble_eq_true rfl)
    have O83 := O82.wr W83 g_b82
    have K83 : Keep h0 h83 ([] : List Addr) := Keep.wr K82 W83 (Or.inr (Nat.le_trans (Nat.le_refl _) (Nat.le_of_eq g82.symm)))
    have Cd83 := Cold.wr Cd82 W83 (Safe.arv hZ.alike V82 (by simp))
    have N83 := Fr.snoc X83 N0 g_b82
    show Home T83 (mkF m 158 #[.val (.long j0), .second, .val (.int i1), .val (.int (2 : Int32)), .val (.long v6), .second, .val (.long v7), .second, .val (.int r9), .val (.int r11), .val (.int r13), .val (.int r15), .val (.int r17), .val (.int r19), .val (.int r21), .val (.int r23), .unset, .unset] [(.ref b82)])
    refine Home.run X83 hx hby sg0_158_3 (pc' := 162) (L' := #[.val (.long j0), .second, .val (.int i1), .val (.int (2 : Int32)), .val (.long v6), .second, .val (.long v7), .second, .val (.int r9), .val (.int r11), .val (.int r13), .val (.int r15), .val (.int r17), .val (.int r19), .val (.int r21), .val (.int r23), .unset, .unset]) (S' := [(.int r11), (.int (1 : Int32)), (.ref b82), (.ref b82)]) rfl ?_
    obtain ⟨cl84, Ar84, q84, S84, M84, H84, G84⟩ := id V83
    refine Home.wr (stC X83 hx hZ e83 Ar84 (j := (1 : Int32)) (inb_of S84 ⟨by decide, by decide⟩) rfl rfl (hb hby at_162)) fun T84 h84 X84 e84 W84 => ?_
    have W84' := Wr.to W84 (congrArg Value.int (nar_char_id br11 (by decide +kernel) (by decide +kernel)))
    have V84 : Arv Z h84 b82 k82 .char (4 : Int32) [(.int r9), (.int r11), (.int (0 : Int32)), (.int (0 : Int32))] (.int (0 : Int32)) := Arv.set Ar84 q84 S84 M84 H84 G84 (fits_char_b br11 (by decide +kernel) (by decide +kernel)) W84' 1 rfl (Nat.le_of_ble_eq_true rfl)
    have O84 := O83.wr W84 g_b82
    have K84 : Keep h0 h84 ([] : List Addr) := Keep.wr K83 W84 (Or.inr (Nat.le_trans (Nat.le_refl _) (Nat.le_of_eq g82.symm)))
    have Cd84 := Cold.wr Cd83 W84 (Safe.arv hZ.alike V83 (by simp))
    have N84 := Fr.snoc X84 N83 g_b82
    refine Home.run X84 hx hby sg0_163_3 (pc' := 167) (L' := #[.val (.long j0), .second, .val (.int i1), .val (.int (2 : Int32)), .val (.long v6), .second, .val (.long v7), .second, .val (.int r9), .val (.int r11), .val (.int r13), .val (.int r15), .val (.int r17), .val (.int r19), .val (.int r21), .val (.int r23), .unset, .unset]) (S' := [(.int r13), (.int (2 : Int32)), (.ref b82), (.ref b82)]) rfl ?_
    obtain ⟨cl85, Ar85, q85, S85, M85, H85, G85⟩ := id V84
    refine Home.wr (stC X84 hx hZ e84 Ar85 (j := (2 : Int32)) (inb_of S85 ⟨by decide, by decide⟩) rfl rfl (hb hby at_167)) fun T85 h85 X85 e85 W85 => ?_
    have W85' := Wr.to W85 (congrArg Value.int (nar_char_id br13 (by decide +kernel) (by decide +kernel)))
    have V85 : Arv Z h85 b82 k82 .char (4 : Int32) [(.int r9), (.int r11), (.int r13), (.int (0 : Int32))] (.int (0 : Int32)) := Arv.set Ar85 q85 S85 M85 H85 G85 (fits_char_b br13 (by decide +kernel) (by decide +kernel)) W85' 2 rfl (Nat.le_of_ble_eq_true rfl)
    have O85 := O84.wr W85 g_b82
    have K85 : Keep h0 h85 ([] : List Addr) := Keep.wr K84 W85 (Or.inr (Nat.le_trans (Nat.le_refl _) (Nat.le_of_eq g82.symm)))
    have Cd85 := Cold.wr Cd84 W85 (Safe.arv hZ.alike V84 (by simp))
    have N85 := Fr.snoc X85 N84 g_b82
    show Home T85 (mkF m 168 #[.val (.long j0), .second, .val (.int i1), .val (.int (2 : Int32)), .val (.long v6), .second, .val (.long v7), .second, .val (.int r9), .val (.int r11), .val (.int r13), .val (.int r15), .val (.int r17), .val (.int r19), .val (.int r21), .val (.int r23), .unset, .unset] [(.ref b82)])
    refine Home.run X85 hx hby sg0_168_3 (pc' := 172) (L' := #[.val (.long j0), .second, .val (.int i1), .val (.int (2 : Int32)), .val (.long v6), .second, .val (.long v7), .second, .val (.int r9), .val (.int r11), .val (.int r13), .val (.int r15), .val (.int r17), .val (.int r19), .val (.int r21), .val (.int r23), .unset, .unset]) (S' := [(.int r15), (.int (3 : Int32)), (.ref b82), (.ref b82)]) rfl ?_
    obtain ⟨cl86, Ar86, q86, S86, M86, H86, G86⟩ := id V85
    refine Home.wr (stC X85 hx hZ e85 Ar86 (j := (3 : Int32)) (inb_of S86 ⟨by decide, by decide⟩) rfl rfl (hb hby at_172)) fun T86 h86 X86 e86 W86 => ?_
    have W86' := Wr.to W86 (congrArg Value.int (nar_char_id br15 (by decide +kernel) (by decide +kernel)))
    have V86 : Arv Z h86 b82 k82 .char (4 : Int32) [(.int r9), (.int r11), (.int r13), (.int r15)] (.int (0 : Int32)) := Arv.set Ar86 q86 S86 M86 H86 G86 (fits_char_b br15 (by decide +kernel) (by decide +kernel)) W86' 3 rfl (Nat.le_of_ble_eq_true rfl)
    have O86 := O85.wr W86 g_b82
    have K86 : Keep h0 h86 ([] : List Addr) := Keep.wr K85 W86 (Or.inr (Nat.le_trans (Nat.le_refl _) (Nat.le_of_eq g82.symm)))
    have Cd86 := Cold.wr Cd85 W86 (Safe.arv hZ.alike V85 (by simp))
    have N86 := Fr.snoc X86 N85 g_b82
    refine Home.run X86 hx hby sg0_173_2 (pc' := 314) (L' := #[.val (.long j0), .second, .val (.int i1), .val (.int (2 : Int32)), .val (.long v6), .second, .val (.long v7), .second, .val (.int r9), .val (.int r11), .val (.int r13), .val (.int r15), .val (.int r17), .val (.int r19), .val (.int r21), .val (.int r23), .val (.ref b82), .unset]) (S' := []) rfl ?_
    refine Home.nw (own_newO X86 hx hZ hown (own_w8 hw) (own_w9 hw) (own_w10 hw) e86 rfl (hb hby at_314) (by decide) (by decide)) fun T87 h87 b87 g87 X87 e87 E87 A87 D87 => ?_
    have g_b87 : n0 ≤ b87 := Nat.le_trans (Old.le O86) (Nat.le_of_eq g87.symm)
    have F_coder_b87 : Fld Z h87 b87 "java/lang/String" "coder" "B" (.int (0 : Int32)) := D87 (Or.inr (own_w34 hw)) (ty := .byte) (by decide)
    have F_value_b87 : Fld Z h87 b87 "java/lang/String" "value" "[B" .null := D87 (Or.inr (own_w36 hw)) (ty := (.array .byte)) (by decide)
    have O87 := O86.ext E87
    have K87 : Keep h0 h87 ([] : List Addr) := Keep.ext K86 E87
    have Cd87 := Cold.add Cd86 E87 (Nat.le_of_eq g87.symm) A87.lt
    show Home T87 (mkF m 317 #[.val (.long j0), .second, .val (.int i1), .val (.int (2 : Int32)), .val (.long v6), .second, .val (.long v7), .second, .val (.int r9), .val (.int r11), .val (.int r13), .val (.int r15), .val (.int r17), .val (.int r19), .val (.int r21), .val (.int r23), .val (.ref b82), .unset] [(.ref b87)])
    refine Home.run X87 hx hby sg0_317_2 (pc' := 320) (L' := #[.val (.long j0), .second, .val (.int i1), .val (.int (2 : Int32)), .val (.long v6), .second, .val (.long v7), .second, .val (.int r9), .val (.int r11), .val (.int r13), .val (.int r15), .val (.int r17), .val (.int r19), .val (.int r21), .val (.int r23), .val (.ref b82), .unset]) (S' := [(.ref b82), (.ref b87), (.ref b87)]) rfl ?_
    have q88 := (V86.ext E87)
    refine Home.call (own_special X87 hx hZ hown rfl (own_w11 hw) (own_w12 hw) (own_w10 hw) (own_w13 hw) (by decide) (rm2_2 l Z a0 hw [] b87 b82 k82 r9 r11 r13 r15 sv_COMPACT_STRINGS h87 n0 O87 q88 S_COMPACT_STRINGS A87 F_coder_b87 F_value_b87 br9 br11 br13 br15 g_b87 hCS) e87 rfl (by rw [hml]; rfl) (a := b87) (argsL := [(.ref b82)]) (rest := [(.ref b87)]) (lenOf own_pd2 rfl) rfl rfl (W := 1) (by exact hW0) (by decide) (by decide) (hb hby at_320) (by decide) (by decide)) ?_
    rintro _ T89 L89 X89 ⟨b1_3_2_89, k1_3_2_89, rfl, N89q, sz_b1_3_2_89, K89q, P89_0, P89_1, P89_2, P89_3⟩
    have Cd89 := Cold.keep Cd87 K89q (allS (Cold.safe Cd87 (List.mem_of_getElem? (i := 0) rfl)) all0)
    have Cd89b1_3_2_89 := Cold.put Cd89 ⟨Safe.keep K89q (allS (Cold.safe Cd87 (List.mem_of_getElem? (i := 0) rfl)) all0) Cd87.2.1.1 (Safe.new sz_b1_3_2_89), P89_3.lt⟩
    have g_b1_3_2_89 : n0 ≤ b1_3_2_89 := Nat.le_trans (Old.le O87) sz_b1_3_2_89
    have le90 : h0.size ≤ h83.size := Nat.le_trans E82.1 (Nat.le_of_eq W83.size.symm)
    have le91 : h0.size ≤ h84.size := Nat.le_trans le90 (Nat.le_of_eq W84.size.symm)
    have le92 : h0.size ≤ h85.size := Nat.le_trans le91 (Nat.le_of_eq W85.size.symm)
    have le93 : h0.size ≤ h86.size := Nat.le_trans le92 (Nat.le_of_eq W86.size.symm)
    have O89 := Old.keep O87 K89q (allS g_b87 all0)
    have K89 : Keep h0 T89.heap ([] : List Addr) := Keep.trans K87 K89q (allS (Or.inr (Nat.le_trans le93 (Nat.le_of_eq g87.symm))) all0)
    have N89 := Fr.app N86 N89q
    show Home T89 (mkF m 323 #[.val (.long j0), .second, .val (.int i1), .val (.int (2 : Int32)), .val (.long v6), .second, .val (.long v7), .second, .val (.int r9), .val (.int r11), .val (.int r13), .val (.int r15), .val (.int r17), .val (.int r19), .val (.int r21), .val (.int r23), .val (.ref b82), .unset] [(.ref b87)])
    refine Home.call (own_staticW X89 hx hZ hown (own_hEL hw) Cd89b1_3_2_89 all0 (own_w37 hw) (own_w38 hw) (own_w39 hw) (own_w40 hw) (by decide) (rm8_2 l Z a0 hw [] b87 b1_3_2_89 k1_3_2_89 r9 r11 r13 r15 sv_COMPACT_STRINGS sv_SIOOBE_FORMATTER T89.heap n0 O89 P89_0 P89_2 P89_3 S_COMPACT_STRINGS P89_1 hCS S_SIOOBE_FORMATTER br9 br11 br13 br15 isr_sv_SIOOBE_FORMATTER (by rw [hr9]; exact own_dig _ _) (by rw [hr11]; exact own_dig _ _) (by rw [hr13]; exact own_dig _ _) (by rw [hr15]; exact own_dig _ _) (own_nn94 j0 i1 sv_COMPACT_STRINGS v1 hv1 v6 hv6 v7 hv7 r9 hr9 r11 hr11 r13 hr13 r15 hr15 r17 hr17 r19 hr19 r21 hr21 r23 hr23 c24 c39 c78)) rfl rfl (by rw [hml]; rfl) (argsL := [(.ref b87)]) (rest := []) (lenOf own_pd5 rfl) rfl rfl (W := 0) (by exact hW0) (by decide) (by decide) (hb hby at_323) (by decide) (by decide)) ?_
    rintro _ T95 L95 X95 ⟨⟨b3_95, k3_95, rfl, N95q, sz_b3_95, K95q, P95_0⟩, hZ, hown, Cd95, sR95⟩
    have Ce95 := Cold.put Cd95 (sR95 rfl _ rfl)
    have g_b3_95 : n0 ≤ b3_95 := Nat.le_trans (Old.le O89) sz_b3_95
    have O95 := Old.keep O89 K95q all0
    have K95 : Keep h0 T95.heap ([] : List Addr) := Keep.trans K89 K95q all0
    have N95 := Fr.app N89 N95q
    show Home T95 (mkF m 326 #[.val (.long j0), .second, .val (.int i1), .val (.int (2 : Int32)), .val (.long v6), .second, .val (.long v7), .second, .val (.int r9), .val (.int r11), .val (.int r13), .val (.int r15), .val (.int r17), .val (.int r19), .val (.int r21), .val (.int r23), .val (.ref b82), .unset] [(.ref b3_95)])
    obtain ⟨r96, hr96⟩ : ∃ z, z = (((((((0 : Int32) ||| (f_rm22_0 (r9 &&& (255 : Int32)))) <<< ((5 : Int32) &&& 31)) ||| (f_rm22_0 (r11 &&& (255 : Int32)))).toUInt32 >>> ((2 : Int32) &&& 31).toUInt32).toInt32).toInt8.toInt32) := ⟨_, rfl⟩
    rw [← hr96] at P95_0
    obtain ⟨r97, hr97⟩ : ∃ z, z = ((((((((((((0 : Int32) ||| (f_rm22_0 (r9 &&& (255 : Int32)))) <<< ((5 : Int32) &&& 31)) ||| (f_rm22_0 (r11 &&& (255 : Int32)))) &&& (3 : Int32)) <<< ((5 : Int32) &&& 31)) ||| (f_rm22_0 (r13 &&& (255 : Int32)))) <<< ((5 : Int32) &&& 31)) ||| (f_rm22_0 (r15 &&& (255 : Int32)))).toUInt32 >>> ((4 : Int32) &&& 31).toUInt32).toInt32).toInt8.toInt32) := ⟨_, rfl⟩
    rw [← hr97] at P95_0
    refine Home.run X95 hx hby sg0_326_2 (pc' := 330) (L' := #[.val (.long j0), .second, .val (.int i1), .val (.int (2 : Int32)), .val (.long v6), .second, .val (.long v7), .second, .val (.int r9), .val (.int r11), .val (.int r13), .val (.int r15), .val (.int r17), .val (.int r19), .val (.int r21), .val (.int r23), .val (.ref b82), .val (.ref b3_95)]) (S' := [(.ref b3_95)]) rfl ?_
    obtain ⟨cl98, Ar98, q98, S98, M98, H98, G98⟩ := id P95_0
    refine Home.go (own_alen X95 hx hZ rfl Ar98 S98 M98 rfl rfl (hb hby at_330)) ?_
    refine Home.run X95 hx hby sg0_331_1 (pc' := 332) (L' := #[.val (.long j0), .second, .val (.int i1), .val (.int (2 : Int32)), .val (.long v6), .second, .val (.long v7), .second, .val (.int r9), .val (.int r11), .val (.int r13), .val (.int r15), .val (.int r17), .val (.int r19), .val (.int r21), .val (.int r23), .val (.ref b82), .val (.ref b3_95)]) (S' := [(.int (2 : Int32)), (.int (2 : Int32))]) rfl ?_
    refine Home.go (fun _ => XS.icmpYes X95.here hx rfl (pc0 := 332) (pc' := 337) rfl (hb hby at_332) rfl (teq (by decide)).1 (by decide) (by decide)) ?_
    refine Home.run X95 hx hby sg0_337_4 (pc' := 343) (L' := #[.val (.long j0), .second, .val (.int i1), .val (.int (2 : Int32)), .val (.long v6), .second, .val (.long v7), .second, .val (.int r9), .val (.int r11), .val (.int r13), .val (.int r15), .val (.int r17), .val (.int r19), .val (.int r21), .val (.int r23), .val (.ref b82), .val (.ref b3_95)]) (S' := [(.int (0 : Int32)), (.int (2 : Int32)), (.long v7), (.ref b3_95)]) rfl ?_
    refine Home.st (own_pure (own_static X95 hx hZ hown (own_w103 hw) (own_w104 hw) (own_w4 hw) (own_w105 hw) (by decide) (rm23_2 l Z a0 hw [] b3_95 v7 (0 : Int32) k3_95 r96 r97 T95.heap n0 O95 (bnd_mono (bnd_lit (0 : Int32)) (by decide +kernel) (by decide +kernel)) P95_0) rfl rfl (by rw [hml]; rfl) (argsL := [(.ref b3_95), (.long v7), (.int (2 : Int32)), (.int (0 : Int32))]) (rest := []) (lenOf own_pd6 rfl) rfl rfl (W := 0) (by exact hW0) (by decide) (by decide) (hb hby at_343) (by decide) (by decide))) fun T99 X99 e99 => ?_
    show Home T99 (mkF m 346 #[.val (.long j0), .second, .val (.int i1), .val (.int (2 : Int32)), .val (.long v6), .second, .val (.long v7), .second, .val (.int r9), .val (.int r11), .val (.int r13), .val (.int r15), .val (.int r17), .val (.int r19), .val (.int r21), .val (.int r23), .val (.ref b82), .val (.ref b3_95)] [(.int (f_rm23_2 v7 (0 : Int32) r96 r97))])
    obtain ⟨r100, hr100⟩ : ∃ z, z = (f_rm23_2 v7 (0 : Int32) r96 r97) := ⟨_, rfl⟩
    rw [← hr100]
    have br100 : ¬ r100 < (0 : Int32) ∧ ¬ (1 : Int32) < r100 := by rw [hr100]; exact f_rm23_2_bnd v7 (0 : Int32) r96 r97 (bnd_mono (bnd_lit (0 : Int32)) (by decide +kernel) (by decide +kernel))
    suffices J120 : ∀ {T : State} {lc : List Loc} (X : Stand p l e room_1 (s.setVm T95.vm) m #[(.long j0), (.int i1)] below meth c T lc 12 542) (N : Fr n0 lc) (eT : T.heap = T95.heap) (v121 : Int32) (hv121 : v121 = (if r100 = (0 : Int32) then (0 : Int32) else (if (f_rm23_2 v7 (1 : Int32) r96 r97) = (0 : Int32) then (0 : Int32) else (if (f_rm23_2 v7 (2 : Int32) r96 r97) = (0 : Int32) then (0 : Int32) else (if (f_rm23_2 v7 (3 : Int32) r96 r97) = (0 : Int32) then (0 : Int32) else (if (f_rm23_2 v7 (4 : Int32) r96 r97) = (0 : Int32) then (0 : Int32) else (1 : Int32))))))), @Home p e below _ T (mkF m 402 #[.val (.long j0), .second, .val (.int i1), .val (.int (2 : Int32)), .val (.long v6), .second, .val (.long v7), .second, .val (.int r9), .val (.int r11), .val (.int r13), .val (.int r15), .val (.int r17), .val (.int r19), .val (.int r21), .val (.int r23), .val (.ref b82), .val (.ref b3_95)] [(.int v121)]) by
     by_cases c101 : r100 = (0 : Int32)
     ·
      refine Home.go (fun _ => XS.ifYes X99.here hx rfl (pc0 := 346) (pc' := 401) rfl (hb hby at_346) rfl ((if0 _ _).trans (teq c101).1) (by decide) (by decide)) ?_
      have bd102 : ¬ r100 < (0 : Int32) ∧ ¬ (0 : Int32) < r100 := ⟨(bnd_eql c101), (bnd_eqr c101)⟩
      refine Home.run X99 hx hby sg0_401_1 (pc' := 402) (L' := #[.val (.long j0), .second, .val (.int i1), .val (.int (2 : Int32)), .val (.long v6), .second, .val (.long v7), .second, .val (.int r9), .val (.int r11), .val (.int r13), .val (.int r15), .val (.int r17), .val (.int r19), .val (.int r21), .val (.int r23), .val (.ref b82), .val (.ref b3_95)]) (S' := [(.int (0 : Int32))]) rfl ?_
      exact J120 X99 N95 e99 _ (by simp only [if_pos c101])
     ·
      refine Home.go (fun _ => XS.ifNo X99.here hx rfl (hb hby at_346) rfl ((if0 _ _).trans (feq c101).1)) ?_
      have bd103 : ¬ r100 < (1 : Int32) ∧ ¬ (1 : Int32) < r100 := ⟨(bnd_nel br100.1 c101 (by decide +kernel)), br100.2⟩
      refine Home.run X99 hx hby sg0_349_4 (pc' := 355) (L' := #[.val (.long j0), .second, .val (.int i1), .val (.int (2 : Int32)), .val (.long v6), .second, .val (.long v7), .second, .val (.int r9), .val (.int r11), .val (.int r13), .val (.int r15), .val (.int r17), .val (.int r19), .val (.int r21), .val (.int r23), .val (.ref b82), .val (.ref b3_95)]) (S' := [(.int (1 : Int32)), (.int (2 : Int32)), (.long v7), (.ref b3_95)]) rfl ?_
      refine Home.st (own_pure (own_static X99 hx hZ hown (own_w103 hw) (own_w104 hw) (own_w4 hw) (own_w105 hw) (by decide) (rm23_2 l Z a0 hw [] b3_95 v7 (1 : Int32) k3_95 r96 r97 T95.heap n0 O95 (bnd_mono (bnd_lit (1 : Int32)) (by decide +kernel) (by decide +kernel)) P95_0) e99 rfl (by rw [hml]; rfl) (argsL := [(.ref b3_95), (.long v7), (.int (2 : Int32)), (.int (1 : Int32))]) (rest := []) (lenOf own_pd6 rfl) rfl rfl (W := 0) (by exact hW0) (by decide) (by decide) (hb hby at_355) (by decide) (by decide))) fun T104 X104 e104 => ?_
      by_cases c105 : (f_rm23_2 v7 (1 : Int32) r96 r97) = (0 : Int32)
      ·
       refine Home.go (fun _ => XS.ifYes X104.here hx rfl (pc0 := 358) (pc' := 401) rfl (hb hby at_358) rfl ((if0 _ _).trans (teq c105).1) (by decide) (by decide)) ?_
       have bd106 : ¬ (f_rm23_2 v7 (1 : Int32) r96 r97) < (0 : Int32) ∧ ¬ (0 : Int32) < (f_rm23_2 v7 (1 : Int32) r96 r97) := ⟨(bnd_eql c105), (bnd_eqr c105)⟩
       refine Home.run X104 hx hby sg0_401_1 (pc' := 402) (L' := #[.val (.long j0), .second, .val (.int i1), .val (.int (2 : Int32)), .val (.long v6), .second, .val (.long v7), .second, .val (.int r9), .val (.int r11), .val (.int r13), .val (.int r15), .val (.int r17), .val (.int r19), .val (.int r21), .val (.int r23), .val (.ref b82), .val (.ref b3_95)]) (S' := [(.int (0 : Int32))]) rfl ?_
       exact J120 X104 N95 e104 _ (by simp only [if_neg c101, if_pos c105])
      ·
       refine Home.go (fun _ => XS.ifNo X104.here hx rfl (hb hby at_358) rfl ((if0 _ _).trans (feq c105).1)) ?_
       have bd107 : ¬ (f_rm23_2 v7 (1 : Int32) r96 r97) < (1 : Int32) ∧ ¬ (1 : Int32) < (f_rm23_2 v7 (1 : Int32) r96 r97) := ⟨(bnd_nel (f_rm23_2_bnd v7 (1 : Int32) r96 r97 (bnd_mono (bnd_lit (1 : Int32)) (by decide +kernel) (by decide +kernel))).1 c105 (by decide +kernel)), (f_rm23_2_bnd v7 (1 : Int32) r96 r97 (bnd_mono (bnd_lit (1 : Int32)) (by decide +kernel) (by decide +kernel))).2⟩
       refine Home.run X104 hx hby sg0_361_4 (pc' := 367) (L' := #[.val (.long j0), .second, .val (.int i1), .val (.int (2 : Int32)), .val (.long v6), .second, .val (.long v7), .second, .val (.int r9), .val (.int r11), .val (.int r13), .val (.int r15), .val (.int r17), .val (.int r19), .val (.int r21), .val (.int r23), .val (.ref b82), .val (.ref b3_95)]) (S' := [(.int (2 : Int32)), (.int (2 : Int32)), (.long v7), (.ref b3_95)]) rfl ?_
       refine Home.st (own_pure (own_static X104 hx hZ hown (own_w103 hw) (own_w104 hw) (own_w4 hw) (own_w105 hw) (by decide) (rm23_2 l Z a0 hw [] b3_95 v7 (2 : Int32) k3_95 r96 r97 T95.heap n0 O95 (bnd_mono (bnd_lit (2 : Int32)) (by decide +kernel) (by decide +kernel)) P95_0) e104 rfl (by rw [hml]; rfl) (argsL := [(.ref b3_95), (.long v7), (.int (2 : Int32)), (.int (2 : Int32))]) (rest := []) (lenOf own_pd6 rfl) rfl rfl (W := 0) (by exact hW0) (by decide) (by decide) (hb hby at_367) (by decide) (by decide))) fun T108 X108 e108 => ?_
       by_cases c109 : (f_rm23_2 v7 (2 : Int32) r96 r97) = (0 : Int32)
       ·
        refine Home.go (fun _ => XS.ifYes X108.here hx rfl (pc0 := 370) (pc' := 401) rfl (hb hby at_370) rfl ((if0 _ _).trans (teq c109).1) (by decide) (by decide)) ?_
        have bd110 : ¬ (f_rm23_2 v7 (2 : Int32) r96 r97) < (0 : Int32) ∧ ¬ (0 : Int32) < (f_rm23_2 v7 (2 : Int32) r96 r97) := ⟨(bnd_eql c109), (bnd_eqr c109)⟩
        refine Home.run X108 hx hby sg0_401_1 (pc' := 402) (L' := #[.val (.long j0), .second, .val (.int i1), .val (.int (2 : Int32)), .val (.long v6), .second, .val (.long v7), .second, .val (.int r9), .val (.int r11), .val (.int r13), .val (.int r15), .val (.int r17), .val (.int r19), .val (.int r21), .val (.int r23), .val (.ref b82), .val (.ref b3_95)]) (S' := [(.int (0 : Int32))]) rfl ?_
        exact J120 X108 N95 e108 _ (by simp only [if_neg c101, if_neg c105, if_pos c109])
       ·
        refine Home.go (fun _ => XS.ifNo X108.here hx rfl (hb hby at_370) rfl ((if0 _ _).trans (feq c109).1)) ?_
        have bd111 : ¬ (f_rm23_2 v7 (2 : Int32) r96 r97) < (1 : Int32) ∧ ¬ (1 : Int32) < (f_rm23_2 v7 (2 : Int32) r96 r97) := ⟨(bnd_nel (f_rm23_2_bnd v7 (2 : Int32) r96 r97 (bnd_mono (bnd_lit (2 : Int32)) (by decide +kernel) (by decide +kernel))).1 c109 (by decide +kernel)), (f_rm23_2_bnd v7 (2 : Int32) r96 r97 (bnd_mono (bnd_lit (2 : Int32)) (by decide +kernel) (by decide +kernel))).2⟩
        refine Home.run X108 hx hby sg0_373_4 (pc' := 379) (L' := #[.val (.long j0), .second, .val (.int i1), .val (.int (2 : Int32)), .val (.long v6), .second, .val (.long v7), .second, .val (.int r9), .val (.int r11), .val (.int r13), .val (.int r15), .val (.int r17), .val (.int r19), .val (.int r21), .val (.int r23), .val (.ref b82), .val (.ref b3_95)]) (S' := [(.int (3 : Int32)), (.int (2 : Int32)), (.long v7), (.ref b3_95)]) rfl ?_
        refine Home.st (own_pure (own_static X108 hx hZ hown (own_w103 hw) (own_w104 hw) (own_w4 hw) (own_w105 hw) (by decide) (rm23_2 l Z a0 hw [] b3_95 v7 (3 : Int32) k3_95 r96 r97 T95.heap n0 O95 (bnd_mono (bnd_lit (3 : Int32)) (by decide +kernel) (by decide +kernel)) P95_0) e108 rfl (by rw [hml]; rfl) (argsL := [(.ref b3_95), (.long v7), (.int (2 : Int32)), (.int (3 : Int32))]) (rest := []) (lenOf own_pd6 rfl) rfl rfl (W := 0) (by exact hW0) (by decide) (by decide) (hb hby at_379) (by decide) (by decide))) fun T112 X112 e112 => ?_
        by_cases c113 : (f_rm23_2 v7 (3 : Int32) r96 r97) = (0 : Int32)
        ·
         refine Home.go (fun _ => XS.ifYes X112.here hx rfl (pc0 := 382) (pc' := 401) rfl (hb hby at_382) rfl ((if0 _ _).trans (teq c113).1) (by decide) (by decide)) ?_
         have bd114 : ¬ (f_rm23_2 v7 (3 : Int32) r96 r97) < (0 : Int32) ∧ ¬ (0 : Int32) < (f_rm23_2 v7 (3 : Int32) r96 r97) := ⟨(bnd_eql c113), (bnd_eqr c113)⟩
         refine Home.run X112 hx hby sg0_401_1 (pc' := 402) (L' := #[.val (.long j0), .second, .val (.int i1), .val (.int (2 : Int32)), .val (.long v6), .second, .val (.long v7), .second, .val (.int r9), .val (.int r11), .val (.int r13), .val (.int r15), .val (.int r17), .val (.int r19), .val (.int r21), .val (.int r23), .val (.ref b82), .val (.ref b3_95)]) (S' := [(.int (0 : Int32))]) rfl ?_
         exact J120 X112 N95 e112 _ (by simp only [if_neg c101, if_neg c105, if_neg c109, if_pos c113])
        ·
         refine Home.go (fun _ => XS.ifNo X112.here hx rfl (hb hby at_382) rfl ((if0 _ _).trans (feq c113).1)) ?_
         have bd115 : ¬ (f_rm23_2 v7 (3 : Int32) r96 r97) < (1 : Int32) ∧ ¬ (1 : Int32) < (f_rm23_2 v7 (3 : Int32) r96 r97) := ⟨(bnd_nel (f_rm23_2_bnd v7 (3 : Int32) r96 r97 (bnd_mono (bnd_lit (3 : Int32)) (by decide +kernel) (by decide +kernel))).1 c113 (by decide +kernel)), (f_rm23_2_bnd v7 (3 : Int32) r96 r97 (bnd_mono (bnd_lit (3 : Int32)) (by decide +kernel) (by decide +kernel))).2⟩
         refine Home.run X112 hx hby sg0_385_4 (pc' := 391) (L' := #[.val (.long j0), .second, .val (.int i1), .val (.int (2 : Int32)), .val (.long v6), .second, .val (.long v7), .second, .val (.int r9), .val (.int r11), .val (.int r13), .val (.int r15), .val (.int r17), .val (.int r19), .val (.int r21), .val (.int r23), .val (.ref b82), .val (.ref b3_95)]) (S' := [(.int (4 : Int32)), (.int (2 : Int32)), (.long v7), (.ref b3_95)]) rfl ?_
         refine Home.st (own_pure (own_static X112 hx hZ hown (own_w103 hw) (own_w104 hw) (own_w4 hw) (own_w105 hw) (by decide) (rm23_2 l Z a0 hw [] b3_95 v7 (4 : Int32) k3_95 r96 r97 T95.heap n0 O95 (bnd_mono (bnd_lit (4 : Int32)) (by decide +kernel) (by decide +kernel)) P95_0) e112 rfl (by rw [hml]; rfl) (argsL := [(.ref b3_95), (.long v7), (.int (2 : Int32)), (.int (4 : Int32))]) (rest := []) (lenOf own_pd6 rfl) rfl rfl (W := 0) (by exact hW0) (by decide) (by decide) (hb hby at_391) (by decide) (by decide))) fun T116 X116 e116 => ?_
         by_cases c117 : (f_rm23_2 v7 (4 : Int32) r96 r97) = (0 : Int32)
         ·
          refine Home.go (fun _ => XS.ifYes X116.here hx rfl (pc0 := 394) (pc' := 401) rfl (hb hby at_394) rfl ((if0 _ _).trans (teq c117).1) (by decide) (by decide)) ?_
          have bd118 : ¬ (f_rm23_2 v7 (4 : Int32) r96 r97) < (0 : Int32) ∧ ¬ (0 : Int32) < (f_rm23_2 v7 (4 : Int32) r96 r97) := ⟨(bnd_eql c117), (bnd_eqr c117)⟩
          refine Home.run X116 hx hby sg0_401_1 (pc' := 402) (L' := #[.val (.long j0), .second, .val (.int i1), .val (.int (2 : Int32)), .val (.long v6), .second, .val (.long v7), .second, .val (.int r9), .val (.int r11), .val (.int r13), .val (.int r15), .val (.int r17), .val (.int r19), .val (.int r21), .val (.int r23), .val (.ref b82), .val (.ref b3_95)]) (S' := [(.int (0 : Int32))]) rfl ?_
          exact J120 X116 N95 e116 _ (by simp only [if_neg c101, if_neg c105, if_neg c109, if_neg c113, if_pos c117])
         ·
          refine Home.go (fun _ => XS.ifNo X116.here hx rfl (hb hby at_394) rfl ((if0 _ _).trans (feq c117).1)) ?_
          have bd119 : ¬ (f_rm23_2 v7 (4 : Int32) r96 r97) < (1 : Int32) ∧ ¬ (1 : Int32) < (f_rm23_2 v7 (4 : Int32) r96 r97) := ⟨(bnd_nel (f_rm23_2_bnd v7 (4 : Int32) r96 r97 (bnd_mono (bnd_lit (4 : Int32)) (by decide +kernel) (by decide +kernel))).1 c117 (by decide +kernel)), (f_rm23_2_bnd v7 (4 : Int32) r96 r97 (bnd_mono (bnd_lit (4 : Int32)) (by decide +kernel) (by decide +kernel))).2⟩
          refine Home.run X116 hx hby sg0_397_2 (pc' := 402) (L' := #[.val (.long j0), .second, .val (.int i1), .val (.int (2 : Int32)), .val (.long v6), .second, .val (.long v7), .second, .val (.int r9), .val (.int r11), .val (.int r13), .val (.int r15), .val (.int r17), .val (.int r19), .val (.int r21), .val (.int r23), .val (.ref b82), .val (.ref b3_95)]) (S' := [(.int (1 : Int32))]) rfl ?_
          exact J120 X116 N95 e116 _ (by simp only [if_neg c101, if_neg c105, if_neg c109, if_neg c113, if_neg c117])
    intro TJ120 lcJ120 XJ120 NJ120 eJ120 v121 hv121
    have bv121 : ¬ v121 < (0 : Int32) ∧ ¬ (1 : Int32) < v121 := by rw [hv121]; exact (bnd_ite (bnd_mono (bnd_lit (0 : Int32)) (by decide +kernel) (by decide +kernel)) (bnd_ite (bnd_mono (bnd_lit (0 : Int32)) (by decide +kernel) (by decide +kernel)) (bnd_ite (bnd_mono (bnd_lit (0 : Int32)) (by decide +kernel) (by decide +kernel)) (bnd_ite (bnd_mono (bnd_lit (0 : Int32)) (by decide +kernel) (by decide +kernel)) (bnd_ite (bnd_mono (bnd_lit (0 : Int32)) (by decide +kernel) (by decide +kernel)) (bnd_mono (bnd_lit (1 : Int32)) (by decide +kernel) (by decide +kernel)))))))
    show Home TJ120 (mkF m 402 #[.val (.long j0), .second, .val (.int i1), .val (.int (2 : Int32)), .val (.long v6), .second, .val (.long v7), .second, .val (.int r9), .val (.int r11), .val (.int r13), .val (.int r15), .val (.int r17), .val (.int r19), .val (.int r21), .val (.int r23), .val (.ref b82), .val (.ref b3_95)] [(.int v121)])
    exact HomeW.retN XJ120 hx hlk hZ (own_hEL hw) eJ120 Ce95 (t := .boolean) hret (by simp) (hb hby at_402) ⟨congrArg some (congrArg Value.int (own_end6 j0 i1 sv_COMPACT_STRINGS v1 hv1 v6 hv6 v7 hv7 r9 hr9 r11 hr11 r13 hr13 r15 hr15 r17 hr17 r19 hr19 r21 hr21 r23 hr23 r96 hr96 r97 hr97 r100 hr100 v121 hv121 c24 c39 c78)), NJ120⟩ (by decide) (by decide)
   ·
    refine Home.go (fun _ => XS.icmpYes X22.here hx rfl (pc0 := 147) (pc' := 178) rfl (hb hby at_147) rfl (feq c78).2 (by decide) (by decide)) ?_
    have bd81 : ¬ v1 < (3 : Int32) ∧ ¬ (5 : Int32) < v1 := ⟨(bnd_nel bd42.1 c78 (by decide +kernel)), bd42.2⟩
    refine Home.run X22 hx hby sg0_178_2 (pc' := 180) (L' := #[.val (.long j0), .second, .val (.int i1), .val (.int v1), .val (.long v6), .second, .val (.long v7), .second, .val (.int r9), .val (.int r11), .val (.int r13), .val (.int r15), .val (.int r17), .val (.int r19), .val (.int r21), .val (.int r23), .unset, .unset]) (S' := [(.int (3 : Int32)), (.int v1)]) rfl ?_
    by_cases c122 : v1 = (3 : Int32)
    ·
     refine Home.go (fun _ => XS.icmpNo X22.here hx rfl (hb hby at_180) rfl (teq c122).2) ?_
     have bd123 : ¬ v1 < (3 : Int32) ∧ ¬ (3 : Int32) < v1 := ⟨(bnd_eql c122), (bnd_eqr c122)⟩
     have fx124 : v1 = (3 : Int32) := bnd_fix bd123
     try rw [fx124]
     show Home T22 (mkF m 183 #[.val (.long j0), .second, .val (.int i1), .val (.int (3 : Int32)), .val (.long v6), .second, .val (.long v7), .second, .val (.int r9), .val (.int r11), .val (.int r13), .val (.int r15), .val (.int r17), .val (.int r19), .val (.int r21), .val (.int r23), .unset, .unset] [])
     refine Home.run X22 hx hby sg0_183_1 (pc' := 184) (L' := #[.val (.long j0), .second, .val (.int i1), .val (.int (3 : Int32)), .val (.long v6), .second, .val (.long v7), .second, .val (.int r9), .val (.int r11), .val (.int r13), .val (.int r15), .val (.int r17), .val (.int r19), .val (.int r21), .val (.int r23), .unset, .unset]) (S' := [(.int (5 : Int32))]) rfl ?_
     refine Home.na (own_newP (aty := .char) X22 hx hZ (own_w7 hw) e22 (g := (mkF m 184 #[.val (.long j0), .second, .val (.int i1), .val (.int (3 : Int32)), .val (.long v6), .second, .val (.long v7), .second, .val (.int r9), .val (.int r11), .val (.int r13), .val (.int r15), .val (.int r17), .val (.int r19), .val (.int r21), .val (.int r23), .unset, .unset] [(.int (5 : Int32))])) rfl (hb hby at_184) rfl (by decide) (cap := 5) (by decide) (by decide) (by decide) (by decide)) fun T126 h126 k126 b126 g126 X126 e126 E126 A126 => ?_
     have g_b126 : n0 ≤ b126 := Nat.le_trans (Old.le O0) (Nat.le_of_eq g126.symm)
     have V126 : Arv Z h126 b126 k126 .char (5 : Int32) [(.int (0 : Int32)), (.int (0 : Int32)), (.int (0 : Int32)), (.int (0 : Int32)), (.int (0 : Int32))] (.int (0 : Int32)) := (Arv.new A126 (by decide)).pad (pad_rep [] (.int (0 : Int32)) 5)
     have O126 := O0.ext E126
     have K126 : Keep h0 h126 ([] : List Addr) := Keep.ext (Keep.refl h0 ([] : List Addr)) E126
     have Cd126 := Cold.ext Cd0 E126
     refine Home.run X126 hx hby sg0_186_3 (pc' := 190) (L' := #[.val (.long j0), .second, .val (.int i1), .val (.int (3 : Int32)), .val (.long v6), .second, .val (.long v7), .second, .val (.int r9), .val (.int r11), .val (.int r13), .val (.int r15), .val (.int r17), .val (.int r19), .val (.int r21), .val (.int r23), .unset, .unset]) (S' := [(.int r9), (.int (0 : Int32)), (.ref b126), (.ref b126)]) rfl ?_
     obtain ⟨cl127, Ar127, q127, S127, M127, H127, G127⟩ := id V126
     refine Home.wr (stC X126 hx hZ e126 Ar127 (j := (0 : Int32)) (inb_of S127 ⟨by decide, by decide⟩) rfl rfl (hb hby at_190)) fun T127 h127 X127 e127 W127 => ?_
     have W127' := Wr.to W127 (congrArg Value.int (nar_char_id br9 (by decide +kernel) (by decide +kernel)))
     have V127 : Arv Z h127 b126 k126 .char (5 : Int32) [(.int r9), (.int (0 : Int32)), (.int (0 : Int32)), (.int (0 : Int32)), (.int (0 : Int32))] (.int (0 : Int32)) := Arv.set Ar127 q127 S127 M127 H127 G127 (fits_char_b br9 (by decide +kernel) (by decide +kernel)) W127' 0 rfl (Nat.le_of_ble_eq_true rfl)
     have O127 := O126.wr W127 g_b126
     have K127 : Keep h0 h127 ([] : List Addr) := Keep.wr K126 W127 (Or.inr (Nat.le_trans (Nat.le_refl _) (Nat.le_of_eq g126.symm)))
     have Cd127 := Cold.wr Cd126 W127 (Safe.arv hZ.alike V126 (by simp))
     have N127 := Fr.snoc X127 N0 g_b126
     show Home T127 (mkF m 191 #[.val (.long j0), .second, .val (.int i1), .val (.int (3 : Int32)), .val (.long v6), .second, .val (.long v7), .second, .val (.int r9), .val (.int r11), .val (.int r13), .val (.int r15), .val (.int r17), .val (.int r19), .val (.int r21), .val (.int r23), .unset, .unset] [(.ref b126)])
     refine Home.run X127 hx hby sg0_191_3 (pc' := 195) (L' := #[.val (.long j0), .second, .val (.int i1), .val (.int (3 : Int32)), .val (.long v6), .second, .val (.long v7), .second, .val (.int r9), .val (.int r11), .val (.int r13), .val (.int r15), .val (.int r17), .val (.int r19), .val (.int r21), .val (.int r23), .unset, .unset]) (S' := [(.int r11), (.int (1 : Int32)), (.ref b126), (.ref b126)]) rfl ?_
     obtain ⟨cl128, Ar128, q128, S128, M128, H128, G128⟩ := id V127
     refine Home.wr (stC X127 hx hZ e127 Ar128 (j := (1 : Int32)) (inb_of S128 ⟨by decide, by decide⟩) rfl rfl (hb hby at_195)) fun T128 h128 X128 e128 W128 => ?_
     have W128' := Wr.to W128 (congrArg Value.int (nar_char_id br11 (by decide +kernel) (by decide +kernel)))
     have V128 : Arv Z h128 b126 k126 .char (5 : Int32) [(.int r9), (.int r11), (.int (0 : Int32)), (.int (0 : Int32)), (.int (0 : Int32))] (.int (0 : Int32)) := Arv.set Ar128 q128 S128 M128 H128 G128 (fits_char_b br11 (by decide +kernel) (by decide +kernel)) W128' 1 rfl (Nat.le_of_ble_eq_true rfl)
     have O128 := O127.wr W128 g_b126
     have K128 : Keep h0 h128 ([] : List Addr) := Keep.wr K127 W128 (Or.inr (Nat.le_trans (Nat.le_refl _) (Nat.le_of_eq g126.symm)))
     have Cd128 := Cold.wr Cd127 W128 (Safe.arv hZ.alike V127 (by simp))
     have N128 := Fr.snoc X128 N127 g_b126
     refine Home.run X128 hx hby sg0_196_3 (pc' := 200) (L' := #[.val (.long j0), .second, .val (.int i1), .val (.int (3 : Int32)), .val (.long v6), .second, .val (.long v7), .second, .val (.int r9), .val (.int r11), .val (.int r13), .val (.int r15), .val (.int r17), .val (.int r19), .val (.int r21), .val (.int r23), .unset, .unset]) (S' := [(.int r13), (.int (2 : Int32)), (.ref b126), (.ref b126)]) rfl ?_
     obtain ⟨cl129, Ar129, q129, S129, M129, H129, G129⟩ := id V128
     refine Home.wr (stC X128 hx hZ e128 Ar129 (j := (2 : Int32)) (inb_of S129 ⟨by decide, by decide⟩) rfl rfl (hb hby at_200)) fun T129 h129 X129 e129 W129 => ?_
     have W129' := Wr.to W129 (congrArg Value.int (nar_char_id br13 (by decide +kernel) (by decide +kernel)))
     have V129 : Arv Z h129 b126 k126 .char (5 : Int32) [(.int r9), (.int r11), (.int r13), (.int (0 : Int32)), (.int (0 : Int32))] (.int (0 : Int32)) := Arv.set Ar129 q129 S129 M129 H129 G129 (fits_char_b br13 (by decide +kernel) (by decide +kernel)) W129' 2 rfl (Nat.le_of_ble_eq_true rfl)
     have O129 := O128.wr W129 g_b126
     have K129 : Keep h0 h129 ([] : List Addr) := Keep.wr K128 W129 (Or.inr (Nat.le_trans (Nat.le_refl _) (Nat.le_of_eq g126.symm)))
     have Cd129 := Cold.wr Cd128 W129 (Safe.arv hZ.alike V128 (by simp))
     have N129 := Fr.snoc X129 N128 g_b126
     show Home T129 (mkF m 201 #[.val (.long j0), .second, .val (.int i1), .val (.int (3 : Int32)), .val (.long v6), .second, .val (.long v7), .second, .val (.int r9), .val (.int r11), .val (.int r13), .val (.int r15), .val (.int r17), .val (.int r19), .val (.int r21), .val (.int r23), .unset, .unset] [(.ref b126)])
     refine Home.run X129 hx hby sg0_201_3 (pc' := 205) (L' := #[.val (.long j0), .second, .val (.int i1), .val (.int (3 : Int32)), .val (.long v6), .second, .val (.long v7), .second, .val (.int r9), .val (.int r11), .val (.int r13), .val (.int r15), .val (.int r17), .val (.int r19), .val (.int r21), .val (.int r23), .unset, .unset]) (S' := [(.int r15), (.int (3 : Int32)), (.ref b126), (.ref b126)]) rfl ?_
     obtain ⟨cl130, Ar130, q130, S130, M130, H130, G130⟩ := id V129
     refine Home.wr (stC X129 hx hZ e129 Ar130 (j := (3 : Int32)) (inb_of S130 ⟨by decide, by decide⟩) rfl rfl (hb hby at_205)) fun T130 h130 X130 e130 W130 => ?_
     have W130' := Wr.to W130 (congrArg Value.int (nar_char_id br15 (by decide +kernel) (by decide +kernel)))
     have V130 : Arv Z h130 b126 k126 .char (5 : Int32) [(.int r9), (.int r11), (.int r13), (.int r15), (.int (0 : Int32))] (.int (0 : Int32)) := Arv.set Ar130 q130 S130 M130 H130 G130 (fits_char_b br15 (by decide +kernel) (by decide +kernel)) W130' 3 rfl (Nat.le_of_ble_eq_true rfl)
     have O130 := O129.wr W130 g_b126
     have K130 : Keep h0 h130 ([] : List Addr) := Keep.wr K129 W130 (Or.inr (Nat.le_trans (Nat.le_refl _) (Nat.le_of_eq g126.symm)))
     have Cd130 := Cold.wr Cd129 W130 (Safe.arv hZ.alike V129 (by simp))
     have N130 := Fr.snoc X130 N129 g_b126
     refine Home.run X130 hx hby sg0_206_3 (pc' := 210) (L' := #[.val (.long j0), .second, .val (.int i1), .val (.int (3 : Int32)), .val (.long v6), .second, .val (.long v7), .second, .val (.int r9), .val (.int r11), .val (.int r13), .val (.int r15), .val (.int r17), .val (.int r19), .val (.int r21), .val (.int r23), .unset, .unset]) (S' := [(.int r17), (.int (4 : Int32)), (.ref b126), (.ref b126)]) rfl ?_
     obtain ⟨cl131, Ar131, q131, S131, M131, H131, G131⟩ := id V130
     refine Home.wr (stC X130 hx hZ e130 Ar131 (j := (4 : Int32)) (inb_of S131 ⟨by decide, by decide⟩) rfl rfl (hb hby at_210)) fun T131 h131 X131 e131 W131 => ?_
     have W131' := Wr.to W131 (congrArg Value.int (nar_char_id br17 (by decide +kernel) (by decide +kernel)))
     have V131 : Arv Z h131 b126 k126 .char (5 : Int32) [(.int r9), (.int r11), (.int r13), (.int r15), (.int r17)] (.int (0 : Int32)) := Arv.set Ar131 q131 S131 M131 H131 G131 (fits_char_b br17 (by decide +kernel) (by decide +kernel)) W131' 4 rfl (Nat.le_of_ble_eq_true rfl)
     have O131 := O130.wr W131 g_b126
     have K131 : Keep h0 h131 ([] : List Addr) := Keep.wr K130 W131 (Or.inr (Nat.le_trans (Nat.le_refl _) (Nat.le_of_eq g126.symm)))
     have Cd131 := Cold.wr Cd130 W131 (Safe.arv hZ.alike V130 (by simp))
     have N131 := Fr.snoc X131 N130 g_b126
     show Home T131 (mkF m 211 #[.val (.long j0), .second, .val (.int i1), .val (.int (3 : Int32)), .val (.long v6), .second, .val (.long v7), .second, .val (.int r9), .val (.int r11), .val (.int r13), .val (.int r15), .val (.int r17), .val (.int r19), .val (.int r21), .val (.int r23), .unset, .unset] [(.ref b126)])
     refine Home.run X131 hx hby sg0_211_2 (pc' := 314) (L' := #[.val (.long j0), .second, .val (.int i1), .val (.int (3 : Int32)), .val (.long v6), .second, .val (.long v7), .second, .val (.int r9), .val (.int r11), .val (.int r13), .val (.int r15), .val (.int r17), .val (.int r19), .val (.int r21), .val (.int r23), .val (.ref b126), .unset]) (S' := []) rfl ?_
     refine Home.nw (own_newO X131 hx hZ hown (own_w8 hw) (own_w9 hw) (own_w10 hw) e131 rfl (hb hby at_314) (by decide) (by decide)) fun T132 h132 b132 g132 X132 e132 E132 A132 D132 => ?_
     have g_b132 : n0 ≤ b132 := Nat.le_trans (Old.le O131) (Nat.le_of_eq g132.symm)
     have F_coder_b132 : Fld Z h132 b132 "java/lang/String" "coder" "B" (.int (0 : Int32)) := D132 (Or.inr (own_w34 hw)) (ty := .byte) (by decide)
     have F_value_b132 : Fld Z h132 b132 "java/lang/String" "value" "[B" .null := D132 (Or.inr (own_w36 hw)) (ty := (.array .byte)) (by decide)
     have O132 := O131.ext E132
     have K132 : Keep h0 h132 ([] : List Addr) := Keep.ext K131 E132
     have Cd132 := Cold.add Cd131 E132 (Nat.le_of_eq g132.symm) A132.lt
     refine Home.run X132 hx hby sg0_317_2 (pc' := 320) (L' := #[.val (.long j0), .second, .val (.int i1), .val (.int (3 : Int32)), .val (.long v6), .second, .val (.long v7), .second, .val (.int r9), .val (.int r11), .val (.int r13), .val (.int r15), .val (.int r17), .val (.int r19), .val (.int r21), .val (.int r23), .val (.ref b126), .unset]) (S' := [(.ref b126), (.ref b132), (.ref b132)]) rfl ?_
     have q133 := (V131.ext E132)
     refine Home.call (own_special X132 hx hZ hown rfl (own_w11 hw) (own_w12 hw) (own_w10 hw) (own_w13 hw) (by decide) (rm2_3 l Z a0 hw [] b132 b126 k126 r9 r11 r13 r15 r17 sv_COMPACT_STRINGS h132 n0 O132 q133 S_COMPACT_STRINGS A132 F_coder_b132 F_value_b132 br9 br11 br13 br15 br17 g_b132 hCS) e132 rfl (by rw [hml]; rfl) (a := b132) (argsL := [(.ref b126)]) (rest := [(.ref b132)]) (lenOf own_pd2 rfl) rfl rfl (W := 1) (by exact hW0) (by decide) (by decide) (hb hby at_320) (by decide) (by decide)) ?_
     rintro _ T134 L134 X134 ⟨b1_3_2_134, k1_3_2_134, rfl, N134q, sz_b1_3_2_134, K134q, P134_0, P134_1, P134_2, P134_3⟩
     have Cd134 := Cold.keep Cd132 K134q (allS (Cold.safe Cd132 (List.mem_of_getElem? (i := 0) rfl)) all0)
     have Cd134b1_3_2_134 := Cold.put Cd134 ⟨Safe.keep K134q (allS (Cold.safe Cd132 (List.mem_of_getElem? (i := 0) rfl)) all0) Cd132.2.1.1 (Safe.new sz_b1_3_2_134), P134_3.lt⟩
     have g_b1_3_2_134 : n0 ≤ b1_3_2_134 := Nat.le_trans (Old.le O132) sz_b1_3_2_134
     have le135 : h0.size ≤ h127.size := Nat.le_trans E126.1 (Nat.le_of_eq W127.size.symm)
     have le136 : h0.size ≤ h128.size := Nat.le_trans le135 (Nat.le_of_eq W128.size.symm)
     have le137 : h0.size ≤ h129.size := Nat.le_trans le136 (Nat.le_of_eq W129.size.symm)
     have le138 : h0.size ≤ h130.size := Nat.le_trans le137 (Nat.le_of_eq W130.size.symm)
     have le139 : h0.size ≤ h131.size := Nat.le_trans le138 (Nat.le_of_eq W131.size.symm)
     have O134 := Old.keep O132 K134q (allS g_b132 all0)
     have K134 : Keep h0 T134.heap ([] : List Addr) := Keep.trans K132 K134q (allS (Or.inr (Nat.le_trans le139 (Nat.le_of_eq g132.symm))) all0)
     have N134 := Fr.app N131 N134q
     show Home T134 (mkF m 323 #[.val (.long j0), .second, .val (.int i1), .val (.int (3 : Int32)), .val (.long v6), .second, .val (.long v7), .second, .val (.int r9), .val (.int r11), .val (.int r13), .val (.int r15), .val (.int r17), .val (.int r19), .val (.int r21), .val (.int r23), .val (.ref b126), .unset] [(.ref b132)])
     refine Home.call (own_staticW X134 hx hZ hown (own_hEL hw) Cd134b1_3_2_134 all0 (own_w37 hw) (own_w38 hw) (own_w39 hw) (own_w40 hw) (by decide) (rm8_3 l Z a0 hw [] b132 b1_3_2_134 k1_3_2_134 r9 r11 r13 r15 r17 sv_COMPACT_STRINGS sv_SIOOBE_FORMATTER T134.heap n0 O134 P134_0 P134_2 P134_3 S_COMPACT_STRINGS P134_1 hCS S_SIOOBE_FORMATTER br9 br11 br13 br15 br17 isr_sv_SIOOBE_FORMATTER (by rw [hr9]; exact own_dig _ _) (by rw [hr11]; exact own_dig _ _) (by rw [hr13]; exact own_dig _ _) (by rw [hr15]; exact own_dig _ _) (by rw [hr17]; exact own_dig _ _) (own_nn140 j0 i1 sv_COMPACT_STRINGS v1 hv1 v6 hv6 v7 hv7 r9 hr9 r11 hr11 r13 hr13 r15 hr15 r17 hr17 r19 hr19 r21 hr21 r23 hr23 c24 c39 c78 c122)) rfl rfl (by rw [hml]; rfl) (argsL := [(.ref b132)]) (rest := []) (lenOf own_pd5 rfl) rfl rfl (W := 0) (by exact hW0) (by decide) (by decide) (hb hby at_323) (by decide) (by decide)) ?_
     rintro _ T141 L141 X141 ⟨⟨b3_141, k3_141, rfl, N141q, sz_b3_141, K141q, P141_0⟩, hZ, hown, Cd141, sR141⟩
     have Ce141 := Cold.put Cd141 (sR141 rfl _ rfl)
     have g_b3_141 : n0 ≤ b3_141 := Nat.le_trans (Old.le O134) sz_b3_141
     have O141 := Old.keep O134 K141q all0
     have K141 : Keep h0 T141.heap ([] : List Addr) := Keep.trans K134 K141q all0
     have N141 := Fr.app N134 N141q
     show Home T141 (mkF m 326 #[.val (.long j0), .second, .val (.int i1), .val (.int (3 : Int32)), .val (.long v6), .second, .val (.long v7), .second, .val (.int r9), .val (.int r11), .val (.int r13), .val (.int r15), .val (.int r17), .val (.int r19), .val (.int r21), .val (.int r23), .val (.ref b126), .unset] [(.ref b3_141)])
     obtain ⟨r142, hr142⟩ : ∃ z, z = (((((((0 : Int32) ||| (f_rm22_0 (r9 &&& (255 : Int32)))) <<< ((5 : Int32) &&& 31)) ||| (f_rm22_0 (r11 &&& (255 : Int32)))).toUInt32 >>> ((2 : Int32) &&& 31).toUInt32).toInt32).toInt8.toInt32) := ⟨_, rfl⟩
     rw [← hr142] at P141_0
     obtain ⟨r143, hr143⟩ : ∃ z, z = ((((((((((((0 : Int32) ||| (f_rm22_0 (r9 &&& (255 : Int32)))) <<< ((5 : Int32) &&& 31)) ||| (f_rm22_0 (r11 &&& (255 : Int32)))) &&& (3 : Int32)) <<< ((5 : Int32) &&& 31)) ||| (f_rm22_0 (r13 &&& (255 : Int32)))) <<< ((5 : Int32) &&& 31)) ||| (f_rm22_0 (r15 &&& (255 : Int32)))).toUInt32 >>> ((4 : Int32) &&& 31).toUInt32).toInt32).toInt8.toInt32) := ⟨_, rfl⟩
     rw [← hr143] at P141_0
     obtain ⟨r144, hr144⟩ : ∃ z, z = (((((((((((((((0 : Int32) ||| (f_rm22_0 (r9 &&& (255 : Int32)))) <<< ((5 : Int32) &&& 31)) ||| (f_rm22_0 (r11 &&& (255 : Int32)))) &&& (3 : Int32)) <<< ((5 : Int32) &&& 31)) ||| (f_rm22_0 (r13 &&& (255 : Int32)))) <<< ((5 : Int32) &&& 31)) ||| (f_rm22_0 (r15 &&& (255 : Int32)))) &&& (15 : Int32)) <<< ((5 : Int32) &&& 31)) ||| (f_rm22_0 (r17 &&& (255 : Int32)))).toUInt32 >>> ((1 : Int32) &&& 31).toUInt32).toInt32).toInt8.toInt32) := ⟨_, rfl⟩
     rw [← hr144] at P141_0
     refine Home.run X141 hx hby sg0_326_2 (pc' := 330) (L' := #[.val (.long j0), .second, .val (.int i1), .val (.int (3 : Int32)), .val (.long v6), .second, .val (.long v7), .second, .val (.int r9), .val (.int r11), .val (.int r13), .val (.int r15), .val (.int r17), .val (.int r19), .val (.int r21), .val (.int r23), .val (.ref b126), .val (.ref b3_141)]) (S' := [(.ref b3_141)]) rfl ?_
     obtain ⟨cl145, Ar145, q145, S145, M145, H145, G145⟩ := id P141_0
     refine Home.go (own_alen X141 hx hZ rfl Ar145 S145 M145 rfl rfl (hb hby at_330)) ?_
     refine Home.run X141 hx hby sg0_331_1 (pc' := 332) (L' := #[.val (.long j0), .second, .val (.int i1), .val (.int (3 : Int32)), .val (.long v6), .second, .val (.long v7), .second, .val (.int r9), .val (.int r11), .val (.int r13), .val (.int r15), .val (.int r17), .val (.int r19), .val (.int r21), .val (.int r23), .val (.ref b126), .val (.ref b3_141)]) (S' := [(.int (3 : Int32)), (.int (3 : Int32))]) rfl ?_
     refine Home.go (fun _ => XS.icmpYes X141.here hx rfl (pc0 := 332) (pc' := 337) rfl (hb hby at_332) rfl (teq (by decide)).1 (by decide) (by decide)) ?_
     refine Home.run X141 hx hby sg0_337_4 (pc' := 343) (L' := #[.val (.long j0), .second, .val (.int i1), .val (.int (3 : Int32)), .val (.long v6), .second, .val (.long v7), .second, .val (.int r9), .val (.int r11), .val (.int r13), .val (.int r15), .val (.int r17), .val (.int r19), .val (.int r21), .val (.int r23), .val (.ref b126), .val (.ref b3_141)]) (S' := [(.int (0 : Int32)), (.int (3 : Int32)), (.long v7), (.ref b3_141)]) rfl ?_
     refine Home.st (own_pure (own_static X141 hx hZ hown (own_w103 hw) (own_w104 hw) (own_w4 hw) (own_w105 hw) (by decide) (rm23_3 l Z a0 hw [] b3_141 v7 (0 : Int32) k3_141 r142 r143 r144 T141.heap n0 O141 (bnd_mono (bnd_lit (0 : Int32)) (by decide +kernel) (by decide +kernel)) P141_0) rfl rfl (by rw [hml]; rfl) (argsL := [(.ref b3_141), (.long v7), (.int (3 : Int32)), (.int (0 : Int32))]) (rest := []) (lenOf own_pd6 rfl) rfl rfl (W := 0) (by exact hW0) (by decide) (by decide) (hb hby at_343) (by decide) (by decide))) fun T146 X146 e146 => ?_
     show Home T146 (mkF m 346 #[.val (.long j0), .second, .val (.int i1), .val (.int (3 : Int32)), .val (.long v6), .second, .val (.long v7), .second, .val (.int r9), .val (.int r11), .val (.int r13), .val (.int r15), .val (.int r17), .val (.int r19), .val (.int r21), .val (.int r23), .val (.ref b126), .val (.ref b3_141)] [(.int (f_rm23_3 v7 (0 : Int32) r142 r143 r144))])
     obtain ⟨r147, hr147⟩ : ∃ z, z = (f_rm23_3 v7 (0 : Int32) r142 r143 r144) := ⟨_, rfl⟩
     rw [← hr147]
     have br147 : ¬ r147 < (0 : Int32) ∧ ¬ (1 : Int32) < r147 := by rw [hr147]; exact f_rm23_3_bnd v7 (0 : Int32) r142 r143 r144 (bnd_mono (bnd_lit (0 : Int32)) (by decide +kernel) (by decide +kernel))
     suffices J167 : ∀ {T : State} {lc : List Loc} (X : Stand p l e room_1 (s.setVm T141.vm) m #[(.long j0), (.int i1)] below meth c T lc 14 677) (N : Fr n0 lc) (eT : T.heap = T141.heap) (v168 : Int32) (hv168 : v168 = (if r147 = (0 : Int32) then (0 : Int32) else (if (f_rm23_3 v7 (1 : Int32) r142 r143 r144) = (0 : Int32) then (0 : Int32) else (if (f_rm23_3 v7 (2 : Int32) r142 r143 r144) = (0 : Int32) then (0 : Int32) else (if (f_rm23_3 v7 (3 : Int32) r142 r143 r144) = (0 : Int32) then (0 : Int32) else (if (f_rm23_3 v7 (4 : Int32) r142 r143 r144) = (0 : Int32) then (0 : Int32) else (1 : Int32))))))), @Home p e below _ T (mkF m 402 #[.val (.long j0), .second, .val (.int i1), .val (.int (3 : Int32)), .val (.long v6), .second, .val (.long v7), .second, .val (.int r9), .val (.int r11), .val (.int r13), .val (.int r15), .val (.int r17), .val (.int r19), .val (.int r21), .val (.int r23), .val (.ref b126), .val (.ref b3_141)] [(.int v168)]) by
      by_cases c148 : r147 = (0 : Int32)
      ·
       refine Home.go (fun _ => XS.ifYes X146.here hx rfl (pc0 := 346) (pc' := 401) rfl (hb hby at_346) rfl ((if0 _ _).trans (teq c148).1) (by decide) (by decide)) ?_
       have bd149 : ¬ r147 < (0 : Int32) ∧ ¬ (0 : Int32) < r147 := ⟨(bnd_eql c148), (bnd_eqr c148)⟩
       refine Home.run X146 hx hby sg0_401_1 (pc' := 402) (L' := #[.val (.long j0), .second, .val (.int i1), .val (.int (3 : Int32)), .val (.long v6), .second, .val (.long v7), .second, .val (.int r9), .val (.int r11), .val (.int r13), .val (.int r15), .val (.int r17), .val (.int r19), .val (.int r21), .val (.int r23), .val (.ref b126), .val (.ref b3_141)]) (S' := [(.int (0 : Int32))]) rfl ?_
       exact J167 X146 N141 e146 _ (by simp only [if_pos c148])
      ·
       refine Home.go (fun _ => XS.ifNo X146.here hx rfl (hb hby at_346) rfl ((if0 _ _).trans (feq c148).1)) ?_
       have bd150 : ¬ r147 < (1 : Int32) ∧ ¬ (1 : Int32) < r147 := ⟨(bnd_nel br147.1 c148 (by decide +kernel)), br147.2⟩
       refine Home.run X146 hx hby sg0_349_4 (pc' := 355) (L' := #[.val (.long j0), .second, .val (.int i1), .val (.int (3 : Int32)), .val (.long v6), .second, .val (.long v7), .second, .val (.int r9), .val (.int r11), .val (.int r13), .val (.int r15), .val (.int r17), .val (.int r19), .val (.int r21), .val (.int r23), .val (.ref b126), .val (.ref b3_141)]) (S' := [(.int (1 : Int32)), (.int (3 : Int32)), (.long v7), (.ref b3_141)]) rfl ?_
       refine Home.st (own_pure (own_static X146 hx hZ hown (own_w103 hw) (own_w104 hw) (own_w4 hw) (own_w105 hw) (by decide) (rm23_3 l Z a0 hw [] b3_141 v7 (1 : Int32) k3_141 r142 r143 r144 T141.heap n0 O141 (bnd_mono (bnd_lit (1 : Int32)) (by decide +kernel) (by decide +kernel)) P141_0) e146 rfl (by rw [hml]; rfl) (argsL := [(.ref b3_141), (.long v7), (.int (3 : Int32)), (.int (1 : Int32))]) (rest := []) (lenOf own_pd6 rfl) rfl rfl (W := 0) (by exact hW0) (by decide) (by decide) (hb hby at_355) (by decide) (by decide))) fun T151 X151 e151 => ?_
       by_cases c152 : (f_rm23_3 v7 (1 : Int32) r142 r143 r144) = (0 : Int32)
       ·
        refine Home.go (fun _ => XS.ifYes X151.here hx rfl (pc0 := 358) (pc' := 401) rfl (hb hby at_358) rfl ((if0 _ _).trans (teq c152).1) (by decide) (by decide)) ?_
        have bd153 : ¬ (f_rm23_3 v7 (1 : Int32) r142 r143 r144) < (0 : Int32) ∧ ¬ (0 : Int32) < (f_rm23_3 v7 (1 : Int32) r142 r143 r144) := ⟨(bnd_eql c152), (bnd_eqr c152)⟩
        refine Home.run X151 hx hby sg0_401_1 (pc' := 402) (L' := #[.val (.long j0), .second, .val (.int i1), .val (.int (3 : Int32)), .val (.long v6), .second, .val (.long v7), .second, .val (.int r9), .val (.int r11), .val (.int r13), .val (.int r15), .val (.int r17), .val (.int r19), .val (.int r21), .val (.int r23), .val (.ref b126), .val (.ref b3_141)]) (S' := [(.int (0 : Int32))]) rfl ?_
        exact J167 X151 N141 e151 _ (by simp only [if_neg c148, if_pos c152])
       ·
        refine Home.go (fun _ => XS.ifNo X151.here hx rfl (hb hby at_358) rfl ((if0 _ _).trans (feq c152).1)) ?_
        have bd154 : ¬ (f_rm23_3 v7 (1 : Int32) r142 r143 r144) < (1 : Int32) ∧ ¬ (1 : Int32) < (f_rm23_3 v7 (1 : Int32) r142 r143 r144) := ⟨(bnd_nel (f_rm23_3_bnd v7 (1 : Int32) r142 r143 r144 (bnd_mono (bnd_lit (1 : Int32)) (by decide +kernel) (by decide +kernel))).1 c152 (by decide +kernel)), (f_rm23_3_bnd v7 (1 : Int32) r142 r143 r144 (bnd_mono (bnd_lit (1 : Int32)) (by decide +kernel) (by decide +kernel))).2⟩
        refine Home.run X151 hx hby sg0_361_4 (pc' := 367) (L' := #[.val (.long j0), .second, .val (.int i1), .val (.int (3 : Int32)), .val (.long v6), .second, .val (.long v7), .second, .val (.int r9), .val (.int r11), .val (.int r13), .val (.int r15), .val (.int r17), .val (.int r19), .val (.int r21), .val (.int r23), .val (.ref b126), .val (.ref b3_141)]) (S' := [(.int (2 : Int32)), (.int (3 : Int32)), (.long v7), (.ref b3_141)]) rfl ?_
        refine Home.st (own_pure (own_static X151 hx hZ hown (own_w103 hw) (own_w104 hw) (own_w4 hw) (own_w105 hw) (by decide) (rm23_3 l Z a0 hw [] b3_141 v7 (2 : Int32) k3_141 r142 r143 r144 T141.heap n0 O141 (bnd_mono (bnd_lit (2 : Int32)) (by decide +kernel) (by decide +kernel)) P141_0) e151 rfl (by rw [hml]; rfl) (argsL := [(.ref b3_141), (.long v7), (.int (3 : Int32)), (.int (2 : Int32))]) (rest := []) (lenOf own_pd6 rfl) rfl rfl (W := 0) (by exact hW0) (by decide) (by decide) (hb hby at_367) (by decide) (by decide))) fun T155 X155 e155 => ?_
        by_cases c156 : (f_rm23_3 v7 (2 : Int32) r142 r143 r144) = (0 : Int32)
        ·
         refine Home.go (fun _ => XS.ifYes X155.here hx rfl (pc0 := 370) (pc' := 401) rfl (hb hby at_370) rfl ((if0 _ _).trans (teq c156).1) (by decide) (by decide)) ?_
         have bd157 : ¬ (f_rm23_3 v7 (2 : Int32) r142 r143 r144) < (0 : Int32) ∧ ¬ (0 : Int32) < (f_rm23_3 v7 (2 : Int32) r142 r143 r144) := ⟨(bnd_eql c156), (bnd_eqr c156)⟩
         refine Home.run X155 hx hby sg0_401_1 (pc' := 402) (L' := #[.val (.long j0), .second, .val (.int i1), .val (.int (3 : Int32)), .val (.long v6), .second, .val (.long v7), .second, .val (.int r9), .val (.int r11), .val (.int r13), .val (.int r15), .val (.int r17), .val (.int r19), .val (.int r21), .val (.int r23), .val (.ref b126), .val (.ref b3_141)]) (S' := [(.int (0 : Int32))]) rfl ?_
         exact J167 X155 N141 e155 _ (by simp only [if_neg c148, if_neg c152, if_pos c156])
        ·
         refine Home.go (fun _ => XS.ifNo X155.here hx rfl (hb hby at_370) rfl ((if0 _ _).trans (feq c156).1)) ?_
         have bd158 : ¬ (f_rm23_3 v7 (2 : Int32) r142 r143 r144) < (1 : Int32) ∧ ¬ (1 : Int32) < (f_rm23_3 v7 (2 : Int32) r142 r143 r144) := ⟨(bnd_nel (f_rm23_3_bnd v7 (2 : Int32) r142 r143 r144 (bnd_mono (bnd_lit (2 : Int32)) (by decide +kernel) (by decide +kernel))).1 c156 (by decide +kernel)), (f_rm23_3_bnd v7 (2 : Int32) r142 r143 r144 (bnd_mono (bnd_lit (2 : Int32)) (by decide +kernel) (by decide +kernel))).2⟩
         refine Home.run X155 hx hby sg0_373_4 (pc' := 379) (L' := #[.val (.long j0), .second, .val (.int i1), .val (.int (3 : Int32)), .val (.long v6), .second, .val (.long v7), .second, .val (.int r9), .val (.int r11), .val (.int r13), .val (.int r15), .val (.int r17), .val (.int r19), .val (.int r21), .val (.int r23), .val (.ref b126), .val (.ref b3_141)]) (S' := [(.int (3 : Int32)), (.int (3 : Int32)), (.long v7), (.ref b3_141)]) rfl ?_
         refine Home.st (own_pure (own_static X155 hx hZ hown (own_w103 hw) (own_w104 hw) (own_w4 hw) (own_w105 hw) (by decide) (rm23_3 l Z a0 hw [] b3_141 v7 (3 : Int32) k3_141 r142 r143 r144 T141.heap n0 O141 (bnd_mono (bnd_lit (3 : Int32)) (by decide +kernel) (by decide +kernel)) P141_0) e155 rfl (by rw [hml]; rfl) (argsL := [(.ref b3_141), (.long v7), (.int (3 : Int32)), (.int (3 : Int32))]) (rest := []) (lenOf own_pd6 rfl) rfl rfl (W := 0) (by exact hW0) (by decide) (by decide) (hb hby at_379) (by decide) (by decide))) fun T159 X159 e159 => ?_
         by_cases c160 : (f_rm23_3 v7 (3 : Int32) r142 r143 r144) = (0 : Int32)
         ·
          refine Home.go (fun _ => XS.ifYes X159.here hx rfl (pc0 := 382) (pc' := 401) rfl (hb hby at_382) rfl ((if0 _ _).trans (teq c160).1) (by decide) (by decide)) ?_
          have bd161 : ¬ (f_rm23_3 v7 (3 : Int32) r142 r143 r144) < (0 : Int32) ∧ ¬ (0 : Int32) < (f_rm23_3 v7 (3 : Int32) r142 r143 r144) := ⟨(bnd_eql c160), (bnd_eqr c160)⟩
          refine Home.run X159 hx hby sg0_401_1 (pc' := 402) (L' := #[.val (.long j0), .second, .val (.int i1), .val (.int (3 : Int32)), .val (.long v6), .second, .val (.long v7), .second, .val (.int r9), .val (.int r11), .val (.int r13), .val (.int r15), .val (.int r17), .val (.int r19), .val (.int r21), .val (.int r23), .val (.ref b126), .val (.ref b3_141)]) (S' := [(.int (0 : Int32))]) rfl ?_
          exact J167 X159 N141 e159 _ (by simp only [if_neg c148, if_neg c152, if_neg c156, if_pos c160])
         ·
          refine Home.go (fun _ => XS.ifNo X159.here hx rfl (hb hby at_382) rfl ((if0 _ _).trans (feq c160).1)) ?_
          have bd162 : ¬ (f_rm23_3 v7 (3 : Int32) r142 r143 r144) < (1 : Int32) ∧ ¬ (1 : Int32) < (f_rm23_3 v7 (3 : Int32) r142 r143 r144) := ⟨(bnd_nel (f_rm23_3_bnd v7 (3 : Int32) r142 r143 r144 (bnd_mono (bnd_lit (3 : Int32)) (by decide +kernel) (by decide +kernel))).1 c160 (by decide +kernel)), (f_rm23_3_bnd v7 (3 : Int32) r142 r143 r144 (bnd_mono (bnd_lit (3 : Int32)) (by decide +kernel) (by decide +kernel))).2⟩
          refine Home.run X159 hx hby sg0_385_4 (pc' := 391) (L' := #[.val (.long j0), .second, .val (.int i1), .val (.int (3 : Int32)), .val (.long v6), .second, .val (.long v7), .second, .val (.int r9), .val (.int r11), .val (.int r13), .val (.int r15), .val (.int r17), .val (.int r19), .val (.int r21), .val (.int r23), .val (.ref b126), .val (.ref b3_141)]) (S' := [(.int (4 : Int32)), (.int (3 : Int32)), (.long v7), (.ref b3_141)]) rfl ?_
          refine Home.st (own_pure (own_static X159 hx hZ hown (own_w103 hw) (own_w104 hw) (own_w4 hw) (own_w105 hw) (by decide) (rm23_3 l Z a0 hw [] b3_141 v7 (4 : Int32) k3_141 r142 r143 r144 T141.heap n0 O141 (bnd_mono (bnd_lit (4 : Int32)) (by decide +kernel) (by decide +kernel)) P141_0) e159 rfl (by rw [hml]; rfl) (argsL := [(.ref b3_141), (.long v7), (.int (3 : Int32)), (.int (4 : Int32))]) (rest := []) (lenOf own_pd6 rfl) rfl rfl (W := 0) (by exact hW0) (by decide) (by decide) (hb hby at_391) (by decide) (by decide))) fun T163 X163 e163 => ?_
          by_cases c164 : (f_rm23_3 v7 (4 : Int32) r142 r143 r144) = (0 : Int32)
          ·
           refine Home.go (fun _ => XS.ifYes X163.here hx rfl (pc0 := 394) (pc' := 401) rfl (hb hby at_394) rfl ((if0 _ _).trans (teq c164).1) (by decide) (by decide)) ?_
           have bd165 : ¬ (f_rm23_3 v7 (4 : Int32) r142 r143 r144) < (0 : Int32) ∧ ¬ (0 : Int32) < (f_rm23_3 v7 (4 : Int32) r142 r143 r144) := ⟨(bnd_eql c164), (bnd_eqr c164)⟩
           refine Home.run X163 hx hby sg0_401_1 (pc' := 402) (L' := #[.val (.long j0), .second, .val (.int i1), .val (.int (3 : Int32)), .val (.long v6), .second, .val (.long v7), .second, .val (.int r9), .val (.int r11), .val (.int r13), .val (.int r15), .val (.int r17), .val (.int r19), .val (.int r21), .val (.int r23), .val (.ref b126), .val (.ref b3_141)]) (S' := [(.int (0 : Int32))]) rfl ?_
           exact J167 X163 N141 e163 _ (by simp only [if_neg c148, if_neg c152, if_neg c156, if_neg c160, if_pos c164])
          ·
           refine Home.go (fun _ => XS.ifNo X163.here hx rfl (hb hby at_394) rfl ((if0 _ _).trans (feq c164).1)) ?_
           have bd166 : ¬ (f_rm23_3 v7 (4 : Int32) r142 r143 r144) < (1 : Int32) ∧ ¬ (1 : Int32) < (f_rm23_3 v7 (4 : Int32) r142 r143 r144) := ⟨(bnd_nel (f_rm23_3_bnd v7 (4 : Int32) r142 r143 r144 (bnd_mono (bnd_lit (4 : Int32)) (by decide +kernel) (by decide +kernel))).1 c164 (by decide +kernel)), (f_rm23_3_bnd v7 (4 : Int32) r142 r143 r144 (bnd_mono (bnd_lit (4 : Int32)) (by decide +kernel) (by decide +kernel))).2⟩
           refine Home.run X163 hx hby sg0_397_2 (pc' := 402) (L' := #[.val (.long j0), .second, .val (.int i1), .val (.int (3 : Int32)), .val (.long v6), .second, .val (.long v7), .second, .val (.int r9), .val (.int r11), .val (.int r13), .val (.int r15), .val (.int r17), .val (.int r19), .val (.int r21), .val (.int r23), .val (.ref b126), .val (.ref b3_141)]) (S' := [(.int (1 : Int32))]) rfl ?_
           exact J167 X163 N141 e163 _ (by simp only [if_neg c148, if_neg c152, if_neg c156, if_neg c160, if_neg c164])
     intro TJ167 lcJ167 XJ167 NJ167 eJ167 v168 hv168
     have bv168 : ¬ v168 < (0 : Int32) ∧ ¬ (1 : Int32) < v168 := by rw [hv168]; exact (bnd_ite (bnd_mono (bnd_lit (0 : Int32)) (by decide +kernel) (by decide +kernel)) (bnd_ite (bnd_mono (bnd_lit (0 : Int32)) (by decide +kernel) (by decide +kernel)) (bnd_ite (bnd_mono (bnd_lit (0 : Int32)) (by decide +kernel) (by decide +kernel)) (bnd_ite (bnd_mono (bnd_lit (0 : Int32)) (by decide +kernel) (by decide +kernel)) (bnd_ite (bnd_mono (bnd_lit (0 : Int32)) (by decide +kernel) (by decide +kernel)) (bnd_mono (bnd_lit (1 : Int32)) (by decide +kernel) (by decide +kernel)))))))
     show Home TJ167 (mkF m 402 #[.val (.long j0), .second, .val (.int i1), .val (.int (3 : Int32)), .val (.long v6), .second, .val (.long v7), .second, .val (.int r9), .val (.int r11), .val (.int r13), .val (.int r15), .val (.int r17), .val (.int r19), .val (.int r21), .val (.int r23), .val (.ref b126), .val (.ref b3_141)] [(.int v168)])
     exact HomeW.retN XJ167 hx hlk hZ (own_hEL hw) eJ167 Ce141 (t := .boolean) hret (by simp) (hb hby at_402) ⟨congrArg some (congrArg Value.int (own_end7 j0 i1 sv_COMPACT_STRINGS v1 hv1 v6 hv6 v7 hv7 r9 hr9 r11 hr11 r13 hr13 r15 hr15 r17 hr17 r19 hr19 r21 hr21 r23 hr23 r142 hr142 r143 hr143 r144 hr144 r147 hr147 v168 hv168 c24 c39 c78 c122)), NJ167⟩ (by decide) (by decide)
    ·
     refine Home.go (fun _ => XS.icmpYes X22.here hx rfl (pc0 := 180) (pc' := 216) rfl (hb hby at_180) rfl (feq c122).2 (by decide) (by decide)) ?_
     have bd125 : ¬ v1 < (4 : Int32) ∧ ¬ (5 : Int32) < v1 := ⟨(bnd_nel bd81.1 c122 (by decide +kernel)), bd81.2⟩
     refine Home.run X22 hx hby sg0_216_2 (pc' := 218) (L' := #[.val (.long j0), .second, .val (.int i1), .val (.int v1), .val (.long v6), .second, .val (.long v7), .second, .val (.int r9), .val (.int r11), .val (.int r13), .val (.int r15), .val (.int r17), .val (.int r19), .val (.int r21), .val (.int r23), .unset, .unset]) (S' := [(.int (4 : Int32)), (.int v1)]) rfl ?_
     by_cases c169 : v1 = (4 : Int32)
     ·
      refine Home.go (fun _ => XS.icmpNo X22.here hx rfl (hb hby at_218) rfl (teq c169).2) ?_
      have bd170 : ¬ v1 < (4 : Int32) ∧ ¬ (4 : Int32) < v1 := ⟨(bnd_eql c169), (bnd_eqr c169)⟩
      have fx171 : v1 = (4 : Int32) := bnd_fix bd170
      try rw [fx171]
      show Home T22 (mkF m 221 #[.val (.long j0), .second, .val (.int i1), .val (.int (4 : Int32)), .val (.long v6), .second, .val (.long v7), .second, .val (.int r9), .val (.int r11), .val (.int r13), .val (.int r15), .val (.int r17), .val (.int r19), .val (.int r21), .val (.int r23), .unset, .unset] [])
      refine Home.run X22 hx hby sg0_221_1 (pc' := 223) (L' := #[.val (.long j0), .second, .val (.int i1), .val (.int (4 : Int32)), .val (.long v6), .second, .val (.long v7), .second, .val (.int r9), .val (.int r11), .val (.int r13), .val (.int r15), .val (.int r17), .val (.int r19), .val (.int r21), .val (.int r23), .unset, .unset]) (S' := [(.int (7 : Int32))]) rfl ?_
      refine Home.na (own_newP (aty := .char) X22 hx hZ (own_w7 hw) e22 (g := (mkF m 223 #[.val (.long j0), .second, .val (.int i1), .val (.int (4 : Int32)), .val (.long v6), .second, .val (.long v7), .second, .val (.int r9), .val (.int r11), .val (.int r13), .val (.int r15), .val (.int r17), .val (.int r19), .val (.int r21), .val (.int r23), .unset, .unset] [(.int (7 : Int32))])) rfl (hb hby at_223) rfl (by decide) (cap := 7) (by decide) (by decide) (by decide) (by decide)) fun T174 h174 k174 b174 g174 X174 e174 E174 A174 => ?_
      have g_b174 : n0 ≤ b174 := Nat.le_trans (Old.le O0) (Nat.le_of_eq g174.symm)
      have V174 : Arv Z h174 b174 k174 .char (7 : Int32) [(.int (0 : Int32)), (.int (0 : Int32)), (.int (0 : Int32)), (.int (0 : Int32)), (.int (0 : Int32)), (.int (0 : Int32)), (.int (0 : Int32))] (.int (0 : Int32)) := (Arv.new A174 (by decide)).pad (pad_rep [] (.int (0 : Int32)) 7)
      have O174 := O0.ext E174
      have K174 : Keep h0 h174 ([] : List Addr) := Keep.ext (Keep.refl h0 ([] : List Addr)) E174
      have Cd174 := Cold.ext Cd0 E174
      refine Home.run X174 hx hby sg0_225_3 (pc' := 229) (L' := #[.val (.long j0), .second, .val (.int i1), .val (.int (4 : Int32)), .val (.long v6), .second, .val (.long v7), .second, .val (.int r9), .val (.int r11), .val (.int r13), .val (.int r15), .val (.int r17), .val (.int r19), .val (.int r21), .val (.int r23), .unset, .unset]) (S' := [(.int r9), (.int (0 : Int32)), (.ref b174), (.ref b174)]) rfl ?_
      obtain ⟨cl175, Ar175, q175, S175, M175, H175, G175⟩ := id V174
      refine Home.wr (stC X174 hx hZ e174 Ar175 (j := (0 : Int32)) (inb_of S175 ⟨by decide, by decide⟩) rfl rfl (hb hby at_229)) fun T175 h175 X175 e175 W175 => ?_
      have W175' := Wr.to W175 (congrArg Value.int (nar_char_id br9 (by decide +kernel) (by decide +kernel)))
      have V175 : Arv Z h175 b174 k174 .char (7 : Int32) [(.int r9), (.int (0 : Int32)), (.int (0 : Int32)), (.int (0 : Int32)), (.int (0 : Int32)), (.int (0 : Int32)), (.int (0 : Int32))] (.int (0 : Int32)) := Arv.set Ar175 q175 S175 M175 H175 G175 (fits_char_b br9 (by decide +kernel) (by decide +kernel)) W175' 0 rfl (Nat.le_of_ble_eq_true rfl)
      have O175 := O174.wr W175 g_b174
      have K175 : Keep h0 h175 ([] : List Addr) := Keep.wr K174 W175 (Or.inr (Nat.le_trans (Nat.le_refl _) (Nat.le_of_eq g174.symm)))
      have Cd175 := Cold.wr Cd174 W175 (Safe.arv hZ.alike V174 (by simp))
      have N175 := Fr.snoc X175 N0 g_b174
      show Home T175 (mkF m 230 #[.val (.long j0), .second, .val (.int i1), .val (.int (4 : Int32)), .val (.long v6), .second, .val (.long v7), .second, .val (.int r9), .val (.int r11), .val (.int r13), .val (.int r15), .val (.int r17), .val (.int r19), .val (.int r21), .val (.int r23), .unset, .unset] [(.ref b174)])
      refine Home.run X175 hx hby sg0_230_3 (pc' := 234) (L' := #[.val (.long j0), .second, .val (.int i1), .val (.int (4 : Int32)), .val (.long v6), .second, .val (.long v7), .second, .val (.int r9), .val (.int r11), .val (.int r13), .val (.int r15), .val (.int r17), .val (.int r19), .val (.int r21), .val (.int r23), .unset, .unset]) (S' := [(.int r11), (.int (1 : Int32)), (.ref b174), (.ref b174)]) rfl ?_
      obtain ⟨cl176, Ar176, q176, S176, M176, H176, G176⟩ := id V175
      refine Home.wr (stC X175 hx hZ e175 Ar176 (j := (1 : Int32)) (inb_of S176 ⟨by decide, by decide⟩) rfl rfl (hb hby at_234)) fun T176 h176 X176 e176 W176 => ?_
      have W176' := Wr.to W176 (congrArg Value.int (nar_char_id br11 (by decide +kernel) (by decide +kernel)))
      have V176 : Arv Z h176 b174 k174 .char (7 : Int32) [(.int r9), (.int r11), (.int (0 : Int32)), (.int (0 : Int32)), (.int (0 : Int32)), (.int (0 : Int32)), (.int (0 : Int32))] (.int (0 : Int32)) := Arv.set Ar176 q176 S176 M176 H176 G176 (fits_char_b br11 (by decide +kernel) (by decide +kernel)) W176' 1 rfl (Nat.le_of_ble_eq_true rfl)
      have O176 := O175.wr W176 g_b174
      have K176 : Keep h0 h176 ([] : List Addr) := Keep.wr K175 W176 (Or.inr (Nat.le_trans (Nat.le_refl _) (Nat.le_of_eq g174.symm)))
      have Cd176 := Cold.wr Cd175 W176 (Safe.arv hZ.alike V175 (by simp))
      have N176 := Fr.snoc X176 N175 g_b174
      refine Home.run X176 hx hby sg0_235_3 (pc' := 239) (L' := #[.val (.long j0), .second, .val (.int i1), .val (.int (4 : Int32)), .val (.long v6), .second, .val (.long v7), .second, .val (.int r9), .val (.int r11), .val (.int r13), .val (.int r15), .val (.int r17), .val (.int r19), .val (.int r21), .val (.int r23), .unset, .unset]) (S' := [(.int r13), (.int (2 : Int32)), (.ref b174), (.ref b174)]) rfl ?_
      obtain ⟨cl177, Ar177, q177, S177, M177, H177, G177⟩ := id V176
      refine Home.wr (stC X176 hx hZ e176 Ar177 (j := (2 : Int32)) (inb_of S177 ⟨by decide, by decide⟩) rfl rfl (hb hby at_239)) fun T177 h177 X177 e177 W177 => ?_
      have W177' := Wr.to W177 (congrArg Value.int (nar_char_id br13 (by decide +kernel) (by decide +kernel)))
      have V177 : Arv Z h177 b174 k174 .char (7 : Int32) [(.int r9), (.int r11), (.int r13), (.int (0 : Int32)), (.int (0 : Int32)), (.int (0 : Int32)), (.int (0 : Int32))] (.int (0 : Int32)) := Arv.set Ar177 q177 S177 M177 H177 G177 (fits_char_b br13 (by decide +kernel) (by decide +kernel)) W177' 2 rfl (Nat.le_of_ble_eq_true rfl)
      have O177 := O176.wr W177 g_b174
      have K177 : Keep h0 h177 ([] : List Addr) := Keep.wr K176 W177 (Or.inr (Nat.le_trans (Nat.le_refl _) (Nat.le_of_eq g174.symm)))
      have Cd177 := Cold.wr Cd176 W177 (Safe.arv hZ.alike V176 (by simp))
      have N177 := Fr.snoc X177 N176 g_b174
      show Home T177 (mkF m 240 #[.val (.long j0), .second, .val (.int i1), .val (.int (4 : Int32)), .val (.long v6), .second, .val (.long v7), .second, .val (.int r9), .val (.int r11), .val (.int r13), .val (.int r15), .val (.int r17), .val (.int r19), .val (.int r21), .val (.int r23), .unset, .unset] [(.ref b174)])
      refine Home.run X177 hx hby sg0_240_3 (pc' := 244) (L' := #[.val (.long j0), .second, .val (.int i1), .val (.int (4 : Int32)), .val (.long v6), .second, .val (.long v7), .second, .val (.int r9), .val (.int r11), .val (.int r13), .val (.int r15), .val (.int r17), .val (.int r19), .val (.int r21), .val (.int r23), .unset, .unset]) (S' := [(.int r15), (.int (3 : Int32)), (.ref b174), (.ref b174)]) rfl ?_
      obtain ⟨cl178, Ar178, q178, S178, M178, H178, G178⟩ := id V177
      refine Home.wr (stC X177 hx hZ e177 Ar178 (j := (3 : Int32)) (inb_of S178 ⟨by decide, by decide⟩) rfl rfl (hb hby at_244)) fun T178 h178 X178 e178 W178 => ?_
      have W178' := Wr.to W178 (congrArg Value.int (nar_char_id br15 (by decide +kernel) (by decide +kernel)))
      have V178 : Arv Z h178 b174 k174 .char (7 : Int32) [(.int r9), (.int r11), (.int r13), (.int r15), (.int (0 : Int32)), (.int (0 : Int32)), (.int (0 : Int32))] (.int (0 : Int32)) := Arv.set Ar178 q178 S178 M178 H178 G178 (fits_char_b br15 (by decide +kernel) (by decide +kernel)) W178' 3 rfl (Nat.le_of_ble_eq_true rfl)
      have O178 := O177.wr W178 g_b174
      have K178 : Keep h0 h178 ([] : List Addr) := Keep.wr K177 W178 (Or.inr (Nat.le_trans (Nat.le_refl _) (Nat.le_of_eq g174.symm)))
      have Cd178 := Cold.wr Cd177 W178 (Safe.arv hZ.alike V177 (by simp))
      have N178 := Fr.snoc X178 N177 g_b174
      refine Home.run X178 hx hby sg0_245_3 (pc' := 249) (L' := #[.val (.long j0), .second, .val (.int i1), .val (.int (4 : Int32)), .val (.long v6), .second, .val (.long v7), .second, .val (.int r9), .val (.int r11), .val (.int r13), .val (.int r15), .val (.int r17), .val (.int r19), .val (.int r21), .val (.int r23), .unset, .unset]) (S' := [(.int r17), (.int (4 : Int32)), (.ref b174), (.ref b174)]) rfl ?_
      obtain ⟨cl179, Ar179, q179, S179, M179, H179, G179⟩ := id V178
      refine Home.wr (stC X178 hx hZ e178 Ar179 (j := (4 : Int32)) (inb_of S179 ⟨by decide, by decide⟩) rfl rfl (hb hby at_249)) fun T179 h179 X179 e179 W179 => ?_
      have W179' := Wr.to W179 (congrArg Value.int (nar_char_id br17 (by decide +kernel) (by decide +kernel)))
      have V179 : Arv Z h179 b174 k174 .char (7 : Int32) [(.int r9), (.int r11), (.int r13), (.int r15), (.int r17), (.int (0 : Int32)), (.int (0 : Int32))] (.int (0 : Int32)) := Arv.set Ar179 q179 S179 M179 H179 G179 (fits_char_b br17 (by decide +kernel) (by decide +kernel)) W179' 4 rfl (Nat.le_of_ble_eq_true rfl)
      have O179 := O178.wr W179 g_b174
      have K179 : Keep h0 h179 ([] : List Addr) := Keep.wr K178 W179 (Or.inr (Nat.le_trans (Nat.le_refl _) (Nat.le_of_eq g174.symm)))
      have Cd179 := Cold.wr Cd178 W179 (Safe.arv hZ.alike V178 (by simp))
      have N179 := Fr.snoc X179 N178 g_b174
      show Home T179 (mkF m 250 #[.val (.long j0), .second, .val (.int i1), .val (.int (4 : Int32)), .val (.long v6), .second, .val (.long v7), .second, .val (.int r9), .val (.int r11), .val (.int r13), .val (.int r15), .val (.int r17), .val (.int r19), .val (.int r21), .val (.int r23), .unset, .unset] [(.ref b174)])
      refine Home.run X179 hx hby sg0_250_3 (pc' := 254) (L' := #[.val (.long j0), .second, .val (.int i1), .val (.int (4 : Int32)), .val (.long v6), .second, .val (.long v7), .second, .val (.int r9), .val (.int r11), .val (.int r13), .val (.int r15), .val (.int r17), .val (.int r19), .val (.int r21), .val (.int r23), .unset, .unset]) (S' := [(.int r19), (.int (5 : Int32)), (.ref b174), (.ref b174)]) rfl ?_
      obtain ⟨cl180, Ar180, q180, S180, M180, H180, G180⟩ := id V179
      refine Home.wr (stC X179 hx hZ e179 Ar180 (j := (5 : Int32)) (inb_of S180 ⟨by decide, by decide⟩) rfl rfl (hb hby at_254)) fun T180 h180 X180 e180 W180 => ?_
      have W180' := Wr.to W180 (congrArg Value.int (nar_char_id br19 (by decide +kernel) (by decide +kernel)))
      have V180 : Arv Z h180 b174 k174 .char (7 : Int32) [(.int r9), (.int r11), (.int r13), (.int r15), (.int r17), (.int r19), (.int (0 : Int32))] (.int (0 : Int32)) := Arv.set Ar180 q180 S180 M180 H180 G180 (fits_char_b br19 (by decide +kernel) (by decide +kernel)) W180' 5 rfl (Nat.le_of_ble_eq_true rfl)
      have O180 := O179.wr W180 g_b174
      have K180 : Keep h0 h180 ([] : List Addr) := Keep.wr K179 W180 (Or.inr (Nat.le_trans (Nat.le_refl _) (Nat.le_of_eq g174.symm)))
      have Cd180 := Cold.wr Cd179 W180 (Safe.arv hZ.alike V179 (by simp))
      have N180 := Fr.snoc X180 N179 g_b174
      refine Home.run X180 hx hby sg0_255_3 (pc' := 260) (L' := #[.val (.long j0), .second, .val (.int i1), .val (.int (4 : Int32)), .val (.long v6), .second, .val (.long v7), .second, .val (.int r9), .val (.int r11), .val (.int r13), .val (.int r15), .val (.int r17), .val (.int r19), .val (.int r21), .val (.int r23), .unset, .unset]) (S' := [(.int r21), (.int (6 : Int32)), (.ref b174), (.ref b174)]) rfl ?_
      obtain ⟨cl181, Ar181, q181, S181, M181, H181, G181⟩ := id V180
      refine Home.wr (stC X180 hx hZ e180 Ar181 (j := (6 : Int32)) (inb_of S181 ⟨by decide, by decide⟩) rfl rfl (hb hby at_260)) fun T181 h181 X181 e181 W181 => ?_
      have W181' := Wr.to W181 (congrArg Value.int (nar_char_id br21 (by decide +kernel) (by decide +kernel)))
      have V181 : Arv Z h181 b174 k174 .char (7 : Int32) [(.int r9), (.int r11), (.int r13), (.int r15), (.int r17), (.int r19), (.int r21)] (.int (0 : Int32)) := Arv.set Ar181 q181 S181 M181 H181 G181 (fits_char_b br21 (by decide +kernel) (by decide +kernel)) W181' 6 rfl (Nat.le_of_ble_eq_true rfl)
      have O181 := O180.wr W181 g_b174
      have K181 : Keep h0 h181 ([] : List Addr) := Keep.wr K180 W181 (Or.inr (Nat.le_trans (Nat.le_refl _) (Nat.le_of_eq g174.symm)))
      have Cd181 := Cold.wr Cd180 W181 (Safe.arv hZ.alike V180 (by simp))
      have N181 := Fr.snoc X181 N180 g_b174
      show Home T181 (mkF m 261 #[.val (.long j0), .second, .val (.int i1), .val (.int (4 : Int32)), .val (.long v6), .second, .val (.long v7), .second, .val (.int r9), .val (.int r11), .val (.int r13), .val (.int r15), .val (.int r17), .val (.int r19), .val (.int r21), .val (.int r23), .unset, .unset] [(.ref b174)])
      refine Home.run X181 hx hby sg0_261_2 (pc' := 314) (L' := #[.val (.long j0), .second, .val (.int i1), .val (.int (4 : Int32)), .val (.long v6), .second, .val (.long v7), .second, .val (.int r9), .val (.int r11), .val (.int r13), .val (.int r15), .val (.int r17), .val (.int r19), .val (.int r21), .val (.int r23), .val (.ref b174), .unset]) (S' := []) rfl ?_
      refine Home.nw (own_newO X181 hx hZ hown (own_w8 hw) (own_w9 hw) (own_w10 hw) e181 rfl (hb hby at_314) (by decide) (by decide)) fun T182 h182 b182 g182 X182 e182 E182 A182 D182 => ?_
      have g_b182 : n0 ≤ b182 := Nat.le_trans (Old.le O181) (Nat.le_of_eq g182.symm)
      have F_coder_b182 : Fld Z h182 b182 "java/lang/String" "coder" "B" (.int (0 : Int32)) := D182 (Or.inr (own_w34 hw)) (ty := .byte) (by decide)
      have F_value_b182 : Fld Z h182 b182 "java/lang/String" "value" "[B" .null := D182 (Or.inr (own_w36 hw)) (ty := (.array .byte)) (by decide)
      have O182 := O181.ext E182
      have K182 : Keep h0 h182 ([] : List Addr) := Keep.ext K181 E182
      have Cd182 := Cold.add Cd181 E182 (Nat.le_of_eq g182.symm) A182.lt
      refine Home.run X182 hx hby sg0_317_2 (pc' := 320) (L' := #[.val (.long j0), .second, .val (.int i1), .val (.int (4 : Int32)), .val (.long v6), .second, .val (.long v7), .second, .val (.int r9), .val (.int r11), .val (.int r13), .val (.int r15), .val (.int r17), .val (.int r19), .val (.int r21), .val (.int r23), .val (.ref b174), .unset]) (S' := [(.ref b174), (.ref b182), (.ref b182)]) rfl ?_
      have q183 := (V181.ext E182)
      refine Home.call (own_special X182 hx hZ hown rfl (own_w11 hw) (own_w12 hw) (own_w10 hw) (own_w13 hw) (by decide) (rm2_4 l Z a0 hw [] b182 b174 k174 r9 r11 r13 r15 r17 r19 r21 sv_COMPACT_STRINGS h182 n0 O182 q183 S_COMPACT_STRINGS A182 F_coder_b182 F_value_b182 br9 br11 br13 br15 br17 br19 br21 g_b182 hCS) e182 rfl (by rw [hml]; rfl) (a := b182) (argsL := [(.ref b174)]) (rest := [(.ref b182)]) (lenOf own_pd2 rfl) rfl rfl (W := 1) (by exact hW0) (by decide) (by decide) (hb hby at_320) (by decide) (by decide)) ?_
      rintro _ T184 L184 X184 ⟨b1_3_2_184, k1_3_2_184, rfl, N184q, sz_b1_3_2_184, K184q, P184_0, P184_1, P184_2, P184_3⟩
      have Cd184 := Cold.keep Cd182 K184q (allS (Cold.safe Cd182 (List.mem_of_getElem? (i := 0) rfl)) all0)
      have Cd184b1_3_2_184 := Cold.put Cd184 ⟨Safe.keep K184q (allS (Cold.safe Cd182 (List.mem_of_getElem? (i := 0) rfl)) all0) Cd182.2.1.1 (Safe.new sz_b1_3_2_184), P184_3.lt⟩
      have g_b1_3_2_184 : n0 ≤ b1_3_2_184 := Nat.le_trans (Old.le O182) sz_b1_3_2_184
      have le185 : h0.size ≤ h175.size := Nat.le_trans E174.1 (Nat.le_of_eq W175.size.symm)
      have le186 : h0.size ≤ h176.size := Nat.le_trans le185 (Nat.le_of_eq W176.size.symm)
      have le187 : h0.size ≤ h177.size := Nat.le_trans le186 (Nat.le_of_eq W177.size.symm)
      have le188 : h0.size ≤ h178.size := Nat.le_trans le187 (Nat.le_of_eq W178.size.symm)
      have le189 : h0.size ≤ h179.size := Nat.le_trans le188 (Nat.le_of_eq W179.size.symm)
      have le190 : h0.size ≤ h180.size := Nat.le_trans le189 (Nat.le_of_eq W180.size.symm)
      have le191 : h0.size ≤ h181.size := Nat.le_trans le190 (Nat.le_of_eq W181.size.symm)
      have O184 := Old.keep O182 K184q (allS g_b182 all0)
      have K184 : Keep h0 T184.heap ([] : List Addr) := Keep.trans K182 K184q (allS (Or.inr (Nat.le_trans le191 (Nat.le_of_eq g182.symm))) all0)
      have N184 := Fr.app N181 N184q
      show Home T184 (mkF m 323 #[.val (.long j0), .second, .val (.int i1), .val (.int (4 : Int32)), .val (.long v6), .second, .val (.long v7), .second, .val (.int r9), .val (.int r11), .val (.int r13), .val (.int r15), .val (.int r17), .val (.int r19), .val (.int r21), .val (.int r23), .val (.ref b174), .unset] [(.ref b182)])
      refine Home.call (own_staticW X184 hx hZ hown (own_hEL hw) Cd184b1_3_2_184 all0 (own_w37 hw) (own_w38 hw) (own_w39 hw) (own_w40 hw) (by decide) (rm8_4 l Z a0 hw [] b182 b1_3_2_184 k1_3_2_184 r9 r11 r13 r15 r17 r19 r21 sv_COMPACT_STRINGS sv_SIOOBE_FORMATTER T184.heap n0 O184 P184_0 P184_2 P184_3 S_COMPACT_STRINGS P184_1 hCS S_SIOOBE_FORMATTER br9 br11 br13 br15 br17 br19 br21 isr_sv_SIOOBE_FORMATTER (by rw [hr9]; exact own_dig _ _) (by rw [hr11]; exact own_dig _ _) (by rw [hr13]; exact own_dig _ _) (by rw [hr15]; exact own_dig _ _) (by rw [hr17]; exact own_dig _ _) (by rw [hr19]; exact own_dig _ _) (by rw [hr21]; exact own_dig _ _) (own_nn192 j0 i1 sv_COMPACT_STRINGS v1 hv1 v6 hv6 v7 hv7 r9 hr9 r11 hr11 r13 hr13 r15 hr15 r17 hr17 r19 hr19 r21 hr21 r23 hr23 c24 c39 c78 c122 c169)) rfl rfl (by rw [hml]; rfl) (argsL := [(.ref b182)]) (rest := []) (lenOf own_pd5 rfl) rfl rfl (W := 0) (by exact hW0) (by decide) (by decide) (hb hby at_323) (by decide) (by decide)) ?_
      rintro _ T193 L193 X193 ⟨⟨b3_193, k3_193, rfl, N193q, sz_b3_193, K193q, P193_0⟩, hZ, hown, Cd193, sR193⟩
      have Ce193 := Cold.put Cd193 (sR193 rfl _ rfl)
      have g_b3_193 : n0 ≤ b3_193 := Nat.le_trans (Old.le O184) sz_b3_193
      have O193 := Old.keep O184 K193q all0
      have K193 : Keep h0 T193.heap ([] : List Addr) := Keep.trans K184 K193q all0
      have N193 := Fr.app N184 N193q
      show Home T193 (mkF m 326 #[.val (.long j0), .second, .val (.int i1), .val (.int (4 : Int32)), .val (.long v6), .second, .val (.long v7), .second, .val (.int r9), .val (.int r11), .val (.int r13), .val (.int r15), .val (.int r17), .val (.int r19), .val (.int r21), .val (.int r23), .val (.ref b174), .unset] [(.ref b3_193)])
      obtain ⟨r194, hr194⟩ : ∃ z, z = (((((((0 : Int32) ||| (f_rm22_0 (r9 &&& (255 : Int32)))) <<< ((5 : Int32) &&& 31)) ||| (f_rm22_0 (r11 &&& (255 : Int32)))).toUInt32 >>> ((2 : Int32) &&& 31).toUInt32).toInt32).toInt8.toInt32) := ⟨_, rfl⟩
      rw [← hr194] at P193_0
      obtain ⟨r195, hr195⟩ : ∃ z, z = ((((((((((((0 : Int32) ||| (f_rm22_0 (r9 &&& (255 : Int32)))) <<< ((5 : Int32) &&& 31)) ||| (f_rm22_0 (r11 &&& (255 : Int32)))) &&& (3 : Int32)) <<< ((5 : Int32) &&& 31)) ||| (f_rm22_0 (r13 &&& (255 : Int32)))) <<< ((5 : Int32) &&& 31)) ||| (f_rm22_0 (r15 &&& (255 : Int32)))).toUInt32 >>> ((4 : Int32) &&& 31).toUInt32).toInt32).toInt8.toInt32) := ⟨_, rfl⟩
      rw [← hr195] at P193_0
      obtain ⟨r196, hr196⟩ : ∃ z, z = (((((((((((((((0 : Int32) ||| (f_rm22_0 (r9 &&& (255 : Int32)))) <<< ((5 : Int32) &&& 31)) ||| (f_rm22_0 (r11 &&& (255 : Int32)))) &&& (3 : Int32)) <<< ((5 : Int32) &&& 31)) ||| (f_rm22_0 (r13 &&& (255 : Int32)))) <<< ((5 : Int32) &&& 31)) ||| (f_rm22_0 (r15 &&& (255 : Int32)))) &&& (15 : Int32)) <<< ((5 : Int32) &&& 31)) ||| (f_rm22_0 (r17 &&& (255 : Int32)))).toUInt32 >>> ((1 : Int32) &&& 31).toUInt32).toInt32).toInt8.toInt32) := ⟨_, rfl⟩
      rw [← hr196] at P193_0
      obtain ⟨r197, hr197⟩ : ∃ z, z = ((((((((((((((((((((0 : Int32) ||| (f_rm22_0 (r9 &&& (255 : Int32)))) <<< ((5 : Int32) &&& 31)) ||| (f_rm22_0 (r11 &&& (255 : Int32)))) &&& (3 : Int32)) <<< ((5 : Int32) &&& 31)) ||| (f_rm22_0 (r13 &&& (255 : Int32)))) <<< ((5 : Int32) &&& 31)) ||| (f_rm22_0 (r15 &&& (255 : Int32)))) &&& (15 : Int32)) <<< ((5 : Int32) &&& 31)) ||| (f_rm22_0 (r17 &&& (255 : Int32)))) &&& (1 : Int32)) <<< ((5 : Int32) &&& 31)) ||| (f_rm22_0 (r19 &&& (255 : Int32)))) <<< ((5 : Int32) &&& 31)) ||| (f_rm22_0 (r21 &&& (255 : Int32)))).toUInt32 >>> ((3 : Int32) &&& 31).toUInt32).toInt32).toInt8.toInt32) := ⟨_, rfl⟩
      rw [← hr197] at P193_0
      refine Home.run X193 hx hby sg0_326_2 (pc' := 330) (L' := #[.val (.long j0), .second, .val (.int i1), .val (.int (4 : Int32)), .val (.long v6), .second, .val (.long v7), .second, .val (.int r9), .val (.int r11), .val (.int r13), .val (.int r15), .val (.int r17), .val (.int r19), .val (.int r21), .val (.int r23), .val (.ref b174), .val (.ref b3_193)]) (S' := [(.ref b3_193)]) rfl ?_
      obtain ⟨cl198, Ar198, q198, S198, M198, H198, G198⟩ := id P193_0
      refine Home.go (own_alen X193 hx hZ rfl Ar198 S198 M198 rfl rfl (hb hby at_330)) ?_
      refine Home.run X193 hx hby sg0_331_1 (pc' := 332) (L' := #[.val (.long j0), .second, .val (.int i1), .val (.int (4 : Int32)), .val (.long v6), .second, .val (.long v7), .second, .val (.int r9), .val (.int r11), .val (.int r13), .val (.int r15), .val (.int r17), .val (.int r19), .val (.int r21), .val (.int r23), .val (.ref b174), .val (.ref b3_193)]) (S' := [(.int (4 : Int32)), (.int (4 : Int32))]) rfl ?_
      refine Home.go (fun _ => XS.icmpYes X193.here hx rfl (pc0 := 332) (pc' := 337) rfl (hb hby at_332) rfl (teq (by decide)).1 (by decide) (by decide)) ?_
      refine Home.run X193 hx hby sg0_337_4 (pc' := 343) (L' := #[.val (.long j0), .second, .val (.int i1), .val (.int (4 : Int32)), .val (.long v6), .second, .val (.long v7), .second, .val (.int r9), .val (.int r11), .val (.int r13), .val (.int r15), .val (.int r17), .val (.int r19), .val (.int r21), .val (.int r23), .val (.ref b174), .val (.ref b3_193)]) (S' := [(.int (0 : Int32)), (.int (4 : Int32)), (.long v7), (.ref b3_193)]) rfl ?_
      refine Home.st (own_pure (own_static X193 hx hZ hown (own_w103 hw) (own_w104 hw) (own_w4 hw) (own_w105 hw) (by decide) (rm23_4 l Z a0 hw [] b3_193 v7 (0 : Int32) k3_193 r194 r195 r196 r197 T193.heap n0 O193 (bnd_mono (bnd_lit (0 : Int32)) (by decide +kernel) (by decide +kernel)) P193_0) rfl rfl (by rw [hml]; rfl) (argsL := [(.ref b3_193), (.long v7), (.int (4 : Int32)), (.int (0 : Int32))]) (rest := []) (lenOf own_pd6 rfl) rfl rfl (W := 0) (by exact hW0) (by decide) (by decide) (hb hby at_343) (by decide) (by decide))) fun T199 X199 e199 => ?_
      show Home T199 (mkF m 346 #[.val (.long j0), .second, .val (.int i1), .val (.int (4 : Int32)), .val (.long v6), .second, .val (.long v7), .second, .val (.int r9), .val (.int r11), .val (.int r13), .val (.int r15), .val (.int r17), .val (.int r19), .val (.int r21), .val (.int r23), .val (.ref b174), .val (.ref b3_193)] [(.int (f_rm23_4 v7 (0 : Int32) r194 r195 r196 r197))])
      obtain ⟨r200, hr200⟩ : ∃ z, z = (f_rm23_4 v7 (0 : Int32) r194 r195 r196 r197) := ⟨_, rfl⟩
      rw [← hr200]
      have br200 : ¬ r200 < (0 : Int32) ∧ ¬ (1 : Int32) < r200 := by rw [hr200]; exact f_rm23_4_bnd v7 (0 : Int32) r194 r195 r196 r197 (bnd_mono (bnd_lit (0 : Int32)) (by decide +kernel) (by decide +kernel))
      suffices J220 : ∀ {T : State} {lc : List Loc} (X : Stand p l e room_1 (s.setVm T193.vm) m #[(.long j0), (.int i1)] below meth c T lc 18 946) (N : Fr n0 lc) (eT : T.heap = T193.heap) (v221 : Int32) (hv221 : v221 = (if r200 = (0 : Int32) then (0 : Int32) else (if (f_rm23_4 v7 (1 : Int32) r194 r195 r196 r197) = (0 : Int32) then (0 : Int32) else (if (f_rm23_4 v7 (2 : Int32) r194 r195 r196 r197) = (0 : Int32) then (0 : Int32) else (if (f_rm23_4 v7 (3 : Int32) r194 r195 r196 r197) = (0 : Int32) then (0 : Int32) else (if (f_rm23_4 v7 (4 : Int32) r194 r195 r196 r197) = (0 : Int32) then (0 : Int32) else (1 : Int32))))))), @Home p e below _ T (mkF m 402 #[.val (.long j0), .second, .val (.int i1), .val (.int (4 : Int32)), .val (.long v6), .second, .val (.long v7), .second, .val (.int r9), .val (.int r11), .val (.int r13), .val (.int r15), .val (.int r17), .val (.int r19), .val (.int r21), .val (.int r23), .val (.ref b174), .val (.ref b3_193)] [(.int v221)]) by
       by_cases c201 : r200 = (0 : Int32)
       ·
        refine Home.go (fun _ => XS.ifYes X199.here hx rfl (pc0 := 346) (pc' := 401) rfl (hb hby at_346) rfl ((if0 _ _).trans (teq c201).1) (by decide) (by decide)) ?_
        have bd202 : ¬ r200 < (0 : Int32) ∧ ¬ (0 : Int32) < r200 := ⟨(bnd_eql c201), (bnd_eqr c201)⟩
        refine Home.run X199 hx hby sg0_401_1 (pc' := 402) (L' := #[.val (.long j0), .second, .val (.int i1), .val (.int (4 : Int32)), .val (.long v6), .second, .val (.long v7), .second, .val (.int r9), .val (.int r11), .val (.int r13), .val (.int r15), .val (.int r17), .val (.int r19), .val (.int r21), .val (.int r23), .val (.ref b174), .val (.ref b3_193)]) (S' := [(.int (0 : Int32))]) rfl ?_
        exact J220 X199 N193 e199 _ (by simp only [if_pos c201])
       ·
        refine Home.go (fun _ => XS.ifNo X199.here hx rfl (hb hby at_346) rfl ((if0 _ _).trans (feq c201).1)) ?_
        have bd203 : ¬ r200 < (1 : Int32) ∧ ¬ (1 : Int32) < r200 := ⟨(bnd_nel br200.1 c201 (by decide +kernel)), br200.2⟩
        refine Home.run X199 hx hby sg0_349_4 (pc' := 355) (L' := #[.val (.long j0), .second, .val (.int i1), .val (.int (4 : Int32)), .val (.long v6), .second, .val (.long v7), .second, .val (.int r9), .val (.int r11), .val (.int r13), .val (.int r15), .val (.int r17), .val (.int r19), .val (.int r21), .val (.int r23), .val (.ref b174), .val (.ref b3_193)]) (S' := [(.int (1 : Int32)), (.int (4 : Int32)), (.long v7), (.ref b3_193)]) rfl ?_
        refine Home.st (own_pure (own_static X199 hx hZ hown (own_w103 hw) (own_w104 hw) (own_w4 hw) (own_w105 hw) (by decide) (rm23_4 l Z a0 hw [] b3_193 v7 (1 : Int32) k3_193 r194 r195 r196 r197 T193.heap n0 O193 (bnd_mono (bnd_lit (1 : Int32)) (by decide +kernel) (by decide +kernel)) P193_0) e199 rfl (by rw [hml]; rfl) (argsL := [(.ref b3_193), (.long v7), (.int (4 : Int32)), (.int (1 : Int32))]) (rest := []) (lenOf own_pd6 rfl) rfl rfl (W := 0) (by exact hW0) (by decide) (by decide) (hb hby at_355) (by decide) (by decide))) fun T204 X204 e204 => ?_
        by_cases c205 : (f_rm23_4 v7 (1 : Int32) r194 r195 r196 r197) = (0 : Int32)
        ·
         refine Home.go (fun _ => XS.ifYes X204.here hx rfl (pc0 := 358) (pc' := 401) rfl (hb hby at_358) rfl ((if0 _ _).trans (teq c205).1) (by decide) (by decide)) ?_
         have bd206 : ¬ (f_rm23_4 v7 (1 : Int32) r194 r195 r196 r197) < (0 : Int32) ∧ ¬ (0 : Int32) < (f_rm23_4 v7 (1 : Int32) r194 r195 r196 r197) := ⟨(bnd_eql c205), (bnd_eqr c205)⟩
         refine Home.run X204 hx hby sg0_401_1 (pc' := 402) (L' := #[.val (.long j0), .second, .val (.int i1), .val (.int (4 : Int32)), .val (.long v6), .second, .val (.long v7), .second, .val (.int r9), .val (.int r11), .val (.int r13), .val (.int r15), .val (.int r17), .val (.int r19), .val (.int r21), .val (.int r23), .val (.ref b174), .val (.ref b3_193)]) (S' := [(.int (0 : Int32))]) rfl ?_
         exact J220 X204 N193 e204 _ (by simp only [if_neg c201, if_pos c205])
        ·
         refine Home.go (fun _ => XS.ifNo X204.here hx rfl (hb hby at_358) rfl ((if0 _ _).trans (feq c205).1)) ?_
         have bd207 : ¬ (f_rm23_4 v7 (1 : Int32) r194 r195 r196 r197) < (1 : Int32) ∧ ¬ (1 : Int32) < (f_rm23_4 v7 (1 : Int32) r194 r195 r196 r197) := ⟨(bnd_nel (f_rm23_4_bnd v7 (1 : Int32) r194 r195 r196 r197 (bnd_mono (bnd_lit (1 : Int32)) (by decide +kernel) (by decide +kernel))).1 c205 (by decide +kernel)), (f_rm23_4_bnd v7 (1 : Int32) r194 r195 r196 r197 (bnd_mono (bnd_lit (1 : Int32)) (by decide +kernel) (by decide +kernel))).2⟩
         refine Home.run X204 hx hby sg0_361_4 (pc' := 367) (L' := #[.val (.long j0), .second, .val (.int i1), .val (.int (4 : Int32)), .val (.long v6), .second, .val (.long v7), .second, .val (.int r9), .val (.int r11), .val (.int r13), .val (.int r15), .val (.int r17), .val (.int r19), .val (.int r21), .val (.int r23), .val (.ref b174), .val (.ref b3_193)]) (S' := [(.int (2 : Int32)), (.int (4 : Int32)), (.long v7), (.ref b3_193)]) rfl ?_
         refine Home.st (own_pure (own_static X204 hx hZ hown (own_w103 hw) (own_w104 hw) (own_w4 hw) (own_w105 hw) (by decide) (rm23_4 l Z a0 hw [] b3_193 v7 (2 : Int32) k3_193 r194 r195 r196 r197 T193.heap n0 O193 (bnd_mono (bnd_lit (2 : Int32)) (by decide +kernel) (by decide +kernel)) P193_0) e204 rfl (by rw [hml]; rfl) (argsL := [(.ref b3_193), (.long v7), (.int (4 : Int32)), (.int (2 : Int32))]) (rest := []) (lenOf own_pd6 rfl) rfl rfl (W := 0) (by exact hW0) (by decide) (by decide) (hb hby at_367) (by decide) (by decide))) fun T208 X208 e208 => ?_
         by_cases c209 : (f_rm23_4 v7 (2 : Int32) r194 r195 r196 r197) = (0 : Int32)
         ·
          refine Home.go (fun _ => XS.ifYes X208.here hx rfl (pc0 := 370) (pc' := 401) rfl (hb hby at_370) rfl ((if0 _ _).trans (teq c209).1) (by decide) (by decide)) ?_
          have bd210 : ¬ (f_rm23_4 v7 (2 : Int32) r194 r195 r196 r197) < (0 : Int32) ∧ ¬ (0 : Int32) < (f_rm23_4 v7 (2 : Int32) r194 r195 r196 r197) := ⟨(bnd_eql c209), (bnd_eqr c209)⟩
          refine Home.run X208 hx hby sg0_401_1 (pc' := 402) (L' := #[.val (.long j0), .second, .val (.int i1), .val (.int (4 : Int32)), .val (.long v6), .second, .val (.long v7), .second, .val (.int r9), .val (.int r11), .val (.int r13), .val (.int r15), .val (.int r17), .val (.int r19), .val (.int r21), .val (.int r23), .val (.ref b174), .val (.ref b3_193)]) (S' := [(.int (0 : Int32))]) rfl ?_
          exact J220 X208 N193 e208 _ (by simp only [if_neg c201, if_neg c205, if_pos c209])
         ·
          refine Home.go (fun _ => XS.ifNo X208.here hx rfl (hb hby at_370) rfl ((if0 _ _).trans (feq c209).1)) ?_
          have bd211 : ¬ (f_rm23_4 v7 (2 : Int32) r194 r195 r196 r197) < (1 : Int32) ∧ ¬ (1 : Int32) < (f_rm23_4 v7 (2 : Int32) r194 r195 r196 r197) := ⟨(bnd_nel (f_rm23_4_bnd v7 (2 : Int32) r194 r195 r196 r197 (bnd_mono (bnd_lit (2 : Int32)) (by decide +kernel) (by decide +kernel))).1 c209 (by decide +kernel)), (f_rm23_4_bnd v7 (2 : Int32) r194 r195 r196 r197 (bnd_mono (bnd_lit (2 : Int32)) (by decide +kernel) (by decide +kernel))).2⟩
          refine Home.run X208 hx hby sg0_373_4 (pc' := 379) (L' := #[.val (.long j0), .second, .val (.int i1), .val (.int (4 : Int32)), .val (.long v6), .second, .val (.long v7), .second, .val (.int r9), .val (.int r11), .val (.int r13), .val (.int r15), .val (.int r17), .val (.int r19), .val (.int r21), .val (.int r23), .val (.ref b174), .val (.ref b3_193)]) (S' := [(.int (3 : Int32)), (.int (4 : Int32)), (.long v7), (.ref b3_193)]) rfl ?_
          refine Home.st (own_pure (own_static X208 hx hZ hown (own_w103 hw) (own_w104 hw) (own_w4 hw) (own_w105 hw) (by decide) (rm23_4 l Z a0 hw [] b3_193 v7 (3 : Int32) k3_193 r194 r195 r196 r197 T193.heap n0 O193 (bnd_mono (bnd_lit (3 : Int32)) (by decide +kernel) (by decide +kernel)) P193_0) e208 rfl (by rw [hml]; rfl) (argsL := [(.ref b3_193), (.long v7), (.int (4 : Int32)), (.int (3 : Int32))]) (rest := []) (lenOf own_pd6 rfl) rfl rfl (W := 0) (by exact hW0) (by decide) (by decide) (hb hby at_379) (by decide) (by decide))) fun T212 X212 e212 => ?_
          by_cases c213 : (f_rm23_4 v7 (3 : Int32) r194 r195 r196 r197) = (0 : Int32)
          ·
           refine Home.go (fun _ => XS.ifYes X212.here hx rfl (pc0 := 382) (pc' := 401) rfl (hb hby at_382) rfl ((if0 _ _).trans (teq c213).1) (by decide) (by decide)) ?_
           have bd214 : ¬ (f_rm23_4 v7 (3 : Int32) r194 r195 r196 r197) < (0 : Int32) ∧ ¬ (0 : Int32) < (f_rm23_4 v7 (3 : Int32) r194 r195 r196 r197) := ⟨(bnd_eql c213), (bnd_eqr c213)⟩
           refine Home.run X212 hx hby sg0_401_1 (pc' := 402) (L' := #[.val (.long j0), .second, .val (.int i1), .val (.int (4 : Int32)), .val (.long v6), .second, .val (.long v7), .second, .val (.int r9), .val (.int r11), .val (.int r13), .val (.int r15), .val (.int r17), .val (.int r19), .val (.int r21), .val (.int r23), .val (.ref b174), .val (.ref b3_193)]) (S' := [(.int (0 : Int32))]) rfl ?_
           exact J220 X212 N193 e212 _ (by simp only [if_neg c201, if_neg c205, if_neg c209, if_pos c213])
          ·
           refine Home.go (fun _ => XS.ifNo X212.here hx rfl (hb hby at_382) rfl ((if0 _ _).trans (feq c213).1)) ?_
           have bd215 : ¬ (f_rm23_4 v7 (3 : Int32) r194 r195 r196 r197) < (1 : Int32) ∧ ¬ (1 : Int32) < (f_rm23_4 v7 (3 : Int32) r194 r195 r196 r197) := ⟨(bnd_nel (f_rm23_4_bnd v7 (3 : Int32) r194 r195 r196 r197 (bnd_mono (bnd_lit (3 : Int32)) (by decide +kernel) (by decide +kernel))).1 c213 (by decide +kernel)), (f_rm23_4_bnd v7 (3 : Int32) r194 r195 r196 r197 (bnd_mono (bnd_lit (3 : Int32)) (by decide +kernel) (by decide +kernel))).2⟩
           refine Home.run X212 hx hby sg0_385_4 (pc' := 391) (L' := #[.val (.long j0), .second, .val (.int i1), .val (.int (4 : Int32)), .val (.long v6), .second, .val (.long v7), .second, .val (.int r9), .val (.int r11), .val (.int r13), .val (.int r15), .val (.int r17), .val (.int r19), .val (.int r21), .val (.int r23), .val (.ref b174), .val (.ref b3_193)]) (S' := [(.int (4 : Int32)), (.int (4 : Int32)), (.long v7), (.ref b3_193)]) rfl ?_
           refine Home.st (own_pure (own_static X212 hx hZ hown (own_w103 hw) (own_w104 hw) (own_w4 hw) (own_w105 hw) (by decide) (rm23_4 l Z a0 hw [] b3_193 v7 (4 : Int32) k3_193 r194 r195 r196 r197 T193.heap n0 O193 (bnd_mono (bnd_lit (4 : Int32)) (by decide +kernel) (by decide +kernel)) P193_0) e212 rfl (by rw [hml]; rfl) (argsL := [(.ref b3_193), (.long v7), (.int (4 : Int32)), (.int (4 : Int32))]) (rest := []) (lenOf own_pd6 rfl) rfl rfl (W := 0) (by exact hW0) (by decide) (by decide) (hb hby at_391) (by decide) (by decide))) fun T216 X216 e216 => ?_
           by_cases c217 : (f_rm23_4 v7 (4 : Int32) r194 r195 r196 r197) = (0 : Int32)
           ·
            refine Home.go (fun _ => XS.ifYes X216.here hx rfl (pc0 := 394) (pc' := 401) rfl (hb hby at_394) rfl ((if0 _ _).trans (teq c217).1) (by decide) (by decide)) ?_
            have bd218 : ¬ (f_rm23_4 v7 (4 : Int32) r194 r195 r196 r197) < (0 : Int32) ∧ ¬ (0 : Int32) < (f_rm23_4 v7 (4 : Int32) r194 r195 r196 r197) := ⟨(bnd_eql c217), (bnd_eqr c217)⟩
            refine Home.run X216 hx hby sg0_401_1 (pc' := 402) (L' := #[.val (.long j0), .second, .val (.int i1), .val (.int (4 : Int32)), .val (.long v6), .second, .val (.long v7), .second, .val (.int r9), .val (.int r11), .val (.int r13), .val (.int r15), .val (.int r17), .val (.int r19), .val (.int r21), .val (.int r23), .val (.ref b174), .val (.ref b3_193)]) (S' := [(.int (0 : Int32))]) rfl ?_
            exact J220 X216 N193 e216 _ (by simp only [if_neg c201, if_neg c205, if_neg c209, if_neg c213, if_pos c217])
           ·
            refine Home.go (fun _ => XS.ifNo X216.here hx rfl (hb hby at_394) rfl ((if0 _ _).trans (feq c217).1)) ?_
            have bd219 : ¬ (f_rm23_4 v7 (4 : Int32) r194 r195 r196 r197) < (1 : Int32) ∧ ¬ (1 : Int32) < (f_rm23_4 v7 (4 : Int32) r194 r195 r196 r197) := ⟨(bnd_nel (f_rm23_4_bnd v7 (4 : Int32) r194 r195 r196 r197 (bnd_mono (bnd_lit (4 : Int32)) (by decide +kernel) (by decide +kernel))).1 c217 (by decide +kernel)), (f_rm23_4_bnd v7 (4 : Int32) r194 r195 r196 r197 (bnd_mono (bnd_lit (4 : Int32)) (by decide +kernel) (by decide +kernel))).2⟩
            refine Home.run X216 hx hby sg0_397_2 (pc' := 402) (L' := #[.val (.long j0), .second, .val (.int i1), .val (.int (4 : Int32)), .val (.long v6), .second, .val (.long v7), .second, .val (.int r9), .val (.int r11), .val (.int r13), .val (.int r15), .val (.int r17), .val (.int r19), .val (.int r21), .val (.int r23), .val (.ref b174), .val (.ref b3_193)]) (S' := [(.int (1 : Int32))]) rfl ?_
            exact J220 X216 N193 e216 _ (by simp only [if_neg c201, if_neg c205, if_neg c209, if_neg c213, if_neg c217])
      intro TJ220 lcJ220 XJ220 NJ220 eJ220 v221 hv221
      have bv221 : ¬ v221 < (0 : Int32) ∧ ¬ (1 : Int32) < v221 := by rw [hv221]; exact (bnd_ite (bnd_mono (bnd_lit (0 : Int32)) (by decide +kernel) (by decide +kernel)) (bnd_ite (bnd_mono (bnd_lit (0 : Int32)) (by decide +kernel) (by decide +kernel)) (bnd_ite (bnd_mono (bnd_lit (0 : Int32)) (by decide +kernel) (by decide +kernel)) (bnd_ite (bnd_mono (bnd_lit (0 : Int32)) (by decide +kernel) (by decide +kernel)) (bnd_ite (bnd_mono (bnd_lit (0 : Int32)) (by decide +kernel) (by decide +kernel)) (bnd_mono (bnd_lit (1 : Int32)) (by decide +kernel) (by decide +kernel)))))))
      show Home TJ220 (mkF m 402 #[.val (.long j0), .second, .val (.int i1), .val (.int (4 : Int32)), .val (.long v6), .second, .val (.long v7), .second, .val (.int r9), .val (.int r11), .val (.int r13), .val (.int r15), .val (.int r17), .val (.int r19), .val (.int r21), .val (.int r23), .val (.ref b174), .val (.ref b3_193)] [(.int v221)])
      exact HomeW.retN XJ220 hx hlk hZ (own_hEL hw) eJ220 Ce193 (t := .boolean) hret (by simp) (hb hby at_402) ⟨congrArg some (congrArg Value.int (own_end8 j0 i1 sv_COMPACT_STRINGS v1 hv1 v6 hv6 v7 hv7 r9 hr9 r11 hr11 r13 hr13 r15 hr15 r17 hr17 r19 hr19 r21 hr21 r23 hr23 r194 hr194 r195 hr195 r196 hr196 r197 hr197 r200 hr200 v221 hv221 c24 c39 c78 c122 c169)), NJ220⟩ (by decide) (by decide)
     ·
      refine Home.go (fun _ => XS.icmpYes X22.here hx rfl (pc0 := 218) (pc' := 266) rfl (hb hby at_218) rfl (feq c169).2 (by decide) (by decide)) ?_
      have bd172 : ¬ v1 < (5 : Int32) ∧ ¬ (5 : Int32) < v1 := ⟨(bnd_nel bd125.1 c169 (by decide +kernel)), bd125.2⟩
      have fx173 : v1 = (5 : Int32) := bnd_fix bd172
      try rw [fx173]
      show Home T22 (mkF m 266 #[.val (.long j0), .second, .val (.int i1), .val (.int (5 : Int32)), .val (.long v6), .second, .val (.long v7), .second, .val (.int r9), .val (.int r11), .val (.int r13), .val (.int r15), .val (.int r17), .val (.int r19), .val (.int r21), .val (.int r23), .unset, .unset] [])
      refine Home.run X22 hx hby sg0_266_1 (pc' := 268) (L' := #[.val (.long j0), .second, .val (.int i1), .val (.int (5 : Int32)), .val (.long v6), .second, .val (.long v7), .second, .val (.int r9), .val (.int r11), .val (.int r13), .val (.int r15), .val (.int r17), .val (.int r19), .val (.int r21), .val (.int r23), .unset, .unset]) (S' := [(.int (8 : Int32))]) rfl ?_
      refine Home.na (own_newP (aty := .char) X22 hx hZ (own_w7 hw) e22 (g := (mkF m 268 #[.val (.long j0), .second, .val (.int i1), .val (.int (5 : Int32)), .val (.long v6), .second, .val (.long v7), .second, .val (.int r9), .val (.int r11), .val (.int r13), .val (.int r15), .val (.int r17), .val (.int r19), .val (.int r21), .val (.int r23), .unset, .unset] [(.int (8 : Int32))])) rfl (hb hby at_268) rfl (by decide) (cap := 8) (by decide) (by decide) (by decide) (by decide)) fun T222 h222 k222 b222 g222 X222 e222 E222 A222 => ?_
      have g_b222 : n0 ≤ b222 := Nat.le_trans (Old.le O0) (Nat.le_of_eq g222.symm)
      have V222 : Arv Z h222 b222 k222 .char (8 : Int32) [(.int (0 : Int32)), (.int (0 : Int32)), (.int (0 : Int32)), (.int (0 : Int32)), (.int (0 : Int32)), (.int (0 : Int32)), (.int (0 : Int32)), (.int (0 : Int32))] (.int (0 : Int32)) := (Arv.new A222 (by decide)).pad (pad_rep [] (.int (0 : Int32)) 8)
      have O222 := O0.ext E222
      have K222 : Keep h0 h222 ([] : List Addr) := Keep.ext (Keep.refl h0 ([] : List Addr)) E222
      have Cd222 := Cold.ext Cd0 E222
      refine Home.run X222 hx hby sg0_270_3 (pc' := 274) (L' := #[.val (.long j0), .second, .val (.int i1), .val (.int (5 : Int32)), .val (.long v6), .second, .val (.long v7), .second, .val (.int r9), .val (.int r11), .val (.int r13), .val (.int r15), .val (.int r17), .val (.int r19), .val (.int r21), .val (.int r23), .unset, .unset]) (S' := [(.int r9), (.int (0 : Int32)), (.ref b222), (.ref b222)]) rfl ?_
      obtain ⟨cl223, Ar223, q223, S223, M223, H223, G223⟩ := id V222
      refine Home.wr (stC X222 hx hZ e222 Ar223 (j := (0 : Int32)) (inb_of S223 ⟨by decide, by decide⟩) rfl rfl (hb hby at_274)) fun T223 h223 X223 e223 W223 => ?_
      have W223' := Wr.to W223 (congrArg Value.int (nar_char_id br9 (by decide +kernel) (by decide +kernel)))
      have V223 : Arv Z h223 b222 k222 .char (8 : Int32) [(.int r9), (.int (0 : Int32)), (.int (0 : Int32)), (.int (0 : Int32)), (.int (0 : Int32)), (.int (0 : Int32)), (.int (0 : Int32)), (.int (0 : Int32))] (.int (0 : Int32)) := Arv.set Ar223 q223 S223 M223 H223 G223 (fits_char_b br9 (by decide +kernel) (by decide +kernel)) W223' 0 rfl (Nat.le_of_ble_eq_true rfl)
      have O223 := O222.wr W223 g_b222
      have K223 : Keep h0 h223 ([] : List Addr) := Keep.wr K222 W223 (Or.inr (Nat.le_trans (Nat.le_refl _) (Nat.le_of_eq g222.symm)))
      have Cd223 := Cold.wr Cd222 W223 (Safe.arv hZ.alike V222 (by simp))
      have N223 := Fr.snoc X223 N0 g_b222
      show Home T223 (mkF m 275 #[.val (.long j0), .second, .val (.int i1), .val (.int (5 : Int32)), .val (.long v6), .second, .val (.long v7), .second, .val (.int r9), .val (.int r11), .val (.int r13), .val (.int r15), .val (.int r17), .val (.int r19), .val (.int r21), .val (.int r23), .unset, .unset] [(.ref b222)])
      refine Home.run X223 hx hby sg0_275_3 (pc' := 279) (L' := #[.val (.long j0), .second, .val (.int i1), .val (.int (5 : Int32)), .val (.long v6), .second, .val (.long v7), .second, .val (.int r9), .val (.int r11), .val (.int r13), .val (.int r15), .val (.int r17), .val (.int r19), .val (.int r21), .val (.int r23), .unset, .unset]) (S' := [(.int r11), (.int (1 : Int32)), (.ref b222), (.ref b222)]) rfl ?_
      obtain ⟨cl224, Ar224, q224, S224, M224, H224, G224⟩ := id V223
      refine Home.wr (stC X223 hx hZ e223 Ar224 (j := (1 : Int32)) (inb_of S224 ⟨by decide, by decide⟩) rfl rfl (hb hby at_279)) fun T224 h224 X224 e224 W224 => ?_
      have W224' := Wr.to W224 (congrArg Value.int (nar_char_id br11 (by decide +kernel) (by decide +kernel)))
      have V224 : Arv Z h224 b222 k222 .char (8 : Int32) [(.int r9), (.int r11), (.int (0 : Int32)), (.int (0 : Int32)), (.int (0 : Int32)), (.int (0 : Int32)), (.int (0 : Int32)), (.int (0 : Int32))] (.int (0 : Int32)) := Arv.set Ar224 q224 S224 M224 H224 G224 (fits_char_b br11 (by decide +kernel) (by decide +kernel)) W224' 1 rfl (Nat.le_of_ble_eq_true rfl)
      have O224 := O223.wr W224 g_b222
      have K224 : Keep h0 h224 ([] : List Addr) := Keep.wr K223 W224 (Or.inr (Nat.le_trans (Nat.le_refl _) (Nat.le_of_eq g222.symm)))
      have Cd224 := Cold.wr Cd223 W224 (Safe.arv hZ.alike V223 (by simp))
      have N224 := Fr.snoc X224 N223 g_b222
      refine Home.run X224 hx hby sg0_280_3 (pc' := 284) (L' := #[.val (.long j0), .second, .val (.int i1), .val (.int (5 : Int32)), .val (.long v6), .second, .val (.long v7), .second, .val (.int r9), .val (.int r11), .val (.int r13), .val (.int r15), .val (.int r17), .val (.int r19), .val (.int r21), .val (.int r23), .unset, .unset]) (S' := [(.int r13), (.int (2 : Int32)), (.ref b222), (.ref b222)]) rfl ?_
      obtain ⟨cl225, Ar225, q225, S225, M225, H225, G225⟩ := id V224
      refine Home.wr (stC X224 hx hZ e224 Ar225 (j := (2 : Int32)) (inb_of S225 ⟨by decide, by decide⟩) rfl rfl (hb hby at_284)) fun T225 h225 X225 e225 W225 => ?_
      have W225' := Wr.to W225 (congrArg Value.int (nar_char_id br13 (by decide +kernel) (by decide +kernel)))
      have V225 : Arv Z h225 b222 k222 .char (8 : Int32) [(.int r9), (.int r11), (.int r13), (.int (0 : Int32)), (.int (0 : Int32)), (.int (0 : Int32)), (.int (0 : Int32)), (.int (0 : Int32))] (.int (0 : Int32)) := Arv.set Ar225 q225 S225 M225 H225 G225 (fits_char_b br13 (by decide +kernel) (by decide +kernel)) W225' 2 rfl (Nat.le_of_ble_eq_true rfl)
      have O225 := O224.wr W225 g_b222
      have K225 : Keep h0 h225 ([] : List Addr) := Keep.wr K224 W225 (Or.inr (Nat.le_trans (Nat.le_refl _) (Nat.le_of_eq g222.symm)))
      have Cd225 := Cold.wr Cd224 W225 (Safe.arv hZ.alike V224 (by simp))
      have N225 := Fr.snoc X225 N224 g_b222
      show Home T225 (mkF m 285 #[.val (.long j0), .second, .val (.int i1), .val (.int (5 : Int32)), .val (.long v6), .second, .val (.long v7), .second, .val (.int r9), .val (.int r11), .val (.int r13), .val (.int r15), .val (.int r17), .val (.int r19), .val (.int r21), .val (.int r23), .unset, .unset] [(.ref b222)])
      refine Home.run X225 hx hby sg0_285_3 (pc' := 289) (L' := #[.val (.long j0), .second, .val (.int i1), .val (.int (5 : Int32)), .val (.long v6), .second, .val (.long v7), .second, .val (.int r9), .val (.int r11), .val (.int r13), .val (.int r15), .val (.int r17), .val (.int r19), .val (.int r21), .val (.int r23), .unset, .unset]) (S' := [(.int r15), (.int (3 : Int32)), (.ref b222), (.ref b222)]) rfl ?_
      obtain ⟨cl226, Ar226, q226, S226, M226, H226, G226⟩ := id V225
      refine Home.wr (stC X225 hx hZ e225 Ar226 (j := (3 : Int32)) (inb_of S226 ⟨by decide, by decide⟩) rfl rfl (hb hby at_289)) fun T226 h226 X226 e226 W226 => ?_
      have W226' := Wr.to W226 (congrArg Value.int (nar_char_id br15 (by decide +kernel) (by decide +kernel)))
      have V226 : Arv Z h226 b222 k222 .char (8 : Int32) [(.int r9), (.int r11), (.int r13), (.int r15), (.int (0 : Int32)), (.int (0 : Int32)), (.int (0 : Int32)), (.int (0 : Int32))] (.int (0 : Int32)) := Arv.set Ar226 q226 S226 M226 H226 G226 (fits_char_b br15 (by decide +kernel) (by decide +kernel)) W226' 3 rfl (Nat.le_of_ble_eq_true rfl)
      have O226 := O225.wr W226 g_b222
      have K226 : Keep h0 h226 ([] : List Addr) := Keep.wr K225 W226 (Or.inr (Nat.le_trans (Nat.le_refl _) (Nat.le_of_eq g222.symm)))
      have Cd226 := Cold.wr Cd225 W226 (Safe.arv hZ.alike V225 (by simp))
      have N226 := Fr.snoc X226 N225 g_b222
      refine Home.run X226 hx hby sg0_290_3 (pc' := 294) (L' := #[.val (.long j0), .second, .val (.int i1), .val (.int (5 : Int32)), .val (.long v6), .second, .val (.long v7), .second, .val (.int r9), .val (.int r11), .val (.int r13), .val (.int r15), .val (.int r17), .val (.int r19), .val (.int r21), .val (.int r23), .unset, .unset]) (S' := [(.int r17), (.int (4 : Int32)), (.ref b222), (.ref b222)]) rfl ?_
      obtain ⟨cl227, Ar227, q227, S227, M227, H227, G227⟩ := id V226
      refine Home.wr (stC X226 hx hZ e226 Ar227 (j := (4 : Int32)) (inb_of S227 ⟨by decide, by decide⟩) rfl rfl (hb hby at_294)) fun T227 h227 X227 e227 W227 => ?_
      have W227' := Wr.to W227 (congrArg Value.int (nar_char_id br17 (by decide +kernel) (by decide +kernel)))
      have V227 : Arv Z h227 b222 k222 .char (8 : Int32) [(.int r9), (.int r11), (.int r13), (.int r15), (.int r17), (.int (0 : Int32)), (.int (0 : Int32)), (.int (0 : Int32))] (.int (0 : Int32)) := Arv.set Ar227 q227 S227 M227 H227 G227 (fits_char_b br17 (by decide +kernel) (by decide +kernel)) W227' 4 rfl (Nat.le_of_ble_eq_true rfl)
      have O227 := O226.wr W227 g_b222
      have K227 : Keep h0 h227 ([] : List Addr) := Keep.wr K226 W227 (Or.inr (Nat.le_trans (Nat.le_refl _) (Nat.le_of_eq g222.symm)))
      have Cd227 := Cold.wr Cd226 W227 (Safe.arv hZ.alike V226 (by simp))
      have N227 := Fr.snoc X227 N226 g_b222
      show Home T227 (mkF m 295 #[.val (.long j0), .second, .val (.int i1), .val (.int (5 : Int32)), .val (.long v6), .second, .val (.long v7), .second, .val (.int r9), .val (.int r11), .val (.int r13), .val (.int r15), .val (.int r17), .val (.int r19), .val (.int r21), .val (.int r23), .unset, .unset] [(.ref b222)])
      refine Home.run X227 hx hby sg0_295_3 (pc' := 299) (L' := #[.val (.long j0), .second, .val (.int i1), .val (.int (5 : Int32)), .val (.long v6), .second, .val (.long v7), .second, .val (.int r9), .val (.int r11), .val (.int r13), .val (.int r15), .val (.int r17), .val (.int r19), .val (.int r21), .val (.int r23), .unset, .unset]) (S' := [(.int r19), (.int (5 : Int32)), (.ref b222), (.ref b222)]) rfl ?_
      obtain ⟨cl228, Ar228, q228, S228, M228, H228, G228⟩ := id V227
      refine Home.wr (stC X227 hx hZ e227 Ar228 (j := (5 : Int32)) (inb_of S228 ⟨by decide, by decide⟩) rfl rfl (hb hby at_299)) fun T228 h228 X228 e228 W228 => ?_
      have W228' := Wr.to W228 (congrArg Value.int (nar_char_id br19 (by decide +kernel) (by decide +kernel)))
      have V228 : Arv Z h228 b222 k222 .char (8 : Int32) [(.int r9), (.int r11), (.int r13), (.int r15), (.int r17), (.int r19), (.int (0 : Int32)), (.int (0 : Int32))] (.int (0 : Int32)) := Arv.set Ar228 q228 S228 M228 H228 G228 (fits_char_b br19 (by decide +kernel) (by decide +kernel)) W228' 5 rfl (Nat.le_of_ble_eq_true rfl)
      have O228 := O227.wr W228 g_b222
      have K228 : Keep h0 h228 ([] : List Addr) := Keep.wr K227 W228 (Or.inr (Nat.le_trans (Nat.le_refl _) (Nat.le_of_eq g222.symm)))
      have Cd228 := Cold.wr Cd227 W228 (Safe.arv hZ.alike V227 (by simp))
      have N228 := Fr.snoc X228 N227 g_b222
      refine Home.run X228 hx hby sg0_300_3 (pc' := 305) (L' := #[.val (.long j0), .second, .val (.int i1), .val (.int (5 : Int32)), .val (.long v6), .second, .val (.long v7), .second, .val (.int r9), .val (.int r11), .val (.int r13), .val (.int r15), .val (.int r17), .val (.int r19), .val (.int r21), .val (.int r23), .unset, .unset]) (S' := [(.int r21), (.int (6 : Int32)), (.ref b222), (.ref b222)]) rfl ?_
      obtain ⟨cl229, Ar229, q229, S229, M229, H229, G229⟩ := id V228
      refine Home.wr (stC X228 hx hZ e228 Ar229 (j := (6 : Int32)) (inb_of S229 ⟨by decide, by decide⟩) rfl rfl (hb hby at_305)) fun T229 h229 X229 e229 W229 => ?_
      have W229' := Wr.to W229 (congrArg Value.int (nar_char_id br21 (by decide +kernel) (by decide +kernel)))
      have V229 : Arv Z h229 b222 k222 .char (8 : Int32) [(.int r9), (.int r11), (.int r13), (.int r15), (.int r17), (.int r19), (.int r21), (.int (0 : Int32))] (.int (0 : Int32)) := Arv.set Ar229 q229 S229 M229 H229 G229 (fits_char_b br21 (by decide +kernel) (by decide +kernel)) W229' 6 rfl (Nat.le_of_ble_eq_true rfl)
      have O229 := O228.wr W229 g_b222
      have K229 : Keep h0 h229 ([] : List Addr) := Keep.wr K228 W229 (Or.inr (Nat.le_trans (Nat.le_refl _) (Nat.le_of_eq g222.symm)))
      have Cd229 := Cold.wr Cd228 W229 (Safe.arv hZ.alike V228 (by simp))
      have N229 := Fr.snoc X229 N228 g_b222
      show Home T229 (mkF m 306 #[.val (.long j0), .second, .val (.int i1), .val (.int (5 : Int32)), .val (.long v6), .second, .val (.long v7), .second, .val (.int r9), .val (.int r11), .val (.int r13), .val (.int r15), .val (.int r17), .val (.int r19), .val (.int r21), .val (.int r23), .unset, .unset] [(.ref b222)])
      refine Home.run X229 hx hby sg0_306_3 (pc' := 311) (L' := #[.val (.long j0), .second, .val (.int i1), .val (.int (5 : Int32)), .val (.long v6), .second, .val (.long v7), .second, .val (.int r9), .val (.int r11), .val (.int r13), .val (.int r15), .val (.int r17), .val (.int r19), .val (.int r21), .val (.int r23), .unset, .unset]) (S' := [(.int r23), (.int (7 : Int32)), (.ref b222), (.ref b222)]) rfl ?_
      obtain ⟨cl230, Ar230, q230, S230, M230, H230, G230⟩ := id V229
      refine Home.wr (stC X229 hx hZ e229 Ar230 (j := (7 : Int32)) (inb_of S230 ⟨by decide, by decide⟩) rfl rfl (hb hby at_311)) fun T230 h230 X230 e230 W230 => ?_
      have W230' := Wr.to W230 (congrArg Value.int (nar_char_id br23 (by decide +kernel) (by decide +kernel)))
      have V230 : Arv Z h230 b222 k222 .char (8 : Int32) [(.int r9), (.int r11), (.int r13), (.int r15), (.int r17), (.int r19), (.int r21), (.int r23)] (.int (0 : Int32)) := Arv.set Ar230 q230 S230 M230 H230 G230 (fits_char_b br23 (by decide +kernel) (by decide +kernel)) W230' 7 rfl (Nat.le_of_ble_eq_true rfl)
      have O230 := O229.wr W230 g_b222
      have K230 : Keep h0 h230 ([] : List Addr) := Keep.wr K229 W230 (Or.inr (Nat.le_trans (Nat.le_refl _) (Nat.le_of_eq g222.symm)))
      have Cd230 := Cold.wr Cd229 W230 (Safe.arv hZ.alike V229 (by simp))
      have N230 := Fr.snoc X230 N229 g_b222
      refine Home.run X230 hx hby sg0_312_1 (pc' := 314) (L' := #[.val (.long j0), .second, .val (.int i1), .val (.int (5 : Int32)), .val (.long v6), .second, .val (.long v7), .second, .val (.int r9), .val (.int r11), .val (.int r13), .val (.int r15), .val (.int r17), .val (.int r19), .val (.int r21), .val (.int r23), .val (.ref b222), .unset]) (S' := []) rfl ?_
      refine Home.nw (own_newO X230 hx hZ hown (own_w8 hw) (own_w9 hw) (own_w10 hw) e230 rfl (hb hby at_314) (by decide) (by decide)) fun T231 h231 b231 g231 X231 e231 E231 A231 D231 => ?_
      have g_b231 : n0 ≤ b231 := Nat.le_trans (Old.le O230) (Nat.le_of_eq g231.symm)
      have F_coder_b231 : Fld Z h231 b231 "java/lang/String" "coder" "B" (.int (0 : Int32)) := D231 (Or.inr (own_w34 hw)) (ty := .byte) (by decide)
      have F_value_b231 : Fld Z h231 b231 "java/lang/String" "value" "[B" .null := D231 (Or.inr (own_w36 hw)) (ty := (.array .byte)) (by decide)
      have O231 := O230.ext E231
      have K231 : Keep h0 h231 ([] : List Addr) := Keep.ext K230 E231
      have Cd231 := Cold.add Cd230 E231 (Nat.le_of_eq g231.symm) A231.lt
      show Home T231 (mkF m 317 #[.val (.long j0), .second, .val (.int i1), .val (.int (5 : Int32)), .val (.long v6), .second, .val (.long v7), .second, .val (.int r9), .val (.int r11), .val (.int r13), .val (.int r15), .val (.int r17), .val (.int r19), .val (.int r21), .val (.int r23), .val (.ref b222), .unset] [(.ref b231)])
      refine Home.run X231 hx hby sg0_317_2 (pc' := 320) (L' := #[.val (.long j0), .second, .val (.int i1), .val (.int (5 : Int32)), .val (.long v6), .second, .val (.long v7), .second, .val (.int r9), .val (.int r11), .val (.int r13), .val (.int r15), .val (.int r17), .val (.int r19), .val (.int r21), .val (.int r23), .val (.ref b222), .unset]) (S' := [(.ref b222), (.ref b231), (.ref b231)]) rfl ?_
      have q232 := (V230.ext E231)
      refine Home.call (own_special X231 hx hZ hown rfl (own_w11 hw) (own_w12 hw) (own_w10 hw) (own_w13 hw) (by decide) (rm2_5 l Z a0 hw [] b231 b222 k222 r9 r11 r13 r15 r17 r19 r21 r23 sv_COMPACT_STRINGS h231 n0 O231 q232 S_COMPACT_STRINGS A231 F_coder_b231 F_value_b231 br9 br11 br13 br15 br17 br19 br21 br23 g_b231 hCS) e231 rfl (by rw [hml]; rfl) (a := b231) (argsL := [(.ref b222)]) (rest := [(.ref b231)]) (lenOf own_pd2 rfl) rfl rfl (W := 1) (by exact hW0) (by decide) (by decide) (hb hby at_320) (by decide) (by decide)) ?_
      rintro _ T233 L233 X233 ⟨b1_3_2_233, k1_3_2_233, rfl, N233q, sz_b1_3_2_233, K233q, P233_0, P233_1, P233_2, P233_3⟩
      have Cd233 := Cold.keep Cd231 K233q (allS (Cold.safe Cd231 (List.mem_of_getElem? (i := 0) rfl)) all0)
      have Cd233b1_3_2_233 := Cold.put Cd233 ⟨Safe.keep K233q (allS (Cold.safe Cd231 (List.mem_of_getElem? (i := 0) rfl)) all0) Cd231.2.1.1 (Safe.new sz_b1_3_2_233), P233_3.lt⟩
      have g_b1_3_2_233 : n0 ≤ b1_3_2_233 := Nat.le_trans (Old.le O231) sz_b1_3_2_233
      have le234 : h0.size ≤ h223.size := Nat.le_trans E222.1 (Nat.le_of_eq W223.size.symm)
      have le235 : h0.size ≤ h224.size := Nat.le_trans le234 (Nat.le_of_eq W224.size.symm)
      have le236 : h0.size ≤ h225.size := Nat.le_trans le235 (Nat.le_of_eq W225.size.symm)
      have le237 : h0.size ≤ h226.size := Nat.le_trans le236 (Nat.le_of_eq W226.size.symm)
      have le238 : h0.size ≤ h227.size := Nat.le_trans le237 (Nat.le_of_eq W227.size.symm)
      have le239 : h0.size ≤ h228.size := Nat.le_trans le238 (Nat.le_of_eq W228.size.symm)
      have le240 : h0.size ≤ h229.size := Nat.le_trans le239 (Nat.le_of_eq W229.size.symm)
      have le241 : h0.size ≤ h230.size := Nat.le_trans le240 (Nat.le_of_eq W230.size.symm)
      have O233 := Old.keep O231 K233q (allS g_b231 all0)
      have K233 : Keep h0 T233.heap ([] : List Addr) := Keep.trans K231 K233q (allS (Or.inr (Nat.le_trans le241 (Nat.le_of_eq g231.symm))) all0)
      have N233 := Fr.app N230 N233q
      show Home T233 (mkF m 323 #[.val (.long j0), .second, .val (.int i1), .val (.int (5 : Int32)), .val (.long v6), .second, .val (.long v7), .second, .val (.int r9), .val (.int r11), .val (.int r13), .val (.int r15), .val (.int r17), .val (.int r19), .val (.int r21), .val (.int r23), .val (.ref b222), .unset] [(.ref b231)])
      refine Home.call (own_staticW X233 hx hZ hown (own_hEL hw) Cd233b1_3_2_233 all0 (own_w37 hw) (own_w38 hw) (own_w39 hw) (own_w40 hw) (by decide) (rm8_5 l Z a0 hw [] b231 b1_3_2_233 k1_3_2_233 r9 r11 r13 r15 r17 r19 r21 r23 sv_COMPACT_STRINGS sv_SIOOBE_FORMATTER T233.heap n0 O233 P233_0 P233_2 P233_3 S_COMPACT_STRINGS P233_1 hCS S_SIOOBE_FORMATTER br9 br11 br13 br15 br17 br19 br21 br23 isr_sv_SIOOBE_FORMATTER (by rw [hr9]; exact own_dig _ _) (by rw [hr11]; exact own_dig _ _) (by rw [hr13]; exact own_dig _ _) (by rw [hr15]; exact own_dig _ _) (by rw [hr17]; exact own_dig _ _) (by rw [hr19]; exact own_dig _ _) (by rw [hr21]; exact own_dig _ _) (by rw [hr23]; exact own_dig _ _) (own_nn242 j0 i1 sv_COMPACT_STRINGS v1 hv1 v6 hv6 v7 hv7 r9 hr9 r11 hr11 r13 hr13 r15 hr15 r17 hr17 r19 hr19 r21 hr21 r23 hr23 c24 c39 c78 c122 c169)) rfl rfl (by rw [hml]; rfl) (argsL := [(.ref b231)]) (rest := []) (lenOf own_pd5 rfl) rfl rfl (W := 0) (by exact hW0) (by decide) (by decide) (hb hby at_323) (by decide) (by decide)) ?_
      rintro _ T243 L243 X243 ⟨⟨b3_243, k3_243, rfl, N243q, sz_b3_243, K243q, P243_0⟩, hZ, hown, Cd243, sR243⟩
      have Ce243 := Cold.put Cd243 (sR243 rfl _ rfl)
      have g_b3_243 : n0 ≤ b3_243 := Nat.le_trans (Old.le O233) sz_b3_243
      have O243 := Old.keep O233 K243q all0
      have K243 : Keep h0 T243.heap ([] : List Addr) := Keep.trans K233 K243q all0
      have N243 := Fr.app N233 N243q
      show Home T243 (mkF m 326 #[.val (.long j0), .second, .val (.int i1), .val (.int (5 : Int32)), .val (.long v6), .second, .val (.long v7), .second, .val (.int r9), .val (.int r11), .val (.int r13), .val (.int r15), .val (.int r17), .val (.int r19), .val (.int r21), .val (.int r23), .val (.ref b222), .unset] [(.ref b3_243)])
      obtain ⟨r244, hr244⟩ : ∃ z, z = (((((((0 : Int32) ||| (f_rm22_0 (r9 &&& (255 : Int32)))) <<< ((5 : Int32) &&& 31)) ||| (f_rm22_0 (r11 &&& (255 : Int32)))).toUInt32 >>> ((2 : Int32) &&& 31).toUInt32).toInt32).toInt8.toInt32) := ⟨_, rfl⟩
      rw [← hr244] at P243_0
      obtain ⟨r245, hr245⟩ : ∃ z, z = ((((((((((((0 : Int32) ||| (f_rm22_0 (r9 &&& (255 : Int32)))) <<< ((5 : Int32) &&& 31)) ||| (f_rm22_0 (r11 &&& (255 : Int32)))) &&& (3 : Int32)) <<< ((5 : Int32) &&& 31)) ||| (f_rm22_0 (r13 &&& (255 : Int32)))) <<< ((5 : Int32) &&& 31)) ||| (f_rm22_0 (r15 &&& (255 : Int32)))).toUInt32 >>> ((4 : Int32) &&& 31).toUInt32).toInt32).toInt8.toInt32) := ⟨_, rfl⟩
      rw [← hr245] at P243_0
      obtain ⟨r246, hr246⟩ : ∃ z, z = (((((((((((((((0 : Int32) ||| (f_rm22_0 (r9 &&& (255 : Int32)))) <<< ((5 : Int32) &&& 31)) ||| (f_rm22_0 (r11 &&& (255 : Int32)))) &&& (3 : Int32)) <<< ((5 : Int32) &&& 31)) ||| (f_rm22_0 (r13 &&& (255 : Int32)))) <<< ((5 : Int32) &&& 31)) ||| (f_rm22_0 (r15 &&& (255 : Int32)))) &&& (15 : Int32)) <<< ((5 : Int32) &&& 31)) ||| (f_rm22_0 (r17 &&& (255 : Int32)))).toUInt32 >>> ((1 : Int32) &&& 31).toUInt32).toInt32).toInt8.toInt32) := ⟨_, rfl⟩
      rw [← hr246] at P243_0
      obtain ⟨r247, hr247⟩ : ∃ z, z = ((((((((((((((((((((0 : Int32) ||| (f_rm22_0 (r9 &&& (255 : Int32)))) <<< ((5 : Int32) &&& 31)) ||| (f_rm22_0 (r11 &&& (255 : Int32)))) &&& (3 : Int32)) <<< ((5 : Int32) &&& 31)) ||| (f_rm22_0 (r13 &&& (255 : Int32)))) <<< ((5 : Int32) &&& 31)) ||| (f_rm22_0 (r15 &&& (255 : Int32)))) &&& (15 : Int32)) <<< ((5 : Int32) &&& 31)) ||| (f_rm22_0 (r17 &&& (255 : Int32)))) &&& (1 : Int32)) <<< ((5 : Int32) &&& 31)) ||| (f_rm22_0 (r19 &&& (255 : Int32)))) <<< ((5 : Int32) &&& 31)) ||| (f_rm22_0 (r21 &&& (255 : Int32)))).toUInt32 >>> ((3 : Int32) &&& 31).toUInt32).toInt32).toInt8.toInt32) := ⟨_, rfl⟩
      rw [← hr247] at P243_0
      obtain ⟨r248, hr248⟩ : ∃ z, z = (((((((((((((((((((((((0 : Int32) ||| (f_rm22_0 (r9 &&& (255 : Int32)))) <<< ((5 : Int32) &&& 31)) ||| (f_rm22_0 (r11 &&& (255 : Int32)))) &&& (3 : Int32)) <<< ((5 : Int32) &&& 31)) ||| (f_rm22_0 (r13 &&& (255 : Int32)))) <<< ((5 : Int32) &&& 31)) ||| (f_rm22_0 (r15 &&& (255 : Int32)))) &&& (15 : Int32)) <<< ((5 : Int32) &&& 31)) ||| (f_rm22_0 (r17 &&& (255 : Int32)))) &&& (1 : Int32)) <<< ((5 : Int32) &&& 31)) ||| (f_rm22_0 (r19 &&& (255 : Int32)))) <<< ((5 : Int32) &&& 31)) ||| (f_rm22_0 (r21 &&& (255 : Int32)))) &&& (7 : Int32)) <<< ((5 : Int32) &&& 31)) ||| (f_rm22_0 (r23 &&& (255 : Int32)))).toUInt32 >>> ((0 : Int32) &&& 31).toUInt32).toInt32).toInt8.toInt32) := ⟨_, rfl⟩
      rw [← hr248] at P243_0
      refine Home.run X243 hx hby sg0_326_2 (pc' := 330) (L' := #[.val (.long j0), .second, .val (.int i1), .val (.int (5 : Int32)), .val (.long v6), .second, .val (.long v7), .second, .val (.int r9), .val (.int r11), .val (.int r13), .val (.int r15), .val (.int r17), .val (.int r19), .val (.int r21), .val (.int r23), .val (.ref b222), .val (.ref b3_243)]) (S' := [(.ref b3_243)]) rfl ?_
      obtain ⟨cl249, Ar249, q249, S249, M249, H249, G249⟩ := id P243_0
      refine Home.go (own_alen X243 hx hZ rfl Ar249 S249 M249 rfl rfl (hb hby at_330)) ?_
      refine Home.run X243 hx hby sg0_331_1 (pc' := 332) (L' := #[.val (.long j0), .second, .val (.int i1), .val (.int (5 : Int32)), .val (.long v6), .second, .val (.long v7), .second, .val (.int r9), .val (.int r11), .val (.int r13), .val (.int r15), .val (.int r17), .val (.int r19), .val (.int r21), .val (.int r23), .val (.ref b222), .val (.ref b3_243)]) (S' := [(.int (5 : Int32)), (.int (5 : Int32))]) rfl ?_
      refine Home.go (fun _ => XS.icmpYes X243.here hx rfl (pc0 := 332) (pc' := 337) rfl (hb hby at_332) rfl (teq (by decide)).1 (by decide) (by decide)) ?_
      refine Home.run X243 hx hby sg0_337_4 (pc' := 343) (L' := #[.val (.long j0), .second, .val (.int i1), .val (.int (5 : Int32)), .val (.long v6), .second, .val (.long v7), .second, .val (.int r9), .val (.int r11), .val (.int r13), .val (.int r15), .val (.int r17), .val (.int r19), .val (.int r21), .val (.int r23), .val (.ref b222), .val (.ref b3_243)]) (S' := [(.int (0 : Int32)), (.int (5 : Int32)), (.long v7), (.ref b3_243)]) rfl ?_
      refine Home.st (own_pure (own_static X243 hx hZ hown (own_w103 hw) (own_w104 hw) (own_w4 hw) (own_w105 hw) (by decide) (rm23_5 l Z a0 hw [] b3_243 v7 (0 : Int32) k3_243 r244 r245 r246 r247 r248 T243.heap n0 O243 (bnd_mono (bnd_lit (0 : Int32)) (by decide +kernel) (by decide +kernel)) P243_0) rfl rfl (by rw [hml]; rfl) (argsL := [(.ref b3_243), (.long v7), (.int (5 : Int32)), (.int (0 : Int32))]) (rest := []) (lenOf own_pd6 rfl) rfl rfl (W := 0) (by exact hW0) (by decide) (by decide) (hb hby at_343) (by decide) (by decide))) fun T250 X250 e250 => ?_
      show Home T250 (mkF m 346 #[.val (.long j0), .second, .val (.int i1), .val (.int (5 : Int32)), .val (.long v6), .second, .val (.long v7), .second, .val (.int r9), .val (.int r11), .val (.int r13), .val (.int r15), .val (.int r17), .val (.int r19), .val (.int r21), .val (.int r23), .val (.ref b222), .val (.ref b3_243)] [(.int (f_rm23_5 v7 (0 : Int32) r244 r245 r246 r247 r248))])
      obtain ⟨r251, hr251⟩ : ∃ z, z = (f_rm23_5 v7 (0 : Int32) r244 r245 r246 r247 r248) := ⟨_, rfl⟩
      rw [← hr251]
      have br251 : ¬ r251 < (0 : Int32) ∧ ¬ (1 : Int32) < r251 := by rw [hr251]; exact f_rm23_5_bnd v7 (0 : Int32) r244 r245 r246 r247 r248 (bnd_mono (bnd_lit (0 : Int32)) (by decide +kernel) (by decide +kernel))
      suffices J271 : ∀ {T : State} {lc : List Loc} (X : Stand p l e room_1 (s.setVm T243.vm) m #[(.long j0), (.int i1)] below meth c T lc 20 1081) (N : Fr n0 lc) (eT : T.heap = T243.heap) (v272 : Int32) (hv272 : v272 = (if r251 = (0 : Int32) then (0 : Int32) else (if (f_rm23_5 v7 (1 : Int32) r244 r245 r246 r247 r248) = (0 : Int32) then (0 : Int32) else (if (f_rm23_5 v7 (2 : Int32) r244 r245 r246 r247 r248) = (0 : Int32) then (0 : Int32) else (if (f_rm23_5 v7 (3 : Int32) r244 r245 r246 r247 r248) = (0 : Int32) then (0 : Int32) else (if (f_rm23_5 v7 (4 : Int32) r244 r245 r246 r247 r248) = (0 : Int32) then (0 : Int32) else (1 : Int32))))))), @Home p e below _ T (mkF m 402 #[.val (.long j0), .second, .val (.int i1), .val (.int (5 : Int32)), .val (.long v6), .second, .val (.long v7), .second, .val (.int r9), .val (.int r11), .val (.int r13), .val (.int r15), .val (.int r17), .val (.int r19), .val (.int r21), .val (.int r23), .val (.ref b222), .val (.ref b3_243)] [(.int v272)]) by
       by_cases c252 : r251 = (0 : Int32)
       ·
        refine Home.go (fun _ => XS.ifYes X250.here hx rfl (pc0 := 346) (pc' := 401) rfl (hb hby at_346) rfl ((if0 _ _).trans (teq c252).1) (by decide) (by decide)) ?_
        have bd253 : ¬ r251 < (0 : Int32) ∧ ¬ (0 : Int32) < r251 := ⟨(bnd_eql c252), (bnd_eqr c252)⟩
        refine Home.run X250 hx hby sg0_401_1 (pc' := 402) (L' := #[.val (.long j0), .second, .val (.int i1), .val (.int (5 : Int32)), .val (.long v6), .second, .val (.long v7), .second, .val (.int r9), .val (.int r11), .val (.int r13), .val (.int r15), .val (.int r17), .val (.int r19), .val (.int r21), .val (.int r23), .val (.ref b222), .val (.ref b3_243)]) (S' := [(.int (0 : Int32))]) rfl ?_
        exact J271 X250 N243 e250 _ (by simp only [if_pos c252])
       ·
        refine Home.go (fun _ => XS.ifNo X250.here hx rfl (hb hby at_346) rfl ((if0 _ _).trans (feq c252).1)) ?_
        have bd254 : ¬ r251 < (1 : Int32) ∧ ¬ (1 : Int32) < r251 := ⟨(bnd_nel br251.1 c252 (by decide +kernel)), br251.2⟩
        refine Home.run X250 hx hby sg0_349_4 (pc' := 355) (L' := #[.val (.long j0), .second, .val (.int i1), .val (.int (5 : Int32)), .val (.long v6), .second, .val (.long v7), .second, .val (.int r9), .val (.int r11), .val (.int r13), .val (.int r15), .val (.int r17), .val (.int r19), .val (.int r21), .val (.int r23), .val (.ref b222), .val (.ref b3_243)]) (S' := [(.int (1 : Int32)), (.int (5 : Int32)), (.long v7), (.ref b3_243)]) rfl ?_
        refine Home.st (own_pure (own_static X250 hx hZ hown (own_w103 hw) (own_w104 hw) (own_w4 hw) (own_w105 hw) (by decide) (rm23_5 l Z a0 hw [] b3_243 v7 (1 : Int32) k3_243 r244 r245 r246 r247 r248 T243.heap n0 O243 (bnd_mono (bnd_lit (1 : Int32)) (by decide +kernel) (by decide +kernel)) P243_0) e250 rfl (by rw [hml]; rfl) (argsL := [(.ref b3_243), (.long v7), (.int (5 : Int32)), (.int (1 : Int32))]) (rest := []) (lenOf own_pd6 rfl) rfl rfl (W := 0) (by exact hW0) (by decide) (by decide) (hb hby at_355) (by decide) (by decide))) fun T255 X255 e255 => ?_
        by_cases c256 : (f_rm23_5 v7 (1 : Int32) r244 r245 r246 r247 r248) = (0 : Int32)
        ·
         refine Home.go (fun _ => XS.ifYes X255.here hx rfl (pc0 := 358) (pc' := 401) rfl (hb hby at_358) rfl ((if0 _ _).trans (teq c256).1) (by decide) (by decide)) ?_
         have bd257 : ¬ (f_rm23_5 v7 (1 : Int32) r244 r245 r246 r247 r248) < (0 : Int32) ∧ ¬ (0 : Int32) < (f_rm23_5 v7 (1 : Int32) r244 r245 r246 r247 r248) := ⟨(bnd_eql c256), (bnd_eqr c256)⟩
         refine Home.run X255 hx hby sg0_401_1 (pc' := 402) (L' := #[.val (.long j0), .second, .val (.int i1), .val (.int (5 : Int32)), .val (.long v6), .second, .val (.long v7), .second, .val (.int r9), .val (.int r11), .val (.int r13), .val (.int r15), .val (.int r17), .val (.int r19), .val (.int r21), .val (.int r23), .val (.ref b222), .val (.ref b3_243)]) (S' := [(.int (0 : Int32))]) rfl ?_
         exact J271 X255 N243 e255 _ (by simp only [if_neg c252, if_pos c256])
        ·
         refine Home.go (fun _ => XS.ifNo X255.here hx rfl (hb hby at_358) rfl ((if0 _ _).trans (feq c256).1)) ?_
         have bd258 : ¬ (f_rm23_5 v7 (1 : Int32) r244 r245 r246 r247 r248) < (1 : Int32) ∧ ¬ (1 : Int32) < (f_rm23_5 v7 (1 : Int32) r244 r245 r246 r247 r248) := ⟨(bnd_nel (f_rm23_5_bnd v7 (1 : Int32) r244 r245 r246 r247 r248 (bnd_mono (bnd_lit (1 : Int32)) (by decide +kernel) (by decide +kernel))).1 c256 (by decide +kernel)), (f_rm23_5_bnd v7 (1 : Int32) r244 r245 r246 r247 r248 (bnd_mono (bnd_lit (1 : Int32)) (by decide +kernel) (by decide +kernel))).2⟩
         refine Home.run X255 hx hby sg0_361_4 (pc' := 367) (L' := #[.val (.long j0), .second, .val (.int i1), .val (.int (5 : Int32)), .val (.long v6), .second, .val (.long v7), .second, .val (.int r9), .val (.int r11), .val (.int r13), .val (.int r15), .val (.int r17), .val (.int r19), .val (.int r21), .val (.int r23), .val (.ref b222), .val (.ref b3_243)]) (S' := [(.int (2 : Int32)), (.int (5 : Int32)), (.long v7), (.ref b3_243)]) rfl ?_
         refine Home.st (own_pure (own_static X255 hx hZ hown (own_w103 hw) (own_w104 hw) (own_w4 hw) (own_w105 hw) (by decide) (rm23_5 l Z a0 hw [] b3_243 v7 (2 : Int32) k3_243 r244 r245 r246 r247 r248 T243.heap n0 O243 (bnd_mono (bnd_lit (2 : Int32)) (by decide +kernel) (by decide +kernel)) P243_0) e255 rfl (by rw [hml]; rfl) (argsL := [(.ref b3_243), (.long v7), (.int (5 : Int32)), (.int (2 : Int32))]) (rest := []) (lenOf own_pd6 rfl) rfl rfl (W := 0) (by exact hW0) (by decide) (by decide) (hb hby at_367) (by decide) (by decide))) fun T259 X259 e259 => ?_
         by_cases c260 : (f_rm23_5 v7 (2 : Int32) r244 r245 r246 r247 r248) = (0 : Int32)
         ·
          refine Home.go (fun _ => XS.ifYes X259.here hx rfl (pc0 := 370) (pc' := 401) rfl (hb hby at_370) rfl ((if0 _ _).trans (teq c260).1) (by decide) (by decide)) ?_
          have bd261 : ¬ (f_rm23_5 v7 (2 : Int32) r244 r245 r246 r247 r248) < (0 : Int32) ∧ ¬ (0 : Int32) < (f_rm23_5 v7 (2 : Int32) r244 r245 r246 r247 r248) := ⟨(bnd_eql c260), (bnd_eqr c260)⟩
          refine Home.run X259 hx hby sg0_401_1 (pc' := 402) (L' := #[.val (.long j0), .second, .val (.int i1), .val (.int (5 : Int32)), .val (.long v6), .second, .val (.long v7), .second, .val (.int r9), .val (.int r11), .val (.int r13), .val (.int r15), .val (.int r17), .val (.int r19), .val (.int r21), .val (.int r23), .val (.ref b222), .val (.ref b3_243)]) (S' := [(.int (0 : Int32))]) rfl ?_
          exact J271 X259 N243 e259 _ (by simp only [if_neg c252, if_neg c256, if_pos c260])
         ·
          refine Home.go (fun _ => XS.ifNo X259.here hx rfl (hb hby at_370) rfl ((if0 _ _).trans (feq c260).1)) ?_
          have bd262 : ¬ (f_rm23_5 v7 (2 : Int32) r244 r245 r246 r247 r248) < (1 : Int32) ∧ ¬ (1 : Int32) < (f_rm23_5 v7 (2 : Int32) r244 r245 r246 r247 r248) := ⟨(bnd_nel (f_rm23_5_bnd v7 (2 : Int32) r244 r245 r246 r247 r248 (bnd_mono (bnd_lit (2 : Int32)) (by decide +kernel) (by decide +kernel))).1 c260 (by decide +kernel)), (f_rm23_5_bnd v7 (2 : Int32) r244 r245 r246 r247 r248 (bnd_mono (bnd_lit (2 : Int32)) (by decide +kernel) (by decide +kernel))).2⟩
          refine Home.run X259 hx hby sg0_373_4 (pc' := 379) (L' := #[.val (.long j0), .second, .val (.int i1), .val (.int (5 : Int32)), .val (.long v6), .second, .val (.long v7), .second, .val (.int r9), .val (.int r11), .val (.int r13), .val (.int r15), .val (.int r17), .val (.int r19), .val (.int r21), .val (.int r23), .val (.ref b222), .val (.ref b3_243)]) (S' := [(.int (3 : Int32)), (.int (5 : Int32)), (.long v7), (.ref b3_243)]) rfl ?_
          refine Home.st (own_pure (own_static X259 hx hZ hown (own_w103 hw) (own_w104 hw) (own_w4 hw) (own_w105 hw) (by decide) (rm23_5 l Z a0 hw [] b3_243 v7 (3 : Int32) k3_243 r244 r245 r246 r247 r248 T243.heap n0 O243 (bnd_mono (bnd_lit (3 : Int32)) (by decide +kernel) (by decide +kernel)) P243_0) e259 rfl (by rw [hml]; rfl) (argsL := [(.ref b3_243), (.long v7), (.int (5 : Int32)), (.int (3 : Int32))]) (rest := []) (lenOf own_pd6 rfl) rfl rfl (W := 0) (by exact hW0) (by decide) (by decide) (hb hby at_379) (by decide) (by decide))) fun T263 X263 e263 => ?_
          by_cases c264 : (f_rm23_5 v7 (3 : Int32) r244 r245 r246 r247 r248) = (0 : Int32)
          ·
           refine Home.go (fun _ => XS.ifYes X263.here hx rfl (pc0 := 382) (pc' := 401) rfl (hb hby at_382) rfl ((if0 _ _).trans (teq c264).1) (by decide) (by decide)) ?_
           have bd265 : ¬ (f_rm23_5 v7 (3 : Int32) r244 r245 r246 r247 r248) < (0 : Int32) ∧ ¬ (0 : Int32) < (f_rm23_5 v7 (3 : Int32) r244 r245 r246 r247 r248) := ⟨(bnd_eql c264), (bnd_eqr c264)⟩
           refine Home.run X263 hx hby sg0_401_1 (pc' := 402) (L' := #[.val (.long j0), .second, .val (.int i1), .val (.int (5 : Int32)), .val (.long v6), .second, .val (.long v7), .second, .val (.int r9), .val (.int r11), .val (.int r13), .val (.int r15), .val (.int r17), .val (.int r19), .val (.int r21), .val (.int r23), .val (.ref b222), .val (.ref b3_243)]) (S' := [(.int (0 : Int32))]) rfl ?_
           exact J271 X263 N243 e263 _ (by simp only [if_neg c252, if_neg c256, if_neg c260, if_pos c264])
          ·
           refine Home.go (fun _ => XS.ifNo X263.here hx rfl (hb hby at_382) rfl ((if0 _ _).trans (feq c264).1)) ?_
           have bd266 : ¬ (f_rm23_5 v7 (3 : Int32) r244 r245 r246 r247 r248) < (1 : Int32) ∧ ¬ (1 : Int32) < (f_rm23_5 v7 (3 : Int32) r244 r245 r246 r247 r248) := ⟨(bnd_nel (f_rm23_5_bnd v7 (3 : Int32) r244 r245 r246 r247 r248 (bnd_mono (bnd_lit (3 : Int32)) (by decide +kernel) (by decide +kernel))).1 c264 (by decide +kernel)), (f_rm23_5_bnd v7 (3 : Int32) r244 r245 r246 r247 r248 (bnd_mono (bnd_lit (3 : Int32)) (by decide +kernel) (by decide +kernel))).2⟩
           refine Home.run X263 hx hby sg0_385_4 (pc' := 391) (L' := #[.val (.long j0), .second, .val (.int i1), .val (.int (5 : Int32)), .val (.long v6), .second, .val (.long v7), .second, .val (.int r9), .val (.int r11), .val (.int r13), .val (.int r15), .val (.int r17), .val (.int r19), .val (.int r21), .val (.int r23), .val (.ref b222), .val (.ref b3_243)]) (S' := [(.int (4 : Int32)), (.int (5 : Int32)), (.long v7), (.ref b3_243)]) rfl ?_
           refine Home.st (own_pure (own_static X263 hx hZ hown (own_w103 hw) (own_w104 hw) (own_w4 hw) (own_w105 hw) (by decide) (rm23_5 l Z a0 hw [] b3_243 v7 (4 : Int32) k3_243 r244 r245 r246 r247 r248 T243.heap n0 O243 (bnd_mono (bnd_lit (4 : Int32)) (by decide +kernel) (by decide +kernel)) P243_0) e263 rfl (by rw [hml]; rfl) (argsL := [(.ref b3_243), (.long v7), (.int (5 : Int32)), (.int (4 : Int32))]) (rest := []) (lenOf own_pd6 rfl) rfl rfl (W := 0) (by exact hW0) (by decide) (by decide) (hb hby at_391) (by decide) (by decide))) fun T267 X267 e267 => ?_
           by_cases c268 : (f_rm23_5 v7 (4 : Int32) r244 r245 r246 r247 r248) = (0 : Int32)
           ·
            refine Home.go (fun _ => XS.ifYes X267.here hx rfl (pc0 := 394) (pc' := 401) rfl (hb hby at_394) rfl ((if0 _ _).trans (teq c268).1) (by decide) (by decide)) ?_
            have bd269 : ¬ (f_rm23_5 v7 (4 : Int32) r244 r245 r246 r247 r248) < (0 : Int32) ∧ ¬ (0 : Int32) < (f_rm23_5 v7 (4 : Int32) r244 r245 r246 r247 r248) := ⟨(bnd_eql c268), (bnd_eqr c268)⟩
            refine Home.run X267 hx hby sg0_401_1 (pc' := 402) (L' := #[.val (.long j0), .second, .val (.int i1), .val (.int (5 : Int32)), .val (.long v6), .second, .val (.long v7), .second, .val (.int r9), .val (.int r11), .val (.int r13), .val (.int r15), .val (.int r17), .val (.int r19), .val (.int r21), .val (.int r23), .val (.ref b222), .val (.ref b3_243)]) (S' := [(.int (0 : Int32))]) rfl ?_
            exact J271 X267 N243 e267 _ (by simp only [if_neg c252, if_neg c256, if_neg c260, if_neg c264, if_pos c268])
           ·
            refine Home.go (fun _ => XS.ifNo X267.here hx rfl (hb hby at_394) rfl ((if0 _ _).trans (feq c268).1)) ?_
            have bd270 : ¬ (f_rm23_5 v7 (4 : Int32) r244 r245 r246 r247 r248) < (1 : Int32) ∧ ¬ (1 : Int32) < (f_rm23_5 v7 (4 : Int32) r244 r245 r246 r247 r248) := ⟨(bnd_nel (f_rm23_5_bnd v7 (4 : Int32) r244 r245 r246 r247 r248 (bnd_mono (bnd_lit (4 : Int32)) (by decide +kernel) (by decide +kernel))).1 c268 (by decide +kernel)), (f_rm23_5_bnd v7 (4 : Int32) r244 r245 r246 r247 r248 (bnd_mono (bnd_lit (4 : Int32)) (by decide +kernel) (by decide +kernel))).2⟩
            refine Home.run X267 hx hby sg0_397_2 (pc' := 402) (L' := #[.val (.long j0), .second, .val (.int i1), .val (.int (5 : Int32)), .val (.long v6), .second, .val (.long v7), .second, .val (.int r9), .val (.int r11), .val (.int r13), .val (.int r15), .val (.int r17), .val (.int r19), .val (.int r21), .val (.int r23), .val (.ref b222), .val (.ref b3_243)]) (S' := [(.int (1 : Int32))]) rfl ?_
            exact J271 X267 N243 e267 _ (by simp only [if_neg c252, if_neg c256, if_neg c260, if_neg c264, if_neg c268])
      intro TJ271 lcJ271 XJ271 NJ271 eJ271 v272 hv272
      have bv272 : ¬ v272 < (0 : Int32) ∧ ¬ (1 : Int32) < v272 := by rw [hv272]; exact (bnd_ite (bnd_mono (bnd_lit (0 : Int32)) (by decide +kernel) (by decide +kernel)) (bnd_ite (bnd_mono (bnd_lit (0 : Int32)) (by decide +kernel) (by decide +kernel)) (bnd_ite (bnd_mono (bnd_lit (0 : Int32)) (by decide +kernel) (by decide +kernel)) (bnd_ite (bnd_mono (bnd_lit (0 : Int32)) (by decide +kernel) (by decide +kernel)) (bnd_ite (bnd_mono (bnd_lit (0 : Int32)) (by decide +kernel) (by decide +kernel)) (bnd_mono (bnd_lit (1 : Int32)) (by decide +kernel) (by decide +kernel)))))))
      show Home TJ271 (mkF m 402 #[.val (.long j0), .second, .val (.int i1), .val (.int (5 : Int32)), .val (.long v6), .second, .val (.long v7), .second, .val (.int r9), .val (.int r11), .val (.int r13), .val (.int r15), .val (.int r17), .val (.int r19), .val (.int r21), .val (.int r23), .val (.ref b222), .val (.ref b3_243)] [(.int v272)])
      exact HomeW.retN XJ271 hx hlk hZ (own_hEL hw) eJ271 Ce243 (t := .boolean) hret (by simp) (hb hby at_402) ⟨congrArg some (congrArg Value.int (own_end9 j0 i1 sv_COMPACT_STRINGS v1 hv1 v6 hv6 v7 hv7 r9 hr9 r11 hr11 r13 hr13 r15 hr15 r17 hr17 r19 hr19 r21 hr21 r23 hr23 r244 hr244 r245 hr245 r246 hr246 r247 hr247 r248 hr248 r251 hr251 v272 hv272 c24 c39 c78 c122 c169)), NJ271⟩ (by decide) (by decide)
theorem comes_1 {Post : Tables → Env → Array Value → State → Outcome → State → Prop} (hpost : ∀ tb e args s v u, (limb_1_1.after args s (.returned v) u = true ∧ limb_1_2.after args s (.returned v) u = true ∧ True) → ReturnedEndW s (.returned v) u (Jvm.fieldLocs frame_1_writes args s ++ Jvm.arrayLocs frame_1_arrays args s ++ Jvm.staticLocs frame_1_statics s) 24 2176 → Post tb e args s (.returned v) u) :
    ArmFor flags0 classFile x code maxLocals ret World_1 tables_1 room_1 Calls_1 rest_1 Pre_1 Post := by
  intro l hfl _ _ p e ha hc hk s m args below hf hA hF happ hP
  obtain ⟨hcalls, hrest, hpre⟩ := hP
  obtain ⟨-, -, -, hnamed, -, -, -, hat⟩ := (Spec.applies_iff hf).mp happ
  obtain ⟨hg, hn⟩ := and_e (Cond.before_iff.mp (show (Jvm.Cond.and given_1 narrow_1).before args s = true from hpre))
  obtain ⟨gg1, gg2⟩ := and_e hg
  obtain ⟨gg3, gg4⟩ := and_e gg2
  obtain ⟨w0, w1, rfl⟩ : ∃ w0 w1 : Value, args = #[w0, w1] := by
    have hs : args.size = 2 := by simpa [Cond.value, given_1] using gg1
    obtain ⟨L⟩ := args
    match L, hs with
    | [w0, w1], _ => exact ⟨w0, w1, rfl⟩
  have hw := fun d (hd : d ∈ tables_1) => atoms_spec (ws := Jvm.Cond.code x code maxLocals ret :: tables_1) hat d (List.mem_cons_of_mem _ hd)
  have hfit : Fit s := fun {y c} hc i hi => by
    obtain ⟨ha, rfl⟩ := Array.getElem?_eq_some_iff.mp hc
    have q := List.all_eq_true.mp ((Array.all_eq_true_iff_forall_mem.mp hF) _ (Array.getElem_mem ha)) i (List.mem_range.mpr hi)
    simpa [Array.getElem?_eq_getElem hi] using q
  obtain ⟨hsets, hown0⟩ := atoms_of _ (rest_1_c_eq ▸ (show rest_1_c.before _ s = true from hrest))
  have hr0 := Cond.before_iff.mp hown0
  obtain ⟨i0, ei0⟩ := isL_v gg3
  obtain rfl : w0 = (.long i0) := Option.some.inj ei0
  obtain ⟨i1, ei1⟩ := is_v gg4
  obtain rfl : w1 = (.int i1) := Option.some.inj ei1
  obtain ⟨sv_COMPACT_STRINGS, v_cs⟩ := is_v (Cond.before_iff.mp (hsets _ (List.mem_of_getElem? (i := 1) rfl)))
  have S_COMPACT_STRINGS := Sta.start v_cs (Or.inl (hsets _ (List.mem_of_getElem? (i := 0) rfl)))
  have hCS : ¬ (sv_COMPACT_STRINGS = (0 : Int32)) := gotF (Cond.eq_ints v_cs (Term.int_eval 0)) (not_v (Cond.before_iff.mp (hsets _ (List.mem_of_getElem? (i := 2) rfl))))
  obtain ⟨sv_SIOOBE_FORMATTER, v_sv_SIOOBE_FORMATTER, isr_sv_SIOOBE_FORMATTER⟩ := isR_v (Cond.before_iff.mp (hsets _ (List.mem_of_getElem? (i := 8) rfl)))
  have S_SIOOBE_FORMATTER := Sta.start v_sv_SIOOBE_FORMATTER (Or.inl (hsets _ (List.mem_of_getElem? (i := 7) rfl)))
  have hCH : CHv s own_EL s.vm s.heap := CHv.start (own_hEL hw) (fun p hp => hcalls.1 p hp) (hsets _ (List.mem_of_getElem? (i := 2) rfl)) (own_w26 hw) (own_w9 hw)
  obtain ⟨n, o, h1, h2, h3, _, L, rfl, ⟨rfl, N⟩, -, -, hq⟩ := rm0 l s _ hw tables_1 i0 i1 sv_COMPACT_STRINGS sv_SIOOBE_FORMATTER s.heap s.heap.size (Old.start s) S_COMPACT_STRINGS hCS S_SIOOBE_FORMATTER isr_sv_SIOOBE_FORMATTER p e ha hc hk s m _ below hf ((Spec.applies_iff_loose hf).mp happ).1 ⟨rfl, State.Warmed39.refl s, rfl, hCH, fun _ hx => nomatch hx⟩ trivial
  refine ⟨n, _, h1, h2, h3, hpost _ _ _ _ _ _ ⟨Cond.after_iff.mpr rfl, Cond.after_iff.mpr (eq_i res_at (Term.int_eval (1)) rfl), trivial⟩ ⟨hq.1, hq.2.1, hq.2.2.1, (hq.2.2.2.sift fun y hy => Or.inr (N y hy)).mono (by decide) (by decide)⟩⟩
theorem main_1_1 : Claimed_1_1 := comes_1 fun _ _ _ _ _ _ h hF => ⟨h.1, hF⟩
theorem main_1_2 : Claimed_1_2 := comes_1 fun _ _ _ _ _ _ h hF => ⟨h.2.1, hF⟩
end Jvm.Pilot.@@N@@
namespace Jvm.Pilot.@@N@@
open Jvm Jvm.ClassFile Sem Op Lib Jvm.Free Jvm.Stand Jvm.Pilot.@@N@@.Jvm.D
/-! MADE BY PROGRAM (witnessworld.py) out of the Statement's table words and the real class files: 21 classes; the members and pool entries that the words name. The judged class is class 1, her method 3. -/
namespace start1
open Jvm.ClassFile
def u (s : String) : CpInfo := .utf8 (stringToUtf16 s)
/-- a pool by its gaps: so many unusable entries, then the entry; so many at the end -/
def gap : Nat → List CpInfo → List CpInfo
  | 0, r => r
  | n + 1, r => .unusable :: gap n r
def poolList (es : List (Nat × CpInfo)) (last : Nat) : List CpInfo := es.foldr (fun e r => gap e.1 (e.2 :: r)) (gap last [])
def pool (es : List (Nat × CpInfo)) (last : Nat) : Array CpInfo := ⟨poolList es last⟩
def fileOf (pool : Array CpInfo) (this : Nat) (attrs : Array Attribute := #[]) (ms : Array MethodInfo := #[]) (fl : Nat := 33) (sup : Nat := 0) (ifs : Array Nat := #[]) (fds : Array FieldInfo := #[]) : ClassFile where
  minorVersion := 0
  majorVersion := 65
  constantPool := pool
  accessFlags := fl
  thisClass := this
  superClass := sup
  interfaces := ifs
  fields := fds
  methods := ms
  attributes := attrs
def plain (name : String) (sup : Option ClassId) : Class where
  name := name
  kind := .ordinary
  loader := none
  accessFlags := 33
  super := sup
  interfaces := #[]
  cf := none
  fields := #[]
  methods := #[]
  instanceTypes := #[]
  staticTypes := #[]
  resolved := #[]
  callSites := []
  init := .initialized
  statics := none
  mirror := none

def pool0 : Array CpInfo := pool [(5, u "<init>"), (0, u "()V"), (1, .class_ 10), (1, u "java/lang/Object")] 113

def k0c0 : Code := { maxStack := 0, maxLocals := 1, code := object_method_1_code, exceptionTable := #[], attributes := #[] }
def k0m0 : Method := { name := "<init>", desc := "()V", sig := { parameters := [], returnType := none }, accessFlags := 1, code := some k0c0 }
/-- java/lang/Object -/
def k0 : Class := { plain "java/lang/Object" none with
  accessFlags := 33
  interfaces := #[]
  cf := some (fileOf pool0 8 #[] #[{ accessFlags := 1, nameIndex := 5, descriptorIndex := 6, attributes := #[] }] 33 0 #[] #[])
  fields := #[]
  methods := #[k0m0]
  instanceTypes := #[]
  staticTypes := #[]
  resolved := Array.replicate 124 none
  statics := none }

def pool1 : Array CpInfo := pool [(2, .class_ 4), (1, u "java/lang/Object"), (0, u "<init>"), (0, u "()V"), (0, .long 31), (1, .integer 2147483647), (0, .long 1099511627775), (1, .methodref 13 14), (0, .class_ 15), (0, .nameAndType 16 17), (0, u "com/example/tryst/tryst/encoding/Base32DecodePinLaw"), (0, u "digit"), (0, u "(JI)C"), (0, .class_ 19), (0, u "java/lang/String"), (0, .methodref 18 21), (0, .nameAndType 5 22), (0, u "([C)V"), (0, .methodref 24 25), (0, .class_ 26), (0, .nameAndType 27 28), (0, u "com/example/tryst/tryst/encoding/Base32"), (0, u "decode"), (0, u "(Ljava/lang/String;)[B"), (0, .methodref 13 30), (0, .nameAndType 31 32), (0, u "byteOk"), (0, u "([BJII)Z"), (3, u "law"), (0, u "(JI)Z")] 6

def k1m0 : Method := { name := "<init>", desc := "()V", sig := { parameters := [], returnType := none }, accessFlags := 1, code := none }
def k1c1 : Code := { maxStack := 5, maxLocals := 4, code := method_2_code, exceptionTable := #[], attributes := #[] }
def k1m1 : Method := { name := "digit", desc := "(JI)C", sig := { parameters := [.long, .int], returnType := some .char }, accessFlags := 10, code := some k1c1 }
def k1c2 : Code := { maxStack := 6, maxLocals := 5, code := method_3_code, exceptionTable := #[], attributes := #[] }
def k1m2 : Method := { name := "byteOk", desc := "([BJII)Z", sig := { parameters := [(.array .byte), .long, .int, .int], returnType := some .boolean }, accessFlags := 10, code := some k1c2 }
def k1c3 : Code := { maxStack := 5, maxLocals := 18, code := code, exceptionTable := #[], attributes := #[] }
def k1m3 : Method := { name := "law", desc := "(JI)Z", sig := { parameters := [.long, .int], returnType := some .boolean }, accessFlags := 9, code := some k1c3 }
/-- com/example/tryst/tryst/encoding/Base32DecodePinLaw -/
def k1 : Class := { plain "com/example/tryst/tryst/encoding/Base32DecodePinLaw" (some 0) with
  accessFlags := 49
  interfaces := #[]
  cf := some (fileOf pool1 13 #[] #[{ accessFlags := 1, nameIndex := 5, descriptorIndex := 6, attributes := #[] }, { accessFlags := 10, nameIndex := 16, descriptorIndex := 17, attributes := #[] }, { accessFlags := 10, nameIndex := 31, descriptorIndex := 32, attributes := #[] }, { accessFlags := 9, nameIndex := 36, descriptorIndex := 37, attributes := #[] }] 49 2 #[] #[])
  fields := #[]
  methods := #[k1m0, k1m1, k1m2, k1m3]
  instanceTypes := #[]
  staticTypes := #[]
  resolved := Array.replicate 44 none
  statics := none }

def pool2 : Array CpInfo := pool [(1, .class_ 2), (0, u "java/io/Serializable"), (0, .class_ 4), (0, u "java/lang/Object")] 2

/-- java/io/Serializable -/
def k2 : Class := { plain "java/io/Serializable" (some 0) with
  accessFlags := 1537
  interfaces := #[]
  cf := some (fileOf pool2 1 #[] #[] 1537 3 #[] #[])
  fields := #[]
  methods := #[]
  instanceTypes := #[]
  staticTypes := #[]
  resolved := Array.replicate 7 none
  statics := none }

def pool3 : Array CpInfo := pool [(1, .class_ 2), (0, u "java/lang/Comparable"), (0, .class_ 4), (0, u "java/lang/Object")] 7

/-- java/lang/Comparable -/
def k3 : Class := { plain "java/lang/Comparable" (some 0) with
  accessFlags := 1537
  interfaces := #[]
  cf := some (fileOf pool3 1 #[] #[] 1537 3 #[] #[])
  fields := #[]
  methods := #[]
  instanceTypes := #[]
  staticTypes := #[]
  resolved := Array.replicate 12 none
  statics := none }

def pool4 : Array CpInfo := pool [(2, .class_ 4), (1, u "java/lang/CharSequence"), (42, .class_ 48), (0, u "java/lang/CharSequence$1CodePointIterator"), (10, .class_ 60), (0, u "java/lang/CharSequence$1CharIterator"), (5, .class_ 67), (0, u "java/lang/Object")] 63

/-- java/lang/CharSequence -/
def k4 : Class := { plain "java/lang/CharSequence" (some 0) with
  accessFlags := 1537
  interfaces := #[]
  cf := some (fileOf pool4 2 #[.nestMembers #[47, 59]] #[] 1537 66 #[] #[])
  fields := #[]
  methods := #[]
  instanceTypes := #[]
  staticTypes := #[]
  resolved := Array.replicate 131 none
  statics := none }

def pool5 : Array CpInfo := pool [(1, .class_ 2), (0, u "java/lang/constant/Constable"), (0, .class_ 4), (0, u "java/lang/Object")] 6

/-- java/lang/constant/Constable -/
def k5 : Class := { plain "java/lang/constant/Constable" (some 0) with
  accessFlags := 1537
  interfaces := #[]
  cf := some (fileOf pool5 1 #[] #[] 1537 3 #[] #[])
  fields := #[]
  methods := #[]
  instanceTypes := #[]
  staticTypes := #[]
  resolved := Array.replicate 11 none
  statics := none }

def pool6 : Array CpInfo := pool [(1, .class_ 2), (0, u "java/lang/constant/ConstantDesc"), (0, .class_ 4), (0, u "java/lang/Object")] 32

/-- java/lang/constant/ConstantDesc -/
def k6 : Class := { plain "java/lang/constant/ConstantDesc" (some 0) with
  accessFlags := 1537
  interfaces := #[]
  cf := some (fileOf pool6 1 #[] #[] 1537 3 #[] #[])
  fields := #[]
  methods := #[]
  instanceTypes := #[]
  staticTypes := #[]
  resolved := Array.replicate 37 none
  statics := none }

def pool7 : Array CpInfo := pool [(1, .methodref 2 3), (0, .class_ 4), (0, .nameAndType 5 6), (0, u "java/lang/Object"), (0, u "<init>"), (0, u "()V"), (0, .string 8), (0, u ""), (0, .fieldref 10 11), (0, .class_ 12), (0, .nameAndType 13 14), (0, u "java/lang/String"), (0, u "value"), (0, u "[B"), (0, .fieldref 10 16), (0, .nameAndType 17 18), (0, u "coder"), (0, u "B"), (2, u "hash"), (0, u "I"), (2, u "hashIsZero"), (0, u "Z"), (0, .methodref 10 28), (0, .nameAndType 5 29), (0, u "([CIILjava/lang/Void;)V"), (8, .fieldref 10 39), (0, .nameAndType 40 26), (0, u "COMPACT_STRINGS"), (1, .class_ 44), (1, u "java/lang/StringUTF16"), (0, u "compress"), (1, .methodref 42 48), (0, .nameAndType 49 50), (0, u "coderFromArrayLen"), (0, u "([BI)B"), (56, .class_ 109), (1, u "java/lang/StringLatin1"), (32, u "()Z"), (34, .methodref 42 178), (0, .nameAndType 45 179), (0, u "([CII)[B"), (154, u "()I"), (0, .methodref 10 336), (0, .nameAndType 17 337), (0, u "()B"), (25, u "([BI)C"), (27, u "(II)V"), (35, u "(I)C"), (64, .methodref 10 493), (0, .nameAndType 494 142), (0, u "isLatin1"), (0, .methodref 107 496), (0, .nameAndType 497 363), (0, u "charAt"), (3, u "checkIndex"), (3, .methodref 10 506), (0, .nameAndType 507 334), (0, u "length"), (67, .class_ 576), (0, u "java/lang/CharSequence"), (22, u "CASE_INSENSITIVE_ORDER"), (0, u "Ljava/util/Comparator;"), (32, .methodref 10 634), (0, .nameAndType 635 636), (0, u "indexOf"), (0, u "(II)I"), (0, .methodref 107 638), (0, .nameAndType 635 639), (0, u "([BIII)I"), (125, u "(I)I"), (244, u "([C)V"), (42, .fieldref 1054 1055), (0, .class_ 1056), (0, .nameAndType 1057 1058), (0, u "jdk/internal/util/Preconditions"), (0, u "SIOOBE_FORMATTER"), (0, u "Ljava/util/function/BiFunction;"), (0, .methodref 1054 1060), (0, .nameAndType 501 1061), (0, u "(IILjava/util/function/BiFunction;)I"), (39, u "serialPersistentFields"), (0, u "[Ljava/io/ObjectStreamField;"), (0, .class_ 1104), (0, u "java/lang/String$CaseInsensitiveComparator"), (1, .class_ 1107), (0, u "java/io/Serializable"), (0, .class_ 1109), (0, u "java/lang/Comparable"), (0, .class_ 1111), (0, u "java/lang/constant/Constable"), (0, .class_ 1113), (0, u "java/lang/constant/ConstantDesc"), (2, u "serialVersionUID"), (0, u "J"), (3, u "REPL"), (0, u "C"), (2, u "LATIN1"), (1, u "UTF16")] 323

def k7m0 : Method := { name := "<init>", desc := "()V", sig := { parameters := [], returnType := none }, accessFlags := 1, code := none }
def k7c1 : Code := { maxStack := 5, maxLocals := 2, code := jdk_42_method_3_code, exceptionTable := #[], attributes := #[] }
def k7m1 : Method := { name := "<init>", desc := "([C)V", sig := { parameters := [(.array .char)], returnType := none }, accessFlags := 1, code := some k7c1 }
def k7c2 : Code := { maxStack := 2, maxLocals := 1, code := jdk_42_method_54_code, exceptionTable := #[], attributes := #[] }
def k7m2 : Method := { name := "length", desc := "()I", sig := { parameters := [], returnType := some .int }, accessFlags := 1, code := some k7c2 }
def k7c3 : Code := { maxStack := 2, maxLocals := 2, code := jdk_42_method_56_code, exceptionTable := #[], attributes := #[] }
def k7m3 : Method := { name := "charAt", desc := "(I)C", sig := { parameters := [.int], returnType := some .char }, accessFlags := 1, code := some k7c3 }
def k7c4 : Code := { maxStack := 3, maxLocals := 2, code := jdk_42_method_79_code, exceptionTable := #[], attributes := #[] }
def k7m4 : Method := { name := "indexOf", desc := "(I)I", sig := { parameters := [.int], returnType := some .int }, accessFlags := 1, code := some k7c4 }
def k7c5 : Code := { maxStack := 4, maxLocals := 3, code := jdk_42_method_80_code, exceptionTable := #[], attributes := #[] }
def k7m5 : Method := { name := "indexOf", desc := "(II)I", sig := { parameters := [.int, .int], returnType := some .int }, accessFlags := 1, code := some k7c5 }
def k7c6 : Code := { maxStack := 4, maxLocals := 6, code := jdk_42_method_149_code, exceptionTable := #[], attributes := #[] }
def k7m6 : Method := { name := "<init>", desc := "([CIILjava/lang/Void;)V", sig := { parameters := [(.array .char), .int, .int, (.object "java/lang/Void")], returnType := none }, accessFlags := 2, code := some k7c6 }
def k7c7 : Code := { maxStack := 1, maxLocals := 1, code := jdk_42_method_152_code, exceptionTable := #[], attributes := #[] }
def k7m7 : Method := { name := "coder", desc := "()B", sig := { parameters := [], returnType := some .byte }, accessFlags := 0, code := some k7c7 }
def k7c8 : Code := { maxStack := 1, maxLocals := 1, code := jdk_42_method_154_code, exceptionTable := #[], attributes := #[] }
def k7m8 : Method := { name := "isLatin1", desc := "()Z", sig := { parameters := [], returnType := some .boolean }, accessFlags := 0, code := some k7c8 }
def k7c9 : Code := { maxStack := 3, maxLocals := 2, code := jdk_42_method_155_code, exceptionTable := #[], attributes := #[] }
def k7m9 : Method := { name := "checkIndex", desc := "(II)V", sig := { parameters := [.int, .int], returnType := none }, accessFlags := 8, code := some k7c9 }
/-- java/lang/String -/
def k7 : Class := { plain "java/lang/String" (some 0) with
  accessFlags := 49
  interfaces := #[2, 3, 4, 5, 6]
  cf := some (fileOf pool7 10 #[.nestMembers #[1103]] #[{ accessFlags := 1, nameIndex := 5, descriptorIndex := 6, attributes := #[] }, { accessFlags := 1, nameIndex := 5, descriptorIndex := 1010, attributes := #[] }, { accessFlags := 1, nameIndex := 507, descriptorIndex := 334, attributes := #[] }, { accessFlags := 1, nameIndex := 497, descriptorIndex := 427, attributes := #[] }, { accessFlags := 1, nameIndex := 635, descriptorIndex := 765, attributes := #[] }, { accessFlags := 1, nameIndex := 635, descriptorIndex := 636, attributes := #[] }, { accessFlags := 2, nameIndex := 5, descriptorIndex := 29, attributes := #[] }, { accessFlags := 0, nameIndex := 17, descriptorIndex := 337, attributes := #[] }, { accessFlags := 0, nameIndex := 494, descriptorIndex := 142, attributes := #[] }, { accessFlags := 8, nameIndex := 501, descriptorIndex := 391, attributes := #[] }] 49 2 #[1106, 1108, 575, 1110, 1112] #[{ accessFlags := 18, nameIndex := 13, descriptorIndex := 14, attributes := #[] }, { accessFlags := 18, nameIndex := 17, descriptorIndex := 18, attributes := #[] }, { accessFlags := 2, nameIndex := 21, descriptorIndex := 22, attributes := #[] }, { accessFlags := 2, nameIndex := 25, descriptorIndex := 26, attributes := #[] }, { accessFlags := 26, nameIndex := 1116, descriptorIndex := 1117, attributes := #[] }, { accessFlags := 24, nameIndex := 40, descriptorIndex := 26, attributes := #[] }, { accessFlags := 26, nameIndex := 1101, descriptorIndex := 1102, attributes := #[] }, { accessFlags := 26, nameIndex := 1121, descriptorIndex := 1122, attributes := #[] }, { accessFlags := 25, nameIndex := 599, descriptorIndex := 600, attributes := #[] }, { accessFlags := 24, nameIndex := 1125, descriptorIndex := 18, attributes := #[] }, { accessFlags := 24, nameIndex := 1127, descriptorIndex := 18, attributes := #[] }])
  fields := #[{ name := "value", type := (.array .byte), accessFlags := 18, slot := 0, constantValue := 0 }, { name := "coder", type := .byte, accessFlags := 18, slot := 1, constantValue := 0 }, { name := "hash", type := .int, accessFlags := 2, slot := 2, constantValue := 0 }, { name := "hashIsZero", type := .boolean, accessFlags := 2, slot := 3, constantValue := 0 }, { name := "serialVersionUID", type := .long, accessFlags := 26, slot := 0, constantValue := 0 }, { name := "COMPACT_STRINGS", type := .boolean, accessFlags := 24, slot := 1, constantValue := 0 }, { name := "serialPersistentFields", type := (.array (.object "java/io/ObjectStreamField")), accessFlags := 26, slot := 2, constantValue := 0 }, { name := "REPL", type := .char, accessFlags := 26, slot := 3, constantValue := 0 }, { name := "CASE_INSENSITIVE_ORDER", type := (.object "java/util/Comparator"), accessFlags := 25, slot := 4, constantValue := 0 }, { name := "LATIN1", type := .byte, accessFlags := 24, slot := 5, constantValue := 0 }, { name := "UTF16", type := .byte, accessFlags := 24, slot := 6, constantValue := 0 }]
  methods := #[k7m0, k7m1, k7m2, k7m3, k7m4, k7m5, k7m6, k7m7, k7m8, k7m9]
  instanceTypes := #[(.array .byte), .byte, .int, .boolean]
  staticTypes := #[.long, .boolean, (.array (.object "java/io/ObjectStreamField")), .char, (.object "java/util/Comparator"), .byte, .byte]
  resolved := Array.replicate 1451 none
  statics := some 0 }

def pool8 : Array CpInfo := pool [(6, .class_ 8), (1, u "java/lang/Object"), (0, u "<init>"), (0, u "()V"), (1, .class_ 14), (1, u "java/lang/StringUTF16"), (31, u "$assertionsDisabled"), (0, u "Z"), (13, u "HI_BYTE_SHIFT"), (0, u "I"), (2, u "LO_BYTE_SHIFT"), (49, .methodref 12 116), (0, .nameAndType 117 118), (0, u "compress"), (0, u "([CI[BII)I"), (3, u "([CII)[B"), (138, u "coderFromArrayLen"), (0, u "([BI)B"), (106, .class_ 371), (1, u "java/lang/StringUTF16$LinesSpliterator"), (58, u "MAX_LENGTH"), (196, .class_ 628), (0, u "java/lang/StringUTF16$CodePointsSpliterator"), (0, .class_ 630), (0, u "java/lang/StringUTF16$CharsSpliterator")] 4

def k8m0 : Method := { name := "<init>", desc := "()V", sig := { parameters := [], returnType := none }, accessFlags := 0, code := none }
def k8c1 : Code := { maxStack := 2, maxLocals := 2, code := jdk_52_method_15_code, exceptionTable := #[], attributes := #[] }
def k8m1 : Method := { name := "coderFromArrayLen", desc := "([BI)B", sig := { parameters := [(.array .byte), .int], returnType := some .byte }, accessFlags := 8, code := some k8c1 }
def k8c2 : Code := { maxStack := 5, maxLocals := 6, code := jdk_52_method_16_code, exceptionTable := #[], attributes := #[] }
def k8m2 : Method := { name := "compress", desc := "([CII)[B", sig := { parameters := [(.array .char), .int, .int], returnType := some (.array .byte) }, accessFlags := 9, code := some k8c2 }
def k8c3 : Code := { maxStack := 3, maxLocals := 7, code := jdk_52_method_21_code, exceptionTable := #[], attributes := #[] }
def k8m3 : Method := { name := "compress", desc := "([CI[BII)I", sig := { parameters := [(.array .char), .int, (.array .byte), .int, .int], returnType := some .int }, accessFlags := 9, code := some k8c3 }
/-- java/lang/StringUTF16 -/
def k8 : Class := { plain "java/lang/StringUTF16" (some 0) with
  accessFlags := 48
  interfaces := #[]
  cf := some (fileOf pool8 12 #[.nestMembers #[627, 629, 369]] #[{ accessFlags := 0, nameIndex := 9, descriptorIndex := 10, attributes := #[] }, { accessFlags := 8, nameIndex := 261, descriptorIndex := 262, attributes := #[] }, { accessFlags := 9, nameIndex := 117, descriptorIndex := 122, attributes := #[] }, { accessFlags := 9, nameIndex := 117, descriptorIndex := 118, attributes := #[] }] 48 6 #[] #[{ accessFlags := 26, nameIndex := 61, descriptorIndex := 62, attributes := #[] }, { accessFlags := 26, nameIndex := 65, descriptorIndex := 62, attributes := #[] }, { accessFlags := 24, nameIndex := 430, descriptorIndex := 62, attributes := #[] }, { accessFlags := 4120, nameIndex := 46, descriptorIndex := 47, attributes := #[] }])
  fields := #[{ name := "HI_BYTE_SHIFT", type := .int, accessFlags := 26, slot := 0, constantValue := 0 }, { name := "LO_BYTE_SHIFT", type := .int, accessFlags := 26, slot := 1, constantValue := 0 }, { name := "MAX_LENGTH", type := .int, accessFlags := 24, slot := 2, constantValue := 0 }, { name := "$assertionsDisabled", type := .boolean, accessFlags := 4120, slot := 3, constantValue := 0 }]
  methods := #[k8m0, k8m1, k8m2, k8m3]
  instanceTypes := #[]
  staticTypes := #[.int, .int, .int, .boolean]
  resolved := Array.replicate 635 none
  statics := none }

def pool9 : Array CpInfo := pool [(2, .class_ 4), (1, u "java/lang/Object"), (0, u "<init>"), (0, u "()V"), (0, .methodref 8 9), (0, .class_ 10), (0, .nameAndType 11 12), (0, u "java/lang/String"), (0, u "length"), (0, u "()I"), (9, .class_ 23), (0, u "com/example/tryst/tryst/encoding/Base32"), (0, .string 25), (0, u "abcdefghijklmnopqrstuvwxyz234567"), (0, .methodref 8 27), (0, .nameAndType 28 29), (0, u "charAt"), (0, u "(I)C"), (0, .methodref 8 31), (0, .nameAndType 32 33), (0, u "indexOf"), (0, u "(I)I"), (5, u "ALPHABET"), (0, u "Ljava/lang/String;"), (3, u "decode"), (0, u "(Ljava/lang/String;)[B")] 22

def k9m0 : Method := { name := "<init>", desc := "()V", sig := { parameters := [], returnType := none }, accessFlags := 2, code := none }
def k9c1 : Code := { maxStack := 4, maxLocals := 7, code := prog_8_method_2_code, exceptionTable := #[], attributes := #[] }
def k9m1 : Method := { name := "decode", desc := "(Ljava/lang/String;)[B", sig := { parameters := [(.object "java/lang/String")], returnType := some (.array .byte) }, accessFlags := 9, code := some k9c1 }
/-- com/example/tryst/tryst/encoding/Base32 -/
def k9 : Class := { plain "com/example/tryst/tryst/encoding/Base32" (some 0) with
  accessFlags := 49
  interfaces := #[]
  cf := some (fileOf pool9 22 #[] #[{ accessFlags := 2, nameIndex := 5, descriptorIndex := 6, attributes := #[] }, { accessFlags := 9, nameIndex := 44, descriptorIndex := 45, attributes := #[] }] 49 2 #[] #[{ accessFlags := 26, nameIndex := 39, descriptorIndex := 40, attributes := #[] }])
  fields := #[{ name := "ALPHABET", type := (.object "java/lang/String"), accessFlags := 26, slot := 0, constantValue := 0 }]
  methods := #[k9m0, k9m1]
  instanceTypes := #[]
  staticTypes := #[(.object "java/lang/String")]
  resolved := Array.replicate 68 none
  statics := none }

def pool10 : Array CpInfo := pool [(1, .class_ 2), (0, u "java/lang/String"), (1, .class_ 6), (1, u "java/lang/Object"), (0, u "<init>"), (0, u "()V"), (0, .methodref 1 10), (0, .nameAndType 11 12), (0, u "checkIndex"), (0, u "(II)V"), (1, .class_ 16), (1, u "java/lang/StringLatin1"), (21, .methodref 39 40), (0, .class_ 41), (0, .nameAndType 42 43), (0, u "java/lang/Math"), (0, u "min"), (0, u "(II)I"), (9, u "([BI)C"), (34, .methodref 14 89), (0, .nameAndType 90 91), (0, u "canEncode"), (0, u "(I)Z"), (0, .methodref 39 93), (0, .nameAndType 94 43), (0, u "max"), (0, .methodref 14 96), (0, .nameAndType 97 98), (0, u "indexOfChar"), (0, u "([BIII)I"), (2, u "indexOf"), (19, u "$assertionsDisabled"), (0, u "Z"), (98, .class_ 223), (1, u "java/lang/StringLatin1$LinesSpliterator"), (28, u "charAt"), (137, .class_ 391), (0, u "java/lang/StringLatin1$CharsSpliterator")] 3

def k10m0 : Method := { name := "<init>", desc := "()V", sig := { parameters := [], returnType := none }, accessFlags := 0, code := none }
def k10c1 : Code := { maxStack := 2, maxLocals := 2, code := jdk_43_method_2_code, exceptionTable := #[], attributes := #[] }
def k10m1 : Method := { name := "charAt", desc := "([BI)C", sig := { parameters := [(.array .byte), .int], returnType := some .char }, accessFlags := 9, code := some k10c1 }
def k10c2 : Code := { maxStack := 2, maxLocals := 1, code := jdk_43_method_4_code, exceptionTable := #[], attributes := #[] }
def k10m2 : Method := { name := "canEncode", desc := "(I)Z", sig := { parameters := [.int], returnType := some .boolean }, accessFlags := 9, code := some k10c2 }
def k10c3 : Code := { maxStack := 4, maxLocals := 4, code := jdk_43_method_22_code, exceptionTable := #[], attributes := #[] }
def k10m3 : Method := { name := "indexOf", desc := "([BIII)I", sig := { parameters := [(.array .byte), .int, .int, .int], returnType := some .int }, accessFlags := 9, code := some k10c3 }
def k10c4 : Code := { maxStack := 2, maxLocals := 6, code := jdk_43_method_23_code, exceptionTable := #[], attributes := #[] }
def k10m4 : Method := { name := "indexOfChar", desc := "([BIII)I", sig := { parameters := [(.array .byte), .int, .int, .int], returnType := some .int }, accessFlags := 10, code := some k10c4 }
/-- java/lang/StringLatin1 -/
def k10 : Class := { plain "java/lang/StringLatin1" (some 0) with
  accessFlags := 48
  interfaces := #[]
  cf := some (fileOf pool10 14 #[.nestMembers #[390, 221]] #[{ accessFlags := 0, nameIndex := 7, descriptorIndex := 8, attributes := #[] }, { accessFlags := 9, nameIndex := 252, descriptorIndex := 53, attributes := #[] }, { accessFlags := 9, nameIndex := 90, descriptorIndex := 91, attributes := #[] }, { accessFlags := 9, nameIndex := 101, descriptorIndex := 98, attributes := #[] }, { accessFlags := 10, nameIndex := 97, descriptorIndex := 98, attributes := #[] }] 48 4 #[] #[{ accessFlags := 4120, nameIndex := 121, descriptorIndex := 122, attributes := #[] }])
  fields := #[{ name := "$assertionsDisabled", type := .boolean, accessFlags := 4120, slot := 0, constantValue := 0 }]
  methods := #[k10m0, k10m1, k10m2, k10m3, k10m4]
  instanceTypes := #[]
  staticTypes := #[.boolean]
  resolved := Array.replicate 395 none
  statics := none }

def pool11 : Array CpInfo := pool [(2, .class_ 4), (1, u "java/lang/Object"), (0, u "<init>"), (0, u "()V"), (17, .class_ 26), (1, u "jdk/internal/util/Preconditions"), (6, u "checkIndex"), (21, .class_ 56), (0, u "jdk/internal/util/Preconditions$4"), (57, .class_ 115), (0, u "jdk/internal/util/Preconditions$1"), (7, u "SIOOBE_FORMATTER"), (0, u "Ljava/util/function/BiFunction;"), (0, .class_ 126), (0, u "jdk/internal/util/Preconditions$2"), (3, u "AIOOBE_FORMATTER"), (0, .class_ 132), (0, u "jdk/internal/util/Preconditions$3"), (3, u "IOOBE_FORMATTER"), (41, u "(IILjava/util/function/BiFunction;)I")] 15

def k11m0 : Method := { name := "<init>", desc := "()V", sig := { parameters := [], returnType := none }, accessFlags := 1, code := none }
def k11c1 : Code := { maxStack := 3, maxLocals := 3, code := jdk_41_method_11_code, exceptionTable := #[], attributes := #[] }
def k11m1 : Method := { name := "checkIndex", desc := "(IILjava/util/function/BiFunction;)I", sig := { parameters := [.int, .int, (.object "java/util/function/BiFunction")], returnType := some .int }, accessFlags := 9, code := some k11c1 }
/-- jdk/internal/util/Preconditions -/
def k11 : Class := { plain "jdk/internal/util/Preconditions" (some 0) with
  accessFlags := 33
  interfaces := #[]
  cf := some (fileOf pool11 24 #[.nestMembers #[55, 131, 125, 114]] #[{ accessFlags := 1, nameIndex := 5, descriptorIndex := 6, attributes := #[] }, { accessFlags := 9, nameIndex := 33, descriptorIndex := 178, attributes := #[] }] 33 2 #[] #[{ accessFlags := 25, nameIndex := 123, descriptorIndex := 124, attributes := #[] }, { accessFlags := 25, nameIndex := 130, descriptorIndex := 124, attributes := #[] }, { accessFlags := 25, nameIndex := 136, descriptorIndex := 124, attributes := #[] }])
  fields := #[{ name := "SIOOBE_FORMATTER", type := (.object "java/util/function/BiFunction"), accessFlags := 25, slot := 0, constantValue := 0 }, { name := "AIOOBE_FORMATTER", type := (.object "java/util/function/BiFunction"), accessFlags := 25, slot := 1, constantValue := 0 }, { name := "IOOBE_FORMATTER", type := (.object "java/util/function/BiFunction"), accessFlags := 25, slot := 2, constantValue := 0 }]
  methods := #[k11m0, k11m1]
  instanceTypes := #[]
  staticTypes := #[(.object "java/util/function/BiFunction"), (.object "java/util/function/BiFunction"), (.object "java/util/function/BiFunction")]
  resolved := Array.replicate 194 none
  statics := some 1 }

def pool12 : Array CpInfo := pool [(1, .class_ 2), (0, u "java/lang/Math"), (1, .class_ 6), (1, u "java/lang/Object"), (0, u "<init>"), (0, u "()V"), (89, .class_ 100), (1, u "java/lang/Math$RandomNumberGeneratorHolder"), (71, u "negativeZeroFloatBits"), (0, u "J"), (2, u "negativeZeroDoubleBits"), (21, u "max"), (2, u "min"), (43, u "$assertionsDisabled"), (0, u "Z"), (88, u "(II)I"), (2, u "twoToTheDoubleScaleDown"), (0, u "D"), (4, u "twoToTheDoubleScaleUp"), (9, u "E"), (3, u "PI"), (2, u "TAU"), (2, u "DEGREES_TO_RADIANS"), (0, u "RADIANS_TO_DEGREES")] 94

def k12m0 : Method := { name := "<init>", desc := "()V", sig := { parameters := [], returnType := none }, accessFlags := 2, code := none }
def k12c1 : Code := { maxStack := 2, maxLocals := 2, code := jdk_29_method_65_code, exceptionTable := #[], attributes := #[] }
def k12m1 : Method := { name := "max", desc := "(II)I", sig := { parameters := [.int, .int], returnType := some .int }, accessFlags := 9, code := some k12c1 }
def k12c2 : Code := { maxStack := 2, maxLocals := 2, code := jdk_29_method_69_code, exceptionTable := #[], attributes := #[] }
def k12m2 : Method := { name := "min", desc := "(II)I", sig := { parameters := [.int, .int], returnType := some .int }, accessFlags := 9, code := some k12c2 }
/-- java/lang/Math -/
def k12 : Class := { plain "java/lang/Math" (some 0) with
  accessFlags := 49
  interfaces := #[]
  cf := some (fileOf pool12 1 #[.nestMembers #[98]] #[{ accessFlags := 2, nameIndex := 7, descriptorIndex := 8, attributes := #[] }, { accessFlags := 9, nameIndex := 198, descriptorIndex := 335, attributes := #[] }, { accessFlags := 9, nameIndex := 201, descriptorIndex := 335, attributes := #[] }] 49 4 #[] #[{ accessFlags := 25, nameIndex := 354, descriptorIndex := 339, attributes := #[] }, { accessFlags := 25, nameIndex := 358, descriptorIndex := 339, attributes := #[] }, { accessFlags := 25, nameIndex := 361, descriptorIndex := 339, attributes := #[] }, { accessFlags := 26, nameIndex := 364, descriptorIndex := 339, attributes := #[] }, { accessFlags := 26, nameIndex := 365, descriptorIndex := 339, attributes := #[] }, { accessFlags := 26, nameIndex := 172, descriptorIndex := 173, attributes := #[] }, { accessFlags := 26, nameIndex := 176, descriptorIndex := 173, attributes := #[] }, { accessFlags := 8, nameIndex := 344, descriptorIndex := 339, attributes := #[] }, { accessFlags := 8, nameIndex := 338, descriptorIndex := 339, attributes := #[] }, { accessFlags := 4120, nameIndex := 245, descriptorIndex := 246, attributes := #[] }])
  fields := #[{ name := "E", type := .double, accessFlags := 25, slot := 0, constantValue := 0 }, { name := "PI", type := .double, accessFlags := 25, slot := 1, constantValue := 0 }, { name := "TAU", type := .double, accessFlags := 25, slot := 2, constantValue := 0 }, { name := "DEGREES_TO_RADIANS", type := .double, accessFlags := 26, slot := 3, constantValue := 0 }, { name := "RADIANS_TO_DEGREES", type := .double, accessFlags := 26, slot := 4, constantValue := 0 }, { name := "negativeZeroFloatBits", type := .long, accessFlags := 26, slot := 5, constantValue := 0 }, { name := "negativeZeroDoubleBits", type := .long, accessFlags := 26, slot := 6, constantValue := 0 }, { name := "twoToTheDoubleScaleUp", type := .double, accessFlags := 8, slot := 7, constantValue := 0 }, { name := "twoToTheDoubleScaleDown", type := .double, accessFlags := 8, slot := 8, constantValue := 0 }, { name := "$assertionsDisabled", type := .boolean, accessFlags := 4120, slot := 9, constantValue := 0 }]
  methods := #[k12m0, k12m1, k12m2]
  instanceTypes := #[]
  staticTypes := #[.double, .double, .double, .double, .double, .long, .long, .double, .double, .boolean]
  resolved := Array.replicate 460 none
  statics := none }

def pool13 : Array CpInfo := pool [(9, u "<init>"), (6, .class_ 18), (1, u "java/lang/Object"), (0, u "()V"), (1, .class_ 23), (1, u "jdk/internal/util/ArraysSupport"), (0, u "LOG2_ARRAY_LONG_INDEX_SCALE"), (0, u "I"), (2, u "U"), (0, u "Ljdk/internal/misc/Unsafe;"), (8, u "BIG_ENDIAN"), (0, u "Z"), (8, u "LOG2_BYTE_BIT_SIZE"), (4, u "LOG2_ARRAY_INT_INDEX_SCALE"), (54, u "JLA"), (0, u "Ljdk/internal/access/JavaLangAccess;"), (11, u "LOG2_ARRAY_BOOLEAN_INDEX_SCALE"), (9, u "LOG2_ARRAY_BYTE_INDEX_SCALE"), (5, u "LOG2_ARRAY_CHAR_INDEX_SCALE"), (5, u "LOG2_ARRAY_SHORT_INDEX_SCALE"), (18, u "LOG2_ARRAY_FLOAT_INDEX_SCALE"), (24, u "LOG2_ARRAY_DOUBLE_INDEX_SCALE"), (89, u "T_BOOLEAN"), (2, u "T_CHAR"), (1, u "T_FLOAT"), (1, u "T_DOUBLE"), (1, u "T_BYTE"), (1, u "T_SHORT"), (1, u "T_INT"), (1, u "T_LONG"), (1, u "SOFT_MAX_ARRAY_LENGTH")] 83

def k13m0 : Method := { name := "<init>", desc := "()V", sig := { parameters := [], returnType := none }, accessFlags := 2, code := none }
/-- jdk/internal/util/ArraysSupport -/
def k13 : Class := { plain "jdk/internal/util/ArraysSupport" (some 0) with
  accessFlags := 33
  interfaces := #[]
  cf := some (fileOf pool13 21 #[] #[{ accessFlags := 2, nameIndex := 9, descriptorIndex := 19, attributes := #[] }] 33 16 #[] #[{ accessFlags := 24, nameIndex := 28, descriptorIndex := 29, attributes := #[] }, { accessFlags := 26, nameIndex := 38, descriptorIndex := 39, attributes := #[] }, { accessFlags := 25, nameIndex := 121, descriptorIndex := 25, attributes := #[] }, { accessFlags := 25, nameIndex := 131, descriptorIndex := 25, attributes := #[] }, { accessFlags := 25, nameIndex := 137, descriptorIndex := 25, attributes := #[] }, { accessFlags := 25, nameIndex := 143, descriptorIndex := 25, attributes := #[] }, { accessFlags := 25, nameIndex := 53, descriptorIndex := 25, attributes := #[] }, { accessFlags := 25, nameIndex := 24, descriptorIndex := 25, attributes := #[] }, { accessFlags := 25, nameIndex := 162, descriptorIndex := 25, attributes := #[] }, { accessFlags := 25, nameIndex := 187, descriptorIndex := 25, attributes := #[] }, { accessFlags := 26, nameIndex := 48, descriptorIndex := 25, attributes := #[] }, { accessFlags := 25, nameIndex := 277, descriptorIndex := 25, attributes := #[] }, { accessFlags := 25, nameIndex := 280, descriptorIndex := 25, attributes := #[] }, { accessFlags := 25, nameIndex := 282, descriptorIndex := 25, attributes := #[] }, { accessFlags := 25, nameIndex := 284, descriptorIndex := 25, attributes := #[] }, { accessFlags := 25, nameIndex := 286, descriptorIndex := 25, attributes := #[] }, { accessFlags := 25, nameIndex := 288, descriptorIndex := 25, attributes := #[] }, { accessFlags := 25, nameIndex := 290, descriptorIndex := 25, attributes := #[] }, { accessFlags := 25, nameIndex := 292, descriptorIndex := 25, attributes := #[] }, { accessFlags := 26, nameIndex := 108, descriptorIndex := 109, attributes := #[] }, { accessFlags := 25, nameIndex := 294, descriptorIndex := 25, attributes := #[] }])
  fields := #[{ name := "U", type := (.object "jdk/internal/misc/Unsafe"), accessFlags := 24, slot := 0, constantValue := 0 }, { name := "BIG_ENDIAN", type := .boolean, accessFlags := 26, slot := 1, constantValue := 0 }, { name := "LOG2_ARRAY_BOOLEAN_INDEX_SCALE", type := .int, accessFlags := 25, slot := 2, constantValue := 0 }, { name := "LOG2_ARRAY_BYTE_INDEX_SCALE", type := .int, accessFlags := 25, slot := 3, constantValue := 0 }, { name := "LOG2_ARRAY_CHAR_INDEX_SCALE", type := .int, accessFlags := 25, slot := 4, constantValue := 0 }, { name := "LOG2_ARRAY_SHORT_INDEX_SCALE", type := .int, accessFlags := 25, slot := 5, constantValue := 0 }, { name := "LOG2_ARRAY_INT_INDEX_SCALE", type := .int, accessFlags := 25, slot := 6, constantValue := 0 }, { name := "LOG2_ARRAY_LONG_INDEX_SCALE", type := .int, accessFlags := 25, slot := 7, constantValue := 0 }, { name := "LOG2_ARRAY_FLOAT_INDEX_SCALE", type := .int, accessFlags := 25, slot := 8, constantValue := 0 }, { name := "LOG2_ARRAY_DOUBLE_INDEX_SCALE", type := .int, accessFlags := 25, slot := 9, constantValue := 0 }, { name := "LOG2_BYTE_BIT_SIZE", type := .int, accessFlags := 26, slot := 10, constantValue := 0 }, { name := "T_BOOLEAN", type := .int, accessFlags := 25, slot := 11, constantValue := 0 }, { name := "T_CHAR", type := .int, accessFlags := 25, slot := 12, constantValue := 0 }, { name := "T_FLOAT", type := .int, accessFlags := 25, slot := 13, constantValue := 0 }, { name := "T_DOUBLE", type := .int, accessFlags := 25, slot := 14, constantValue := 0 }, { name := "T_BYTE", type := .int, accessFlags := 25, slot := 15, constantValue := 0 }, { name := "T_SHORT", type := .int, accessFlags := 25, slot := 16, constantValue := 0 }, { name := "T_INT", type := .int, accessFlags := 25, slot := 17, constantValue := 0 }, { name := "T_LONG", type := .int, accessFlags := 25, slot := 18, constantValue := 0 }, { name := "JLA", type := (.object "jdk/internal/access/JavaLangAccess"), accessFlags := 26, slot := 19, constantValue := 0 }, { name := "SOFT_MAX_ARRAY_LENGTH", type := .int, accessFlags := 25, slot := 20, constantValue := 0 }]
  methods := #[k13m0]
  instanceTypes := #[]
  staticTypes := #[(.object "jdk/internal/misc/Unsafe"), .boolean, .int, .int, .int, .int, .int, .int, .int, .int, .int, .int, .int, .int, .int, .int, .int, .int, .int, (.object "jdk/internal/access/JavaLangAccess"), .int]
  resolved := Array.replicate 378 none
  statics := none }

def pool14 : Array CpInfo := pool [(1, u "java/lang/Cloneable"), (0, .class_ 1), (0, u "java/lang/Object"), (0, .class_ 3)] 3

/-- java/lang/Cloneable -/
def k14 : Class := { plain "java/lang/Cloneable" (some 0) with
  accessFlags := 1537
  interfaces := #[]
  cf := some (fileOf pool14 2 #[] #[] 1537 4 #[] #[])
  fields := #[]
  methods := #[]
  instanceTypes := #[]
  staticTypes := #[]
  resolved := Array.replicate 8 none
  statics := none }

/-- the primitive byte -/
def k15 : Class := { plain "byte" none with kind := .primitive 'B', accessFlags := 0x411 }
/-- [B -/
def k16 : Class := { plain "[B" (some 0) with kind := .array 15 .byte, interfaces := #[14, 2], accessFlags := 1041 }

/-- the primitive char -/
def k17 : Class := { plain "char" none with kind := .primitive 'C', accessFlags := 0x411 }
/-- [C -/
def k18 : Class := { plain "[C" (some 0) with kind := .array 17 .char, interfaces := #[14, 2], accessFlags := 1041 }

/-- the primitive int -/
def k19 : Class := { plain "int" none with kind := .primitive 'I', accessFlags := 0x411 }
/-- [I -/
def k20 : Class := { plain "[I" (some 0) with kind := .array 19 .int, interfaces := #[14, 2], accessFlags := 1041 }

def heap : Heap := #[{ cls := 7, slots := #[.long 0, .int 1, .null, .int 0, .null, .int 0, .int 0], vm := .statics 7 },
  { cls := 11, slots := #[.null, .null, .null], vm := .statics 11 }]
def classes : Array Class := #[k0, k1, k2, k3, k4, k5, k6, k7, k8, k9, k10, k11, k12, k13, k14, k15, k16, k17, k18, k19, k20]
def interned : List (Array UInt16 × Addr) := []
def slotsUsed : Nat := 10
def theMethod : MethodId := ⟨1, 3⟩
def args0 : Array Value := #[.long 5, .int 6]
def aboutOver (below : List Frame) : State where
  vm := { classes := classes, interned := interned.toArray }
  heap := heap
  slotsUsed := slotsUsed
  threads := #[{ frames := .invoking theMethod args0 :: below }]
def below0 : List Frame := [.native { method := ⟨0, 0⟩, args := #[] }]
def about1 : State := aboutOver below0
def p0 : Program := .bare "" "" ""
def e0 : Env := launch0.env 0 0 0
theorem w_frames : about1.frames = Frame.invoking theMethod args0 :: below0 := rfl
set_option maxRecDepth 65536 in
theorem w_args : argsFit about1.vm theMethod args0 = true := by decide +kernel
set_option maxRecDepth 65536 in
theorem w_heap : heapFits about1 = true := by decide +kernel
set_option maxRecDepth 65536 in
theorem w_runnable : about1.curStatus? = some .runnable := by decide +kernel
set_option maxRecDepth 65536 in
theorem w_alone : about1.alone = true := by decide +kernel
set_option maxRecDepth 65536 in
theorem w_named : about1.methodNamed? x = some theMethod := by decide +kernel
set_option maxRecDepth 65536 in
theorem w_hears : about1.hears theMethod below0 = true := by decide +kernel
set_option maxRecDepth 65536 in
theorem w_ripe : about1.ripe theMethod args0 below0 = true := by decide +kernel
theorem w_running : about1.status = .running := rfl
set_option maxRecDepth 65536 in
theorem w_room : about1.hasRoom e0.platform room_1 = true :=
  launch0.hasRoom_least _ room_1 (by decide +kernel) (by decide +kernel) (by decide +kernel) (by decide +kernel) (by decide +kernel) (by decide +kernel)
theorem allAtoms_all (ts : List Jvm.Cond) (a : Array Jvm.Value) (st : Jvm.State) : (allAtoms ts).before a st = ts.all (fun c => c.before a st) := by
  induction ts with
  | nil => rfl
  | cons c t ih =>
    show (Jvm.Cond.and c (allAtoms t)).before a st = _
    rw [Jvm.Cond.before_and, ih, List.all_cons]
def words1 : List Jvm.Cond := Jvm.Cond.code x code maxLocals ret :: tables_1
/-- a 'code' word, met by the world's own term for the bytes: nothing is compared byte by byte -/
theorem code_word {y : MethodName} {bytes : ByteArray} {mx : Nat} {rt : Option FieldType} {a : Array Value} {s : State} {m : MethodId} {meth : Method} {c : Code} (h1 : s.methodNamed? y = some m) (h2 : s.vm.method? m = some meth) (h3 : meth.code = some c) (h4 : c.code = bytes)
    (h5 : (c.maxLocals == mx && c.exceptionTable.isEmpty && decide (c.maxStack ≤ mostOperands) && decide (meth.sig.returnType = rt) && !meth.locks && decide (parseMethodDescriptor y.desc = some meth.sig)) = true) : (Jvm.Cond.code y bytes mx rt).before a s = true := by
  simp only [Bool.and_eq_true, beq_iff_eq, Bool.not_eq_true', decide_eq_true_eq] at h5
  obtain ⟨⟨⟨⟨⟨g1, g2⟩, g3⟩, g4⟩, g5⟩, g6⟩ := h5
  simp [Cond.before, Cond.holds, Cond.value, h1, h2, h3, h4, g1, g2, g3, g4, g5, g6]
def isCode : Jvm.Cond → Bool
  | .code _ _ _ _ => true
  | _ => false
theorem all_split {L : List Jvm.Cond} {P : Jvm.Cond → Bool} (h1 : L.all (fun c => isCode c || P c) = true) (h2 : ∀ c ∈ L.filter isCode, P c = true) : L.all P = true := by
  refine List.all_eq_true.mpr fun c hc => ?_
  have h := List.all_eq_true.mp h1 c hc
  rcases Bool.eq_false_or_eq_true (isCode c) with hi | hi
  · exact h2 c (List.mem_filter.mpr ⟨hc, hi⟩)
  · simpa [hi] using h
set_option maxRecDepth 65536 in
theorem w_c0 : (Jvm.Cond.code x code maxLocals ret).before args0 about1 = true := code_word (m := ⟨1, 3⟩) (meth := k1m3) (c := k1c3) (by decide +kernel) rfl rfl rfl (by decide +kernel)
set_option maxRecDepth 65536 in
theorem w_c1 : (Jvm.Cond.code ({ cls := "com/example/tryst/tryst/encoding/Base32DecodePinLaw", name := "digit", desc := "(JI)C" } : Jvm.MethodName) method_2_code (4 : Nat) (Option.some Jvm.ClassFile.FieldType.char)).before args0 about1 = true := code_word (m := ⟨1, 1⟩) (meth := k1m1) (c := k1c1) (by decide +kernel) rfl rfl rfl (by decide +kernel)
set_option maxRecDepth 65536 in
theorem w_c2 : (Jvm.Cond.code ({ cls := "java/lang/String", name := "<init>", desc := "([C)V" } : Jvm.MethodName) jdk_42_method_3_code (2 : Nat) (Option.none : Option Jvm.ClassFile.FieldType)).before args0 about1 = true := code_word (m := ⟨7, 1⟩) (meth := k7m1) (c := k7c1) (by decide +kernel) rfl rfl rfl (by decide +kernel)
set_option maxRecDepth 65536 in
theorem w_c3 : (Jvm.Cond.code ({ cls := "java/lang/String", name := "<init>", desc := "([CIILjava/lang/Void;)V" } : Jvm.MethodName) jdk_42_method_149_code (6 : Nat) (Option.none : Option Jvm.ClassFile.FieldType)).before args0 about1 = true := code_word (m := ⟨7, 6⟩) (meth := k7m6) (c := k7c6) (by decide +kernel) rfl rfl rfl (by decide +kernel)
set_option maxRecDepth 65536 in
theorem w_c4 : (Jvm.Cond.code ({ cls := "java/lang/Object", name := "<init>", desc := "()V" } : Jvm.MethodName) object_method_1_code (1 : Nat) (Option.none : Option Jvm.ClassFile.FieldType)).before args0 about1 = true := code_word (m := ⟨0, 0⟩) (meth := k0m0) (c := k0c0) (by decide +kernel) rfl rfl rfl (by decide +kernel)
set_option maxRecDepth 65536 in
theorem w_c5 : (Jvm.Cond.code ({ cls := "java/lang/StringUTF16", name := "compress", desc := "([CII)[B" } : Jvm.MethodName) jdk_52_method_16_code (6 : Nat) (Option.some (Jvm.ClassFile.FieldType.array Jvm.ClassFile.FieldType.byte))).before args0 about1 = true := code_word (m := ⟨8, 2⟩) (meth := k8m2) (c := k8c2) (by decide +kernel) rfl rfl rfl (by decide +kernel)
set_option maxRecDepth 65536 in
theorem w_c6 : (Jvm.Cond.code ({ cls := "java/lang/StringUTF16", name := "compress", desc := "([CI[BII)I" } : Jvm.MethodName) jdk_52_method_21_code (7 : Nat) (Option.some Jvm.ClassFile.FieldType.int)).before args0 about1 = true := code_word (m := ⟨8, 3⟩) (meth := k8m3) (c := k8c3) (by decide +kernel) rfl rfl rfl (by decide +kernel)
set_option maxRecDepth 65536 in
theorem w_c7 : (Jvm.Cond.code ({ cls := "java/lang/StringUTF16", name := "coderFromArrayLen", desc := "([BI)B" } : Jvm.MethodName) jdk_52_method_15_code (2 : Nat) (Option.some Jvm.ClassFile.FieldType.byte)).before args0 about1 = true := code_word (m := ⟨8, 1⟩) (meth := k8m1) (c := k8c1) (by decide +kernel) rfl rfl rfl (by decide +kernel)
set_option maxRecDepth 65536 in
theorem w_c8 : (Jvm.Cond.code ({ cls := "com/example/tryst/tryst/encoding/Base32", name := "decode", desc := "(Ljava/lang/String;)[B" } : Jvm.MethodName) prog_8_method_2_code (7 : Nat) (Option.some (Jvm.ClassFile.FieldType.array Jvm.ClassFile.FieldType.byte))).before args0 about1 = true := code_word (m := ⟨9, 1⟩) (meth := k9m1) (c := k9c1) (by decide +kernel) rfl rfl rfl (by decide +kernel)
set_option maxRecDepth 65536 in
theorem w_c9 : (Jvm.Cond.code ({ cls := "java/lang/String", name := "length", desc := "()I" } : Jvm.MethodName) jdk_42_method_54_code (1 : Nat) (Option.some Jvm.ClassFile.FieldType.int)).before args0 about1 = true := code_word (m := ⟨7, 2⟩) (meth := k7m2) (c := k7c2) (by decide +kernel) rfl rfl rfl (by decide +kernel)
set_option maxRecDepth 65536 in
theorem w_c10 : (Jvm.Cond.code ({ cls := "java/lang/String", name := "coder", desc := "()B" } : Jvm.MethodName) jdk_42_method_152_code (1 : Nat) (Option.some Jvm.ClassFile.FieldType.byte)).before args0 about1 = true := code_word (m := ⟨7, 7⟩) (meth := k7m7) (c := k7c7) (by decide +kernel) rfl rfl rfl (by decide +kernel)
set_option maxRecDepth 65536 in
theorem w_c11 : (Jvm.Cond.code ({ cls := "java/lang/String", name := "charAt", desc := "(I)C" } : Jvm.MethodName) jdk_42_method_56_code (2 : Nat) (Option.some Jvm.ClassFile.FieldType.char)).before args0 about1 = true := code_word (m := ⟨7, 3⟩) (meth := k7m3) (c := k7c3) (by decide +kernel) rfl rfl rfl (by decide +kernel)
set_option maxRecDepth 65536 in
theorem w_c12 : (Jvm.Cond.code ({ cls := "java/lang/String", name := "isLatin1", desc := "()Z" } : Jvm.MethodName) jdk_42_method_154_code (1 : Nat) (Option.some Jvm.ClassFile.FieldType.boolean)).before args0 about1 = true := code_word (m := ⟨7, 8⟩) (meth := k7m8) (c := k7c8) (by decide +kernel) rfl rfl rfl (by decide +kernel)
set_option maxRecDepth 65536 in
theorem w_c13 : (Jvm.Cond.code ({ cls := "java/lang/StringLatin1", name := "charAt", desc := "([BI)C" } : Jvm.MethodName) jdk_43_method_2_code (2 : Nat) (Option.some Jvm.ClassFile.FieldType.char)).before args0 about1 = true := code_word (m := ⟨10, 1⟩) (meth := k10m1) (c := k10c1) (by decide +kernel) rfl rfl rfl (by decide +kernel)
set_option maxRecDepth 65536 in
theorem w_c14 : (Jvm.Cond.code ({ cls := "java/lang/String", name := "checkIndex", desc := "(II)V" } : Jvm.MethodName) jdk_42_method_155_code (2 : Nat) (Option.none : Option Jvm.ClassFile.FieldType)).before args0 about1 = true := code_word (m := ⟨7, 9⟩) (meth := k7m9) (c := k7c9) (by decide +kernel) rfl rfl rfl (by decide +kernel)
set_option maxRecDepth 65536 in
theorem w_c15 : (Jvm.Cond.code ({ cls := "jdk/internal/util/Preconditions", name := "checkIndex", desc := "(IILjava/util/function/BiFunction;)I" } : Jvm.MethodName) jdk_41_method_11_code (3 : Nat) (Option.some Jvm.ClassFile.FieldType.int)).before args0 about1 = true := code_word (m := ⟨11, 1⟩) (meth := k11m1) (c := k11c1) (by decide +kernel) rfl rfl rfl (by decide +kernel)
set_option maxRecDepth 65536 in
theorem w_c16 : (Jvm.Cond.code ({ cls := "java/lang/String", name := "indexOf", desc := "(I)I" } : Jvm.MethodName) jdk_42_method_79_code (2 : Nat) (Option.some Jvm.ClassFile.FieldType.int)).before args0 about1 = true := code_word (m := ⟨7, 4⟩) (meth := k7m4) (c := k7c4) (by decide +kernel) rfl rfl rfl (by decide +kernel)
set_option maxRecDepth 65536 in
theorem w_c17 : (Jvm.Cond.code ({ cls := "java/lang/String", name := "indexOf", desc := "(II)I" } : Jvm.MethodName) jdk_42_method_80_code (3 : Nat) (Option.some Jvm.ClassFile.FieldType.int)).before args0 about1 = true := code_word (m := ⟨7, 5⟩) (meth := k7m5) (c := k7c5) (by decide +kernel) rfl rfl rfl (by decide +kernel)
set_option maxRecDepth 65536 in
theorem w_c18 : (Jvm.Cond.code ({ cls := "java/lang/StringLatin1", name := "indexOf", desc := "([BIII)I" } : Jvm.MethodName) jdk_43_method_22_code (4 : Nat) (Option.some Jvm.ClassFile.FieldType.int)).before args0 about1 = true := code_word (m := ⟨10, 3⟩) (meth := k10m3) (c := k10c3) (by decide +kernel) rfl rfl rfl (by decide +kernel)
set_option maxRecDepth 65536 in
theorem w_c19 : (Jvm.Cond.code ({ cls := "java/lang/StringLatin1", name := "canEncode", desc := "(I)Z" } : Jvm.MethodName) jdk_43_method_4_code (1 : Nat) (Option.some Jvm.ClassFile.FieldType.boolean)).before args0 about1 = true := code_word (m := ⟨10, 2⟩) (meth := k10m2) (c := k10c2) (by decide +kernel) rfl rfl rfl (by decide +kernel)
set_option maxRecDepth 65536 in
theorem w_c20 : (Jvm.Cond.code ({ cls := "java/lang/Math", name := "max", desc := "(II)I" } : Jvm.MethodName) jdk_29_method_65_code (2 : Nat) (Option.some Jvm.ClassFile.FieldType.int)).before args0 about1 = true := code_word (m := ⟨12, 1⟩) (meth := k12m1) (c := k12c1) (by decide +kernel) rfl rfl rfl (by decide +kernel)
set_option maxRecDepth 65536 in
theorem w_c21 : (Jvm.Cond.code ({ cls := "java/lang/Math", name := "min", desc := "(II)I" } : Jvm.MethodName) jdk_29_method_69_code (2 : Nat) (Option.some Jvm.ClassFile.FieldType.int)).before args0 about1 = true := code_word (m := ⟨12, 2⟩) (meth := k12m2) (c := k12c2) (by decide +kernel) rfl rfl rfl (by decide +kernel)
set_option maxRecDepth 65536 in
theorem w_c22 : (Jvm.Cond.code ({ cls := "java/lang/StringLatin1", name := "indexOfChar", desc := "([BIII)I" } : Jvm.MethodName) jdk_43_method_23_code (6 : Nat) (Option.some Jvm.ClassFile.FieldType.int)).before args0 about1 = true := code_word (m := ⟨10, 4⟩) (meth := k10m4) (c := k10c4) (by decide +kernel) rfl rfl rfl (by decide +kernel)
set_option maxRecDepth 65536 in
theorem w_c23 : (Jvm.Cond.code ({ cls := "com/example/tryst/tryst/encoding/Base32DecodePinLaw", name := "byteOk", desc := "([BJII)Z" } : Jvm.MethodName) method_3_code (5 : Nat) (Option.some Jvm.ClassFile.FieldType.boolean)).before args0 about1 = true := code_word (m := ⟨1, 2⟩) (meth := k1m2) (c := k1c2) (by decide +kernel) rfl rfl rfl (by decide +kernel)
def codes1 : List Jvm.Cond := [Jvm.Cond.code x code maxLocals ret, Jvm.Cond.code ({ cls := "com/example/tryst/tryst/encoding/Base32DecodePinLaw", name := "digit", desc := "(JI)C" } : Jvm.MethodName) method_2_code (4 : Nat) (Option.some Jvm.ClassFile.FieldType.char), Jvm.Cond.code ({ cls := "java/lang/String", name := "<init>", desc := "([C)V" } : Jvm.MethodName) jdk_42_method_3_code (2 : Nat) (Option.none : Option Jvm.ClassFile.FieldType), Jvm.Cond.code ({ cls := "java/lang/String", name := "<init>", desc := "([CIILjava/lang/Void;)V" } : Jvm.MethodName) jdk_42_method_149_code (6 : Nat) (Option.none : Option Jvm.ClassFile.FieldType), Jvm.Cond.code ({ cls := "java/lang/Object", name := "<init>", desc := "()V" } : Jvm.MethodName) object_method_1_code (1 : Nat) (Option.none : Option Jvm.ClassFile.FieldType), Jvm.Cond.code ({ cls := "java/lang/StringUTF16", name := "compress", desc := "([CII)[B" } : Jvm.MethodName) jdk_52_method_16_code (6 : Nat) (Option.some (Jvm.ClassFile.FieldType.array Jvm.ClassFile.FieldType.byte)), Jvm.Cond.code ({ cls := "java/lang/StringUTF16", name := "compress", desc := "([CI[BII)I" } : Jvm.MethodName) jdk_52_method_21_code (7 : Nat) (Option.some Jvm.ClassFile.FieldType.int), Jvm.Cond.code ({ cls := "java/lang/StringUTF16", name := "coderFromArrayLen", desc := "([BI)B" } : Jvm.MethodName) jdk_52_method_15_code (2 : Nat) (Option.some Jvm.ClassFile.FieldType.byte), Jvm.Cond.code ({ cls := "com/example/tryst/tryst/encoding/Base32", name := "decode", desc := "(Ljava/lang/String;)[B" } : Jvm.MethodName) prog_8_method_2_code (7 : Nat) (Option.some (Jvm.ClassFile.FieldType.array Jvm.ClassFile.FieldType.byte)), Jvm.Cond.code ({ cls := "java/lang/String", name := "length", desc := "()I" } : Jvm.MethodName) jdk_42_method_54_code (1 : Nat) (Option.some Jvm.ClassFile.FieldType.int), Jvm.Cond.code ({ cls := "java/lang/String", name := "coder", desc := "()B" } : Jvm.MethodName) jdk_42_method_152_code (1 : Nat) (Option.some Jvm.ClassFile.FieldType.byte), Jvm.Cond.code ({ cls := "java/lang/String", name := "charAt", desc := "(I)C" } : Jvm.MethodName) jdk_42_method_56_code (2 : Nat) (Option.some Jvm.ClassFile.FieldType.char), Jvm.Cond.code ({ cls := "java/lang/String", name := "isLatin1", desc := "()Z" } : Jvm.MethodName) jdk_42_method_154_code (1 : Nat) (Option.some Jvm.ClassFile.FieldType.boolean), Jvm.Cond.code ({ cls := "java/lang/StringLatin1", name := "charAt", desc := "([BI)C" } : Jvm.MethodName) jdk_43_method_2_code (2 : Nat) (Option.some Jvm.ClassFile.FieldType.char), Jvm.Cond.code ({ cls := "java/lang/String", name := "checkIndex", desc := "(II)V" } : Jvm.MethodName) jdk_42_method_155_code (2 : Nat) (Option.none : Option Jvm.ClassFile.FieldType), Jvm.Cond.code ({ cls := "jdk/internal/util/Preconditions", name := "checkIndex", desc := "(IILjava/util/function/BiFunction;)I" } : Jvm.MethodName) jdk_41_method_11_code (3 : Nat) (Option.some Jvm.ClassFile.FieldType.int), Jvm.Cond.code ({ cls := "java/lang/String", name := "indexOf", desc := "(I)I" } : Jvm.MethodName) jdk_42_method_79_code (2 : Nat) (Option.some Jvm.ClassFile.FieldType.int), Jvm.Cond.code ({ cls := "java/lang/String", name := "indexOf", desc := "(II)I" } : Jvm.MethodName) jdk_42_method_80_code (3 : Nat) (Option.some Jvm.ClassFile.FieldType.int), Jvm.Cond.code ({ cls := "java/lang/StringLatin1", name := "indexOf", desc := "([BIII)I" } : Jvm.MethodName) jdk_43_method_22_code (4 : Nat) (Option.some Jvm.ClassFile.FieldType.int), Jvm.Cond.code ({ cls := "java/lang/StringLatin1", name := "canEncode", desc := "(I)Z" } : Jvm.MethodName) jdk_43_method_4_code (1 : Nat) (Option.some Jvm.ClassFile.FieldType.boolean), Jvm.Cond.code ({ cls := "java/lang/Math", name := "max", desc := "(II)I" } : Jvm.MethodName) jdk_29_method_65_code (2 : Nat) (Option.some Jvm.ClassFile.FieldType.int), Jvm.Cond.code ({ cls := "java/lang/Math", name := "min", desc := "(II)I" } : Jvm.MethodName) jdk_29_method_69_code (2 : Nat) (Option.some Jvm.ClassFile.FieldType.int), Jvm.Cond.code ({ cls := "java/lang/StringLatin1", name := "indexOfChar", desc := "([BIII)I" } : Jvm.MethodName) jdk_43_method_23_code (6 : Nat) (Option.some Jvm.ClassFile.FieldType.int), Jvm.Cond.code ({ cls := "com/example/tryst/tryst/encoding/Base32DecodePinLaw", name := "byteOk", desc := "([BJII)Z" } : Jvm.MethodName) method_3_code (5 : Nat) (Option.some Jvm.ClassFile.FieldType.boolean)]
set_option maxRecDepth 65536 in
theorem codes_eq : words1.filter isCode = codes1 := rfl
theorem w_codes : ∀ c ∈ words1.filter isCode, c.before args0 about1 = true := by
  rw [codes_eq]
  intro c hc
  simp only [codes1, List.mem_cons, List.not_mem_nil, or_false] at hc
  rcases hc with rfl | rfl | rfl | rfl | rfl | rfl | rfl | rfl | rfl | rfl | rfl | rfl | rfl | rfl | rfl | rfl | rfl | rfl | rfl | rfl | rfl | rfl | rfl | rfl
  · exact w_c0
  · exact w_c1
  · exact w_c2
  · exact w_c3
  · exact w_c4
  · exact w_c5
  · exact w_c6
  · exact w_c7
  · exact w_c8
  · exact w_c9
  · exact w_c10
  · exact w_c11
  · exact w_c12
  · exact w_c13
  · exact w_c14
  · exact w_c15
  · exact w_c16
  · exact w_c17
  · exact w_c18
  · exact w_c19
  · exact w_c20
  · exact w_c21
  · exact w_c22
  · exact w_c23
set_option maxRecDepth 65536 in
theorem w_t1 : (words1.take 24).all (fun c => isCode c || c.before args0 about1) = true := by decide +kernel
set_option maxRecDepth 65536 in
theorem w_t2 : ((words1.drop 24).take 24).all (fun c => isCode c || c.before args0 about1) = true := by decide +kernel
set_option maxRecDepth 65536 in
theorem w_t3 : (((words1.drop 24).drop 24).take 24).all (fun c => isCode c || c.before args0 about1) = true := by decide +kernel
set_option maxRecDepth 65536 in
theorem w_t4 : ((((words1.drop 24).drop 24).drop 24).take 24).all (fun c => isCode c || c.before args0 about1) = true := by decide +kernel
set_option maxRecDepth 65536 in
theorem w_t5 : ((((words1.drop 24).drop 24).drop 24).drop 24).all (fun c => isCode c || c.before args0 about1) = true := by decide +kernel
theorem w_tables : (allAtoms (Jvm.Cond.code x code maxLocals ret :: tables_1)).before args0 about1 = true := by
  rw [allAtoms_all]
  show words1.all (fun c => c.before args0 about1) = true
  refine all_split ?_ w_codes
  rw [← List.take_append_drop 24 words1, List.all_append, w_t1, ← List.take_append_drop 24 (words1.drop 24), List.all_append, w_t2, ← List.take_append_drop 24 ((words1.drop 24).drop 24), List.all_append, w_t3, ← List.take_append_drop 24 (((words1.drop 24).drop 24).drop 24), List.all_append, w_t4, w_t5]
  rfl
set_option maxRecDepth 65536 in
theorem w_rest : rest_1_c.before args0 about1 = true := by decide +kernel
set_option maxRecDepth 65536 in
theorem w_case : (Jvm.Cond.and given_1 narrow_1).before args0 about1 = true := by decide +kernel
set_option maxRecDepth 65536 in
theorem w_consts : constsHeld consts_1 about1 := Jvm.Lit.constsHeldB_iff.mp (by decide +kernel)
theorem w_applies : (headSpec (Jvm.Cond.code x code maxLocals ret :: tables_1) room_1).applies x e0.platform about1 = true :=
  (Spec.applies_iff w_frames).mpr ⟨w_running, w_runnable, w_alone, w_named, w_hears, w_ripe, w_room, w_tables⟩
theorem atStart : AtStart classFile x code maxLocals ret World_1 tables_1 room_1 Calls_1 rest_1 Pre_1 launch0 p0 e0 about1 theMethod args0 below0 :=
  ⟨lists_1, trivial, launch0.admits_env _ _ _, launch0.least_env, fairChoices_fair.cas, fairChoices_fair.clock, w_frames, w_args, w_heap, w_applies, ⟨w_consts, trivial⟩, w_rest, w_case⟩
end start1
theorem witness_1 : WitnessClaimed_1 := ⟨start1.p0, start1.e0, start1.about1, start1.theMethod, start1.args0, start1.below0, start1.atStart⟩
end Jvm.Pilot.@@N@@
