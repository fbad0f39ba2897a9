import JvmDerived
import JvmDerived.Pilot.@@N@@Statement
import JvmDerived.Pilot.@@N@@Code
set_option linter.unusedVariables false
set_option linter.unusedSimpArgs false
namespace Jvm.OwnKit
open Jvm Jvm.ClassFile Sem Op Lib Jvm.Free Jvm.Stand Jvm.LawKit Jvm.RoadKit
section Walk
variable {p : Program} {l : Launch} {e : Env} {R : Room} {s : State} {m : MethodId} {args : Array Value} {below : List Frame} {meth : Method} {c : Code} {T T' : State} {locs : List Loc} {cells slots k n : Nat} {Q : Option Value → Heap → List Loc → Prop} {g g' : JFrame}
/-- from T with the frame g on top the run comes home: it returns, and Q says of what it returned, the heap and the places written -/
def Home {p : Program} {e : Env} {below : List Frame} {s : State} {Q : Option Value → Heap → List Loc → Prop} {k n : Nat} (T : State) (g : JFrame) : Prop :=
  ∃ U o, Steps p.tables e below (T.setTop g) U ∧ U.status = .running ∧ Ended U below o ∧ ∃ v L, o = .returned v ∧ Q v U.heap L ∧ FrameEnd s o U L k n
theorem Home.go (st : ∀ t, Steps p.tables e below (T'.setTop g') t → Steps p.tables e below (T.setTop g) t) (H : @Home p e below s Q k n T' g') : @Home p e below s Q k n T g := by
  obtain ⟨U, o, h1, h2⟩ := H
  exact ⟨U, o, st _ h1, h2⟩
section Cps
variable {S : State → Prop} {S2 : State → Heap → Prop} {W E A D M : Heap → Prop} {A2 : Heap → ClassId → Prop} {O : ClassId → Prop} {h : Heap}
theorem Home.st (q : ∃ T', S T' ∧ T'.heap = h ∧ ∀ t, Steps p.tables e below (T'.setTop g') t → Steps p.tables e below (T.setTop g) t) (H : ∀ T', S T' → T'.heap = h → @Home p e below s Q k n T' g') : @Home p e below s Q k n T g := by
  obtain ⟨T', x, y, st⟩ := q
  exact Home.go st (H T' x y)
theorem Home.wr (q : ∃ T' h', S T' ∧ T'.heap = h' ∧ W h' ∧ ∀ t, Steps p.tables e below (T'.setTop g') t → Steps p.tables e below (T.setTop g) t) (H : ∀ T' h', S T' → T'.heap = h' → W h' → @Home p e below s Q k n T' g') : @Home p e below s Q k n T g := by
  obtain ⟨T', h', x, y, z, st⟩ := q
  exact Home.go st (H T' h' x y z)
theorem Home.nw (q : ∃ T' h', S T' ∧ T'.heap = h' ∧ E h' ∧ A h' ∧ D h' ∧ M h' ∧ ∀ t, Steps p.tables e below (T'.setTop g') t → Steps p.tables e below (T.setTop g) t) (H : ∀ T' h', S T' → T'.heap = h' → E h' → A h' → D h' → M h' → @Home p e below s Q k n T' g') : @Home p e below s Q k n T g := by
  obtain ⟨T', h', x, y, z, u, v, w, st⟩ := q
  exact Home.go st (H T' h' x y z u v w)
theorem Home.na (q : ∃ T' h' c', S T' ∧ T'.heap = h' ∧ E h' ∧ A2 h' c' ∧ ∀ t, Steps p.tables e below (T'.setTop g') t → Steps p.tables e below (T.setTop g) t) (H : ∀ T' h' c', S T' → T'.heap = h' → E h' → A2 h' c' → @Home p e below s Q k n T' g') : @Home p e below s Q k n T g := by
  obtain ⟨T', h', c', x, y, z, u, st⟩ := q
  exact Home.go st (H T' h' c' x y z u)
theorem Home.nr (q : ∃ T' h' c', S T' ∧ T'.heap = h' ∧ E h' ∧ A2 h' c' ∧ O c' ∧ ∀ t, Steps p.tables e below (T'.setTop g') t → Steps p.tables e below (T.setTop g) t) (H : ∀ T' h' c', S T' → T'.heap = h' → E h' → A2 h' c' → O c' → @Home p e below s Q k n T' g') : @Home p e below s Q k n T g := by
  obtain ⟨T', h', c', x, y, z, u, v, st⟩ := q
  exact Home.go st (H T' h' c' x y z u v)
theorem Home.call {S3 : State → List Loc → Prop} {Q3 : Option Value → State → List Loc → Prop} {gv : Option Value → JFrame} (q : ∃ v T' L, S3 T' L ∧ Q3 v T' L ∧ ∀ t, Steps p.tables e below (T'.setTop (gv v)) t → Steps p.tables e below (T.setTop g) t) (H : ∀ v T' L, S3 T' L → Q3 v T' L → @Home p e below s Q k n T' (gv v)) : @Home p e below s Q k n T g := by
  obtain ⟨v, T', L, x, y, st⟩ := q
  exact Home.go st (H v T' L x y)
end Cps
theorem Home.enter (q : g = g') (H : @Home p e below s Q k n T g') : @Home p e below s Q k n T g := by
  subst q; exact H
theorem Home.retN (X : Stand p l e R s m args below meth c T locs cells slots) (hx : p.tables.exec = Jvm.exec) (hlk : meth.locks = false) {pc : Nat} {Ls : Array Slot} {z : Int32} {t : FieldType} {rest : List Value} (hret : meth.sig.returnType = some t) (ht : t = .boolean ∨ t = .byte ∨ t = .char ∨ t = .short)
    (hd : decode c.code pc = .ok (.ireturn, 1)) (hQ : Q (some (.int (nar t z))) T.heap locs) (hk : cells ≤ k) (hn : slots ≤ n) : @Home p e below s Q k n T (mkF m pc Ls (.int z :: rest)) := by
  obtain ⟨fs, hr, hrun, hended, hW, hsame⟩ := X.leave (v := some (.int (nar t z))) (fun h => by rw [hret] at h; cases h) hlk
  exact ⟨_, _, Jvm.RoadKit.retN X hx hret ht hd hr, hrun, hended, _, _, rfl, hQ, ⟨_, rfl⟩, hW, hsame.mono hk hn⟩
theorem Home.ret (X : Stand p l e R s m args below meth c T locs cells slots) (hx : p.tables.exec = Jvm.exec) (hlk : meth.locks = false) {pc : Nat} {Ls : Array Slot} {w : Value} {t : FieldType} {i : Instr} {rest : List Value} (hret : meth.sig.returnType = some t) (hnn : narrow t w = w)
    (hi : (i = .ireturn ∧ (t = .int ∨ t = .boolean ∨ t = .byte ∨ t = .char ∨ t = .short) ∧ ∃ z, w = .int z) ∨ (i = .lreturn ∧ t = .long ∧ ∃ z, w = .long z) ∨ (i = .dreturn ∧ t = .double ∧ ∃ z, w = .double z) ∨ (i = .freturn ∧ t = .float ∧ ∃ z, w = .float z) ∨ (i = .areturn ∧ t.isReference = true ∧ w.isRef = true))
    (hd : decode c.code pc = .ok (i, 1)) (hQ : Q (some w) T.heap locs) (hk : cells ≤ k) (hn : slots ≤ n) : @Home p e below s Q k n T (mkF m pc Ls (w :: rest)) := by
  obtain ⟨fs, hr, hrun, hended, hW, hsame⟩ := X.leave (v := some w) (fun h => by rw [hret] at h; cases h) hlk
  exact ⟨_, _, retOut X hx hret hnn hi hd hr, hrun, hended, _, _, rfl, hQ, ⟨_, rfl⟩, hW, hsame.mono hk hn⟩
theorem Home.retI (X : Stand p l e R s m args below meth c T locs cells slots) (hx : p.tables.exec = Jvm.exec) (hlk : meth.locks = false) {pc : Nat} {Ls : Array Slot} {z : Int32} {rest : List Value} (hret : meth.sig.returnType = some .int)
    (hd : decode c.code pc = .ok (.ireturn, 1)) (hQ : Q (some (.int z)) T.heap locs) (hk : cells ≤ k) (hn : slots ≤ n) : @Home p e below s Q k n T (mkF m pc Ls (.int z :: rest)) :=
  Home.ret X hx hlk hret rfl (Or.inl ⟨rfl, Or.inl rfl, z, rfl⟩) hd hQ hk hn
theorem Home.retJ (X : Stand p l e R s m args below meth c T locs cells slots) (hx : p.tables.exec = Jvm.exec) (hlk : meth.locks = false) {pc : Nat} {Ls : Array Slot} {z : Int64} {rest : List Value} (hret : meth.sig.returnType = some .long)
    (hd : decode c.code pc = .ok (.lreturn, 1)) (hQ : Q (some (.long z)) T.heap locs) (hk : cells ≤ k) (hn : slots ≤ n) : @Home p e below s Q k n T (mkF m pc Ls (.long z :: rest)) :=
  Home.ret X hx hlk hret rfl (Or.inr (Or.inl ⟨rfl, rfl, z, rfl⟩)) hd hQ hk hn
theorem narrow_ref {t : FieldType} {w : Value} (hw : w.isRef = true) : narrow t w = w := by
  rcases ref_cases hw with rfl | ⟨a, rfl⟩ <;> cases t <;> rfl
theorem Home.retR (X : Stand p l e R s m args below meth c T locs cells slots) (hx : p.tables.exec = Jvm.exec) (hlk : meth.locks = false) {pc : Nat} {Ls : Array Slot} {w : Value} {t : FieldType} {rest : List Value} (hret : meth.sig.returnType = some t) (ht : t.isReference = true) (hw : w.isRef = true)
    (hd : decode c.code pc = .ok (.areturn, 1)) (hQ : Q (some w) T.heap locs) (hk : cells ≤ k) (hn : slots ≤ n) : @Home p e below s Q k n T (mkF m pc Ls (w :: rest)) :=
  Home.ret X hx hlk hret (narrow_ref hw) (Or.inr (Or.inr (Or.inr (Or.inr ⟨rfl, ht, hw⟩)))) hd hQ hk hn
theorem Home.ret0 (X : Stand p l e R s m args below meth c T locs cells slots) (hx : p.tables.exec = Jvm.exec) (hlk : meth.locks = false) {pc : Nat} {Ls : Array Slot} (hret : meth.sig.returnType = none)
    (hd : decode c.code pc = .ok (.return_, 1)) (hQ : Q none T.heap locs) (hk : cells ≤ k) (hn : slots ≤ n) : @Home p e below s Q k n T (mkF m pc Ls []) := by
  obtain ⟨fs, hr, hrun, hended, hW, hsame⟩ := X.leave (v := none) (fun _ => rfl) hlk
  exact ⟨_, _, X.returnOut hx hret hd hr, hrun, hended, _, _, rfl, hQ, ⟨_, rfl⟩, hW, hsame.mono hk hn⟩
end Walk
section Run
variable {p : Program} {l : Launch} {e : Env} {R : Room} {s : State} {m : MethodId} {args : Array Value} {below : List Frame} {meth : Method} {c : Code} {T : State} {locs : List Loc} {cells slots : Nat} {target : State}
def un32 (f : Int32 → Value) (S : List Value) : Option (List Value) := match S with | .int x :: r => some (f x :: r) | _ => none
def un64 (f : Int64 → Value) (S : List Value) : Option (List Value) := match S with | .long x :: r => some (f x :: r) | _ => none
def bi32 (f : Int32 → Int32 → Int32) (S : List Value) : Option (List Value) := match S with | .int y :: .int x :: r => some (.int (f x y) :: r) | _ => none
def bi64 (f : Int64 → Int64 → Value) (S : List Value) : Option (List Value) := match S with | .long y :: .long x :: r => some (f x y :: r) | _ => none
def sh64 (f : Int64 → Int32 → Int64) (S : List Value) : Option (List Value) := match S with | .int y :: .long x :: r => some (.long (f x y) :: r) | _ => none
/-- the stack behind an instruction that reads and writes the stack alone -/
def stk (i : Instr) (S : List Value) : Option (List Value) := match i with
  | .iconst k => some (.int (Int32.ofInt k) :: S)
  | .bipush k => some (.int (Int8.ofInt k).toInt32 :: S)
  | .sipush k => some (.int (Int16.ofInt k).toInt32 :: S)
  | .lconst k => some (.long (Int64.ofNat k) :: S)
  | .aconst_null => some (.null :: S)
  | .iadd => bi32 (· + ·) S
  | .isub => bi32 (· - ·) S
  | .imul => bi32 (· * ·) S
  | .iand => bi32 (· &&& ·) S
  | .ior => bi32 (· ||| ·) S
  | .ixor => bi32 (· ^^^ ·) S
  | .ishl => bi32 (fun x y => x <<< (y &&& 31)) S
  | .ishr => bi32 (fun x y => x >>> (y &&& 31)) S
  | .iushr => bi32 (fun x y => (x.toUInt32 >>> (y &&& 31).toUInt32).toInt32) S
  | .ladd => bi64 (fun x y => .long (x + y)) S
  | .lsub => bi64 (fun x y => .long (x - y)) S
  | .lmul => bi64 (fun x y => .long (x * y)) S
  | .land => bi64 (fun x y => .long (x &&& y)) S
  | .lor => bi64 (fun x y => .long (x ||| y)) S
  | .lxor => bi64 (fun x y => .long (x ^^^ y)) S
  | .lcmp => bi64 (fun x y => .int (if x > y then 1 else if x = y then 0 else -1)) S
  | .lshl => sh64 (fun x y => x <<< (y &&& 0x3f).toInt64) S
  | .lshr => sh64 (fun x y => x >>> (y &&& 0x3f).toInt64) S
  | .lushr => sh64 (fun x y => (x.toUInt64 >>> (y &&& 0x3f).toInt64.toUInt64).toInt64) S
  | .ineg => un32 (fun x => .int (-x)) S
  | .lneg => un64 (fun x => .long (-x)) S
  | .i2l => un32 (fun x => .long x.toInt64) S
  | .l2i => un64 (fun x => .int x.toInt32) S
  | .i2b => un32 (fun x => .int x.toInt8.toInt32) S
  | .i2c => un32 (fun x => .int x.toUInt32.toUInt16.toUInt32.toInt32) S
  | .i2s => un32 (fun x => .int x.toInt16.toInt32) S
  | .dup => match S with | x :: r => if x.category = 1 then some (x :: x :: r) else none | _ => none
  | .pop => match S with | x :: r => if x.category = 1 then some r else none | _ => none
  | .dup_x1 => match S with | x :: y :: r => if x.category = 1 ∧ y.category = 1 then some (x :: y :: x :: r) else none | _ => none
  | _ => none
theorem un32_s {f : Int32 → Value} {S S' : List Value} (h : un32 f S = some S') : ∃ x r, S = .int x :: r ∧ S' = f x :: r := by
  unfold un32 at h; split at h
  · cases h; exact ⟨_, _, rfl, rfl⟩
  · cases h
theorem un64_s {f : Int64 → Value} {S S' : List Value} (h : un64 f S = some S') : ∃ x r, S = .long x :: r ∧ S' = f x :: r := by
  unfold un64 at h; split at h
  · cases h; exact ⟨_, _, rfl, rfl⟩
  · cases h
theorem bi32_s {f : Int32 → Int32 → Int32} {S S' : List Value} (h : bi32 f S = some S') : ∃ x y r, S = .int y :: .int x :: r ∧ S' = .int (f x y) :: r := by
  unfold bi32 at h; split at h
  · cases h; exact ⟨_, _, _, rfl, rfl⟩
  · cases h
theorem bi64_s {f : Int64 → Int64 → Value} {S S' : List Value} (h : bi64 f S = some S') : ∃ x y r, S = .long y :: .long x :: r ∧ S' = f x y :: r := by
  unfold bi64 at h; split at h
  · cases h; exact ⟨_, _, _, rfl, rfl⟩
  · cases h
theorem sh64_s {f : Int64 → Int32 → Int64} {S S' : List Value} (h : sh64 f S = some S') : ∃ x y r, S = .int y :: .long x :: r ∧ S' = .long (f x y) :: r := by
  unfold sh64 at h; split at h
  · cases h; exact ⟨_, _, _, rfl, rfl⟩
  · cases h
def len1 (i : Instr) : Nat := match i with | .bipush _ => 2 | .sipush _ => 3 | _ => 1
theorem stk_s (X : Stand p l e R s m args below meth c T locs cells slots) (hx : p.tables.exec = Jvm.exec) {i : Instr} {n pc : Nat} {L : Array Slot} {S S' : List Value} (hd : decode c.code pc = .ok (i, n)) (hn : n = len1 i) (h : stk i S = some S')
    (H : Steps p.tables e below (T.setTop (mkF m (pc + n) L S')) target) : Steps p.tables e below (T.setTop (mkF m pc L S)) target := by
  subst hn
  unfold stk at h
  split at h <;> first
    | (cases h; first | exact XS.iconst X.here hx rfl hd H | exact XS.bipush X.here hx rfl hd H | exact XS.sipush X.here hx rfl hd H | exact XS.lconst X.here hx rfl hd H | exact XS.aconstNull X.here hx rfl hd H)
    | (obtain ⟨x, y, r, rfl, rfl⟩ := bi32_s h; first | exact XS.iadd X.here hx rfl hd rfl H | exact XS.isub X.here hx rfl hd rfl H | exact XS.imul X.here hx rfl hd rfl H | exact XS.iand X.here hx rfl hd rfl H | exact XS.ior X.here hx rfl hd rfl H | exact XS.ixor X.here hx rfl hd rfl H | exact XS.ishl X.here hx rfl hd rfl H | exact XS.ishr X.here hx rfl hd rfl H | exact XS.iushr X.here hx rfl hd rfl H)
    | (obtain ⟨x, y, r, rfl, rfl⟩ := bi64_s h; first | exact XS.ladd X.here hx rfl hd rfl H | exact XS.lsub X.here hx rfl hd rfl H | exact XS.lmul X.here hx rfl hd rfl H | exact XS.land X.here hx rfl hd rfl H | exact XS.lor X.here hx rfl hd rfl H | exact XS.lxor X.here hx rfl hd rfl H | exact XS.lcmp X.here hx rfl hd rfl H)
    | (obtain ⟨x, y, r, rfl, rfl⟩ := sh64_s h; first | exact XS.lshl X.here hx rfl hd rfl H | exact XS.lshr X.here hx rfl hd rfl H | exact XS.lushr X.here hx rfl hd rfl H)
    | (obtain ⟨x, r, rfl, rfl⟩ := un32_s h; first | exact XS.ineg X.here hx rfl hd rfl H | exact XS.i2l X.here hx rfl hd rfl H | exact XS.i2b X.here hx rfl hd rfl H | exact XS.i2c X.here hx rfl hd rfl H | exact XS.i2s X.here hx rfl hd rfl H)
    | (obtain ⟨x, r, rfl, rfl⟩ := un64_s h; first | exact XS.lneg X.here hx rfl hd rfl H | exact XS.l2i X.here hx rfl hd rfl H)
    | (split at h <;> (try split at h) <;> first | (cases h; done) | (rename_i q; cases h; first | exact XS.dup X.here hx rfl hd rfl q H | exact XS.pop X.here hx rfl hd rfl q H | exact XS.dupX1 X.here hx rfl hd rfl q.1 q.2 H))
    | cases h
def ldI (L : Array Slot) (S : List Value) (k : Nat) : Option (Array Slot × List Value) := match L[k]? with | some (.val (.int v)) => some (L, .int v :: S) | _ => none
def ldJ (L : Array Slot) (S : List Value) (k : Nat) : Option (Array Slot × List Value) := match L[k]? with | some (.val (.long v)) => some (L, .long v :: S) | _ => none
def ldA (L : Array Slot) (S : List Value) (k : Nat) : Option (Array Slot × List Value) := match L[k]? with | some (.val v) => if v.isRef = true then some (L, v :: S) else none | _ => none
def stI1 (L : Array Slot) (S : List Value) (k : Nat) : Option (Array Slot × List Value) := match S with | .int x :: r => (storeLocals L k (.int x)).map fun l' => (l', r) | _ => none
def stJ1 (L : Array Slot) (S : List Value) (k : Nat) : Option (Array Slot × List Value) := match S with | .long x :: r => (storeLocals L k (.long x)).map fun l' => (l', r) | _ => none
def stA1 (L : Array Slot) (S : List Value) (k : Nat) : Option (Array Slot × List Value) := match S with | x :: r => if x.isRef = true then (storeLocals L k x).map fun l' => (l', r) else none | _ => none
/-- what an instruction does to pc, locals and stack; nothing else is touched -/
def run1 (i : Instr) (n pc : Nat) (L : Array Slot) (S : List Value) : Option (Nat × Array Slot × List Value) := match i with
  | .iload_n k => if n = 1 then (ldI L S k.val).map (pc + n, ·) else none
  | .iload k => if n = 2 then (ldI L S k).map (pc + n, ·) else none
  | .lload_n k => if n = 1 then (ldJ L S k.val).map (pc + n, ·) else none
  | .lload k => if n = 2 then (ldJ L S k).map (pc + n, ·) else none
  | .aload_n k => if n = 1 then (ldA L S k.val).map (pc + n, ·) else none
  | .aload k => if n = 2 then (ldA L S k).map (pc + n, ·) else none
  | .istore_n k => if n = 1 then (stI1 L S k.val).map (pc + n, ·) else none
  | .istore k => if n = 2 then (stI1 L S k).map (pc + n, ·) else none
  | .lstore_n k => if n = 1 then (stJ1 L S k.val).map (pc + n, ·) else none
  | .lstore k => if n = 2 then (stJ1 L S k).map (pc + n, ·) else none
  | .astore_n k => if n = 1 then (stA1 L S k.val).map (pc + n, ·) else none
  | .astore k => if n = 2 then (stA1 L S k).map (pc + n, ·) else none
  | .iinc k cst => if n = 3 then (match L[k]? with | some (.val (.int x)) => (storeLocals L k (.int (x + Int32.ofInt cst))).map fun l' => (pc + n, l', S) | _ => none) else none
  | .goto o => if n = 3 then (if 0 ≤ (pc : Int) + o then some (((pc : Int) + o).toNat, L, S) else none) else none
  | i => if n = len1 i then (stk i S).map fun S' => (pc + n, L, S') else none
theorem ldI_s {L L' : Array Slot} {S S' : List Value} {k : Nat} (h : ldI L S k = some (L', S')) : ∃ v, L[k]? = some (.val (.int v)) ∧ L' = L ∧ S' = .int v :: S := by
  unfold ldI at h; split at h
  · cases h; exact ⟨_, by assumption, rfl, rfl⟩
  · cases h
theorem ldJ_s {L L' : Array Slot} {S S' : List Value} {k : Nat} (h : ldJ L S k = some (L', S')) : ∃ v, L[k]? = some (.val (.long v)) ∧ L' = L ∧ S' = .long v :: S := by
  unfold ldJ at h; split at h
  · cases h; exact ⟨_, by assumption, rfl, rfl⟩
  · cases h
theorem ldA_s {L L' : Array Slot} {S S' : List Value} {k : Nat} (h : ldA L S k = some (L', S')) : ∃ v, L[k]? = some (.val v) ∧ v.isRef = true ∧ L' = L ∧ S' = v :: S := by
  unfold ldA at h; split at h
  · split at h
    · cases h; exact ⟨_, by assumption, by assumption, rfl, rfl⟩
    · cases h
  · cases h
theorem stI1_s {L L' : Array Slot} {S S' : List Value} {k : Nat} (h : stI1 L S k = some (L', S')) : ∃ x, S = .int x :: S' ∧ storeLocals L k (.int x) = some L' := by
  unfold stI1 at h; split at h
  · rw [Option.map_eq_some_iff] at h; obtain ⟨l', h1, h2⟩ := h; cases h2; exact ⟨_, rfl, h1⟩
  · cases h
theorem stJ1_s {L L' : Array Slot} {S S' : List Value} {k : Nat} (h : stJ1 L S k = some (L', S')) : ∃ x, S = .long x :: S' ∧ storeLocals L k (.long x) = some L' := by
  unfold stJ1 at h; split at h
  · rw [Option.map_eq_some_iff] at h; obtain ⟨l', h1, h2⟩ := h; cases h2; exact ⟨_, rfl, h1⟩
  · cases h
theorem stA1_s {L L' : Array Slot} {S S' : List Value} {k : Nat} (h : stA1 L S k = some (L', S')) : ∃ x, S = x :: S' ∧ x.isRef = true ∧ storeLocals L k x = some L' := by
  unfold stA1 at h; split at h
  · split at h
    · rw [Option.map_eq_some_iff] at h; obtain ⟨l', h1, h2⟩ := h; cases h2; exact ⟨_, rfl, by assumption, h1⟩
    · cases h
  · cases h
theorem map_s {α β : Type} {o : Option α} {f : α → β} {y : β} (h : o.map f = some y) : ∃ x, o = some x ∧ f x = y := Option.map_eq_some_iff.mp h
theorem run1_s (X : Stand p l e R s m args below meth c T locs cells slots) (hx : p.tables.exec = Jvm.exec) {i : Instr} {n pc pc' : Nat} {L L' : Array Slot} {S S' : List Value} (hd : decode c.code pc = .ok (i, n)) (h : run1 i n pc L S = some (pc', L', S'))
    (H : Steps p.tables e below (T.setTop (mkF m pc' L' S')) target) : Steps p.tables e below (T.setTop (mkF m pc L S)) target := by
  unfold run1 at h
  split at h <;> split at h <;> first
    | (cases h; done)
    | (rename_i hn; subst hn; obtain ⟨⟨L1, S1⟩, h1, h2⟩ := map_s h; cases h2; first
        | (obtain ⟨v, q1, rfl, rfl⟩ := ldI_s h1; first | exact XS.iloadN X.here hx rfl hd q1 H | exact XS.iload X.here hx rfl hd q1 H)
        | (obtain ⟨v, q1, rfl, rfl⟩ := ldJ_s h1; first | exact XS.lloadN X.here hx rfl hd q1 H | exact XS.lload X.here hx rfl hd q1 H)
        | (obtain ⟨v, q1, q2, rfl, rfl⟩ := ldA_s h1; first | exact XS.aloadN X.here hx rfl hd q1 q2 H | exact XS.aload X.here hx rfl hd q1 q2 H)
        | (obtain ⟨x, rfl, q⟩ := stI1_s h1; first | exact XS.istoreN X.here hx rfl hd rfl q H | exact XS.istore X.here hx rfl hd rfl q H)
        | (obtain ⟨x, rfl, q⟩ := stJ1_s h1; first | exact XS.lstoreN X.here hx rfl hd rfl q H | exact XS.lstore X.here hx rfl hd rfl q H)
        | (obtain ⟨x, rfl, q1, q⟩ := stA1_s h1; first | exact XS.astoreN X.here hx rfl hd rfl q1 q H | exact XS.astore X.here hx rfl hd rfl q1 q H))
    | (rename_i hn; subst hn; split at h <;> first
        | (cases h; done)
        | (rename_i q; obtain ⟨l', h1, h2⟩ := map_s h; cases h2; exact XS.iinc X.here hx rfl hd q h1 H)
        | (rename_i q; cases h; exact XS.goto X.here hx rfl (pc0 := pc) rfl hd q rfl H))
    | (rename_i hn; obtain ⟨S1, h1, h2⟩ := map_s h; cases h2; exact stk_s X hx hd hn h1 H)
def runs : List (Nat × Instr × Nat) → Nat → Array Slot → List Value → Option (Nat × Array Slot × List Value)
  | [], pc, L, S => some (pc, L, S)
  | (q, i, n) :: is, pc, L, S => if q = pc then (match run1 i n pc L S with | some (pc', L', S') => runs is pc' L' S' | none => none) else none
def decs (code : ByteArray) : List (Nat × Instr × Nat) → Prop
  | [] => True
  | (q, i, n) :: is => decode code q = .ok (i, n) ∧ decs code is
theorem runs_s (X : Stand p l e R s m args below meth c T locs cells slots) (hx : p.tables.exec = Jvm.exec) {pc' : Nat} {L' : Array Slot} {S' : List Value} (H : Steps p.tables e below (T.setTop (mkF m pc' L' S')) target) :
    ∀ (is : List (Nat × Instr × Nat)) (pc : Nat) (L : Array Slot) (S : List Value), decs c.code is → runs is pc L S = some (pc', L', S') → Steps p.tables e below (T.setTop (mkF m pc L S)) target
  | [], pc, L, S, _, h => by cases h; exact H
  | (q, i, n) :: is, pc, L, S, hd, h => by
    unfold runs at h
    split at h
    · rename_i e1; subst e1
      split at h
      · rename_i pc1 L1 S1 h1
        exact run1_s X hx hd.1 h1 (runs_s X hx H is pc1 L1 S1 hd.2 h)
      · cases h
    · cases h
variable {Q : Option Value → Heap → List Loc → Prop} {k n : Nat}
theorem Home.run (X : Stand p l e R s m args below meth c T locs cells slots) (hx : p.tables.exec = Jvm.exec) {bytes : ByteArray} (hby : c.code = bytes) {is : List (Nat × Instr × Nat)} (hd : decs bytes is) {pc pc' : Nat} {L L' : Array Slot} {S S' : List Value} (h : runs is pc L S = some (pc', L', S'))
    (H : @Home p e below s Q k n T (mkF m pc' L' S')) : @Home p e below s Q k n T (mkF m pc L S) :=
  Home.go (fun _ kt => runs_s X hx kt is pc L S (by rw [hby]; exact hd) h) H
end Run
section Calls
variable {p : Program} {l : Launch} {e : Env} {R : Room} {s : State} {m : MethodId} {args : Array Value} {below : List Frame} {meth : Method} {c : Code} {T : State} {locs : List Loc} {cells slots : Nat} {Z : State} {a0 : Array Value} {h : Heap} {y z : MethodName} {bytes : ByteArray} {maxL : Nat} {ret : Option FieldType} {rm : Room} {W : Nat} {as' : Array Value} {Q : Option Value → Heap → List Loc → Prop} {own C : String} {index : Nat}
/-- a body's contract, at one heap and one list of arguments -/
abbrev Con (l : Launch) (Z : State) (y : MethodName) (bytes : ByteArray) (maxL : Nat) (ret : Option FieldType) (ws : List Jvm.Cond) (rm : Room) (as' : Array Value) (h : Heap) (Q : Option Value → Heap → List Loc → Prop) : Prop :=
  MetFree l y (head1 (Jvm.Cond.code y bytes maxL ret :: ws) rm) (fun a U => a = as' ∧ Z.Warmed39 U.vm ∧ U.heap = h) (fun _ _ _ _ _ => True) (fun _ U o U' => ∃ v L, o = .returned v ∧ Q v U'.heap L ∧ FrameEnd U o U' L rm.cells rm.slots)
/-- it leaves the heap as it was -/
abbrev Pur (w : Option Value) (h0 : Heap) : Option Value → Heap → List Loc → Prop := fun v h L => v = w ∧ L = [] ∧ h = h0
/-- from a walk that comes home to the contract -/
theorem own_body {ws : List Jvm.Cond} {L0 : Array Slot} (pn : plainFor y = true) (ef : ∀ m, entryFrame m as' maxL = mkF m 0 L0 [])
    (body : ∀ (p : Program) (e : Env) (s : State) (m : MethodId) (below : List Frame) (meth : Method) (c : Code) (s₁ : State), p.tables.exec = Jvm.exec → c.code = bytes → meth.locks = false → c.maxLocals = maxL → meth.sig.returnType = ret → Z.Warmed39 s.vm → s.vm.findClass y.cls = some m.cls → meth.name = y.name →
      Stand p l e rm s m as' below meth c s₁ [] 0 0 → s₁.heap = h → @Home p e below s Q rm.cells rm.slots s₁ (mkF m 0 L0 [])) : Con l Z y bytes maxL ret ws rm as' h Q := by
  refine MetFree.of_bodySF pn hisR ?_
  intro p e s m args below meth c s₁ Bd hml0 hP hK
  obtain ⟨rfl, hZ, hh⟩ := hP
  refine Home.enter (Q := Q) (k := rm.cells) (n := rm.slots) (ef m) ?_
  exact body p e s m below meth c s₁ Bd.exec Bd.bytes (BodyLoose.notSynchronized Bd) hml0 Bd.returns hZ (findClass_of_methodNamed Bd.named) (name_of_methodNamed Bd.named Bd.method).1 (Stand.of_body Bd) (by rw [← hh, Bd.state]; rfl)
theorem own_static (X : Stand p l e R s m args below meth c T locs cells slots) (hx : p.tables.exec = Jvm.exec) (hZ : Z.Warmed39 s.vm) (hown : s.vm.findClass own = some m.cls)
    (w1 : (Cond.methodLink own index y).before a0 Z = true) (w2 : (Cond.static y).before a0 Z = true) (w3 : (Cond.initialized y.cls).before a0 Z = true) (w4 : (Cond.code y bytes maxL ret).before a0 Z = true)
    (hy : y.cls ≠ "java/lang/invoke/MethodHandle" ∧ y.cls ≠ "java/lang/invoke/VarHandle") (hM : Con l Z y bytes maxL ret [] rm as' h Q) (eT : T.heap = h)
    {g : JFrame} (hg : g.method = m) (hsize : g.locals.size = c.maxLocals) {argsL rest : List Value} (hlen : ∀ sig, parseMethodDescriptor y.desc = some sig → argsL.length = sig.parameters.length) (hstack : g.stack = argsL.reverse ++ rest) (ha : argsL.toArray = as')
    (hW : 2 * g.monitorRoom + (rest.map fun v => v.category).sum ≤ W) (hf : rm.frames + 1 ≤ R.frames) (hl : W + (maxL + 11) + rm.locals ≤ R.locals)
    (hdg : decode c.code g.pc = .ok (.invokestatic index, 3)) (hc : cells + rm.cells ≤ R.cells) (hs : slots + rm.slots ≤ R.slots) :
    ∃ v T' L, Stand p l e R s m args below meth c T' (locs ++ L) (cells + rm.cells) (slots + rm.slots) ∧ Q v T'.heap L ∧
      ∀ t, Steps p.tables e below (T'.setTop { g with pc := g.pc + 3, stack := v.toList ++ rest }) t → Steps p.tables e below (T.setTop g) t := by
  obtain ⟨v, _, ⟨T', L', k', n'⟩, -, X', ⟨L, hQ, l', y', z'⟩, st⟩ := Jvm.LawKit.callS X hx (y := y) hown (mvT hZ w1) (mvT hZ w2) (mvT hZ w3) (mvT hZ w4) hy (backOf (W := W) hM hZ w4 w3 hf hl) hg hsize hlen hstack hW hdg (fun _ _ => ⟨ha, eT, hc, hs⟩)
  dsimp only [Pt.U, Pt.locs, Pt.cells, Pt.slots] at X' l' y' z' st hQ
  subst l' y' z'
  exact ⟨v, T', L, X', hQ, st⟩
theorem own_special (X : Stand p l e R s m args below meth c T locs cells slots) (hx : p.tables.exec = Jvm.exec) (hZ : Z.Warmed39 s.vm) (hown : s.vm.findClass own = some m.cls) (hy1 : y.name = "<init>")
    (w1 : (Cond.methodLink own index y).before a0 Z = true) (w2 : (Cond.instanceMethod y).before a0 Z = true) (w3 : (Cond.initialized y.cls).before a0 Z = true) (w4 : (Cond.code y bytes maxL none).before a0 Z = true)
    (hy : y.cls ≠ "java/lang/invoke/MethodHandle" ∧ y.cls ≠ "java/lang/invoke/VarHandle") (hM : Con l Z y bytes maxL none [] rm as' h Q) (eT : T.heap = h)
    {g : JFrame} (hg : g.method = m) (hsize : g.locals.size = c.maxLocals) {a : Addr} {argsL rest : List Value} (hlen : ∀ sig, parseMethodDescriptor y.desc = some sig → argsL.length = sig.parameters.length) (hstack : g.stack = argsL.reverse ++ .ref a :: rest) (ha : (.ref a :: argsL).toArray = as')
    (hW : 2 * g.monitorRoom + (rest.map fun v => v.category).sum ≤ W) (hf : rm.frames + 1 ≤ R.frames) (hl : W + (maxL + 11) + rm.locals ≤ R.locals)
    (hdg : decode c.code g.pc = .ok (.invokespecial index, 3)) (hc : cells + rm.cells ≤ R.cells) (hs : slots + rm.slots ≤ R.slots) :
    ∃ v T' L, Stand p l e R s m args below meth c T' (locs ++ L) (cells + rm.cells) (slots + rm.slots) ∧ Q v T'.heap L ∧
      ∀ t, Steps p.tables e below (T'.setTop { g with pc := g.pc + 3, stack := v.toList ++ rest }) t → Steps p.tables e below (T.setTop g) t := by
  obtain ⟨v, _, ⟨T', L', k', n'⟩, -, X', ⟨L, hQ, l', y', z'⟩, st⟩ := X.specialBack hx (y := y) hy1 hown (mvT hZ w1) (mvT hZ w2) (mvT hZ w4) hy (backOf (W := W) hM hZ w4 w3 hf hl) hg hsize (Steps.refl _) (a := a) hlen hstack hW hdg (fun _ _ => ⟨ha, eT, hc, hs⟩)
  dsimp only [Pt.U, Pt.locs, Pt.cells, Pt.slots] at X' l' y' z' st hQ
  subst l' y' z'
  exact ⟨v, T', L, X', hQ, fun t k => st.trans k⟩
theorem own_virtual (X : Stand p l e R s m args below meth c T locs cells slots) (hx : p.tables.exec = Jvm.exec) (hZ : Z.Warmed39 s.vm) (hown : s.vm.findClass own = some m.cls)
    (w1 : (Cond.methodLink own index y).before a0 Z = true) (w2 : (Cond.declares y).before a0 Z = true) (hnf : NotFace s y) (w3 : (Cond.selects C y z).before a0 Z = true) (w4 : (Cond.instanceMethod z).before a0 Z = true) (w5 : (Cond.initialized z.cls).before a0 Z = true) (w6 : (Cond.code z bytes maxL ret).before a0 Z = true)
    (hy : y.cls ≠ "java/lang/invoke/MethodHandle" ∧ y.cls ≠ "java/lang/invoke/VarHandle") (hM : Con l Z z bytes maxL ret [] rm as' h Q) (eT : T.heap = h) {a : Addr} (E : Exa Z h a C)
    {g : JFrame} (hg : g.method = m) (hsize : g.locals.size = c.maxLocals) {argsL rest : List Value} (hlen : ∀ sig, parseMethodDescriptor y.desc = some sig → argsL.length = sig.parameters.length) (hstack : g.stack = argsL.reverse ++ .ref a :: rest) (ha : (.ref a :: argsL).toArray = as')
    (hW : 2 * g.monitorRoom + (rest.map fun v => v.category).sum ≤ W) (hf : rm.frames + 1 ≤ R.frames) (hl : W + (maxL + 11) + rm.locals ≤ R.locals)
    (hdg : decode c.code g.pc = .ok (.invokevirtual index, 3)) (hc : cells + rm.cells ≤ R.cells) (hs : slots + rm.slots ≤ R.slots) :
    ∃ v T' L, Stand p l e R s m args below meth c T' (locs ++ L) (cells + rm.cells) (slots + rm.slots) ∧ Q v T'.heap L ∧
      ∀ t, Steps p.tables e below (T'.setTop { g with pc := g.pc + 3, stack := v.toList ++ rest }) t → Steps p.tables e below (T.setTop g) t := by
  obtain ⟨cB, kB, q1, q2, q3⟩ := isOf hZ eT E
  obtain ⟨v, _, ⟨T', L', k', n'⟩, -, X', ⟨L, hQ, l', y', z'⟩, st⟩ := X.virtualBack hx (y := y) (z := z) hown (mvT hZ w1) (mvT hZ w2) hnf (mvT hZ w3) (mvT hZ w4) hy (backOf (W := W) hM hZ w6 w5 hf hl) q1 q3 hg hsize (Steps.refl _) hlen hstack hW hdg (fun _ _ => ⟨ha, eT, hc, hs⟩)
  dsimp only [Pt.U, Pt.locs, Pt.cells, Pt.slots] at X' l' y' z' st hQ
  subst l' y' z'
  exact ⟨v, T', L, X', hQ, fun t k => st.trans k⟩
theorem own_face (X : Stand p l e R s m args below meth c T locs cells slots) (hx : p.tables.exec = Jvm.exec) (hZ : Z.Warmed39 s.vm) (hown : s.vm.findClass own = some m.cls) {count : Nat}
    (w1 : (Cond.methodLink own index y).before a0 Z = true) (w2 : (Cond.declares y).before a0 Z = true) (w3 : (Cond.interfaceMethod y.cls y.cls y.name y.desc).before args s = true) (w4 : (Cond.selects C y z).before a0 Z = true) (w5 : (Cond.instanceMethod z).before a0 Z = true)
    (w6 : (Cond.publicMethod z).before a0 Z = true) (w7 : (Cond.unhidden C y.name y.desc).before a0 Z = true) (w8 : (Cond.castable C y.cls).before a0 Z = true) (w9 : (Cond.initialized z.cls).before a0 Z = true) (w10 : (Cond.code z bytes maxL ret).before a0 Z = true)
    (hy : y.cls ≠ "java/lang/invoke/MethodHandle" ∧ y.cls ≠ "java/lang/invoke/VarHandle") (hM : Con l Z z bytes maxL ret [] rm as' h Q) (eT : T.heap = h) {a : Addr} (E : Exa Z h a C)
    {g : JFrame} (hg : g.method = m) (hsize : g.locals.size = c.maxLocals) {argsL rest : List Value} (hlen : ∀ sig, parseMethodDescriptor y.desc = some sig → argsL.length = sig.parameters.length) (hstack : g.stack = argsL.reverse ++ .ref a :: rest) (ha : (.ref a :: argsL).toArray = as')
    (hW : 2 * g.monitorRoom + (rest.map fun v => v.category).sum ≤ W) (hf : rm.frames + 1 ≤ R.frames) (hl : W + (maxL + 11) + rm.locals ≤ R.locals)
    (hdg : decode c.code g.pc = .ok (.invokeinterface index count, 5)) (hc : cells + rm.cells ≤ R.cells) (hs : slots + rm.slots ≤ R.slots) :
    ∃ v T' L, Stand p l e R s m args below meth c T' (locs ++ L) (cells + rm.cells) (slots + rm.slots) ∧ Q v T'.heap L ∧
      ∀ t, Steps p.tables e below (T'.setTop { g with pc := g.pc + 5, stack := v.toList ++ rest }) t → Steps p.tables e below (T.setTop g) t := by
  obtain ⟨cB, kB, q1, q2, q3⟩ := isOf hZ eT E
  obtain ⟨v, _, ⟨T', L', k', n'⟩, -, X', ⟨L, hQ, l', y', z'⟩, st⟩ := X.interfaceBack hx (xi := y) (y := z) hown (mvT hZ w1) (mvT hZ w2) w3 (mvT hZ w4) (mvT hZ w5) (mvT hZ w6) (mvT hZ w7) (mvT hZ w8) hy (backOf (W := W) hM hZ w10 w9 hf hl) q1 q2 q3 hg hsize (Steps.refl _) hlen hstack hW hdg (fun _ _ => ⟨ha, eT, hc, hs⟩)
  dsimp only [Pt.U, Pt.locs, Pt.cells, Pt.slots] at X' l' y' z' st hQ
  subst l' y' z'
  exact ⟨v, T', L, X', hQ, fun t k => st.trans k⟩
theorem own_private (X : Stand p l e R s m args below meth c T locs cells slots) (hx : p.tables.exec = Jvm.exec) (hZ : Z.Warmed39 s.vm) (hown : s.vm.findClass own = some m.cls)
    (w1 : (Cond.methodLink own index y).before a0 Z = true) (w2 : (Cond.instanceMethod y).before a0 Z = true) (w3 : (Cond.selects y.cls y y).before a0 Z = true) (hp : s.PrivateAt y) (w5 : (Cond.initialized y.cls).before a0 Z = true) (w6 : (Cond.code y bytes maxL ret).before a0 Z = true)
    (hy : y.cls ≠ "java/lang/invoke/MethodHandle" ∧ y.cls ≠ "java/lang/invoke/VarHandle") (hM : Con l Z y bytes maxL ret [] rm as' h Q) (eT : T.heap = h) {a : Addr} (E : Exa Z h a C)
    {g : JFrame} (hg : g.method = m) (hsize : g.locals.size = c.maxLocals) {argsL rest : List Value} (hlen : ∀ sig, parseMethodDescriptor y.desc = some sig → argsL.length = sig.parameters.length) (hstack : g.stack = argsL.reverse ++ .ref a :: rest) (ha : (.ref a :: argsL).toArray = as')
    (hW : 2 * g.monitorRoom + (rest.map fun v => v.category).sum ≤ W) (hf : rm.frames + 1 ≤ R.frames) (hl : W + (maxL + 11) + rm.locals ≤ R.locals)
    (hdg : decode c.code g.pc = .ok (.invokevirtual index, 3)) (hc : cells + rm.cells ≤ R.cells) (hs : slots + rm.slots ≤ R.slots) :
    ∃ v T' L, Stand p l e R s m args below meth c T' (locs ++ L) (cells + rm.cells) (slots + rm.slots) ∧ Q v T'.heap L ∧
      ∀ t, Steps p.tables e below (T'.setTop { g with pc := g.pc + 3, stack := v.toList ++ rest }) t → Steps p.tables e below (T.setTop g) t := by
  obtain ⟨cq, q1, q2⟩ := E.cell
  obtain ⟨v, _, ⟨T', L', k', n'⟩, -, X', ⟨L, hQ, l', y', z'⟩, st⟩ := X.privateBack hx (y := y) hown (mvT hZ w1) (mvT hZ w2) (mvT hZ w3) hp (mvT hZ w6) hy (backOf (W := W) hM hZ w6 w5 hf hl) hg hsize (Steps.refl _) (a := a) (by rw [eT]; exact q1) q2 hlen hstack hW hdg (fun _ _ => ⟨ha, eT, hc, hs⟩)
  dsimp only [Pt.U, Pt.locs, Pt.cells, Pt.slots] at X' l' y' z' st hQ
  subst l' y' z'
  exact ⟨v, T', L, X', hQ, fun t k => st.trans k⟩
/-- a call that left the heap as it was -/
theorem own_pure {w : Option Value} {g : JFrame} {g' : Option Value → JFrame} (q : ∃ v T' L, Stand p l e R s m args below meth c T' (locs ++ L) (cells + rm.cells) (slots + rm.slots) ∧ Pur w h v T'.heap L ∧ ∀ t, Steps p.tables e below (T'.setTop (g' v)) t → Steps p.tables e below (T.setTop g) t)
    (hc : rm.cells = 0 := by rfl) (hs : rm.slots = 0 := by rfl) : ∃ T', Stand p l e R s m args below meth c T' locs cells slots ∧ T'.heap = h ∧ ∀ t, Steps p.tables e below (T'.setTop (g' w)) t → Steps p.tables e below (T.setTop g) t := by
  obtain ⟨v, T', L, X', ⟨rfl, rfl, hh⟩, st⟩ := q
  rw [List.append_nil, hc, hs] at X'
  exact ⟨T', X', hh, st⟩
end Calls
section Facts
variable {Z : State} {h h' : Heap} {a b : Addr} {C n d : String} {v : Value} {n0 : Nat}
theorem Old.le (O : Old Z n0 h) : n0 ≤ h.size := O.1 ▸ O.2.1
end Facts
end Jvm.OwnKit
namespace Jvm.OwnKit
open Jvm Jvm.ClassFile Sem Op Lib Jvm.Free Jvm.Stand Jvm.LawKit Jvm.RoadKit
section Arrays
variable {p : Program} {l : Launch} {e : Env} {R : Room} {s : State} {m : MethodId} {args : Array Value} {below : List Frame} {meth : Method} {c : Code} {T : State} {locs : List Loc} {cells slots : Nat} {Z : State} {h : Heap}
theorem own_alen (X : Stand p l e R s m args below meth c T locs cells slots) (hx : p.tables.exec = Jvm.exec) (hZ : Z.Warmed39 s.vm) (eT : T.heap = h) {a : Addr} {cl : Cell} {ty : FieldType} {z : Int32} (A : Arr Z h a cl ty) (S : cl.slots.size = z.toNatClampNeg) (M : ¬ z < 0)
    {g : JFrame} (hg : g.method = m) {rest : List Value} (hs : g.stack = .ref a :: rest) (hd : decode c.code g.pc = .ok (.arraylength, 1)) :
    ∀ t, Steps p.tables e below (T.setTop { g with pc := g.pc + 1, stack := .int z :: rest }) t → Steps p.tables e below (T.setTop g) t := fun t k =>
  X.arraylength hx (by rw [eT]; exact A.1) (State.isArrayOf_alike hZ.alike A.2.1) hg hs hd _ (by rw [len_of S M]; exact k)
end Arrays
end Jvm.OwnKit
namespace Jvm.OwnKit
open Jvm Jvm.ClassFile Sem Op Lib Jvm.Free Jvm.Stand Jvm.LawKit Jvm.RoadKit
theorem Ins.keep {Z : State} {h h' : Heap} {a : Addr} {C : String} {b : Bool} {ws : List Addr} (F : Ins Z h a C b) (K : Keep h h' ws) : Ins Z h' a C b := by
  obtain ⟨cell, cT, h1, h2, h3⟩ := F
  obtain ⟨c', e1, e2, e3, -⟩ := K.2.2 _ _ h1
  exact ⟨c', cT, e1, h2, by rw [e2, e3]; exact h3⟩
theorem cat1_of {v : Value} (h : v.isRef = true) : v.category = 1 := by
  rcases ref_cases h with rfl | ⟨a, rfl⟩ <;> rfl
theorem fits_refv {t : FieldType} {v : Value} (h : v.isRef = true) (ht : t.isReference = true) : fits t v = true := by
  rcases ref_cases h with rfl | ⟨a, rfl⟩ <;> cases t <;> first | rfl | cases ht
section Bounds
variable {x y a b c d : Int32}
theorem bnd_and (x m : Int32) (h : 0 ≤ m.toInt) : ¬ (x &&& m) < (0 : Int32) ∧ ¬ m < (x &&& m) := by
  have q := c_and x m h
  have e : (0 : Int32).toInt = 0 := rfl
  rw [Int32.lt_iff_toInt_lt, Int32.lt_iff_toInt_lt, e]; omega
theorem bnd_and' (x m : Int32) (h : 0 ≤ m.toInt) : ¬ (m &&& x) < (0 : Int32) ∧ ¬ m < (m &&& x) := by
  have q := c_and' m x h
  have e : (0 : Int32).toInt = 0 := rfl
  rw [Int32.lt_iff_toInt_lt, Int32.lt_iff_toInt_lt, e]; omega
theorem bnd_mono (h : ¬ x < a ∧ ¬ b < x) (h1 : c.toInt ≤ a.toInt) (h2 : b.toInt ≤ d.toInt) : ¬ x < c ∧ ¬ d < x := by
  simp only [Int32.lt_iff_toInt_lt] at *; omega
theorem bnd_lt (h : ¬ x < a ∧ ¬ b < x) (k : ¬ y < c ∧ ¬ d < y) (q : b.toInt < c.toInt) : x < y := by
  simp only [Int32.lt_iff_toInt_lt] at *; omega
theorem bnd_nlt (h : ¬ x < a ∧ ¬ b < x) (k : ¬ y < c ∧ ¬ d < y) (q : d.toInt ≤ a.toInt) : ¬ x < y := by
  simp only [Int32.lt_iff_toInt_lt] at *; omega
theorem bnd_ne (h : ¬ x < a ∧ ¬ b < x) (k : ¬ y < c ∧ ¬ d < y) (q : b.toInt < c.toInt ∨ d.toInt < a.toInt) : ¬ x = y := by
  intro e; subst e
  simp only [Int32.lt_iff_toInt_lt] at *; omega
theorem bnd_rem (h : ¬ x < a ∧ ¬ b < x) (h1 : 0 ≤ a.toInt) (h2 : 0 < y.toInt) : ¬ (x % y) < (0 : Int32) ∧ ¬ (y - 1) < (x % y) := by
  have q := (c_iremV x y).1
  have e : (0 : Int32).toInt = 0 := rfl
  have e1 := c_isub y 1
  have e2 : (1 : Int32).toInt = 1 := rfl
  have r := rng32 y
  have r2 := rng32 (y - 1)
  simp only [Int32.lt_iff_toInt_lt, e] at *
  have h0 : 0 ≤ x.toInt := by omega
  have q := q h0 h2
  omega
theorem bnd_add {lo hi : Int32} (h : ¬ x < a ∧ ¬ b < x) (k : ¬ y < c ∧ ¬ d < y) (q1 : lo.toInt = a.toInt + c.toInt) (q2 : hi.toInt = b.toInt + d.toInt) (q3 : -2147483648 ≤ a.toInt + c.toInt) (q4 : b.toInt + d.toInt < 2147483648) : ¬ (x + y) < lo ∧ ¬ hi < (x + y) := by
  have e := c_iadd x y
  have r := rng32 (x + y)
  simp only [Int32.lt_iff_toInt_lt] at *
  omega
theorem bnd_sub {lo hi : Int32} (h : ¬ x < a ∧ ¬ b < x) (k : ¬ y < c ∧ ¬ d < y) (q1 : lo.toInt = a.toInt - d.toInt) (q2 : hi.toInt = b.toInt - c.toInt) (q3 : -2147483648 ≤ a.toInt - d.toInt) (q4 : b.toInt - c.toInt < 2147483648) : ¬ (x - y) < lo ∧ ¬ hi < (x - y) := by
  have e := c_isub x y
  have r := rng32 (x - y)
  simp only [Int32.lt_iff_toInt_lt] at *
  omega
theorem bnd_ushr (x : Int32) {q hi : Int32} {k : Nat} (hk : q.toBitVec.toNat % 32 = k ∧ 0 < k) (hh : hi.toInt = 4294967296 / (2 ^ k : Nat) - 1) : ¬ ((x.toUInt32 >>> (q &&& 31).toUInt32).toInt32) < (0 : Int32) ∧ ¬ hi < ((x.toUInt32 >>> (q &&& 31).toUInt32).toInt32) := by
  have e := c_iushr x q k hk.1 hk.2
  have e0 : (0 : Int32).toInt = 0 := rfl
  simp only [Int32.lt_iff_toInt_lt, e, hh, e0]
  have p : (0 : Int) < (2 ^ k : Nat) := by exact_mod_cast Nat.two_pow_pos k
  have m0 := Int.emod_nonneg x.toInt (show (4294967296 : Int) ≠ 0 by decide)
  have m1 := Int.emod_lt_of_pos x.toInt (show (0 : Int) < 4294967296 by decide)
  have d0 := Int.ediv_nonneg m0 (Int.le_of_lt p)
  have hk32 : k < 32 := by rw [← hk.1]; exact Nat.mod_lt _ (by decide)
  have dd : (4294967296 : Int) = (2 ^ (32 - k) : Nat) * (2 ^ k : Nat) := by
    rw [← Int.natCast_mul, ← Nat.pow_add, Nat.sub_add_cancel (Nat.le_of_lt hk32)]; rfl
  have d1 : x.toInt % 4294967296 / (2 ^ k : Nat) < (2 ^ (32 - k) : Nat) := by
    apply Int.ediv_lt_of_lt_mul p; rw [← dd]; exact m1
  have d2 : (4294967296 : Int) / (2 ^ k : Nat) = (2 ^ (32 - k) : Nat) := by
    rw [dd]; exact Int.mul_ediv_cancel _ (by omega)
  omega
theorem bnd_i2c (x : Int32) : ¬ (x.toUInt32.toUInt16.toUInt32.toInt32) < (0 : Int32) ∧ ¬ (65535 : Int32) < (x.toUInt32.toUInt16.toUInt32.toInt32) := by
  have q := c_i2c x
  have e : (0 : Int32).toInt = 0 := rfl
  have e1 : (65535 : Int32).toInt = 65535 := rfl
  simp only [Int32.lt_iff_toInt_lt, e, e1]; omega
theorem bnd_i2b (x : Int32) : ¬ (x.toInt8.toInt32) < (-128 : Int32) ∧ ¬ (127 : Int32) < (x.toInt8.toInt32) := by
  have q := c_i2b x
  have e : (-128 : Int32).toInt = -128 := rfl
  have e1 : (127 : Int32).toInt = 127 := rfl
  simp only [Int32.lt_iff_toInt_lt, e, e1]; omega
theorem i2c_id (h : ¬ x < a ∧ ¬ b < x) (h1 : 0 ≤ a.toInt) (h2 : b.toInt ≤ 65535) : x.toUInt32.toUInt16.toUInt32.toInt32 = x := by
  have q := c_i2c x
  simp only [Int32.lt_iff_toInt_lt] at h
  apply Int32.toInt_inj.mp; omega
theorem i2b_id (h : ¬ x < a ∧ ¬ b < x) (h1 : -128 ≤ a.toInt) (h2 : b.toInt ≤ 127) : x.toInt8.toInt32 = x := by
  have q := c_i2b x
  simp only [Int32.lt_iff_toInt_lt] at h
  apply Int32.toInt_inj.mp; omega
theorem bnd_lit (k : Int32) : ¬ k < k ∧ ¬ k < k := by
  simp only [Int32.lt_iff_toInt_lt]; omega
theorem bnd_all (x : Int32) : ¬ x < (-2147483648 : Int32) ∧ ¬ (2147483647 : Int32) < x := by
  have r := rng32 x
  have e1 : (-2147483648 : Int32).toInt = -2147483648 := rfl
  have e2 : (2147483647 : Int32).toInt = 2147483647 := rfl
  simp only [Int32.lt_iff_toInt_lt, e1, e2]; omega
theorem bnd_up (h : c < x) (q : d.toInt = c.toInt + 1) : ¬ x < d := by
  simp only [Int32.lt_iff_toInt_lt] at *; omega
theorem bnd_dn (h : x < c) (q : d.toInt = c.toInt - 1) : ¬ d < x := by
  simp only [Int32.lt_iff_toInt_lt] at *; omega
theorem bnd_eql (h : x = c) : ¬ x < c := by
  subst h; simp only [Int32.lt_iff_toInt_lt]; omega
theorem bnd_eqr (h : x = c) : ¬ c < x := by
  subst h; simp only [Int32.lt_iff_toInt_lt]; omega
theorem bnd_nel (h : ¬ x < c) (k : ¬ x = c) (q : d.toInt = c.toInt + 1) : ¬ x < d := by
  rw [← Int32.toInt_inj] at k; simp only [Int32.lt_iff_toInt_lt] at *; omega
theorem bnd_ner (h : ¬ c < x) (k : ¬ x = c) (q : d.toInt = c.toInt - 1) : ¬ d < x := by
  rw [← Int32.toInt_inj] at k; simp only [Int32.lt_iff_toInt_lt] at *; omega
theorem bnd_fix (h : ¬ x < c ∧ ¬ c < x) : x = c := by
  rw [← Int32.toInt_inj]; simp only [Int32.lt_iff_toInt_lt] at *; omega
theorem nar_char_id (h : ¬ x < a ∧ ¬ b < x) (h1 : 0 ≤ a.toInt) (h2 : b.toInt ≤ 65535) : nar .char x = x := i2c_id h h1 h2
theorem nar_byte_id (h : ¬ x < a ∧ ¬ b < x) (h1 : -128 ≤ a.toInt) (h2 : b.toInt ≤ 127) : nar .byte x = x := i2b_id h h1 h2
theorem nar_i2c (x : Int32) : nar .char (x.toUInt32.toUInt16.toUInt32.toInt32) = x.toUInt32.toUInt16.toUInt32.toInt32 := nar_char_id (bnd_i2c x) (by decide) (by decide)
theorem nar_i2b (x : Int32) : nar .byte (x.toInt8.toInt32) = x.toInt8.toInt32 := nar_byte_id (bnd_i2b x) (by decide) (by decide)
theorem nar_bool_id (h : ¬ x < a ∧ ¬ b < x) (h1 : 0 ≤ a.toInt) (h2 : b.toInt ≤ 1) : nar .boolean x = x := by
  simp only [Int32.lt_iff_toInt_lt] at h
  have hx : x.toInt = 0 ∨ x.toInt = 1 := by omega
  rcases hx with q | q
  · have : x = 0 := Int32.toInt_inj.mp q
    subst this; rfl
  · have : x = 1 := Int32.toInt_inj.mp q
    subst this; rfl
end Bounds
theorem Wr.to {h h' : Heap} {a : Addr} {sl : Nat} {v w : Value} (W : Wr h h' a sl v) (q : v = w) : Wr h h' a sl w := q ▸ W
theorem fits_char_b {x a b : Int32} (h : ¬ x < a ∧ ¬ b < x) (h1 : 0 ≤ a.toInt) (h2 : b.toInt ≤ 65535) : fits .char (.int x) = true := by
  have q := fits_nar_char x
  rw [nar_char_id h h1 h2] at q; exact q
theorem fits_byte_b {x a b : Int32} (h : ¬ x < a ∧ ¬ b < x) (h1 : -128 ≤ a.toInt) (h2 : b.toInt ≤ 127) : fits .byte (.int x) = true := by
  have q := fits_nar_byte x
  rw [i2b_id h h1 h2] at q; exact q
/-- null, or an object of exactly that class -/
def Nul (Z : State) (h : Heap) (x : Value) (C : String) : Prop := x = .null ∨ ∃ a, x = .ref a ∧ Exa Z h a C
section Nulls
variable {Z : State} {h h' : Heap} {x : Value} {C : String}
theorem Nul.null (Z : State) (h : Heap) (C : String) : Nul Z h .null C := Or.inl rfl
theorem Nul.of {a : Addr} (E : Exa Z h a C) : Nul Z h (.ref a) C := Or.inr ⟨a, rfl, E⟩
theorem Nul.ext (N : Nul Z h x C) (E : Ext h h') : Nul Z h' x C := N.imp id fun ⟨a, e, F⟩ => ⟨a, e, F.ext E⟩
theorem Nul.wr {a : Addr} {sl : Nat} {v : Value} (N : Nul Z h x C) (W : Wr h h' a sl v) : Nul Z h' x C := N.imp id fun ⟨a, e, F⟩ => ⟨a, e, F.wr W⟩
theorem Nul.keep {ws : List Addr} (N : Nul Z h x C) (K : Keep h h' ws) : Nul Z h' x C := N.imp id fun ⟨a, e, F⟩ => ⟨a, e, F.keep K⟩
theorem Nul.isRef (N : Nul Z h x C) : x.isRef = true := by rcases N with rfl | ⟨a, rfl, -⟩ <;> rfl
theorem Sto.ofN {a : Addr} {c : Cell} {ty : FieldType} {k : ClassId} {K : String} (A : Arr Z h a c ty) (q : c.cls = k) (O : Ovr Z k K) (N : Nul Z h x C) (f : ∀ {y : Addr}, Exa Z h y C → Ins Z h y K true) : Sto Z h a x := by
  rcases N with rfl | ⟨y, rfl, E⟩
  · exact Or.inl rfl
  · exact Sto.ofV A q O (f E)
end Nulls
section NotSub
variable {Z : State} {a0 : Array Value} {C S O K : String} {nn : Nat}
theorem own_ns_root (w : (Jvm.Cond.noSuperclass O).before a0 Z = true) (wk : (Jvm.Cond.instantiable K nn).before a0 Z = true) (hn : O ≠ K) : NS Z O K := by
  obtain ⟨c, k, h1, h2, h3, -, -⟩ := Cond.noSuperclass_spec w
  obtain ⟨t, kt, g1, -⟩ := Cond.instantiable_spec wk
  have ne := ids_ne h1 g1 hn
  refine ⟨c, t, h1, g1, fun fuel => ?_⟩
  cases fuel with
  | zero => rfl
  | succ f => simp [Vm.isSubclassAux, ne, h2, h3]
theorem own_ns_no (w : (Jvm.Cond.superclass C S).before a0 Z = true) (wk : (Jvm.Cond.instantiable K nn).before a0 Z = true) (n : NS Z C K) (hn : C ≠ K) : ∃ c t, Z.vm.findClass C = some c ∧ Z.vm.findClass K = some t ∧ Z.vm.assignable c t = false := by
  obtain ⟨c, t, h0, g0, n3⟩ := n
  obtain ⟨p, k, kp, h1, h2, h3, h4, h5, -, h7⟩ := Cond.superclass_spec h0 w
  obtain ⟨t', kt, g1, g2, g3, g4, -⟩ := Cond.instantiable_spec wk
  cases g0.symm.trans g1
  have ne := ids_ne h0 g0 hn
  have g5 : kt.isInterface = false := by simp only [Bool.or_eq_false_iff] at g4; exact g4.1
  refine ⟨c, t, h0, g0, ?_⟩
  show Z.vm.assignableAux (255 + 1) c t = false
  simp [Vm.assignableAux, ne, h2, g2, h5, g3, g5, Vm.isSubclass, n3]
end NotSub
theorem Fld.to {Z : State} {h : Heap} {a : Addr} {C n d : String} {v w : Value} (F : Fld Z h a C n d v) (q : v = w) : Fld Z h a C n d w := q ▸ F
end Jvm.OwnKit
namespace Jvm.Pilot.@@N@@
open Jvm Jvm.ClassFile Sem Op Lib Jvm.Free Jvm.Stand Jvm.LawKit Jvm.RoadKit Jvm.OwnKit Bundle Jvm.Pilot.@@N@@.Jvm.D
theorem own_sta_long {Z : State} {args : Array Value} {C n d : String} {k : Int64} (h : (Jvm.Cond.eq (Jvm.Term.static C n d) (Jvm.Term.long k)).value args Z none Z [] = some true) (w1 : (Jvm.Cond.initialized C).before args Z = true) (w2 : (Jvm.Cond.laysStatic C n d).before args Z = true) : Sta Z Z.heap C n d (.long k) :=
  Sta.start (eqv_l (long_at k) h) (Or.inr ⟨w1, w2⟩)
theorem own_bit {P : Prop} [Decidable P] : nar .boolean (if P then (1 : Int32) else (0 : Int32)) = (if P then (1 : Int32) else (0 : Int32)) := by
  split <;> rfl
theorem own_one : nar .boolean (1 : Int32) = (1 : Int32) := rfl
theorem own_zero : nar .boolean (0 : Int32) = (0 : Int32) := rfl
theorem own_10 : ¬ ((1 : Int32) = 0) := by decide
theorem own_ush (x : Int64) (s : UInt64) (h : 0 ≤ x.toInt) : 0 ≤ ((x.toUInt64 >>> s).toInt64).toInt ∧ ((x.toUInt64 >>> s).toInt64).toInt ≤ x.toInt := by
  have e1 : x.toInt = (x.toUInt64.toNat : Int) := by
    have q : x.toInt = x.toBitVec.toInt := rfl
    rw [q] at h ⊢
    have q2 : x.toUInt64.toNat = x.toBitVec.toNat := rfl
    rw [q2]
    have := BitVec.toInt_eq_toNat_cond x.toBitVec
    have l := x.toBitVec.isLt
    split at this <;> omega
  have e2 : (x.toUInt64 >>> s).toNat ≤ x.toUInt64.toNat := by
    rw [UInt64.toNat_shiftRight, Nat.shiftRight_eq_div_pow]
    exact Nat.div_le_self _ _
  have e3 : ((x.toUInt64 >>> s).toInt64).toInt = ((x.toUInt64 >>> s).toNat : Int) := by
    generalize (x.toUInt64 >>> s) = u at *
    have q : u.toInt64.toInt = u.toBitVec.toInt := rfl
    have q2 : u.toNat = u.toBitVec.toNat := rfl
    rw [q]
    have := BitVec.toInt_eq_toNat_cond u.toBitVec
    have l := x.toInt_lt
    split at this <;> omega
  omega
theorem own_nneg {x : Int64} (h : 0 ≤ x.toInt) : ¬ x < (0 : Int64) := by
  rw [Int64.lt_iff_toInt_lt]; have : (0 : Int64).toInt = 0 := rfl
  omega
theorem own_ladd (a b : Int64) (h1 : 0 ≤ a.toInt ∧ a.toInt < 4294967296) (h2 : 0 ≤ b.toInt ∧ b.toInt < 4294967296) : (a + b).toInt = a.toInt + b.toInt := by
  rw [Int64.toInt_add, Int.bmod_def]
  omega
theorem own_r1 (a b : Int64) : (a + b) - a = b := by
  rw [← Int64.toBitVec_inj, Int64.toBitVec_sub, Int64.toBitVec_add, BitVec.add_comm, BitVec.add_sub_cancel]
theorem own_r2 (a b c : Int64) : ((a + b) + c) - a = b + c := by
  rw [Int64.add_assoc]; exact own_r1 _ _
theorem own_mask31 (x : Int32) : 0 ≤ ((x &&& (2147483647 : Int32)).toInt64).toInt ∧ ((x &&& (2147483647 : Int32)).toInt64).toInt < 2147483648 := by
  rw [c_i2l]
  have h := c_and x (2147483647 : Int32) (by decide)
  have e : (2147483647 : Int32).toInt = 2147483647 := rfl
  omega
theorem d1_0 : decode prog_26_method_1_code 0 = .ok (.aload_n 0, 1) := by decide +kernel
theorem sg1_0_1 : decs prog_26_method_1_code [(0, .aload_n 0, 1)] := ⟨d1_0, trivial⟩
theorem d1_1 : decode prog_26_method_1_code 1 = .ok (.invokespecial 1, 3) := by decide +kernel
theorem own_w9 {Z : State} {a0 : Array Value} (hw : ∀ d ∈ tables_1, d.before a0 Z = true) : (Jvm.Cond.methodLink "com/example/tryst/tryst/pubsub/Pacing" (1 : Nat) ({ cls := "java/lang/Object", name := "<init>", desc := "()V" } : Jvm.MethodName)).before a0 Z = true := hw _ (List.mem_of_getElem? (i := 9) rfl)
theorem own_w11 {Z : State} {a0 : Array Value} (hw : ∀ d ∈ tables_1, d.before a0 Z = true) : (Jvm.Cond.code ({ cls := "java/lang/Object", name := "<init>", desc := "()V" } : Jvm.MethodName) object_method_1_code (1 : Nat) (Option.none : Option Jvm.ClassFile.FieldType)).before a0 Z = true := hw _ (List.mem_of_getElem? (i := 11) rfl)
theorem own_w10 {Z : State} {a0 : Array Value} (hw : ∀ d ∈ tables_1, d.before a0 Z = true) : (Jvm.Cond.instanceMethod ({ cls := "java/lang/Object", name := "<init>", desc := "()V" } : Jvm.MethodName)).before a0 Z = true := hw _ (List.mem_of_getElem? (i := 10) rfl)
theorem d1_4 : decode prog_26_method_1_code 4 = .ok (.aload_n 0, 1) := by decide +kernel
theorem d1_5 : decode prog_26_method_1_code 5 = .ok (.iload_n 1, 1) := by decide +kernel
theorem sg1_4_2 : decs prog_26_method_1_code [(4, .aload_n 0, 1), (5, .iload_n 1, 1)] := ⟨d1_4, d1_5, trivial⟩
theorem d1_6 : decode prog_26_method_1_code 6 = .ok (.putfield 7, 3) := by decide +kernel
theorem own_w12 {Z : State} {a0 : Array Value} (hw : ∀ d ∈ tables_1, d.before a0 Z = true) : (Jvm.Cond.fieldLink "com/example/tryst/tryst/pubsub/Pacing" (7 : Nat) "com/example/tryst/tryst/pubsub/Pacing" "processors" "I").before a0 Z = true := hw _ (List.mem_of_getElem? (i := 12) rfl)
theorem own_w13 {Z : State} {a0 : Array Value} (hw : ∀ d ∈ tables_1, d.before a0 Z = true) : (Jvm.Cond.laysFinal "com/example/tryst/tryst/pubsub/Pacing" "com/example/tryst/tryst/pubsub/Pacing" "processors" "I").before a0 Z = true := hw _ (List.mem_of_getElem? (i := 13) rfl)
theorem own_w4 {Z : State} {a0 : Array Value} (hw : ∀ d ∈ tables_1, d.before a0 Z = true) : (Jvm.Cond.instantiable "com/example/tryst/tryst/pubsub/Pacing" (5 : Nat)).before a0 Z = true := hw _ (List.mem_of_getElem? (i := 4) rfl)
theorem d1_9 : decode prog_26_method_1_code 9 = .ok (.return_, 1) := by decide +kernel
theorem ef_rm1 (m : MethodId) (x0 : Addr) (x1 : Int32) : entryFrame m #[(.ref x0), (.int x1)] 2 = mkF m 0 #[.val (.ref x0), .val (.int x1)] [] := by first | (simp [entryFrame, mkF, argsToLocals, Value.category]; done) | rfl
theorem own_w20 {Z : State} {a0 : Array Value} (hw : ∀ d ∈ tables_1, d.before a0 Z = true) : (Jvm.Cond.lays "com/example/tryst/tryst/pubsub/Pacing" "com/example/tryst/tryst/pubsub/Pacing" "judging" "Z").before a0 Z = true := hw _ (List.mem_of_getElem? (i := 20) rfl)
theorem own_w22 {Z : State} {a0 : Array Value} (hw : ∀ d ∈ tables_1, d.before a0 Z = true) : (Jvm.Cond.lays "com/example/tryst/tryst/pubsub/Pacing" "com/example/tryst/tryst/pubsub/Pacing" "stretchStart" "J").before a0 Z = true := hw _ (List.mem_of_getElem? (i := 22) rfl)
theorem own_w24 {Z : State} {a0 : Array Value} (hw : ∀ d ∈ tables_1, d.before a0 Z = true) : (Jvm.Cond.lays "com/example/tryst/tryst/pubsub/Pacing" "com/example/tryst/tryst/pubsub/Pacing" "othersAtStart" "J").before a0 Z = true := hw _ (List.mem_of_getElem? (i := 24) rfl)
theorem own_w26 {Z : State} {a0 : Array Value} (hw : ∀ d ∈ tables_1, d.before a0 Z = true) : (Jvm.Cond.lays "com/example/tryst/tryst/pubsub/Pacing" "com/example/tryst/tryst/pubsub/Pacing" "busy" "Z").before a0 Z = true := hw _ (List.mem_of_getElem? (i := 26) rfl)
theorem own_pn0 : plainName "com/example/tryst/tryst/pubsub/Pacing" = true := by first | (simp [plainName, overriddenIn]; done) | decide +kernel
theorem d3_0 : decode prog_26_method_2_code 0 = .ok (.lload 5, 2) := by decide +kernel
theorem d3_2 : decode prog_26_method_2_code 2 = .ok (.lconst 0, 1) := by decide +kernel
theorem d3_3 : decode prog_26_method_2_code 3 = .ok (.lcmp, 1) := by decide +kernel
theorem sg3_0_3 : decs prog_26_method_2_code [(0, .lload 5, 2), (2, .lconst 0, 1), (3, .lcmp, 1)] := ⟨d3_0, d3_2, d3_3, trivial⟩
theorem d3_4 : decode prog_26_method_2_code 4 = .ok (.ifCond .ge 11, 3) := by decide +kernel
theorem d3_7 : decode prog_26_method_2_code 7 = .ok (.aload_n 0, 1) := by decide +kernel
theorem d3_8 : decode prog_26_method_2_code 8 = .ok (.iconst 1, 1) := by decide +kernel
theorem sg3_7_2 : decs prog_26_method_2_code [(7, .aload_n 0, 1), (8, .iconst 1, 1)] := ⟨d3_7, d3_8, trivial⟩
theorem d3_9 : decode prog_26_method_2_code 9 = .ok (.putfield 13, 3) := by decide +kernel
theorem own_w25 {Z : State} {a0 : Array Value} (hw : ∀ d ∈ tables_1, d.before a0 Z = true) : (Jvm.Cond.fieldLink "com/example/tryst/tryst/pubsub/Pacing" (13 : Nat) "com/example/tryst/tryst/pubsub/Pacing" "busy" "Z").before a0 Z = true := hw _ (List.mem_of_getElem? (i := 25) rfl)
theorem d3_12 : decode prog_26_method_2_code 12 = .ok (.goto 93, 3) := by decide +kernel
theorem sg3_12_1 : decs prog_26_method_2_code [(12, .goto 93, 3)] := ⟨d3_12, trivial⟩
theorem d3_15 : decode prog_26_method_2_code 15 = .ok (.aload_n 0, 1) := by decide +kernel
theorem sg3_15_1 : decs prog_26_method_2_code [(15, .aload_n 0, 1)] := ⟨d3_15, trivial⟩
theorem d3_16 : decode prog_26_method_2_code 16 = .ok (.getfield 17, 3) := by decide +kernel
theorem own_w19 {Z : State} {a0 : Array Value} (hw : ∀ d ∈ tables_1, d.before a0 Z = true) : (Jvm.Cond.fieldLink "com/example/tryst/tryst/pubsub/Pacing" (17 : Nat) "com/example/tryst/tryst/pubsub/Pacing" "judging" "Z").before a0 Z = true := hw _ (List.mem_of_getElem? (i := 19) rfl)
theorem d3_19 : decode prog_26_method_2_code 19 = .ok (.ifCond .ne 22, 3) := by decide +kernel
theorem d3_22 : decode prog_26_method_2_code 22 = .ok (.aload_n 0, 1) := by decide +kernel
theorem d3_23 : decode prog_26_method_2_code 23 = .ok (.iconst 1, 1) := by decide +kernel
theorem sg3_22_2 : decs prog_26_method_2_code [(22, .aload_n 0, 1), (23, .iconst 1, 1)] := ⟨d3_22, d3_23, trivial⟩
theorem d3_24 : decode prog_26_method_2_code 24 = .ok (.putfield 17, 3) := by decide +kernel
theorem d3_27 : decode prog_26_method_2_code 27 = .ok (.aload_n 0, 1) := by decide +kernel
theorem d3_28 : decode prog_26_method_2_code 28 = .ok (.lload_n 3, 1) := by decide +kernel
theorem sg3_27_2 : decs prog_26_method_2_code [(27, .aload_n 0, 1), (28, .lload_n 3, 1)] := ⟨d3_27, d3_28, trivial⟩
theorem d3_29 : decode prog_26_method_2_code 29 = .ok (.putfield 20, 3) := by decide +kernel
theorem own_w21 {Z : State} {a0 : Array Value} (hw : ∀ d ∈ tables_1, d.before a0 Z = true) : (Jvm.Cond.fieldLink "com/example/tryst/tryst/pubsub/Pacing" (20 : Nat) "com/example/tryst/tryst/pubsub/Pacing" "stretchStart" "J").before a0 Z = true := hw _ (List.mem_of_getElem? (i := 21) rfl)
theorem d3_32 : decode prog_26_method_2_code 32 = .ok (.aload_n 0, 1) := by decide +kernel
theorem d3_33 : decode prog_26_method_2_code 33 = .ok (.lload 5, 2) := by decide +kernel
theorem sg3_32_2 : decs prog_26_method_2_code [(32, .aload_n 0, 1), (33, .lload 5, 2)] := ⟨d3_32, d3_33, trivial⟩
theorem d3_35 : decode prog_26_method_2_code 35 = .ok (.putfield 24, 3) := by decide +kernel
theorem own_w23 {Z : State} {a0 : Array Value} (hw : ∀ d ∈ tables_1, d.before a0 Z = true) : (Jvm.Cond.fieldLink "com/example/tryst/tryst/pubsub/Pacing" (24 : Nat) "com/example/tryst/tryst/pubsub/Pacing" "othersAtStart" "J").before a0 Z = true := hw _ (List.mem_of_getElem? (i := 23) rfl)
theorem d3_38 : decode prog_26_method_2_code 38 = .ok (.goto 67, 3) := by decide +kernel
theorem sg3_38_1 : decs prog_26_method_2_code [(38, .goto 67, 3)] := ⟨d3_38, trivial⟩
theorem d3_41 : decode prog_26_method_2_code 41 = .ok (.lload_n 3, 1) := by decide +kernel
theorem d3_42 : decode prog_26_method_2_code 42 = .ok (.aload_n 0, 1) := by decide +kernel
theorem sg3_41_2 : decs prog_26_method_2_code [(41, .lload_n 3, 1), (42, .aload_n 0, 1)] := ⟨d3_41, d3_42, trivial⟩
theorem d3_43 : decode prog_26_method_2_code 43 = .ok (.getfield 20, 3) := by decide +kernel
theorem d3_46 : decode prog_26_method_2_code 46 = .ok (.lsub, 1) := by decide +kernel
theorem sg3_46_1 : decs prog_26_method_2_code [(46, .lsub, 1)] := ⟨d3_46, trivial⟩
theorem d3_47 : decode prog_26_method_2_code 47 = .ok (.getstatic 27, 3) := by decide +kernel
theorem own_w27 {Z : State} {a0 : Array Value} (hw : ∀ d ∈ tables_1, d.before a0 Z = true) : (Jvm.Cond.fieldLink "com/example/tryst/tryst/pubsub/Pacing" (27 : Nat) "com/example/tryst/tryst/pubsub/Pacing" "STRETCH_NANOS" "J").before a0 Z = true := hw _ (List.mem_of_getElem? (i := 27) rfl)
theorem d3_50 : decode prog_26_method_2_code 50 = .ok (.lcmp, 1) := by decide +kernel
theorem sg3_50_1 : decs prog_26_method_2_code [(50, .lcmp, 1)] := ⟨d3_50, trivial⟩
theorem d3_51 : decode prog_26_method_2_code 51 = .ok (.ifCond .lt 54, 3) := by decide +kernel
theorem d3_54 : decode prog_26_method_2_code 54 = .ok (.lload_n 3, 1) := by decide +kernel
theorem d3_55 : decode prog_26_method_2_code 55 = .ok (.aload_n 0, 1) := by decide +kernel
theorem sg3_54_2 : decs prog_26_method_2_code [(54, .lload_n 3, 1), (55, .aload_n 0, 1)] := ⟨d3_54, d3_55, trivial⟩
theorem d3_56 : decode prog_26_method_2_code 56 = .ok (.getfield 20, 3) := by decide +kernel
theorem d3_59 : decode prog_26_method_2_code 59 = .ok (.lsub, 1) := by decide +kernel
theorem d3_60 : decode prog_26_method_2_code 60 = .ok (.aload_n 0, 1) := by decide +kernel
theorem sg3_59_2 : decs prog_26_method_2_code [(59, .lsub, 1), (60, .aload_n 0, 1)] := ⟨d3_59, d3_60, trivial⟩
theorem d3_61 : decode prog_26_method_2_code 61 = .ok (.getfield 7, 3) := by decide +kernel
theorem d3_64 : decode prog_26_method_2_code 64 = .ok (.i2l, 1) := by decide +kernel
theorem d3_65 : decode prog_26_method_2_code 65 = .ok (.lmul, 1) := by decide +kernel
theorem d3_66 : decode prog_26_method_2_code 66 = .ok (.lstore 7, 2) := by decide +kernel
theorem d3_68 : decode prog_26_method_2_code 68 = .ok (.aload_n 0, 1) := by decide +kernel
theorem d3_69 : decode prog_26_method_2_code 69 = .ok (.lload 5, 2) := by decide +kernel
theorem d3_71 : decode prog_26_method_2_code 71 = .ok (.aload_n 0, 1) := by decide +kernel
theorem sg3_64_6 : decs prog_26_method_2_code [(64, .i2l, 1), (65, .lmul, 1), (66, .lstore 7, 2), (68, .aload_n 0, 1), (69, .lload 5, 2), (71, .aload_n 0, 1)] := ⟨d3_64, d3_65, d3_66, d3_68, d3_69, d3_71, trivial⟩
theorem d3_72 : decode prog_26_method_2_code 72 = .ok (.getfield 24, 3) := by decide +kernel
theorem d3_75 : decode prog_26_method_2_code 75 = .ok (.lsub, 1) := by decide +kernel
theorem sg3_75_1 : decs prog_26_method_2_code [(75, .lsub, 1)] := ⟨d3_75, trivial⟩
theorem d3_76 : decode prog_26_method_2_code 76 = .ok (.ldc2_w 30, 3) := by decide +kernel
theorem own_w31 {Z : State} {a0 : Array Value} (hw : ∀ d ∈ tables_1, d.before a0 Z = true) : (Jvm.Cond.constantLong "com/example/tryst/tryst/pubsub/Pacing" (30 : Nat) (2 : Int64)).before a0 Z = true := hw _ (List.mem_of_getElem? (i := 31) rfl)
theorem d3_79 : decode prog_26_method_2_code 79 = .ok (.lmul, 1) := by decide +kernel
theorem d3_80 : decode prog_26_method_2_code 80 = .ok (.lload 7, 2) := by decide +kernel
theorem d3_82 : decode prog_26_method_2_code 82 = .ok (.lcmp, 1) := by decide +kernel
theorem sg3_79_3 : decs prog_26_method_2_code [(79, .lmul, 1), (80, .lload 7, 2), (82, .lcmp, 1)] := ⟨d3_79, d3_80, d3_82, trivial⟩
theorem d3_83 : decode prog_26_method_2_code 83 = .ok (.ifCond .le 7, 3) := by decide +kernel
theorem d3_86 : decode prog_26_method_2_code 86 = .ok (.iconst 1, 1) := by decide +kernel
theorem d3_87 : decode prog_26_method_2_code 87 = .ok (.goto 4, 3) := by decide +kernel
theorem sg3_86_2 : decs prog_26_method_2_code [(86, .iconst 1, 1), (87, .goto 4, 3)] := ⟨d3_86, d3_87, trivial⟩
theorem d3_90 : decode prog_26_method_2_code 90 = .ok (.iconst 0, 1) := by decide +kernel
theorem sg3_90_1 : decs prog_26_method_2_code [(90, .iconst 0, 1)] := ⟨d3_90, trivial⟩
theorem d3_91 : decode prog_26_method_2_code 91 = .ok (.putfield 13, 3) := by decide +kernel
theorem d3_94 : decode prog_26_method_2_code 94 = .ok (.aload_n 0, 1) := by decide +kernel
theorem d3_95 : decode prog_26_method_2_code 95 = .ok (.lload_n 3, 1) := by decide +kernel
theorem sg3_94_2 : decs prog_26_method_2_code [(94, .aload_n 0, 1), (95, .lload_n 3, 1)] := ⟨d3_94, d3_95, trivial⟩
theorem d3_96 : decode prog_26_method_2_code 96 = .ok (.putfield 20, 3) := by decide +kernel
theorem d3_99 : decode prog_26_method_2_code 99 = .ok (.aload_n 0, 1) := by decide +kernel
theorem d3_100 : decode prog_26_method_2_code 100 = .ok (.lload 5, 2) := by decide +kernel
theorem sg3_99_2 : decs prog_26_method_2_code [(99, .aload_n 0, 1), (100, .lload 5, 2)] := ⟨d3_99, d3_100, trivial⟩
theorem d3_102 : decode prog_26_method_2_code 102 = .ok (.putfield 24, 3) := by decide +kernel
theorem d3_105 : decode prog_26_method_2_code 105 = .ok (.aload_n 0, 1) := by decide +kernel
theorem sg3_12_2 : decs prog_26_method_2_code [(12, .goto 93, 3), (105, .aload_n 0, 1)] := ⟨d3_12, d3_105, trivial⟩
theorem d3_106 : decode prog_26_method_2_code 106 = .ok (.getfield 13, 3) := by decide +kernel
theorem d3_109 : decode prog_26_method_2_code 109 = .ok (.ifCond .eq 11, 3) := by decide +kernel
theorem d3_112 : decode prog_26_method_2_code 112 = .ok (.lload_n 1, 1) := by decide +kernel
theorem sg3_112_1 : decs prog_26_method_2_code [(112, .lload_n 1, 1)] := ⟨d3_112, trivial⟩
theorem d3_113 : decode prog_26_method_2_code 113 = .ok (.ldc2_w 32, 3) := by decide +kernel
theorem own_w30 {Z : State} {a0 : Array Value} (hw : ∀ d ∈ tables_1, d.before a0 Z = true) : (Jvm.Cond.constantLong "com/example/tryst/tryst/pubsub/Pacing" (32 : Nat) (63 : Int64)).before a0 Z = true := hw _ (List.mem_of_getElem? (i := 30) rfl)
theorem d3_116 : decode prog_26_method_2_code 116 = .ok (.lmul, 1) := by decide +kernel
theorem d3_117 : decode prog_26_method_2_code 117 = .ok (.goto 4, 3) := by decide +kernel
theorem sg3_116_2 : decs prog_26_method_2_code [(116, .lmul, 1), (117, .goto 4, 3)] := ⟨d3_116, d3_117, trivial⟩
theorem d3_121 : decode prog_26_method_2_code 121 = .ok (.lreturn, 1) := by decide +kernel
theorem sg3_38_2 : decs prog_26_method_2_code [(38, .goto 67, 3), (105, .aload_n 0, 1)] := ⟨d3_38, d3_105, trivial⟩
theorem d3_120 : decode prog_26_method_2_code 120 = .ok (.lconst 0, 1) := by decide +kernel
theorem sg3_120_1 : decs prog_26_method_2_code [(120, .lconst 0, 1)] := ⟨d3_120, trivial⟩
theorem sg3_105_1 : decs prog_26_method_2_code [(105, .aload_n 0, 1)] := ⟨d3_105, trivial⟩
def own_ra_busy (j2 : Int64) (j3 : Int64) (u_busy_o0 : Int32) (w_judging_o0 : Int32) (u_stretchStart_o0 : Int64) (u_othersAtStart_o0 : Int64) (sv_STRETCH_NANOS : Int64) (w_processors_o0 : Int32) : Int32 := (if j3 < (0 : Int64) then (1 : Int32) else (if w_judging_o0 = (0 : Int32) then u_busy_o0 else (if (j2 - u_stretchStart_o0) < sv_STRETCH_NANOS then u_busy_o0 else (nar .boolean (if ((j2 - u_stretchStart_o0) * (w_processors_o0.toInt64)) < ((j3 - u_othersAtStart_o0) * (2 : Int64)) then (1 : Int32) else (0 : Int32))))))
def own_ra_judging (j3 : Int64) (w_judging_o0 : Int32) : Int32 := (if j3 < (0 : Int64) then w_judging_o0 else (if w_judging_o0 = (0 : Int32) then (1 : Int32) else w_judging_o0))
def own_ra_stretchStart (j2 : Int64) (j3 : Int64) (w_judging_o0 : Int32) (u_stretchStart_o0 : Int64) (sv_STRETCH_NANOS : Int64) : Int64 := (if j3 < (0 : Int64) then u_stretchStart_o0 else (if w_judging_o0 = (0 : Int32) then j2 else (if (j2 - u_stretchStart_o0) < sv_STRETCH_NANOS then u_stretchStart_o0 else j2)))
def own_ra_othersAtStart (j2 : Int64) (j3 : Int64) (w_judging_o0 : Int32) (u_stretchStart_o0 : Int64) (u_othersAtStart_o0 : Int64) (sv_STRETCH_NANOS : Int64) : Int64 := (if j3 < (0 : Int64) then u_othersAtStart_o0 else (if w_judging_o0 = (0 : Int32) then j3 else (if (j2 - u_stretchStart_o0) < sv_STRETCH_NANOS then u_othersAtStart_o0 else j3)))
def own_ra_ret (j1 : Int64) (j2 : Int64) (j3 : Int64) (u_busy_o0 : Int32) (w_judging_o0 : Int32) (u_stretchStart_o0 : Int64) (u_othersAtStart_o0 : Int64) (sv_STRETCH_NANOS : Int64) (w_processors_o0 : Int32) : Int64 := (if j3 < (0 : Int64) then (j1 * (63 : Int64)) else (if w_judging_o0 = (0 : Int32) then (if u_busy_o0 = (0 : Int32) then (0 : Int64) else (j1 * (63 : Int64))) else (if (j2 - u_stretchStart_o0) < sv_STRETCH_NANOS then (if u_busy_o0 = (0 : Int32) then (0 : Int64) else (j1 * (63 : Int64))) else (if (nar .boolean (if ((j2 - u_stretchStart_o0) * (w_processors_o0.toInt64)) < ((j3 - u_othersAtStart_o0) * (2 : Int64)) then (1 : Int32) else (0 : Int32))) = (0 : Int32) then (0 : Int64) else (j1 * (63 : Int64))))))
theorem ef_rm3 (m : MethodId) (x0 : Addr) (x1 : Int64) (x2 : Int64) (x3 : Int64) : entryFrame m #[(.ref x0), (.long x1), (.long x2), (.long x3)] 9 = mkF m 0 #[.val (.ref x0), .val (.long x1), .second, .val (.long x2), .second, .val (.long x3), .second, .unset, .unset] [] := by first | (simp [entryFrame, mkF, argsToLocals, Value.category]; done) | rfl
theorem own_w5 {Z : State} {a0 : Array Value} (hw : ∀ d ∈ tables_1, d.before a0 Z = true) : (Jvm.Cond.initialized "com/example/tryst/tryst/pubsub/Pacing").before a0 Z = true := hw _ (List.mem_of_getElem? (i := 5) rfl)
theorem own_w28 {Z : State} {a0 : Array Value} (hw : ∀ d ∈ tables_1, d.before a0 Z = true) : (Jvm.Cond.laysStatic "com/example/tryst/tryst/pubsub/Pacing" "STRETCH_NANOS" "J").before a0 Z = true := hw _ (List.mem_of_getElem? (i := 28) rfl)
theorem sg0_0_6 : decs code [(0, .iload 7, 2), (2, .bipush 7, 2), (4, .iand, 1), (5, .iconst 1, 1), (6, .iadd, 1), (7, .istore 8, 2)] := ⟨at_0, at_2, at_4, at_5, at_6, at_7, trivial⟩
theorem sg0_9_3 : decs code [(9, .iload 7, 2), (11, .bipush 8, 2), (13, .iand, 1)] := ⟨at_9, at_11, at_13, trivial⟩
theorem sg0_21_1 : decs code [(21, .iconst 0, 1)] := ⟨at_21, trivial⟩
theorem sg0_17_2 : decs code [(17, .iconst 1, 1), (18, .goto 4, 3)] := ⟨at_17, at_18, trivial⟩
theorem sg0_22_4 : decs code [(22, .istore 9, 2), (24, .iload 7, 2), (26, .bipush 16, 2), (28, .iand, 1)] := ⟨at_22, at_24, at_26, at_28, trivial⟩
theorem sg0_36_1 : decs code [(36, .iconst 0, 1)] := ⟨at_36, trivial⟩
theorem sg0_32_2 : decs code [(32, .iconst 1, 1), (33, .goto 4, 3)] := ⟨at_32, at_33, trivial⟩
theorem sg0_37_4 : decs code [(37, .istore 10, 2), (39, .iload 7, 2), (41, .bipush 32, 2), (43, .iand, 1)] := ⟨at_37, at_39, at_41, at_43, trivial⟩
theorem sg0_51_1 : decs code [(51, .iconst 0, 1)] := ⟨at_51, trivial⟩
theorem sg0_47_2 : decs code [(47, .iconst 1, 1), (48, .goto 4, 3)] := ⟨at_47, at_48, trivial⟩
theorem sg0_52_4 : decs code [(52, .istore 11, 2), (54, .iload 7, 2), (56, .bipush 64, 2), (58, .iand, 1)] := ⟨at_52, at_54, at_56, at_58, trivial⟩
theorem sg0_66_1 : decs code [(66, .iconst 0, 1)] := ⟨at_66, trivial⟩
theorem sg0_62_2 : decs code [(62, .iconst 1, 1), (63, .goto 4, 3)] := ⟨at_62, at_63, trivial⟩
theorem sg0_67_7 : decs code [(67, .istore 12, 2), (69, .iload 7, 2), (71, .bipush 7, 2), (73, .iushr, 1), (74, .bipush 31, 2), (76, .iand, 1), (77, .istore 13, 2)] := ⟨at_67, at_69, at_71, at_73, at_74, at_76, at_77, trivial⟩
theorem sg0_79_1 : decs code [(79, .iload 4, 2)] := ⟨at_79, trivial⟩
theorem own_w0 {Z : State} {a0 : Array Value} (hw : ∀ d ∈ tables_1, d.before a0 Z = true) : (Jvm.Cond.constant "com/example/tryst/tryst/pubsub/PacingRestAfterPinLaw" (7 : Nat) (2147483647 : Int32)).before a0 Z = true := hw _ (List.mem_of_getElem? (i := 0) rfl)
theorem sg0_83_3 : decs code [(83, .iand, 1), (84, .i2l, 1), (85, .lstore 14, 2)] := ⟨at_83, at_84, at_85, trivial⟩
theorem sg0_87_1 : decs code [(87, .iload 12, 2)] := ⟨at_87, trivial⟩
theorem sg0_99_1 : decs code [(99, .lload 14, 2)] := ⟨at_99, trivial⟩
theorem sg0_92_4 : decs code [(92, .lload 14, 2), (94, .iconst 1, 1), (95, .lushr, 1), (96, .goto 5, 3)] := ⟨at_92, at_94, at_95, at_96, trivial⟩
theorem sg0_101_2 : decs code [(101, .lstore 16, 2), (103, .iload 5, 2)] := ⟨at_101, at_103, trivial⟩
theorem sg0_107_3 : decs code [(107, .iand, 1), (108, .i2l, 1), (109, .lstore 18, 2)] := ⟨at_107, at_108, at_109, trivial⟩
theorem sg0_111_1 : decs code [(111, .iload 6, 2)] := ⟨at_111, trivial⟩
theorem sg0_115_3 : decs code [(115, .iand, 1), (116, .i2l, 1), (117, .lstore 20, 2)] := ⟨at_115, at_116, at_117, trivial⟩
theorem sg0_119_4 : decs code [(119, .lload 20, 2), (121, .iload 13, 2), (123, .lushr, 1), (124, .lstore 22, 2)] := ⟨at_119, at_121, at_123, at_124, trivial⟩
theorem sg0_126_8 : decs code [(126, .lload_n 2, 1), (127, .lload 14, 2), (129, .ladd, 1), (130, .lstore 24, 2), (132, .lload 24, 2), (134, .lload 16, 2), (136, .ladd, 1), (137, .lstore 26, 2)] := ⟨at_126, at_127, at_129, at_130, at_132, at_134, at_136, at_137, trivial⟩
theorem sg0_139_1 : decs code [(139, .iload 9, 2)] := ⟨at_139, trivial⟩
theorem sg0_150_1 : decs code [(150, .lload 18, 2)] := ⟨at_150, trivial⟩
theorem own_w29 {Z : State} {a0 : Array Value} (hw : ∀ d ∈ tables_1, d.before a0 Z = true) : (Jvm.Cond.constantLong "com/example/tryst/tryst/pubsub/PacingRestAfterPinLaw" (8 : Nat) (-1 : Int64)).before a0 Z = true := hw _ (List.mem_of_getElem? (i := 29) rfl)
theorem sg0_147_1 : decs code [(147, .goto 5, 3)] := ⟨at_147, trivial⟩
theorem sg0_152_2 : decs code [(152, .lstore 28, 2), (154, .iload 10, 2)] := ⟨at_152, at_154, trivial⟩
theorem sg0_165_3 : decs code [(165, .lload 18, 2), (167, .lload 20, 2), (169, .ladd, 1)] := ⟨at_165, at_167, at_169, trivial⟩
theorem sg0_162_1 : decs code [(162, .goto 8, 3)] := ⟨at_162, trivial⟩
theorem sg0_170_2 : decs code [(170, .lstore 30, 2), (172, .iload 11, 2)] := ⟨at_170, at_172, trivial⟩
theorem sg0_183_5 : decs code [(183, .lload 18, 2), (185, .lload 20, 2), (187, .ladd, 1), (188, .lload 22, 2), (190, .ladd, 1)] := ⟨at_183, at_185, at_187, at_188, at_190, trivial⟩
theorem sg0_180_1 : decs code [(180, .goto 11, 3)] := ⟨at_180, trivial⟩
theorem sg0_191_1 : decs code [(191, .lstore 32, 2)] := ⟨at_191, trivial⟩
theorem own_w1 {Z : State} {a0 : Array Value} (hw : ∀ d ∈ tables_1, d.before a0 Z = true) : (Jvm.Cond.constantLong "com/example/tryst/tryst/pubsub/PacingRestAfterPinLaw" (10 : Nat) (100000000 : Int64)).before a0 Z = true := hw _ (List.mem_of_getElem? (i := 1) rfl)
theorem sg0_196_2 : decs code [(196, .lstore 34, 2), (198, .lload_n 0, 1)] := ⟨at_196, at_198, trivial⟩
theorem own_w2 {Z : State} {a0 : Array Value} (hw : ∀ d ∈ tables_1, d.before a0 Z = true) : (Jvm.Cond.constantLong "com/example/tryst/tryst/pubsub/PacingRestAfterPinLaw" (12 : Nat) (63 : Int64)).before a0 Z = true := hw _ (List.mem_of_getElem? (i := 2) rfl)
theorem sg0_202_2 : decs code [(202, .lmul, 1), (203, .lstore 36, 2)] := ⟨at_202, at_203, trivial⟩
theorem own_w3 {Z : State} {a0 : Array Value} (hw : ∀ d ∈ tables_1, d.before a0 Z = true) : (Jvm.Cond.classLink "com/example/tryst/tryst/pubsub/PacingRestAfterPinLaw" (14 : Nat) "com/example/tryst/tryst/pubsub/Pacing").before a0 Z = true := hw _ (List.mem_of_getElem? (i := 3) rfl)
theorem sg0_208_2 : decs code [(208, .dup, 1), (209, .iload 8, 2)] := ⟨at_208, at_209, trivial⟩
theorem own_w6 {Z : State} {a0 : Array Value} (hw : ∀ d ∈ tables_1, d.before a0 Z = true) : (Jvm.Cond.methodLink "com/example/tryst/tryst/pubsub/PacingRestAfterPinLaw" (16 : Nat) ({ cls := "com/example/tryst/tryst/pubsub/Pacing", name := "<init>", desc := "(I)V" } : Jvm.MethodName)).before a0 Z = true := hw _ (List.mem_of_getElem? (i := 6) rfl)
theorem own_w8 {Z : State} {a0 : Array Value} (hw : ∀ d ∈ tables_1, d.before a0 Z = true) : (Jvm.Cond.code ({ cls := "com/example/tryst/tryst/pubsub/Pacing", name := "<init>", desc := "(I)V" } : Jvm.MethodName) prog_26_method_1_code (2 : Nat) (Option.none : Option Jvm.ClassFile.FieldType)).before a0 Z = true := hw _ (List.mem_of_getElem? (i := 8) rfl)
theorem own_pd0 : parseMethodDescriptor "(I)V" = some ⟨[.int], none⟩ := by decide +kernel
theorem own_w7 {Z : State} {a0 : Array Value} (hw : ∀ d ∈ tables_1, d.before a0 Z = true) : (Jvm.Cond.instanceMethod ({ cls := "com/example/tryst/tryst/pubsub/Pacing", name := "<init>", desc := "(I)V" } : Jvm.MethodName)).before a0 Z = true := hw _ (List.mem_of_getElem? (i := 7) rfl)
theorem sg0_214_5 : decs code [(214, .astore 38, 2), (216, .aload 38, 2), (218, .lload_n 0, 1), (219, .lload_n 2, 1), (220, .lload 28, 2)] := ⟨at_214, at_216, at_218, at_219, at_220, trivial⟩
theorem own_w14 {Z : State} {a0 : Array Value} (hw : ∀ d ∈ tables_1, d.before a0 Z = true) : (Jvm.Cond.methodLink "com/example/tryst/tryst/pubsub/PacingRestAfterPinLaw" (19 : Nat) ({ cls := "com/example/tryst/tryst/pubsub/Pacing", name := "restAfter", desc := "(JJJ)J" } : Jvm.MethodName)).before a0 Z = true := hw _ (List.mem_of_getElem? (i := 14) rfl)
theorem own_w18 {Z : State} {a0 : Array Value} (hw : ∀ d ∈ tables_1, d.before a0 Z = true) : (Jvm.Cond.code ({ cls := "com/example/tryst/tryst/pubsub/Pacing", name := "restAfter", desc := "(JJJ)J" } : Jvm.MethodName) prog_26_method_2_code (9 : Nat) (Option.some Jvm.ClassFile.FieldType.long)).before a0 Z = true := hw _ (List.mem_of_getElem? (i := 18) rfl)
theorem own_pd1 : parseMethodDescriptor "(JJJ)J" = some ⟨[.long, .long, .long], some .long⟩ := by decide +kernel
theorem own_w17 {Z : State} {a0 : Array Value} (hw : ∀ d ∈ tables_1, d.before a0 Z = true) : (Jvm.Cond.selects "com/example/tryst/tryst/pubsub/Pacing" ({ cls := "com/example/tryst/tryst/pubsub/Pacing", name := "restAfter", desc := "(JJJ)J" } : Jvm.MethodName) ({ cls := "com/example/tryst/tryst/pubsub/Pacing", name := "restAfter", desc := "(JJJ)J" } : Jvm.MethodName)).before a0 Z = true := hw _ (List.mem_of_getElem? (i := 17) rfl)
theorem own_w15 {Z : State} {a0 : Array Value} (hw : ∀ d ∈ tables_1, d.before a0 Z = true) : (Jvm.Cond.declares ({ cls := "com/example/tryst/tryst/pubsub/Pacing", name := "restAfter", desc := "(JJJ)J" } : Jvm.MethodName)).before a0 Z = true := hw _ (List.mem_of_getElem? (i := 15) rfl)
theorem own_w16 {Z : State} {a0 : Array Value} (hw : ∀ d ∈ tables_1, d.before a0 Z = true) : (Jvm.Cond.instanceMethod ({ cls := "com/example/tryst/tryst/pubsub/Pacing", name := "restAfter", desc := "(JJJ)J" } : Jvm.MethodName)).before a0 Z = true := hw _ (List.mem_of_getElem? (i := 16) rfl)
theorem sg0_225_5 : decs code [(225, .lstore 39, 2), (227, .aload 38, 2), (229, .lload_n 0, 1), (230, .lload 24, 2), (232, .lload 30, 2)] := ⟨at_225, at_227, at_229, at_230, at_232, trivial⟩
theorem sg0_237_5 : decs code [(237, .lstore 41, 2), (239, .aload 38, 2), (241, .lload_n 0, 1), (242, .lload 26, 2), (244, .lload 32, 2)] := ⟨at_237, at_239, at_241, at_242, at_244, trivial⟩
theorem sg0_249_4 : decs code [(249, .lstore 43, 2), (251, .iload 9, 2), (253, .istore 45, 2), (255, .iload 10, 2)] := ⟨at_249, at_251, at_253, at_255, trivial⟩
theorem sg0_266_1 : decs code [(266, .iload 9, 2)] := ⟨at_266, trivial⟩
theorem sg0_277_3 : decs code [(277, .lload 14, 2), (279, .lload 34, 2), (281, .lcmp, 1)] := ⟨at_277, at_279, at_281, trivial⟩
theorem sg0_311_2 : decs code [(311, .iconst 0, 1), (312, .istore 46, 2)] := ⟨at_311, at_312, trivial⟩
theorem sg0_285_1 : decs code [(285, .lload 20, 2)] := ⟨at_285, trivial⟩
theorem own_w32 {Z : State} {a0 : Array Value} (hw : ∀ d ∈ tables_1, d.before a0 Z = true) : (Jvm.Cond.constantLong "com/example/tryst/tryst/pubsub/PacingRestAfterPinLaw" (23 : Nat) (2 : Int64)).before a0 Z = true := hw _ (List.mem_of_getElem? (i := 32) rfl)
theorem sg0_290_6 : decs code [(290, .lmul, 1), (291, .lload 14, 2), (293, .iload 8, 2), (295, .i2l, 1), (296, .lmul, 1), (297, .lcmp, 1)] := ⟨at_290, at_291, at_293, at_295, at_296, at_297, trivial⟩
theorem sg0_301_2 : decs code [(301, .iconst 1, 1), (302, .goto 4, 3)] := ⟨at_301, at_302, trivial⟩
theorem sg0_305_1 : decs code [(305, .iconst 0, 1)] := ⟨at_305, trivial⟩
theorem sg0_306_2 : decs code [(306, .istore 46, 2), (308, .goto 6, 3)] := ⟨at_306, at_308, trivial⟩
theorem sg0_271_3 : decs code [(271, .iconst 1, 1), (272, .istore 46, 2), (274, .goto 40, 3)] := ⟨at_271, at_272, at_274, trivial⟩
theorem sg0_260_3 : decs code [(260, .iconst 1, 1), (261, .istore 46, 2), (263, .goto 51, 3)] := ⟨at_260, at_261, at_263, trivial⟩
theorem sg0_301_4 : decs code [(301, .iconst 1, 1), (302, .goto 4, 3), (306, .istore 46, 2), (308, .goto 6, 3)] := ⟨at_301, at_302, at_306, at_308, trivial⟩
theorem sg0_305_3 : decs code [(305, .iconst 0, 1), (306, .istore 46, 2), (308, .goto 6, 3)] := ⟨at_305, at_306, at_308, trivial⟩
theorem sg0_314_1 : decs code [(314, .iload 11, 2)] := ⟨at_314, trivial⟩
theorem sg0_325_1 : decs code [(325, .iload 9, 2)] := ⟨at_325, trivial⟩
theorem sg0_341_1 : decs code [(341, .iload 10, 2)] := ⟨at_341, trivial⟩
theorem sg0_346_1 : decs code [(346, .iload 9, 2)] := ⟨at_346, trivial⟩
theorem sg0_351_3 : decs code [(351, .lload 14, 2), (353, .lload 34, 2), (355, .lcmp, 1)] := ⟨at_351, at_353, at_355, trivial⟩
theorem sg0_363_1 : decs code [(363, .iconst 0, 1)] := ⟨at_363, trivial⟩
theorem sg0_359_2 : decs code [(359, .iconst 1, 1), (360, .goto 4, 3)] := ⟨at_359, at_360, trivial⟩
theorem sg0_364_2 : decs code [(364, .istore 48, 2), (366, .iload 48, 2)] := ⟨at_364, at_366, trivial⟩
theorem sg0_376_3 : decs code [(376, .lload 14, 2), (378, .lload 16, 2), (380, .ladd, 1)] := ⟨at_376, at_378, at_380, trivial⟩
theorem sg0_371_2 : decs code [(371, .lload 16, 2), (373, .goto 8, 3)] := ⟨at_371, at_373, trivial⟩
theorem sg0_381_2 : decs code [(381, .lstore 49, 2), (383, .iload 48, 2)] := ⟨at_381, at_383, trivial⟩
theorem sg0_393_3 : decs code [(393, .lload 20, 2), (395, .lload 22, 2), (397, .ladd, 1)] := ⟨at_393, at_395, at_397, trivial⟩
theorem sg0_388_2 : decs code [(388, .lload 22, 2), (390, .goto 8, 3)] := ⟨at_388, at_390, trivial⟩
theorem sg0_398_4 : decs code [(398, .lstore 51, 2), (400, .lload 49, 2), (402, .lload 34, 2), (404, .lcmp, 1)] := ⟨at_398, at_400, at_402, at_404, trivial⟩
theorem sg0_434_2 : decs code [(434, .iload 46, 2), (436, .istore 47, 2)] := ⟨at_434, at_436, trivial⟩
theorem sg0_408_1 : decs code [(408, .lload 51, 2)] := ⟨at_408, trivial⟩
theorem sg0_413_6 : decs code [(413, .lmul, 1), (414, .lload 49, 2), (416, .iload 8, 2), (418, .i2l, 1), (419, .lmul, 1), (420, .lcmp, 1)] := ⟨at_413, at_414, at_416, at_418, at_419, at_420, trivial⟩
theorem sg0_424_2 : decs code [(424, .iconst 1, 1), (425, .goto 4, 3)] := ⟨at_424, at_425, trivial⟩
theorem sg0_428_1 : decs code [(428, .iconst 0, 1)] := ⟨at_428, trivial⟩
theorem sg0_429_2 : decs code [(429, .istore 47, 2), (431, .goto 7, 3)] := ⟨at_429, at_431, trivial⟩
theorem sg0_330_1 : decs code [(330, .iload 10, 2)] := ⟨at_330, trivial⟩
theorem sg0_359_4 : decs code [(359, .iconst 1, 1), (360, .goto 4, 3), (364, .istore 48, 2), (366, .iload 48, 2)] := ⟨at_359, at_360, at_364, at_366, trivial⟩
theorem sg0_371_4 : decs code [(371, .lload 16, 2), (373, .goto 8, 3), (381, .lstore 49, 2), (383, .iload 48, 2)] := ⟨at_371, at_373, at_381, at_383, trivial⟩
theorem sg0_388_6 : decs code [(388, .lload 22, 2), (390, .goto 8, 3), (398, .lstore 51, 2), (400, .lload 49, 2), (402, .lload 34, 2), (404, .lcmp, 1)] := ⟨at_388, at_390, at_398, at_400, at_402, at_404, trivial⟩
theorem sg0_335_3 : decs code [(335, .iconst 1, 1), (336, .istore 47, 2), (338, .goto 100, 3)] := ⟨at_335, at_336, at_338, trivial⟩
theorem sg0_319_3 : decs code [(319, .iconst 1, 1), (320, .istore 47, 2), (322, .goto 116, 3)] := ⟨at_319, at_320, at_322, trivial⟩
theorem sg0_424_4 : decs code [(424, .iconst 1, 1), (425, .goto 4, 3), (429, .istore 47, 2), (431, .goto 7, 3)] := ⟨at_424, at_425, at_429, at_431, trivial⟩
theorem sg0_428_3 : decs code [(428, .iconst 0, 1), (429, .istore 47, 2), (431, .goto 7, 3)] := ⟨at_428, at_429, at_431, trivial⟩
theorem sg0_438_2 : decs code [(438, .lload 39, 2), (440, .iload 45, 2)] := ⟨at_438, at_440, trivial⟩
theorem sg0_450_2 : decs code [(450, .lconst 0, 1), (451, .lcmp, 1)] := ⟨at_450, at_451, trivial⟩
theorem sg0_455_2 : decs code [(455, .lload 41, 2), (457, .iload 46, 2)] := ⟨at_455, at_457, trivial⟩
theorem sg0_467_1 : decs code [(467, .lconst 0, 1)] := ⟨at_467, trivial⟩
theorem sg0_462_2 : decs code [(462, .lload 36, 2), (464, .goto 4, 3)] := ⟨at_462, at_464, trivial⟩
theorem sg0_468_1 : decs code [(468, .lcmp, 1)] := ⟨at_468, trivial⟩
theorem sg0_472_2 : decs code [(472, .lload 43, 2), (474, .iload 47, 2)] := ⟨at_472, at_474, trivial⟩
theorem sg0_484_1 : decs code [(484, .lconst 0, 1)] := ⟨at_484, trivial⟩
theorem sg0_479_2 : decs code [(479, .lload 36, 2), (481, .goto 4, 3)] := ⟨at_479, at_481, trivial⟩
theorem sg0_485_1 : decs code [(485, .lcmp, 1)] := ⟨at_485, trivial⟩
theorem sg0_489_2 : decs code [(489, .iconst 1, 1), (490, .goto 4, 3)] := ⟨at_489, at_490, trivial⟩
theorem sg0_493_1 : decs code [(493, .iconst 0, 1)] := ⟨at_493, trivial⟩
theorem sg0_467_2 : decs code [(467, .lconst 0, 1), (468, .lcmp, 1)] := ⟨at_467, at_468, trivial⟩
theorem sg0_484_2 : decs code [(484, .lconst 0, 1), (485, .lcmp, 1)] := ⟨at_484, at_485, trivial⟩
theorem sg0_479_3 : decs code [(479, .lload 36, 2), (481, .goto 4, 3), (485, .lcmp, 1)] := ⟨at_479, at_481, at_485, trivial⟩
theorem sg0_462_3 : decs code [(462, .lload 36, 2), (464, .goto 4, 3), (468, .lcmp, 1)] := ⟨at_462, at_464, at_468, trivial⟩
theorem sg0_445_3 : decs code [(445, .lload 36, 2), (447, .goto 4, 3), (451, .lcmp, 1)] := ⟨at_445, at_447, at_451, trivial⟩
theorem sg0_335_5 : decs code [(335, .iconst 1, 1), (336, .istore 47, 2), (338, .goto 100, 3), (438, .lload 39, 2), (440, .iload 45, 2)] := ⟨at_335, at_336, at_338, at_438, at_440, trivial⟩
theorem sg0_319_5 : decs code [(319, .iconst 1, 1), (320, .istore 47, 2), (322, .goto 116, 3), (438, .lload 39, 2), (440, .iload 45, 2)] := ⟨at_319, at_320, at_322, at_438, at_440, trivial⟩
theorem sg0_450_1 : decs code [(450, .lconst 0, 1)] := ⟨at_450, trivial⟩
theorem sg0_445_2 : decs code [(445, .lload 36, 2), (447, .goto 4, 3)] := ⟨at_445, at_447, trivial⟩
theorem sg0_451_1 : decs code [(451, .lcmp, 1)] := ⟨at_451, trivial⟩
theorem ef_rm0 (m : MethodId) (x0 : Int64) (x1 : Int64) (x2 : Int32) (x3 : Int32) (x4 : Int32) (x5 : Int32) : entryFrame m #[(.long x0), (.long x1), (.int x2), (.int x3), (.int x4), (.int x5)] maxLocals = mkF m 0 #[.val (.long x0), .second, .val (.long x1), .second, .val (.int x2), .val (.int x3), .val (.int x4), .val (.int x5), .unset, .unset, .unset, .unset, .unset, .unset, .unset, .unset, .unset, .unset, .unset, .unset, .unset, .unset, .unset, .unset, .unset, .unset, .unset, .unset, .unset, .unset, .unset, .unset, .unset, .unset, .unset, .unset, .unset, .unset, .unset, .unset, .unset, .unset, .unset, .unset, .unset, .unset, .unset, .unset, .unset, .unset, .unset, .unset, .unset] [] := by first | (simp [entryFrame, mkF, argsToLocals, Value.category, maxLocals]; done) | rfl
theorem own_pn1 : plainName "com/example/tryst/tryst/pubsub/PacingRestAfterPinLaw" = true := by first | (simp [plainName, overriddenIn]; done) | decide +kernel
set_option maxRecDepth 65536 in
set_option maxHeartbeats 40000000 in
theorem rm1 (l : Launch) (Z : State) (a0 : Array Value) (hw : ∀ d ∈ tables_1, d.before a0 Z = true) (ws : List Jvm.Cond) (o0 : Addr) (i1 : Int32) (u_processors_o0 : Int32) (u_judging_o0 : Int32) (u_stretchStart_o0 : Int64) (u_othersAtStart_o0 : Int64) (u_busy_o0 : Int32) (h0 : Heap) (n0 : Nat) (O0 : Old Z n0 h0) (E_o0 : Exa Z h0 o0 "com/example/tryst/tryst/pubsub/Pacing") (F_processors_o0 : Fld Z h0 o0 "com/example/tryst/tryst/pubsub/Pacing" "processors" "I" (.int u_processors_o0)) (F_judging_o0 : Fld Z h0 o0 "com/example/tryst/tryst/pubsub/Pacing" "judging" "Z" (.int u_judging_o0)) (F_stretchStart_o0 : Fld Z h0 o0 "com/example/tryst/tryst/pubsub/Pacing" "stretchStart" "J" (.long u_stretchStart_o0)) (F_othersAtStart_o0 : Fld Z h0 o0 "com/example/tryst/tryst/pubsub/Pacing" "othersAtStart" "J" (.long u_othersAtStart_o0)) (F_busy_o0 : Fld Z h0 o0 "com/example/tryst/tryst/pubsub/Pacing" "busy" "Z" (.int u_busy_o0)) (g_o0 : n0 ≤ o0) :
    Con l Z (⟨"com/example/tryst/tryst/pubsub/Pacing", "<init>", "(I)V"⟩ : MethodName) prog_26_method_1_code 2 none ws ({ frames := 1, cells := 0, slots := 0, locals := 12 } : Room) #[(.ref o0), (.int i1)] h0 (fun v h L => v = none ∧ Fr n0 L ∧ Keep h0 h [o0] ∧ Exa Z h o0 "com/example/tryst/tryst/pubsub/Pacing" ∧ Fld Z h o0 "com/example/tryst/tryst/pubsub/Pacing" "processors" "I" (.int i1) ∧ Fld Z h o0 "com/example/tryst/tryst/pubsub/Pacing" "judging" "Z" (.int u_judging_o0) ∧ Fld Z h o0 "com/example/tryst/tryst/pubsub/Pacing" "stretchStart" "J" (.long u_stretchStart_o0) ∧ Fld Z h o0 "com/example/tryst/tryst/pubsub/Pacing" "othersAtStart" "J" (.long u_othersAtStart_o0) ∧ Fld Z h o0 "com/example/tryst/tryst/pubsub/Pacing" "busy" "Z" (.int u_busy_o0)) := by
  refine own_body (plainFor_of_name own_pn0) (fun m => ef_rm1 m o0 i1) ?_
  intro p e s m below meth c s₁ hx hby hlk hml hret hZ hown hnm X0 e0
  have N0 := Fr.nil n0
  refine Home.run X0 hx hby sg1_0_1 (pc' := 1) (L' := #[.val (.ref o0), .val (.int i1)]) (S' := [(.ref o0)]) rfl ?_
  refine Home.st (initO X0 hx hZ hown (own_w9 hw) (own_w10 hw) (own_w11 hw) e0 rfl (by rw [hml]; rfl) rfl (hb hby d1_1) (by decide) (W := 0) (by show 2 * 0 + _ ≤ _; exact Nat.le_of_eq rfl) (by decide)) fun T1 X1 e1 => ?_
  refine Home.run X1 hx hby sg1_4_2 (pc' := 6) (L' := #[.val (.ref o0), .val (.int i1)]) (S' := [(.int i1), (.ref o0)]) rfl ?_
  refine Home.wr (putF X1 hx hZ hown (host := "") (Or.inl (own_w12 hw)) Via.refl e1 F_processors_o0 E_o0 (Or.inr ⟨(own_w13 hw), rfl, hnm⟩) (own_w4 hw) (ty := .int) (by decide) rfl rfl rfl rfl (hb hby d1_6)) fun T2 h2 X2 e2 W2 => ?_
  have Fw2 := F_processors_o0.same W2
  have O2 := O0.wr W2 g_o0
  have K2 : Keep h0 h2 ([o0] : List Addr) := Keep.wr (Keep.refl h0 ([o0] : List Addr)) W2 (Or.inl (List.mem_of_getElem? (i := 0) rfl))
  have N2 := Fr.snoc X2 N0 g_o0
  show Home T2 (mkF m 9 #[.val (.ref o0), .val (.int i1)] [])
  have q3 := (E_o0.wr W2)
  have q4 := (F_judging_o0.other W2 (Or.inr (slot_ne (Or.inl (own_w20 hw)) (Or.inr (own_w13 hw)) (by decide) (t := .boolean) (t' := .int) (by decide) (by decide))))
  have q5 := (F_stretchStart_o0.other W2 (Or.inr (slot_ne (Or.inl (own_w22 hw)) (Or.inr (own_w13 hw)) (by decide) (t := .long) (t' := .int) (by decide) (by decide))))
  have q6 := (F_othersAtStart_o0.other W2 (Or.inr (slot_ne (Or.inl (own_w24 hw)) (Or.inr (own_w13 hw)) (by decide) (t := .long) (t' := .int) (by decide) (by decide))))
  have q7 := (F_busy_o0.other W2 (Or.inr (slot_ne (Or.inl (own_w26 hw)) (Or.inr (own_w13 hw)) (by decide) (t := .boolean) (t' := .int) (by decide) (by decide))))
  exact Home.ret0 X2 hx hlk hret (hb hby d1_9) (by show _ ; rw [show T2.heap = h2 from e2]; exact ⟨rfl, N2, K2, q3, Fw2, q4, q5, q6, q7⟩) (by decide) (by decide)
set_option maxRecDepth 65536 in
set_option maxHeartbeats 40000000 in
theorem rm3 (l : Launch) (Z : State) (a0 : Array Value) (hw : ∀ d ∈ tables_1, d.before a0 Z = true) (ws : List Jvm.Cond) (o0 : Addr) (j1 : Int64) (j2 : Int64) (j3 : Int64) (u_busy_o0 : Int32) (w_judging_o0 : Int32) (u_stretchStart_o0 : Int64) (u_othersAtStart_o0 : Int64) (sv_STRETCH_NANOS : Int64) (w_processors_o0 : Int32) (h0 : Heap) (n0 : Nat) (O0 : Old Z n0 h0) (E_o0 : Exa Z h0 o0 "com/example/tryst/tryst/pubsub/Pacing") (F_busy_o0 : Fld Z h0 o0 "com/example/tryst/tryst/pubsub/Pacing" "busy" "Z" (.int u_busy_o0)) (g_o0 : n0 ≤ o0) (F_judging_o0 : Fld Z h0 o0 "com/example/tryst/tryst/pubsub/Pacing" "judging" "Z" (.int w_judging_o0)) (F_stretchStart_o0 : Fld Z h0 o0 "com/example/tryst/tryst/pubsub/Pacing" "stretchStart" "J" (.long u_stretchStart_o0)) (F_othersAtStart_o0 : Fld Z h0 o0 "com/example/tryst/tryst/pubsub/Pacing" "othersAtStart" "J" (.long u_othersAtStart_o0)) (S_STRETCH_NANOS : Sta Z Z.heap "com/example/tryst/tryst/pubsub/Pacing" "STRETCH_NANOS" "J" (.long sv_STRETCH_NANOS)) (F_processors_o0 : Fld Z h0 o0 "com/example/tryst/tryst/pubsub/Pacing" "processors" "I" (.int w_processors_o0)) :
    Con l Z (⟨"com/example/tryst/tryst/pubsub/Pacing", "restAfter", "(JJJ)J"⟩ : MethodName) prog_26_method_2_code 9 (some .long) ws ({ frames := 0, cells := 0, slots := 0, locals := 0 } : Room) #[(.ref o0), (.long j1), (.long j2), (.long j3)] h0 (fun v h L => v = some (.long (own_ra_ret j1 j2 j3 u_busy_o0 w_judging_o0 u_stretchStart_o0 u_othersAtStart_o0 sv_STRETCH_NANOS w_processors_o0)) ∧ Fr n0 L ∧ Keep h0 h [o0] ∧ Exa Z h o0 "com/example/tryst/tryst/pubsub/Pacing" ∧ Fld Z h o0 "com/example/tryst/tryst/pubsub/Pacing" "busy" "Z" (.int (own_ra_busy j2 j3 u_busy_o0 w_judging_o0 u_stretchStart_o0 u_othersAtStart_o0 sv_STRETCH_NANOS w_processors_o0)) ∧ Fld Z h o0 "com/example/tryst/tryst/pubsub/Pacing" "judging" "Z" (.int (own_ra_judging j3 w_judging_o0)) ∧ Fld Z h o0 "com/example/tryst/tryst/pubsub/Pacing" "stretchStart" "J" (.long (own_ra_stretchStart j2 j3 w_judging_o0 u_stretchStart_o0 sv_STRETCH_NANOS)) ∧ Fld Z h o0 "com/example/tryst/tryst/pubsub/Pacing" "othersAtStart" "J" (.long (own_ra_othersAtStart j2 j3 w_judging_o0 u_stretchStart_o0 u_othersAtStart_o0 sv_STRETCH_NANOS)) ∧ Fld Z h o0 "com/example/tryst/tryst/pubsub/Pacing" "processors" "I" (.int w_processors_o0)) := by
  refine own_body (plainFor_of_name own_pn0) (fun m => ef_rm3 m o0 j1 j2 j3) ?_
  intro p e s m below meth c s₁ hx hby hlk hml hret hZ hown hnm X0 e0
  have N0 := Fr.nil n0
  refine Home.run X0 hx hby sg3_0_3 (pc' := 4) (L' := #[.val (.ref o0), .val (.long j1), .second, .val (.long j2), .second, .val (.long j3), .second, .unset, .unset]) (S' := [(.int (lcmpW j3 (0 : Int64)))]) rfl ?_
  by_cases c1 : j3 < (0 : Int64)
  · skip
    refine Home.go (fun _ => XS.ifNo X0.here hx rfl (hb hby d3_4) rfl ((if0 _ _).trans (tlt ((lw_lt _ _).mpr c1)).2.1)) ?_
    refine Home.run X0 hx hby sg3_7_2 (pc' := 9) (L' := #[.val (.ref o0), .val (.long j1), .second, .val (.long j2), .second, .val (.long j3), .second, .unset, .unset]) (S' := [(.int (1 : Int32)), (.ref o0)]) rfl ?_
    refine Home.wr (putFN X0 hx hZ hown (own_w25 hw) Via.refl e0 F_busy_o0 E_o0 (Or.inl (own_w26 hw)) (own_w4 hw) (ty := .boolean) (v := (.int (1 : Int32))) (v' := (.int (1 : Int32))) (by decide) rfl rfl rfl rfl (hb hby d3_9)) fun T2 h2 X2 e2 W2 => ?_
    have Fw2 := F_busy_o0.same W2
    have O2 := O0.wr W2 g_o0
    have K2 : Keep h0 h2 ([o0] : List Addr) := Keep.wr (Keep.refl h0 ([o0] : List Addr)) W2 (Or.inl (List.mem_of_getElem? (i := 0) rfl))
    have N2 := Fr.snoc X2 N0 g_o0
    refine Home.run X2 hx hby sg3_12_2 (pc' := 106) (L' := #[.val (.ref o0), .val (.long j1), .second, .val (.long j2), .second, .val (.long j3), .second, .unset, .unset]) (S' := [(.ref o0)]) rfl ?_
    refine Home.st (getF X2 hx hZ hown (host := "") (Or.inl (own_w25 hw)) Via.refl e2 Fw2 rfl rfl (hb hby d3_106)) fun T3 X3 e3 => ?_
    show Home T3 (mkF m 109 #[.val (.ref o0), .val (.long j1), .second, .val (.long j2), .second, .val (.long j3), .second, .unset, .unset] [(.int (1 : Int32))])
    refine Home.go (fun _ => XS.ifNo X3.here hx rfl (hb hby d3_109) rfl ((if0 _ _).trans (feq (by decide)).1)) ?_
    refine Home.run X3 hx hby sg3_112_1 (pc' := 113) (L' := #[.val (.ref o0), .val (.long j1), .second, .val (.long j2), .second, .val (.long j3), .second, .unset, .unset]) (S' := [(.long j1)]) rfl ?_
    refine Home.go (X3.ldc2Long hx hown (mvT hZ (own_w30 hw)) rfl (hb hby d3_113)) ?_
    refine Home.run X3 hx hby sg3_116_2 (pc' := 121) (L' := #[.val (.ref o0), .val (.long j1), .second, .val (.long j2), .second, .val (.long j3), .second, .unset, .unset]) (S' := [(.long (j1 * (63 : Int64)))]) rfl ?_
    have q47 := (E_o0.wr W2)
    have q48 := (F_judging_o0.other W2 (Or.inr (slot_ne (Or.inl (own_w20 hw)) (Or.inl (own_w26 hw)) (by decide) (t := .boolean) (t' := .boolean) (by decide) (by decide))))
    have q49 := (F_stretchStart_o0.other W2 (Or.inr (slot_ne (Or.inl (own_w22 hw)) (Or.inl (own_w26 hw)) (by decide) (t := .long) (t' := .boolean) (by decide) (by decide))))
    have q50 := (F_othersAtStart_o0.other W2 (Or.inr (slot_ne (Or.inl (own_w24 hw)) (Or.inl (own_w26 hw)) (by decide) (t := .long) (t' := .boolean) (by decide) (by decide))))
    have q51 := (F_processors_o0.other W2 (Or.inr (slot_ne (Or.inr (own_w13 hw)) (Or.inl (own_w26 hw)) (by decide) (t := .int) (t' := .boolean) (by decide) (by decide))))
    exact Home.retJ X3 hx hlk hret (hb hby d3_121) (by rw [show T3.heap = h2 from e3]; exact ⟨congrArg some (congrArg Value.long (by first | rfl | (simp only [own_ra_ret, if_pos c1, nar_i2c, nar_i2b]; done) | (simp only [own_ra_ret, if_pos c1, nar_i2c, nar_i2b]; rfl) | (simp [own_ra_ret, if_pos c1]; done))), N2, K2, q47, (Fld.to Fw2 (congrArg Value.int (by first | rfl | (simp only [own_ra_busy, if_pos c1, nar_i2c, nar_i2b]; done) | (simp only [own_ra_busy, if_pos c1, nar_i2c, nar_i2b]; rfl) | (simp [own_ra_busy, if_pos c1]; done)))), (Fld.to q48 (congrArg Value.int (by first | rfl | (simp only [own_ra_judging, if_pos c1, nar_i2c, nar_i2b]; done) | (simp only [own_ra_judging, if_pos c1, nar_i2c, nar_i2b]; rfl) | (simp [own_ra_judging, if_pos c1]; done)))), (Fld.to q49 (congrArg Value.long (by first | rfl | (simp only [own_ra_stretchStart, if_pos c1, nar_i2c, nar_i2b]; done) | (simp only [own_ra_stretchStart, if_pos c1, nar_i2c, nar_i2b]; rfl) | (simp [own_ra_stretchStart, if_pos c1]; done)))), (Fld.to q50 (congrArg Value.long (by first | rfl | (simp only [own_ra_othersAtStart, if_pos c1, nar_i2c, nar_i2b]; done) | (simp only [own_ra_othersAtStart, if_pos c1, nar_i2c, nar_i2b]; rfl) | (simp [own_ra_othersAtStart, if_pos c1]; done)))), q51⟩) (by decide) (by decide)
  · skip
    refine Home.go (fun _ => XS.ifYes X0.here hx rfl (pc0 := 4) (pc' := 15) rfl (hb hby d3_4) rfl ((if0 _ _).trans (flt (mt (lw_lt _ _).mp c1)).2.1) (by decide) (by decide)) ?_
    refine Home.run X0 hx hby sg3_15_1 (pc' := 16) (L' := #[.val (.ref o0), .val (.long j1), .second, .val (.long j2), .second, .val (.long j3), .second, .unset, .unset]) (S' := [(.ref o0)]) rfl ?_
    refine Home.st (getF X0 hx hZ hown (host := "") (Or.inl (own_w19 hw)) Via.refl e0 F_judging_o0 rfl rfl (hb hby d3_16)) fun T4 X4 e4 => ?_
    by_cases c5 : w_judging_o0 = (0 : Int32)
    · skip
      refine Home.go (fun _ => XS.ifNo X4.here hx rfl (hb hby d3_19) rfl ((if0 _ _).trans (teq c5).2)) ?_
      have bd6 : ¬ w_judging_o0 < (0 : Int32) ∧ ¬ (0 : Int32) < w_judging_o0 := ⟨(bnd_eql c5), (bnd_eqr c5)⟩
      refine Home.run X4 hx hby sg3_22_2 (pc' := 24) (L' := #[.val (.ref o0), .val (.long j1), .second, .val (.long j2), .second, .val (.long j3), .second, .unset, .unset]) (S' := [(.int (1 : Int32)), (.ref o0)]) rfl ?_
      refine Home.wr (putFN X4 hx hZ hown (own_w19 hw) Via.refl e4 F_judging_o0 E_o0 (Or.inl (own_w20 hw)) (own_w4 hw) (ty := .boolean) (v := (.int (1 : Int32))) (v' := (.int (1 : Int32))) (by decide) rfl rfl rfl rfl (hb hby d3_24)) fun T7 h7 X7 e7 W7 => ?_
      have Fw7 := F_judging_o0.same W7
      have O7 := O0.wr W7 g_o0
      have K7 : Keep h0 h7 ([o0] : List Addr) := Keep.wr (Keep.refl h0 ([o0] : List Addr)) W7 (Or.inl (List.mem_of_getElem? (i := 0) rfl))
      have N7 := Fr.snoc X7 N0 g_o0
      refine Home.run X7 hx hby sg3_27_2 (pc' := 29) (L' := #[.val (.ref o0), .val (.long j1), .second, .val (.long j2), .second, .val (.long j3), .second, .unset, .unset]) (S' := [(.long j2), (.ref o0)]) rfl ?_
      have q8 := (E_o0.wr W7)
      have q9 := (F_stretchStart_o0.other W7 (Or.inr (slot_ne (Or.inl (own_w22 hw)) (Or.inl (own_w20 hw)) (by decide) (t := .long) (t' := .boolean) (by decide) (by decide))))
      refine Home.wr (putF X7 hx hZ hown (host := "") (Or.inl (own_w21 hw)) Via.refl e7 q9 q8 (Or.inl (own_w22 hw)) (own_w4 hw) (ty := .long) (by decide) rfl rfl rfl rfl (hb hby d3_29)) fun T10 h10 X10 e10 W10 => ?_
      have Fw10 := q9.same W10
      have O10 := O7.wr W10 g_o0
      have K10 : Keep h0 h10 ([o0] : List Addr) := Keep.wr K7 W10 (Or.inl (List.mem_of_getElem? (i := 0) rfl))
      have N10 := Fr.snoc X10 N7 g_o0
      show Home T10 (mkF m 32 #[.val (.ref o0), .val (.long j1), .second, .val (.long j2), .second, .val (.long j3), .second, .unset, .unset] [])
      refine Home.run X10 hx hby sg3_32_2 (pc' := 35) (L' := #[.val (.ref o0), .val (.long j1), .second, .val (.long j2), .second, .val (.long j3), .second, .unset, .unset]) (S' := [(.long j3), (.ref o0)]) rfl ?_
      have q11 := (q8.wr W10)
      have q12 := ((F_othersAtStart_o0.other W7 (Or.inr (slot_ne (Or.inl (own_w24 hw)) (Or.inl (own_w20 hw)) (by decide) (t := .long) (t' := .boolean) (by decide) (by decide)))).other W10 (Or.inr (slot_ne (Or.inl (own_w24 hw)) (Or.inl (own_w22 hw)) (by decide) (t := .long) (t' := .long) (by decide) (by decide))))
      refine Home.wr (putF X10 hx hZ hown (host := "") (Or.inl (own_w23 hw)) Via.refl e10 q12 q11 (Or.inl (own_w24 hw)) (own_w4 hw) (ty := .long) (by decide) rfl rfl rfl rfl (hb hby d3_35)) fun T13 h13 X13 e13 W13 => ?_
      have Fw13 := q12.same W13
      have O13 := O10.wr W13 g_o0
      have K13 : Keep h0 h13 ([o0] : List Addr) := Keep.wr K10 W13 (Or.inl (List.mem_of_getElem? (i := 0) rfl))
      have N13 := Fr.snoc X13 N10 g_o0
      show Home T13 (mkF m 38 #[.val (.ref o0), .val (.long j1), .second, .val (.long j2), .second, .val (.long j3), .second, .unset, .unset] [])
      refine Home.run X13 hx hby sg3_38_2 (pc' := 106) (L' := #[.val (.ref o0), .val (.long j1), .second, .val (.long j2), .second, .val (.long j3), .second, .unset, .unset]) (S' := [(.ref o0)]) rfl ?_
      have q14 := (((F_busy_o0.other W7 (Or.inr (slot_ne (Or.inl (own_w26 hw)) (Or.inl (own_w20 hw)) (by decide) (t := .boolean) (t' := .boolean) (by decide) (by decide)))).other W10 (Or.inr (slot_ne (Or.inl (own_w26 hw)) (Or.inl (own_w22 hw)) (by decide) (t := .boolean) (t' := .long) (by decide) (by decide)))).other W13 (Or.inr (slot_ne (Or.inl (own_w26 hw)) (Or.inl (own_w24 hw)) (by decide) (t := .boolean) (t' := .long) (by decide) (by decide))))
      refine Home.st (getF X13 hx hZ hown (host := "") (Or.inl (own_w25 hw)) Via.refl e13 q14 rfl rfl (hb hby d3_106)) fun T15 X15 e15 => ?_
      suffices J18 : ∀ {T : State} {lc : List Loc} (X : Stand p l e ({ frames := 0, cells := 0, slots := 0, locals := 0 } : Room) s m #[(.ref o0), (.long j1), (.long j2), (.long j3)] below meth c T lc 0 0) (N : Fr n0 lc) (eT : T.heap = h13) (v19 : Int64) (hv19 : v19 = (if u_busy_o0 = (0 : Int32) then (0 : Int64) else (j1 * (63 : Int64)))), @Home p e below s _ _ _ T (mkF m 121 #[.val (.ref o0), .val (.long j1), .second, .val (.long j2), .second, .val (.long j3), .second, .unset, .unset] [(.long v19)]) by
        by_cases c16 : u_busy_o0 = (0 : Int32)
        · skip
          refine Home.go (fun _ => XS.ifYes X15.here hx rfl (pc0 := 109) (pc' := 120) rfl (hb hby d3_109) rfl ((if0 _ _).trans (teq c16).1) (by decide) (by decide)) ?_
          have bd17 : ¬ u_busy_o0 < (0 : Int32) ∧ ¬ (0 : Int32) < u_busy_o0 := ⟨(bnd_eql c16), (bnd_eqr c16)⟩
          refine Home.run X15 hx hby sg3_120_1 (pc' := 121) (L' := #[.val (.ref o0), .val (.long j1), .second, .val (.long j2), .second, .val (.long j3), .second, .unset, .unset]) (S' := [(.long (0 : Int64))]) rfl ?_
          exact J18 X15 N13 e15 _ (by simp only [if_pos c16])
        · skip
          refine Home.go (fun _ => XS.ifNo X15.here hx rfl (hb hby d3_109) rfl ((if0 _ _).trans (feq c16).1)) ?_
          refine Home.run X15 hx hby sg3_112_1 (pc' := 113) (L' := #[.val (.ref o0), .val (.long j1), .second, .val (.long j2), .second, .val (.long j3), .second, .unset, .unset]) (S' := [(.long j1)]) rfl ?_
          refine Home.go (X15.ldc2Long hx hown (mvT hZ (own_w30 hw)) rfl (hb hby d3_113)) ?_
          refine Home.run X15 hx hby sg3_116_2 (pc' := 121) (L' := #[.val (.ref o0), .val (.long j1), .second, .val (.long j2), .second, .val (.long j3), .second, .unset, .unset]) (S' := [(.long (j1 * (63 : Int64)))]) rfl ?_
          exact J18 X15 N13 e15 _ (by simp only [if_neg c16])
      intro TJ18 lcJ18 XJ18 NJ18 eJ18 v19 hv19
      show Home TJ18 (mkF m 121 #[.val (.ref o0), .val (.long j1), .second, .val (.long j2), .second, .val (.long j3), .second, .unset, .unset] [(.long v19)])
      have q52 := (q11.wr W13)
      have q53 := ((Fw7.other W10 (Or.inr (slot_ne (Or.inl (own_w20 hw)) (Or.inl (own_w22 hw)) (by decide) (t := .boolean) (t' := .long) (by decide) (by decide)))).other W13 (Or.inr (slot_ne (Or.inl (own_w20 hw)) (Or.inl (own_w24 hw)) (by decide) (t := .boolean) (t' := .long) (by decide) (by decide))))
      have q54 := (Fw10.other W13 (Or.inr (slot_ne (Or.inl (own_w22 hw)) (Or.inl (own_w24 hw)) (by decide) (t := .long) (t' := .long) (by decide) (by decide))))
      have q55 := (((F_processors_o0.other W7 (Or.inr (slot_ne (Or.inr (own_w13 hw)) (Or.inl (own_w20 hw)) (by decide) (t := .int) (t' := .boolean) (by decide) (by decide)))).other W10 (Or.inr (slot_ne (Or.inr (own_w13 hw)) (Or.inl (own_w22 hw)) (by decide) (t := .int) (t' := .long) (by decide) (by decide)))).other W13 (Or.inr (slot_ne (Or.inr (own_w13 hw)) (Or.inl (own_w24 hw)) (by decide) (t := .int) (t' := .long) (by decide) (by decide))))
      exact Home.retJ XJ18 hx hlk hret (hb hby d3_121) (by rw [show TJ18.heap = h13 from eJ18]; exact ⟨congrArg some (congrArg Value.long (by subst hv19; first | rfl | (simp only [own_ra_ret, if_neg c1, if_pos c5, nar_i2c, nar_i2b]; done) | (simp only [own_ra_ret, if_neg c1, if_pos c5, nar_i2c, nar_i2b]; rfl) | (simp [own_ra_ret, if_neg c1, if_pos c5]; done))), NJ18, K13, q52, (Fld.to q14 (congrArg Value.int (by subst hv19; first | rfl | (simp only [own_ra_busy, if_neg c1, if_pos c5, nar_i2c, nar_i2b]; done) | (simp only [own_ra_busy, if_neg c1, if_pos c5, nar_i2c, nar_i2b]; rfl) | (simp [own_ra_busy, if_neg c1, if_pos c5]; done)))), (Fld.to q53 (congrArg Value.int (by subst hv19; first | rfl | (simp only [own_ra_judging, if_neg c1, if_pos c5, nar_i2c, nar_i2b]; done) | (simp only [own_ra_judging, if_neg c1, if_pos c5, nar_i2c, nar_i2b]; rfl) | (simp [own_ra_judging, if_neg c1, if_pos c5]; done)))), (Fld.to q54 (congrArg Value.long (by subst hv19; first | rfl | (simp only [own_ra_stretchStart, if_neg c1, if_pos c5, nar_i2c, nar_i2b]; done) | (simp only [own_ra_stretchStart, if_neg c1, if_pos c5, nar_i2c, nar_i2b]; rfl) | (simp [own_ra_stretchStart, if_neg c1, if_pos c5]; done)))), (Fld.to Fw13 (congrArg Value.long (by subst hv19; first | rfl | (simp only [own_ra_othersAtStart, if_neg c1, if_pos c5, nar_i2c, nar_i2b]; done) | (simp only [own_ra_othersAtStart, if_neg c1, if_pos c5, nar_i2c, nar_i2b]; rfl) | (simp [own_ra_othersAtStart, if_neg c1, if_pos c5]; done)))), q55⟩) (by decide) (by decide)
    · skip
      refine Home.go (fun _ => XS.ifYes X4.here hx rfl (pc0 := 19) (pc' := 41) rfl (hb hby d3_19) rfl ((if0 _ _).trans (feq c5).2) (by decide) (by decide)) ?_
      refine Home.run X4 hx hby sg3_41_2 (pc' := 43) (L' := #[.val (.ref o0), .val (.long j1), .second, .val (.long j2), .second, .val (.long j3), .second, .unset, .unset]) (S' := [(.ref o0), (.long j2)]) rfl ?_
      refine Home.st (getF X4 hx hZ hown (host := "") (Or.inl (own_w21 hw)) Via.refl e4 F_stretchStart_o0 rfl rfl (hb hby d3_43)) fun T20 X20 e20 => ?_
      refine Home.run X20 hx hby sg3_46_1 (pc' := 47) (L' := #[.val (.ref o0), .val (.long j1), .second, .val (.long j2), .second, .val (.long j3), .second, .unset, .unset]) (S' := [(.long (j2 - u_stretchStart_o0))]) rfl ?_
      refine Home.st (getS2 X20 hx hZ hown (host := "") (Or.inl (own_w27 hw)) Via.refl e20 (S_STRETCH_NANOS.ext O0.2) rfl (hb hby d3_47)) fun T21 X21 e21 => ?_
      refine Home.run X21 hx hby sg3_50_1 (pc' := 51) (L' := #[.val (.ref o0), .val (.long j1), .second, .val (.long j2), .second, .val (.long j3), .second, .unset, .unset]) (S' := [(.int (lcmpW (j2 - u_stretchStart_o0) sv_STRETCH_NANOS))]) rfl ?_
      by_cases c22 : (j2 - u_stretchStart_o0) < sv_STRETCH_NANOS
      · skip
        refine Home.go (fun _ => XS.ifYes X21.here hx rfl (pc0 := 51) (pc' := 105) rfl (hb hby d3_51) rfl ((if0 _ _).trans (tlt ((lw_lt _ _).mpr c22)).1) (by decide) (by decide)) ?_
        refine Home.run X21 hx hby sg3_105_1 (pc' := 106) (L' := #[.val (.ref o0), .val (.long j1), .second, .val (.long j2), .second, .val (.long j3), .second, .unset, .unset]) (S' := [(.ref o0)]) rfl ?_
        refine Home.st (getF X21 hx hZ hown (host := "") (Or.inl (own_w25 hw)) Via.refl e21 F_busy_o0 rfl rfl (hb hby d3_106)) fun T23 X23 e23 => ?_
        suffices J26 : ∀ {T : State} {lc : List Loc} (X : Stand p l e ({ frames := 0, cells := 0, slots := 0, locals := 0 } : Room) s m #[(.ref o0), (.long j1), (.long j2), (.long j3)] below meth c T lc 0 0) (N : Fr n0 lc) (eT : T.heap = h0) (v27 : Int64) (hv27 : v27 = (if u_busy_o0 = (0 : Int32) then (0 : Int64) else (j1 * (63 : Int64)))), @Home p e below s _ _ _ T (mkF m 121 #[.val (.ref o0), .val (.long j1), .second, .val (.long j2), .second, .val (.long j3), .second, .unset, .unset] [(.long v27)]) by
          by_cases c24 : u_busy_o0 = (0 : Int32)
          · skip
            refine Home.go (fun _ => XS.ifYes X23.here hx rfl (pc0 := 109) (pc' := 120) rfl (hb hby d3_109) rfl ((if0 _ _).trans (teq c24).1) (by decide) (by decide)) ?_
            have bd25 : ¬ u_busy_o0 < (0 : Int32) ∧ ¬ (0 : Int32) < u_busy_o0 := ⟨(bnd_eql c24), (bnd_eqr c24)⟩
            refine Home.run X23 hx hby sg3_120_1 (pc' := 121) (L' := #[.val (.ref o0), .val (.long j1), .second, .val (.long j2), .second, .val (.long j3), .second, .unset, .unset]) (S' := [(.long (0 : Int64))]) rfl ?_
            exact J26 X23 N0 e23 _ (by simp only [if_pos c24])
          · skip
            refine Home.go (fun _ => XS.ifNo X23.here hx rfl (hb hby d3_109) rfl ((if0 _ _).trans (feq c24).1)) ?_
            refine Home.run X23 hx hby sg3_112_1 (pc' := 113) (L' := #[.val (.ref o0), .val (.long j1), .second, .val (.long j2), .second, .val (.long j3), .second, .unset, .unset]) (S' := [(.long j1)]) rfl ?_
            refine Home.go (X23.ldc2Long hx hown (mvT hZ (own_w30 hw)) rfl (hb hby d3_113)) ?_
            refine Home.run X23 hx hby sg3_116_2 (pc' := 121) (L' := #[.val (.ref o0), .val (.long j1), .second, .val (.long j2), .second, .val (.long j3), .second, .unset, .unset]) (S' := [(.long (j1 * (63 : Int64)))]) rfl ?_
            exact J26 X23 N0 e23 _ (by simp only [if_neg c24])
        intro TJ26 lcJ26 XJ26 NJ26 eJ26 v27 hv27
        show Home TJ26 (mkF m 121 #[.val (.ref o0), .val (.long j1), .second, .val (.long j2), .second, .val (.long j3), .second, .unset, .unset] [(.long v27)])
        exact Home.retJ XJ26 hx hlk hret (hb hby d3_121) (by rw [show TJ26.heap = h0 from eJ26]; exact ⟨congrArg some (congrArg Value.long (by subst hv27; first | rfl | (simp only [own_ra_ret, if_neg c1, if_neg c5, if_pos c22, nar_i2c, nar_i2b]; done) | (simp only [own_ra_ret, if_neg c1, if_neg c5, if_pos c22, nar_i2c, nar_i2b]; rfl) | (simp [own_ra_ret, if_neg c1, if_neg c5, if_pos c22]; done))), NJ26, (Keep.refl h0 ([o0] : List Addr)), E_o0, (Fld.to F_busy_o0 (congrArg Value.int (by subst hv27; first | rfl | (simp only [own_ra_busy, if_neg c1, if_neg c5, if_pos c22, nar_i2c, nar_i2b]; done) | (simp only [own_ra_busy, if_neg c1, if_neg c5, if_pos c22, nar_i2c, nar_i2b]; rfl) | (simp [own_ra_busy, if_neg c1, if_neg c5, if_pos c22]; done)))), (Fld.to F_judging_o0 (congrArg Value.int (by subst hv27; first | rfl | (simp only [own_ra_judging, if_neg c1, if_neg c5, if_pos c22, nar_i2c, nar_i2b]; done) | (simp only [own_ra_judging, if_neg c1, if_neg c5, if_pos c22, nar_i2c, nar_i2b]; rfl) | (simp [own_ra_judging, if_neg c1, if_neg c5, if_pos c22]; done)))), (Fld.to F_stretchStart_o0 (congrArg Value.long (by subst hv27; first | rfl | (simp only [own_ra_stretchStart, if_neg c1, if_neg c5, if_pos c22, nar_i2c, nar_i2b]; done) | (simp only [own_ra_stretchStart, if_neg c1, if_neg c5, if_pos c22, nar_i2c, nar_i2b]; rfl) | (simp [own_ra_stretchStart, if_neg c1, if_neg c5, if_pos c22]; done)))), (Fld.to F_othersAtStart_o0 (congrArg Value.long (by subst hv27; first | rfl | (simp only [own_ra_othersAtStart, if_neg c1, if_neg c5, if_pos c22, nar_i2c, nar_i2b]; done) | (simp only [own_ra_othersAtStart, if_neg c1, if_neg c5, if_pos c22, nar_i2c, nar_i2b]; rfl) | (simp [own_ra_othersAtStart, if_neg c1, if_neg c5, if_pos c22]; done)))), F_processors_o0⟩) (by decide) (by decide)
      · skip
        refine Home.go (fun _ => XS.ifNo X21.here hx rfl (hb hby d3_51) rfl ((if0 _ _).trans (flt (mt (lw_lt _ _).mp c22)).1)) ?_
        refine Home.run X21 hx hby sg3_54_2 (pc' := 56) (L' := #[.val (.ref o0), .val (.long j1), .second, .val (.long j2), .second, .val (.long j3), .second, .unset, .unset]) (S' := [(.ref o0), (.long j2)]) rfl ?_
        refine Home.st (getF X21 hx hZ hown (host := "") (Or.inl (own_w21 hw)) Via.refl e21 F_stretchStart_o0 rfl rfl (hb hby d3_56)) fun T28 X28 e28 => ?_
        refine Home.run X28 hx hby sg3_59_2 (pc' := 61) (L' := #[.val (.ref o0), .val (.long j1), .second, .val (.long j2), .second, .val (.long j3), .second, .unset, .unset]) (S' := [(.ref o0), (.long (j2 - u_stretchStart_o0))]) rfl ?_
        refine Home.st (getF X28 hx hZ hown (host := "") (Or.inl (own_w12 hw)) Via.refl e28 F_processors_o0 rfl rfl (hb hby d3_61)) fun T29 X29 e29 => ?_
        refine Home.run X29 hx hby sg3_64_6 (pc' := 72) (L' := #[.val (.ref o0), .val (.long j1), .second, .val (.long j2), .second, .val (.long j3), .second, .val (.long ((j2 - u_stretchStart_o0) * (w_processors_o0.toInt64))), .second]) (S' := [(.ref o0), (.long j3), (.ref o0)]) rfl ?_
        refine Home.st (getF X29 hx hZ hown (host := "") (Or.inl (own_w23 hw)) Via.refl e29 F_othersAtStart_o0 rfl rfl (hb hby d3_72)) fun T30 X30 e30 => ?_
        refine Home.run X30 hx hby sg3_75_1 (pc' := 76) (L' := #[.val (.ref o0), .val (.long j1), .second, .val (.long j2), .second, .val (.long j3), .second, .val (.long ((j2 - u_stretchStart_o0) * (w_processors_o0.toInt64))), .second]) (S' := [(.long (j3 - u_othersAtStart_o0)), (.ref o0)]) rfl ?_
        refine Home.go (X30.ldc2Long hx hown (mvT hZ (own_w31 hw)) rfl (hb hby d3_76)) ?_
        show Home T30 (mkF m 79 #[.val (.ref o0), .val (.long j1), .second, .val (.long j2), .second, .val (.long j3), .second, .val (.long ((j2 - u_stretchStart_o0) * (w_processors_o0.toInt64))), .second] [(.long (2 : Int64)), (.long (j3 - u_othersAtStart_o0)), (.ref o0)])
        refine Home.run X30 hx hby sg3_79_3 (pc' := 83) (L' := #[.val (.ref o0), .val (.long j1), .second, .val (.long j2), .second, .val (.long j3), .second, .val (.long ((j2 - u_stretchStart_o0) * (w_processors_o0.toInt64))), .second]) (S' := [(.int (lcmpW ((j3 - u_othersAtStart_o0) * (2 : Int64)) ((j2 - u_stretchStart_o0) * (w_processors_o0.toInt64)))), (.ref o0)]) rfl ?_
        suffices J32 : ∀ {T : State} {lc : List Loc} (X : Stand p l e ({ frames := 0, cells := 0, slots := 0, locals := 0 } : Room) s m #[(.ref o0), (.long j1), (.long j2), (.long j3)] below meth c T lc 0 0) (N : Fr n0 lc) (eT : T.heap = h0) (v33 : Int32) (hv33 : v33 = (if ((j2 - u_stretchStart_o0) * (w_processors_o0.toInt64)) < ((j3 - u_othersAtStart_o0) * (2 : Int64)) then (1 : Int32) else (0 : Int32))), @Home p e below s _ _ _ T (mkF m 91 #[.val (.ref o0), .val (.long j1), .second, .val (.long j2), .second, .val (.long j3), .second, .val (.long ((j2 - u_stretchStart_o0) * (w_processors_o0.toInt64))), .second] [(.int v33), (.ref o0)]) by
          by_cases c31 : ((j2 - u_stretchStart_o0) * (w_processors_o0.toInt64)) < ((j3 - u_othersAtStart_o0) * (2 : Int64))
          · skip
            refine Home.go (fun _ => XS.ifNo X30.here hx rfl (hb hby d3_83) rfl ((if0 _ _).trans (tlt ((lw_gt _ _).mpr c31)).2.2.2)) ?_
            refine Home.run X30 hx hby sg3_86_2 (pc' := 91) (L' := #[.val (.ref o0), .val (.long j1), .second, .val (.long j2), .second, .val (.long j3), .second, .val (.long ((j2 - u_stretchStart_o0) * (w_processors_o0.toInt64))), .second]) (S' := [(.int (1 : Int32)), (.ref o0)]) rfl ?_
            exact J32 X30 N0 e30 _ (by simp only [if_pos c31])
          · skip
            refine Home.go (fun _ => XS.ifYes X30.here hx rfl (pc0 := 83) (pc' := 90) rfl (hb hby d3_83) rfl ((if0 _ _).trans (flt (mt (lw_gt _ _).mp c31)).2.2.2) (by decide) (by decide)) ?_
            refine Home.run X30 hx hby sg3_90_1 (pc' := 91) (L' := #[.val (.ref o0), .val (.long j1), .second, .val (.long j2), .second, .val (.long j3), .second, .val (.long ((j2 - u_stretchStart_o0) * (w_processors_o0.toInt64))), .second]) (S' := [(.int (0 : Int32)), (.ref o0)]) rfl ?_
            exact J32 X30 N0 e30 _ (by simp only [if_neg c31])
        intro TJ32 lcJ32 XJ32 NJ32 eJ32 v33 hv33
        have bv33 : ¬ v33 < (0 : Int32) ∧ ¬ (1 : Int32) < v33 := by rw [hv33]; (repeat' split) <;> first | exact bnd_mono (bnd_lit (1 : Int32)) (by decide +kernel) (by decide +kernel) | exact bnd_mono (bnd_lit (0 : Int32)) (by decide +kernel) (by decide +kernel)
        show Home TJ32 (mkF m 91 #[.val (.ref o0), .val (.long j1), .second, .val (.long j2), .second, .val (.long j3), .second, .val (.long ((j2 - u_stretchStart_o0) * (w_processors_o0.toInt64))), .second] [(.int v33), (.ref o0)])
        refine Home.wr (putFN XJ32 hx hZ hown (own_w25 hw) Via.refl eJ32 F_busy_o0 E_o0 (Or.inl (own_w26 hw)) (own_w4 hw) (ty := .boolean) (v := (.int v33)) (v' := (.int (nar .boolean v33))) (by decide) rfl (fits_nar_bool _) rfl rfl (hb hby d3_91)) fun T34 h34 X34 e34 W34 => ?_
        have Fw34 := F_busy_o0.same W34
        have O34 := O0.wr W34 g_o0
        have K34 : Keep h0 h34 ([o0] : List Addr) := Keep.wr (Keep.refl h0 ([o0] : List Addr)) W34 (Or.inl (List.mem_of_getElem? (i := 0) rfl))
        have N34 := Fr.snoc X34 NJ32 g_o0
        refine Home.run X34 hx hby sg3_94_2 (pc' := 96) (L' := #[.val (.ref o0), .val (.long j1), .second, .val (.long j2), .second, .val (.long j3), .second, .val (.long ((j2 - u_stretchStart_o0) * (w_processors_o0.toInt64))), .second]) (S' := [(.long j2), (.ref o0)]) rfl ?_
        have q35 := (E_o0.wr W34)
        have q36 := (F_stretchStart_o0.other W34 (Or.inr (slot_ne (Or.inl (own_w22 hw)) (Or.inl (own_w26 hw)) (by decide) (t := .long) (t' := .boolean) (by decide) (by decide))))
        refine Home.wr (putF X34 hx hZ hown (host := "") (Or.inl (own_w21 hw)) Via.refl e34 q36 q35 (Or.inl (own_w22 hw)) (own_w4 hw) (ty := .long) (by decide) rfl rfl rfl rfl (hb hby d3_96)) fun T37 h37 X37 e37 W37 => ?_
        have Fw37 := q36.same W37
        have O37 := O34.wr W37 g_o0
        have K37 : Keep h0 h37 ([o0] : List Addr) := Keep.wr K34 W37 (Or.inl (List.mem_of_getElem? (i := 0) rfl))
        have N37 := Fr.snoc X37 N34 g_o0
        show Home T37 (mkF m 99 #[.val (.ref o0), .val (.long j1), .second, .val (.long j2), .second, .val (.long j3), .second, .val (.long ((j2 - u_stretchStart_o0) * (w_processors_o0.toInt64))), .second] [])
        refine Home.run X37 hx hby sg3_99_2 (pc' := 102) (L' := #[.val (.ref o0), .val (.long j1), .second, .val (.long j2), .second, .val (.long j3), .second, .val (.long ((j2 - u_stretchStart_o0) * (w_processors_o0.toInt64))), .second]) (S' := [(.long j3), (.ref o0)]) rfl ?_
        have q38 := (q35.wr W37)
        have q39 := ((F_othersAtStart_o0.other W34 (Or.inr (slot_ne (Or.inl (own_w24 hw)) (Or.inl (own_w26 hw)) (by decide) (t := .long) (t' := .boolean) (by decide) (by decide)))).other W37 (Or.inr (slot_ne (Or.inl (own_w24 hw)) (Or.inl (own_w22 hw)) (by decide) (t := .long) (t' := .long) (by decide) (by decide))))
        refine Home.wr (putF X37 hx hZ hown (host := "") (Or.inl (own_w23 hw)) Via.refl e37 q39 q38 (Or.inl (own_w24 hw)) (own_w4 hw) (ty := .long) (by decide) rfl rfl rfl rfl (hb hby d3_102)) fun T40 h40 X40 e40 W40 => ?_
        have Fw40 := q39.same W40
        have O40 := O37.wr W40 g_o0
        have K40 : Keep h0 h40 ([o0] : List Addr) := Keep.wr K37 W40 (Or.inl (List.mem_of_getElem? (i := 0) rfl))
        have N40 := Fr.snoc X40 N37 g_o0
        show Home T40 (mkF m 105 #[.val (.ref o0), .val (.long j1), .second, .val (.long j2), .second, .val (.long j3), .second, .val (.long ((j2 - u_stretchStart_o0) * (w_processors_o0.toInt64))), .second] [])
        refine Home.run X40 hx hby sg3_105_1 (pc' := 106) (L' := #[.val (.ref o0), .val (.long j1), .second, .val (.long j2), .second, .val (.long j3), .second, .val (.long ((j2 - u_stretchStart_o0) * (w_processors_o0.toInt64))), .second]) (S' := [(.ref o0)]) rfl ?_
        have q41 := ((Fw34.other W37 (Or.inr (slot_ne (Or.inl (own_w26 hw)) (Or.inl (own_w22 hw)) (by decide) (t := .boolean) (t' := .long) (by decide) (by decide)))).other W40 (Or.inr (slot_ne (Or.inl (own_w26 hw)) (Or.inl (own_w24 hw)) (by decide) (t := .boolean) (t' := .long) (by decide) (by decide))))
        refine Home.st (getF X40 hx hZ hown (host := "") (Or.inl (own_w25 hw)) Via.refl e40 q41 rfl rfl (hb hby d3_106)) fun T42 X42 e42 => ?_
        suffices J45 : ∀ {T : State} {lc : List Loc} (X : Stand p l e ({ frames := 0, cells := 0, slots := 0, locals := 0 } : Room) s m #[(.ref o0), (.long j1), (.long j2), (.long j3)] below meth c T lc 0 0) (N : Fr n0 lc) (eT : T.heap = h40) (v46 : Int64) (hv46 : v46 = (if (nar .boolean v33) = (0 : Int32) then (0 : Int64) else (j1 * (63 : Int64)))), @Home p e below s _ _ _ T (mkF m 121 #[.val (.ref o0), .val (.long j1), .second, .val (.long j2), .second, .val (.long j3), .second, .val (.long ((j2 - u_stretchStart_o0) * (w_processors_o0.toInt64))), .second] [(.long v46)]) by
          by_cases c43 : (nar .boolean v33) = (0 : Int32)
          · skip
            refine Home.go (fun _ => XS.ifYes X42.here hx rfl (pc0 := 109) (pc' := 120) rfl (hb hby d3_109) rfl ((if0 _ _).trans (teq c43).1) (by decide) (by decide)) ?_
            have bd44 : ¬ (nar .boolean v33) < (0 : Int32) ∧ ¬ (0 : Int32) < (nar .boolean v33) := ⟨(bnd_eql c43), (bnd_eqr c43)⟩
            refine Home.run X42 hx hby sg3_120_1 (pc' := 121) (L' := #[.val (.ref o0), .val (.long j1), .second, .val (.long j2), .second, .val (.long j3), .second, .val (.long ((j2 - u_stretchStart_o0) * (w_processors_o0.toInt64))), .second]) (S' := [(.long (0 : Int64))]) rfl ?_
            exact J45 X42 N40 e42 _ (by simp only [if_pos c43])
          · skip
            refine Home.go (fun _ => XS.ifNo X42.here hx rfl (hb hby d3_109) rfl ((if0 _ _).trans (feq c43).1)) ?_
            refine Home.run X42 hx hby sg3_112_1 (pc' := 113) (L' := #[.val (.ref o0), .val (.long j1), .second, .val (.long j2), .second, .val (.long j3), .second, .val (.long ((j2 - u_stretchStart_o0) * (w_processors_o0.toInt64))), .second]) (S' := [(.long j1)]) rfl ?_
            refine Home.go (X42.ldc2Long hx hown (mvT hZ (own_w30 hw)) rfl (hb hby d3_113)) ?_
            refine Home.run X42 hx hby sg3_116_2 (pc' := 121) (L' := #[.val (.ref o0), .val (.long j1), .second, .val (.long j2), .second, .val (.long j3), .second, .val (.long ((j2 - u_stretchStart_o0) * (w_processors_o0.toInt64))), .second]) (S' := [(.long (j1 * (63 : Int64)))]) rfl ?_
            exact J45 X42 N40 e42 _ (by simp only [if_neg c43])
        intro TJ45 lcJ45 XJ45 NJ45 eJ45 v46 hv46
        show Home TJ45 (mkF m 121 #[.val (.ref o0), .val (.long j1), .second, .val (.long j2), .second, .val (.long j3), .second, .val (.long ((j2 - u_stretchStart_o0) * (w_processors_o0.toInt64))), .second] [(.long v46)])
        have q56 := (q38.wr W40)
        have q57 := (((F_judging_o0.other W34 (Or.inr (slot_ne (Or.inl (own_w20 hw)) (Or.inl (own_w26 hw)) (by decide) (t := .boolean) (t' := .boolean) (by decide) (by decide)))).other W37 (Or.inr (slot_ne (Or.inl (own_w20 hw)) (Or.inl (own_w22 hw)) (by decide) (t := .boolean) (t' := .long) (by decide) (by decide)))).other W40 (Or.inr (slot_ne (Or.inl (own_w20 hw)) (Or.inl (own_w24 hw)) (by decide) (t := .boolean) (t' := .long) (by decide) (by decide))))
        have q58 := (Fw37.other W40 (Or.inr (slot_ne (Or.inl (own_w22 hw)) (Or.inl (own_w24 hw)) (by decide) (t := .long) (t' := .long) (by decide) (by decide))))
        have q59 := (((F_processors_o0.other W34 (Or.inr (slot_ne (Or.inr (own_w13 hw)) (Or.inl (own_w26 hw)) (by decide) (t := .int) (t' := .boolean) (by decide) (by decide)))).other W37 (Or.inr (slot_ne (Or.inr (own_w13 hw)) (Or.inl (own_w22 hw)) (by decide) (t := .int) (t' := .long) (by decide) (by decide)))).other W40 (Or.inr (slot_ne (Or.inr (own_w13 hw)) (Or.inl (own_w24 hw)) (by decide) (t := .int) (t' := .long) (by decide) (by decide))))
        exact Home.retJ XJ45 hx hlk hret (hb hby d3_121) (by rw [show TJ45.heap = h40 from eJ45]; exact ⟨congrArg some (congrArg Value.long (by subst hv46; subst hv33; first | rfl | (simp only [own_ra_ret, if_neg c1, if_neg c5, if_neg c22, nar_i2c, nar_i2b]; done) | (simp only [own_ra_ret, if_neg c1, if_neg c5, if_neg c22, nar_i2c, nar_i2b]; rfl) | (simp [own_ra_ret, if_neg c1, if_neg c5, if_neg c22]; done))), NJ45, K40, q56, (Fld.to q41 (congrArg Value.int (by subst hv46; subst hv33; first | rfl | (simp only [own_ra_busy, if_neg c1, if_neg c5, if_neg c22, nar_i2c, nar_i2b]; done) | (simp only [own_ra_busy, if_neg c1, if_neg c5, if_neg c22, nar_i2c, nar_i2b]; rfl) | (simp [own_ra_busy, if_neg c1, if_neg c5, if_neg c22]; done)))), (Fld.to q57 (congrArg Value.int (by subst hv46; subst hv33; first | rfl | (simp only [own_ra_judging, if_neg c1, if_neg c5, if_neg c22, nar_i2c, nar_i2b]; done) | (simp only [own_ra_judging, if_neg c1, if_neg c5, if_neg c22, nar_i2c, nar_i2b]; rfl) | (simp [own_ra_judging, if_neg c1, if_neg c5, if_neg c22]; done)))), (Fld.to q58 (congrArg Value.long (by subst hv46; subst hv33; first | rfl | (simp only [own_ra_stretchStart, if_neg c1, if_neg c5, if_neg c22, nar_i2c, nar_i2b]; done) | (simp only [own_ra_stretchStart, if_neg c1, if_neg c5, if_neg c22, nar_i2c, nar_i2b]; rfl) | (simp [own_ra_stretchStart, if_neg c1, if_neg c5, if_neg c22]; done)))), (Fld.to Fw40 (congrArg Value.long (by subst hv46; subst hv33; first | rfl | (simp only [own_ra_othersAtStart, if_neg c1, if_neg c5, if_neg c22, nar_i2c, nar_i2b]; done) | (simp only [own_ra_othersAtStart, if_neg c1, if_neg c5, if_neg c22, nar_i2c, nar_i2b]; rfl) | (simp [own_ra_othersAtStart, if_neg c1, if_neg c5, if_neg c22]; done)))), q59⟩) (by decide) (by decide)
theorem own_end0 (j0 : Int64) (j1 : Int64) (i2 : Int32) (i3 : Int32) (i4 : Int32) (i5 : Int32) (v1 : Int32) (hv1 : v1 = ((i5 &&& (7 : Int32)) + (1 : Int32))) (v6 : Int32) (hv6 : v6 = (if (i5 &&& (8 : Int32)) = (0 : Int32) then (0 : Int32) else (1 : Int32))) (v11 : Int32) (hv11 : v11 = (if (i5 &&& (16 : Int32)) = (0 : Int32) then (0 : Int32) else (1 : Int32))) (v16 : Int32) (hv16 : v16 = (if (i5 &&& (32 : Int32)) = (0 : Int32) then (0 : Int32) else (1 : Int32))) (v21 : Int32) (hv21 : v21 = (if (i5 &&& (64 : Int32)) = (0 : Int32) then (0 : Int32) else (1 : Int32))) (v22 : Int32) (hv22 : v22 = (((i5.toUInt32 >>> ((7 : Int32) &&& 31).toUInt32).toInt32) &&& (31 : Int32))) (v23 : Int64) (hv23 : v23 = ((i2 &&& (2147483647 : Int32)).toInt64)) (v28 : Int64) (hv28 : v28 = (if v21 = (0 : Int32) then v23 else ((v23.toUInt64 >>> ((1 : Int32) &&& 0x3f).toInt64.toUInt64).toInt64))) (v29 : Int64) (hv29 : v29 = ((i3 &&& (2147483647 : Int32)).toInt64)) (v30 : Int64) (hv30 : v30 = ((i4 &&& (2147483647 : Int32)).toInt64)) (v31 : Int64) (hv31 : v31 = ((v30.toUInt64 >>> (v22 &&& 0x3f).toInt64.toUInt64).toInt64)) (v32 : Int64) (hv32 : v32 = ((j1 + v23) + v28)) (v37 : Int64) (hv37 : v37 = (if v6 = (0 : Int32) then v29 else (-1 : Int64))) (v42 : Int64) (hv42 : v42 = (if v11 = (0 : Int32) then (v29 + v30) else (-1 : Int64))) (v47 : Int64) (hv47 : v47 = (if v16 = (0 : Int32) then ((v29 + v30) + v31) else (-1 : Int64))) (v48 : Int64) (hv48 : v48 = (j0 * (63 : Int64))) (r52 : Int32) (hr52 : r52 = (own_ra_busy j1 v37 (0 : Int32) (0 : Int32) (0 : Int64) (0 : Int64) (100000000 : Int64) v1)) (r53 : Int32) (hr53 : r53 = (own_ra_judging v37 (0 : Int32))) (r54 : Int64) (hr54 : r54 = (own_ra_stretchStart j1 v37 (0 : Int32) (0 : Int64) (100000000 : Int64))) (r55 : Int64) (hr55 : r55 = (own_ra_othersAtStart j1 v37 (0 : Int32) (0 : Int64) (0 : Int64) (100000000 : Int64))) (r56 : Int64) (hr56 : r56 = (own_ra_ret j0 j1 v37 (0 : Int32) (0 : Int32) (0 : Int64) (0 : Int64) (100000000 : Int64) v1)) (r58 : Int32) (hr58 : r58 = (own_ra_busy (j1 + v23) v42 r52 r53 r54 r55 (100000000 : Int64) v1)) (r59 : Int32) (hr59 : r59 = (own_ra_judging v42 r53)) (r60 : Int64) (hr60 : r60 = (own_ra_stretchStart (j1 + v23) v42 r53 r54 (100000000 : Int64))) (r61 : Int64) (hr61 : r61 = (own_ra_othersAtStart (j1 + v23) v42 r53 r54 r55 (100000000 : Int64))) (r62 : Int64) (hr62 : r62 = (own_ra_ret j0 (j1 + v23) v42 r52 r53 r54 r55 (100000000 : Int64) v1)) (r64 : Int32) (hr64 : r64 = (own_ra_busy v32 v47 r58 r59 r60 r61 (100000000 : Int64) v1)) (r65 : Int32) (hr65 : r65 = (own_ra_judging v47 r59)) (r66 : Int64) (hr66 : r66 = (own_ra_stretchStart v32 v47 r59 r60 (100000000 : Int64))) (r67 : Int64) (hr67 : r67 = (own_ra_othersAtStart v32 v47 r59 r60 r61 (100000000 : Int64))) (r68 : Int64) (hr68 : r68 = (own_ra_ret j0 v32 v47 r58 r59 r60 r61 (100000000 : Int64) v1)) (v78 : Int32) (hv78 : v78 = (if v11 = (0 : Int32) then (if v6 = (0 : Int32) then (if v23 < (100000000 : Int64) then (0 : Int32) else (if (v23 * (v1.toInt64)) < (v30 * (2 : Int64)) then (1 : Int32) else (0 : Int32))) else (1 : Int32)) else (1 : Int32))) (v94 : Int32) (hv94 : v94 = (if v11 = (0 : Int32) then (if v23 < (100000000 : Int64) then (0 : Int32) else (1 : Int32)) else (0 : Int32))) (v99 : Int64) (hv99 : v99 = (if v94 = (0 : Int32) then (v23 + v28) else v28)) (v104 : Int64) (hv104 : v104 = (if v94 = (0 : Int32) then (v30 + v31) else v31)) (v108 : Int32) (hv108 : v108 = (if v99 < (100000000 : Int64) then v78 else (if (v99 * (v1.toInt64)) < (v104 * (2 : Int64)) then (1 : Int32) else (0 : Int32)))) (v123 : Int32) (hv123 : v123 = (if r56 = (0 : Int64) then (if v78 = (0 : Int32) then (if r62 = (0 : Int64) then (if v108 = (0 : Int32) then (if r68 = (0 : Int64) then (1 : Int32) else (0 : Int32)) else (if r68 = v48 then (1 : Int32) else (0 : Int32))) else (0 : Int32)) else (if r62 = v48 then (if v108 = (0 : Int32) then (if r68 = (0 : Int64) then (1 : Int32) else (0 : Int32)) else (if r68 = v48 then (1 : Int32) else (0 : Int32))) else (0 : Int32))) else (0 : Int32))) (c79 : v16 = (0 : Int32)) (c84 : v6 = (0 : Int32)) : nar .boolean v123 = (1 : Int32) := by
  have b3 := own_mask31 i3
  have b4 := own_mask31 i4
  rw [← hv29] at b3
  rw [← hv30] at b4
  have b5 := own_ush v30 ((v22 &&& 0x3f).toInt64.toUInt64) b4.1
  rw [← hv31] at b5
  have b6 := own_ladd v29 v30 (by omega) (by omega)
  have b7 := own_ladd (v29 + v30) v31 (by omega) (by omega)
  have h1 : ¬ v29 < (0 : Int64) := own_nneg (by omega)
  have h2 : ¬ v29 + v30 < (0 : Int64) := own_nneg (by omega)
  have h3 : ¬ v29 + v30 + v31 < (0 : Int64) := own_nneg (by omega)
  have hn : ((-1 : Int64) < 0) := by decide
  clear b3 b4 b5 b6 b7 hv1 hv6 hv11 hv16 hv21 hv22 hv23 hv28 hv29 hv30 hv31
  have e1 := own_r1 j1 v23
  have e2 := own_r2 j1 v23 v28
  have e3 := own_r1 (j1 + v23) v28
  have e4 := own_r1 v29 v30
  have e5 := own_r2 v29 v30 v31
  have e6 := own_r1 (v29 + v30) v31
  subst hv32
  by_cases hB : v11 = 0 <;> by_cases p0 : v23 < (100000000 : Int64) <;> by_cases p1 : v23 * v1.toInt64 < v30 * (2 : Int64) <;> by_cases p2 : v23 + v28 < (100000000 : Int64) <;> by_cases p3 : (v23 + v28) * v1.toInt64 < (v30 + v31) * (2 : Int64) <;> by_cases p4 : v28 < (100000000 : Int64) <;> by_cases p5 : v28 * v1.toInt64 < v31 * (2 : Int64) <;>
  simp only [c84, hB, c79, p0, p1, p2, p3, p4, p5, h1, h2, h3, hn, e1, e2, e3, e4, e5, e6, if_true, if_false, own_ra_busy, own_ra_judging, own_ra_stretchStart, own_ra_othersAtStart, own_ra_ret, own_bit, own_10, own_one, own_zero, hv37, hv42, hv47, hv48, hr52, hr53, hr54, hr55, hr56, hr58, hr59, hr60, hr61, hr62, hr64, hr65, hr66, hr67, hr68, hv78, hv94, hv99, hv104, hv108, hv123]
theorem own_end1 (j0 : Int64) (j1 : Int64) (i2 : Int32) (i3 : Int32) (i4 : Int32) (i5 : Int32) (v1 : Int32) (hv1 : v1 = ((i5 &&& (7 : Int32)) + (1 : Int32))) (v6 : Int32) (hv6 : v6 = (if (i5 &&& (8 : Int32)) = (0 : Int32) then (0 : Int32) else (1 : Int32))) (v11 : Int32) (hv11 : v11 = (if (i5 &&& (16 : Int32)) = (0 : Int32) then (0 : Int32) else (1 : Int32))) (v16 : Int32) (hv16 : v16 = (if (i5 &&& (32 : Int32)) = (0 : Int32) then (0 : Int32) else (1 : Int32))) (v21 : Int32) (hv21 : v21 = (if (i5 &&& (64 : Int32)) = (0 : Int32) then (0 : Int32) else (1 : Int32))) (v22 : Int32) (hv22 : v22 = (((i5.toUInt32 >>> ((7 : Int32) &&& 31).toUInt32).toInt32) &&& (31 : Int32))) (v23 : Int64) (hv23 : v23 = ((i2 &&& (2147483647 : Int32)).toInt64)) (v28 : Int64) (hv28 : v28 = (if v21 = (0 : Int32) then v23 else ((v23.toUInt64 >>> ((1 : Int32) &&& 0x3f).toInt64.toUInt64).toInt64))) (v29 : Int64) (hv29 : v29 = ((i3 &&& (2147483647 : Int32)).toInt64)) (v30 : Int64) (hv30 : v30 = ((i4 &&& (2147483647 : Int32)).toInt64)) (v31 : Int64) (hv31 : v31 = ((v30.toUInt64 >>> (v22 &&& 0x3f).toInt64.toUInt64).toInt64)) (v32 : Int64) (hv32 : v32 = ((j1 + v23) + v28)) (v37 : Int64) (hv37 : v37 = (if v6 = (0 : Int32) then v29 else (-1 : Int64))) (v42 : Int64) (hv42 : v42 = (if v11 = (0 : Int32) then (v29 + v30) else (-1 : Int64))) (v47 : Int64) (hv47 : v47 = (if v16 = (0 : Int32) then ((v29 + v30) + v31) else (-1 : Int64))) (v48 : Int64) (hv48 : v48 = (j0 * (63 : Int64))) (r52 : Int32) (hr52 : r52 = (own_ra_busy j1 v37 (0 : Int32) (0 : Int32) (0 : Int64) (0 : Int64) (100000000 : Int64) v1)) (r53 : Int32) (hr53 : r53 = (own_ra_judging v37 (0 : Int32))) (r54 : Int64) (hr54 : r54 = (own_ra_stretchStart j1 v37 (0 : Int32) (0 : Int64) (100000000 : Int64))) (r55 : Int64) (hr55 : r55 = (own_ra_othersAtStart j1 v37 (0 : Int32) (0 : Int64) (0 : Int64) (100000000 : Int64))) (r56 : Int64) (hr56 : r56 = (own_ra_ret j0 j1 v37 (0 : Int32) (0 : Int32) (0 : Int64) (0 : Int64) (100000000 : Int64) v1)) (r58 : Int32) (hr58 : r58 = (own_ra_busy (j1 + v23) v42 r52 r53 r54 r55 (100000000 : Int64) v1)) (r59 : Int32) (hr59 : r59 = (own_ra_judging v42 r53)) (r60 : Int64) (hr60 : r60 = (own_ra_stretchStart (j1 + v23) v42 r53 r54 (100000000 : Int64))) (r61 : Int64) (hr61 : r61 = (own_ra_othersAtStart (j1 + v23) v42 r53 r54 r55 (100000000 : Int64))) (r62 : Int64) (hr62 : r62 = (own_ra_ret j0 (j1 + v23) v42 r52 r53 r54 r55 (100000000 : Int64) v1)) (r64 : Int32) (hr64 : r64 = (own_ra_busy v32 v47 r58 r59 r60 r61 (100000000 : Int64) v1)) (r65 : Int32) (hr65 : r65 = (own_ra_judging v47 r59)) (r66 : Int64) (hr66 : r66 = (own_ra_stretchStart v32 v47 r59 r60 (100000000 : Int64))) (r67 : Int64) (hr67 : r67 = (own_ra_othersAtStart v32 v47 r59 r60 r61 (100000000 : Int64))) (r68 : Int64) (hr68 : r68 = (own_ra_ret j0 v32 v47 r58 r59 r60 r61 (100000000 : Int64) v1)) (v78 : Int32) (hv78 : v78 = (if v11 = (0 : Int32) then (if v6 = (0 : Int32) then (if v23 < (100000000 : Int64) then (0 : Int32) else (if (v23 * (v1.toInt64)) < (v30 * (2 : Int64)) then (1 : Int32) else (0 : Int32))) else (1 : Int32)) else (1 : Int32))) (v132 : Int32) (hv132 : v132 = (if v28 < (100000000 : Int64) then v78 else (if (v28 * (v1.toInt64)) < (v31 * (2 : Int64)) then (1 : Int32) else (0 : Int32)))) (v147 : Int32) (hv147 : v147 = (if r56 = v48 then (if v78 = (0 : Int32) then (if r62 = (0 : Int64) then (if v132 = (0 : Int32) then (if r68 = (0 : Int64) then (1 : Int32) else (0 : Int32)) else (if r68 = v48 then (1 : Int32) else (0 : Int32))) else (0 : Int32)) else (if r62 = v48 then (if v132 = (0 : Int32) then (if r68 = (0 : Int64) then (1 : Int32) else (0 : Int32)) else (if r68 = v48 then (1 : Int32) else (0 : Int32))) else (0 : Int32))) else (0 : Int32))) (c79 : v16 = (0 : Int32)) (c84 : ¬ (v6 = (0 : Int32))) (c124 : v11 = (0 : Int32)) : nar .boolean v147 = (1 : Int32) := by
  have b3 := own_mask31 i3
  have b4 := own_mask31 i4
  rw [← hv29] at b3
  rw [← hv30] at b4
  have b5 := own_ush v30 ((v22 &&& 0x3f).toInt64.toUInt64) b4.1
  rw [← hv31] at b5
  have b6 := own_ladd v29 v30 (by omega) (by omega)
  have b7 := own_ladd (v29 + v30) v31 (by omega) (by omega)
  have h1 : ¬ v29 < (0 : Int64) := own_nneg (by omega)
  have h2 : ¬ v29 + v30 < (0 : Int64) := own_nneg (by omega)
  have h3 : ¬ v29 + v30 + v31 < (0 : Int64) := own_nneg (by omega)
  have hn : ((-1 : Int64) < 0) := by decide
  clear b3 b4 b5 b6 b7 hv1 hv6 hv11 hv16 hv21 hv22 hv23 hv28 hv29 hv30 hv31
  have e1 := own_r1 j1 v23
  have e2 := own_r2 j1 v23 v28
  have e3 := own_r1 (j1 + v23) v28
  have e4 := own_r1 v29 v30
  have e5 := own_r2 v29 v30 v31
  have e6 := own_r1 (v29 + v30) v31
  subst hv32
  by_cases p0 : v23 < (100000000 : Int64) <;> by_cases p1 : v23 * v1.toInt64 < v30 * (2 : Int64) <;> by_cases p2 : v28 < (100000000 : Int64) <;> by_cases p3 : v28 * v1.toInt64 < v31 * (2 : Int64) <;>
  simp only [c84, c124, c79, p0, p1, p2, p3, h1, h2, h3, hn, e1, e2, e3, e4, e5, e6, if_true, if_false, own_ra_busy, own_ra_judging, own_ra_stretchStart, own_ra_othersAtStart, own_ra_ret, own_bit, own_10, own_one, own_zero, hv37, hv42, hv47, hv48, hr52, hr53, hr54, hr55, hr56, hr58, hr59, hr60, hr61, hr62, hr64, hr65, hr66, hr67, hr68, hv78, hv132, hv147]
theorem own_end2 (j0 : Int64) (j1 : Int64) (i2 : Int32) (i3 : Int32) (i4 : Int32) (i5 : Int32) (v1 : Int32) (hv1 : v1 = ((i5 &&& (7 : Int32)) + (1 : Int32))) (v6 : Int32) (hv6 : v6 = (if (i5 &&& (8 : Int32)) = (0 : Int32) then (0 : Int32) else (1 : Int32))) (v11 : Int32) (hv11 : v11 = (if (i5 &&& (16 : Int32)) = (0 : Int32) then (0 : Int32) else (1 : Int32))) (v16 : Int32) (hv16 : v16 = (if (i5 &&& (32 : Int32)) = (0 : Int32) then (0 : Int32) else (1 : Int32))) (v21 : Int32) (hv21 : v21 = (if (i5 &&& (64 : Int32)) = (0 : Int32) then (0 : Int32) else (1 : Int32))) (v22 : Int32) (hv22 : v22 = (((i5.toUInt32 >>> ((7 : Int32) &&& 31).toUInt32).toInt32) &&& (31 : Int32))) (v23 : Int64) (hv23 : v23 = ((i2 &&& (2147483647 : Int32)).toInt64)) (v28 : Int64) (hv28 : v28 = (if v21 = (0 : Int32) then v23 else ((v23.toUInt64 >>> ((1 : Int32) &&& 0x3f).toInt64.toUInt64).toInt64))) (v29 : Int64) (hv29 : v29 = ((i3 &&& (2147483647 : Int32)).toInt64)) (v30 : Int64) (hv30 : v30 = ((i4 &&& (2147483647 : Int32)).toInt64)) (v31 : Int64) (hv31 : v31 = ((v30.toUInt64 >>> (v22 &&& 0x3f).toInt64.toUInt64).toInt64)) (v32 : Int64) (hv32 : v32 = ((j1 + v23) + v28)) (v37 : Int64) (hv37 : v37 = (if v6 = (0 : Int32) then v29 else (-1 : Int64))) (v42 : Int64) (hv42 : v42 = (if v11 = (0 : Int32) then (v29 + v30) else (-1 : Int64))) (v47 : Int64) (hv47 : v47 = (if v16 = (0 : Int32) then ((v29 + v30) + v31) else (-1 : Int64))) (v48 : Int64) (hv48 : v48 = (j0 * (63 : Int64))) (r52 : Int32) (hr52 : r52 = (own_ra_busy j1 v37 (0 : Int32) (0 : Int32) (0 : Int64) (0 : Int64) (100000000 : Int64) v1)) (r53 : Int32) (hr53 : r53 = (own_ra_judging v37 (0 : Int32))) (r54 : Int64) (hr54 : r54 = (own_ra_stretchStart j1 v37 (0 : Int32) (0 : Int64) (100000000 : Int64))) (r55 : Int64) (hr55 : r55 = (own_ra_othersAtStart j1 v37 (0 : Int32) (0 : Int64) (0 : Int64) (100000000 : Int64))) (r56 : Int64) (hr56 : r56 = (own_ra_ret j0 j1 v37 (0 : Int32) (0 : Int32) (0 : Int64) (0 : Int64) (100000000 : Int64) v1)) (r58 : Int32) (hr58 : r58 = (own_ra_busy (j1 + v23) v42 r52 r53 r54 r55 (100000000 : Int64) v1)) (r59 : Int32) (hr59 : r59 = (own_ra_judging v42 r53)) (r60 : Int64) (hr60 : r60 = (own_ra_stretchStart (j1 + v23) v42 r53 r54 (100000000 : Int64))) (r61 : Int64) (hr61 : r61 = (own_ra_othersAtStart (j1 + v23) v42 r53 r54 r55 (100000000 : Int64))) (r62 : Int64) (hr62 : r62 = (own_ra_ret j0 (j1 + v23) v42 r52 r53 r54 r55 (100000000 : Int64) v1)) (r64 : Int32) (hr64 : r64 = (own_ra_busy v32 v47 r58 r59 r60 r61 (100000000 : Int64) v1)) (r65 : Int32) (hr65 : r65 = (own_ra_judging v47 r59)) (r66 : Int64) (hr66 : r66 = (own_ra_stretchStart v32 v47 r59 r60 (100000000 : Int64))) (r67 : Int64) (hr67 : r67 = (own_ra_othersAtStart v32 v47 r59 r60 r61 (100000000 : Int64))) (r68 : Int64) (hr68 : r68 = (own_ra_ret j0 v32 v47 r58 r59 r60 r61 (100000000 : Int64) v1)) (v78 : Int32) (hv78 : v78 = (if v11 = (0 : Int32) then (if v6 = (0 : Int32) then (if v23 < (100000000 : Int64) then (0 : Int32) else (if (v23 * (v1.toInt64)) < (v30 * (2 : Int64)) then (1 : Int32) else (0 : Int32))) else (1 : Int32)) else (1 : Int32))) (v156 : Int32) (hv156 : v156 = (if r56 = v48 then (if v78 = (0 : Int32) then (if r62 = (0 : Int64) then (if r68 = v48 then (1 : Int32) else (0 : Int32)) else (0 : Int32)) else (if r62 = v48 then (if r68 = v48 then (1 : Int32) else (0 : Int32)) else (0 : Int32))) else (0 : Int32))) (c79 : v16 = (0 : Int32)) (c84 : ¬ (v6 = (0 : Int32))) (c124 : ¬ (v11 = (0 : Int32))) : nar .boolean v156 = (1 : Int32) := by
  have b3 := own_mask31 i3
  have b4 := own_mask31 i4
  rw [← hv29] at b3
  rw [← hv30] at b4
  have b5 := own_ush v30 ((v22 &&& 0x3f).toInt64.toUInt64) b4.1
  rw [← hv31] at b5
  have b6 := own_ladd v29 v30 (by omega) (by omega)
  have b7 := own_ladd (v29 + v30) v31 (by omega) (by omega)
  have h1 : ¬ v29 < (0 : Int64) := own_nneg (by omega)
  have h2 : ¬ v29 + v30 < (0 : Int64) := own_nneg (by omega)
  have h3 : ¬ v29 + v30 + v31 < (0 : Int64) := own_nneg (by omega)
  have hn : ((-1 : Int64) < 0) := by decide
  clear b3 b4 b5 b6 b7 hv1 hv6 hv11 hv16 hv21 hv22 hv23 hv28 hv29 hv30 hv31
  have e1 := own_r1 j1 v23
  have e2 := own_r2 j1 v23 v28
  have e3 := own_r1 (j1 + v23) v28
  have e4 := own_r1 v29 v30
  have e5 := own_r2 v29 v30 v31
  have e6 := own_r1 (v29 + v30) v31
  subst hv32
  by_cases p0 : v23 < (100000000 : Int64) <;> by_cases p1 : v23 * v1.toInt64 < v30 * (2 : Int64) <;> by_cases p2 : v28 < (100000000 : Int64) <;> by_cases p3 : v28 * v1.toInt64 < v31 * (2 : Int64) <;>
  simp only [c84, c124, c79, p0, p1, p2, p3, h1, h2, h3, hn, e1, e2, e3, e4, e5, e6, if_true, if_false, own_ra_busy, own_ra_judging, own_ra_stretchStart, own_ra_othersAtStart, own_ra_ret, own_bit, own_10, own_one, own_zero, hv37, hv42, hv47, hv48, hr52, hr53, hr54, hr55, hr56, hr58, hr59, hr60, hr61, hr62, hr64, hr65, hr66, hr67, hr68, hv78, hv156]
theorem own_end3 (j0 : Int64) (j1 : Int64) (i2 : Int32) (i3 : Int32) (i4 : Int32) (i5 : Int32) (v1 : Int32) (hv1 : v1 = ((i5 &&& (7 : Int32)) + (1 : Int32))) (v6 : Int32) (hv6 : v6 = (if (i5 &&& (8 : Int32)) = (0 : Int32) then (0 : Int32) else (1 : Int32))) (v11 : Int32) (hv11 : v11 = (if (i5 &&& (16 : Int32)) = (0 : Int32) then (0 : Int32) else (1 : Int32))) (v16 : Int32) (hv16 : v16 = (if (i5 &&& (32 : Int32)) = (0 : Int32) then (0 : Int32) else (1 : Int32))) (v21 : Int32) (hv21 : v21 = (if (i5 &&& (64 : Int32)) = (0 : Int32) then (0 : Int32) else (1 : Int32))) (v22 : Int32) (hv22 : v22 = (((i5.toUInt32 >>> ((7 : Int32) &&& 31).toUInt32).toInt32) &&& (31 : Int32))) (v23 : Int64) (hv23 : v23 = ((i2 &&& (2147483647 : Int32)).toInt64)) (v28 : Int64) (hv28 : v28 = (if v21 = (0 : Int32) then v23 else ((v23.toUInt64 >>> ((1 : Int32) &&& 0x3f).toInt64.toUInt64).toInt64))) (v29 : Int64) (hv29 : v29 = ((i3 &&& (2147483647 : Int32)).toInt64)) (v30 : Int64) (hv30 : v30 = ((i4 &&& (2147483647 : Int32)).toInt64)) (v31 : Int64) (hv31 : v31 = ((v30.toUInt64 >>> (v22 &&& 0x3f).toInt64.toUInt64).toInt64)) (v32 : Int64) (hv32 : v32 = ((j1 + v23) + v28)) (v37 : Int64) (hv37 : v37 = (if v6 = (0 : Int32) then v29 else (-1 : Int64))) (v42 : Int64) (hv42 : v42 = (if v11 = (0 : Int32) then (v29 + v30) else (-1 : Int64))) (v47 : Int64) (hv47 : v47 = (if v16 = (0 : Int32) then ((v29 + v30) + v31) else (-1 : Int64))) (v48 : Int64) (hv48 : v48 = (j0 * (63 : Int64))) (r52 : Int32) (hr52 : r52 = (own_ra_busy j1 v37 (0 : Int32) (0 : Int32) (0 : Int64) (0 : Int64) (100000000 : Int64) v1)) (r53 : Int32) (hr53 : r53 = (own_ra_judging v37 (0 : Int32))) (r54 : Int64) (hr54 : r54 = (own_ra_stretchStart j1 v37 (0 : Int32) (0 : Int64) (100000000 : Int64))) (r55 : Int64) (hr55 : r55 = (own_ra_othersAtStart j1 v37 (0 : Int32) (0 : Int64) (0 : Int64) (100000000 : Int64))) (r56 : Int64) (hr56 : r56 = (own_ra_ret j0 j1 v37 (0 : Int32) (0 : Int32) (0 : Int64) (0 : Int64) (100000000 : Int64) v1)) (r58 : Int32) (hr58 : r58 = (own_ra_busy (j1 + v23) v42 r52 r53 r54 r55 (100000000 : Int64) v1)) (r59 : Int32) (hr59 : r59 = (own_ra_judging v42 r53)) (r60 : Int64) (hr60 : r60 = (own_ra_stretchStart (j1 + v23) v42 r53 r54 (100000000 : Int64))) (r61 : Int64) (hr61 : r61 = (own_ra_othersAtStart (j1 + v23) v42 r53 r54 r55 (100000000 : Int64))) (r62 : Int64) (hr62 : r62 = (own_ra_ret j0 (j1 + v23) v42 r52 r53 r54 r55 (100000000 : Int64) v1)) (r64 : Int32) (hr64 : r64 = (own_ra_busy v32 v47 r58 r59 r60 r61 (100000000 : Int64) v1)) (r65 : Int32) (hr65 : r65 = (own_ra_judging v47 r59)) (r66 : Int64) (hr66 : r66 = (own_ra_stretchStart v32 v47 r59 r60 (100000000 : Int64))) (r67 : Int64) (hr67 : r67 = (own_ra_othersAtStart v32 v47 r59 r60 r61 (100000000 : Int64))) (r68 : Int64) (hr68 : r68 = (own_ra_ret j0 v32 v47 r58 r59 r60 r61 (100000000 : Int64) v1)) (v78 : Int32) (hv78 : v78 = (if v11 = (0 : Int32) then (if v6 = (0 : Int32) then (if v23 < (100000000 : Int64) then (0 : Int32) else (if (v23 * (v1.toInt64)) < (v30 * (2 : Int64)) then (1 : Int32) else (0 : Int32))) else (1 : Int32)) else (1 : Int32))) (v161 : Int64) (hv161 : v161 = (if v6 = (0 : Int32) then (0 : Int64) else v48)) (v170 : Int32) (hv170 : v170 = (if r56 = v161 then (if v78 = (0 : Int32) then (if r62 = (0 : Int64) then (if r68 = v48 then (1 : Int32) else (0 : Int32)) else (0 : Int32)) else (if r62 = v48 then (if r68 = v48 then (1 : Int32) else (0 : Int32)) else (0 : Int32))) else (0 : Int32))) (c79 : ¬ (v16 = (0 : Int32))) : nar .boolean v170 = (1 : Int32) := by
  have b3 := own_mask31 i3
  have b4 := own_mask31 i4
  rw [← hv29] at b3
  rw [← hv30] at b4
  have b5 := own_ush v30 ((v22 &&& 0x3f).toInt64.toUInt64) b4.1
  rw [← hv31] at b5
  have b6 := own_ladd v29 v30 (by omega) (by omega)
  have b7 := own_ladd (v29 + v30) v31 (by omega) (by omega)
  have h1 : ¬ v29 < (0 : Int64) := own_nneg (by omega)
  have h2 : ¬ v29 + v30 < (0 : Int64) := own_nneg (by omega)
  have h3 : ¬ v29 + v30 + v31 < (0 : Int64) := own_nneg (by omega)
  have hn : ((-1 : Int64) < 0) := by decide
  clear b3 b4 b5 b6 b7 hv1 hv6 hv11 hv16 hv21 hv22 hv23 hv28 hv29 hv30 hv31
  have e1 := own_r1 j1 v23
  have e2 := own_r2 j1 v23 v28
  have e3 := own_r1 (j1 + v23) v28
  have e4 := own_r1 v29 v30
  have e5 := own_r2 v29 v30 v31
  have e6 := own_r1 (v29 + v30) v31
  subst hv32
  by_cases hA : v6 = 0 <;> by_cases hB : v11 = 0 <;> by_cases p0 : v23 < (100000000 : Int64) <;> by_cases p1 : v23 * v1.toInt64 < v30 * (2 : Int64) <;> by_cases p2 : v28 < (100000000 : Int64) <;> by_cases p3 : v28 * v1.toInt64 < v31 * (2 : Int64) <;>
  simp only [hA, hB, c79, p0, p1, p2, p3, h1, h2, h3, hn, e1, e2, e3, e4, e5, e6, if_true, if_false, own_ra_busy, own_ra_judging, own_ra_stretchStart, own_ra_othersAtStart, own_ra_ret, own_bit, own_10, own_one, own_zero, hv37, hv42, hv47, hv48, hr52, hr53, hr54, hr55, hr56, hr58, hr59, hr60, hr61, hr62, hr64, hr65, hr66, hr67, hr68, hv78, hv161, hv170]
set_option maxRecDepth 65536 in
set_option maxHeartbeats 40000000 in
theorem rm0 (l : Launch) (Z : State) (a0 : Array Value) (hw : ∀ d ∈ tables_1, d.before a0 Z = true) (ws : List Jvm.Cond) (j0 : Int64) (j1 : Int64) (i2 : Int32) (i3 : Int32) (i4 : Int32) (i5 : Int32) (h0 : Heap) (n0 : Nat) (O0 : Old Z n0 h0) (S_STRETCH_NANOS : Sta Z Z.heap "com/example/tryst/tryst/pubsub/Pacing" "STRETCH_NANOS" "J" (.long (100000000 : Int64))) :
    Con l Z x code maxLocals ret ws room_1 #[(.long j0), (.long j1), (.int i2), (.int i3), (.int i4), (.int i5)] h0 (fun v h L => v = some (.int (1 : Int32)) ∧ Fr n0 L) := by
  refine own_body (plainFor_of_name own_pn1) (fun m => ef_rm0 m j0 j1 i2 i3 i4 i5) ?_
  intro p e s m below meth c s₁ hx hby hlk hml hret hZ hown hnm X0 e0
  have N0 := Fr.nil n0
  refine Home.run X0 hx hby sg0_0_6 (pc' := 9) (L' := #[.val (.long j0), .second, .val (.long j1), .second, .val (.int i2), .val (.int i3), .val (.int i4), .val (.int i5), .val (.int ((i5 &&& (7 : Int32)) + (1 : Int32))), .unset, .unset, .unset, .unset, .unset, .unset, .unset, .unset, .unset, .unset, .unset, .unset, .unset, .unset, .unset, .unset, .unset, .unset, .unset, .unset, .unset, .unset, .unset, .unset, .unset, .unset, .unset, .unset, .unset, .unset, .unset, .unset, .unset, .unset, .unset, .unset, .unset, .unset, .unset, .unset, .unset, .unset, .unset, .unset]) (S' := []) rfl ?_
  obtain ⟨v1, hv1⟩ : ∃ z, z = ((i5 &&& (7 : Int32)) + (1 : Int32)) := ⟨_, rfl⟩
  rw [← hv1]
  have bv1 : ¬ v1 < (1 : Int32) ∧ ¬ (8 : Int32) < v1 := by rw [hv1]; exact (bnd_add (bnd_and i5 (7 : Int32) (by decide)) (bnd_lit (1 : Int32)) (lo := (1 : Int32)) (hi := (8 : Int32)) (by decide +kernel) (by decide +kernel) (by decide +kernel) (by decide +kernel))
  refine Home.run X0 hx hby sg0_9_3 (pc' := 14) (L' := #[.val (.long j0), .second, .val (.long j1), .second, .val (.int i2), .val (.int i3), .val (.int i4), .val (.int i5), .val (.int v1), .unset, .unset, .unset, .unset, .unset, .unset, .unset, .unset, .unset, .unset, .unset, .unset, .unset, .unset, .unset, .unset, .unset, .unset, .unset, .unset, .unset, .unset, .unset, .unset, .unset, .unset, .unset, .unset, .unset, .unset, .unset, .unset, .unset, .unset, .unset, .unset, .unset, .unset, .unset, .unset, .unset, .unset, .unset, .unset]) (S' := [(.int (i5 &&& (8 : Int32)))]) rfl ?_
  suffices J5 : ∀ {T : State} {lc : List Loc} (X : Stand p l e room_1 s m #[(.long j0), (.long j1), (.int i2), (.int i3), (.int i4), (.int i5)] below meth c T lc 0 0) (N : Fr n0 lc) (eT : T.heap = h0) (v6 : Int32) (hv6 : v6 = (if (i5 &&& (8 : Int32)) = (0 : Int32) then (0 : Int32) else (1 : Int32))), @Home p e below s _ _ _ T (mkF m 22 #[.val (.long j0), .second, .val (.long j1), .second, .val (.int i2), .val (.int i3), .val (.int i4), .val (.int i5), .val (.int v1), .unset, .unset, .unset, .unset, .unset, .unset, .unset, .unset, .unset, .unset, .unset, .unset, .unset, .unset, .unset, .unset, .unset, .unset, .unset, .unset, .unset, .unset, .unset, .unset, .unset, .unset, .unset, .unset, .unset, .unset, .unset, .unset, .unset, .unset, .unset, .unset, .unset, .unset, .unset, .unset, .unset, .unset, .unset, .unset] [(.int v6)]) by
    by_cases c2 : (i5 &&& (8 : Int32)) = (0 : Int32)
    · skip
      refine Home.go (fun _ => XS.ifYes X0.here hx rfl (pc0 := 14) (pc' := 21) rfl (hb hby at_14) rfl ((if0 _ _).trans (teq c2).1) (by decide) (by decide)) ?_
      have bd3 : ¬ (i5 &&& (8 : Int32)) < (0 : Int32) ∧ ¬ (0 : Int32) < (i5 &&& (8 : Int32)) := ⟨(bnd_eql c2), (bnd_eqr c2)⟩
      refine Home.run X0 hx hby sg0_21_1 (pc' := 22) (L' := #[.val (.long j0), .second, .val (.long j1), .second, .val (.int i2), .val (.int i3), .val (.int i4), .val (.int i5), .val (.int v1), .unset, .unset, .unset, .unset, .unset, .unset, .unset, .unset, .unset, .unset, .unset, .unset, .unset, .unset, .unset, .unset, .unset, .unset, .unset, .unset, .unset, .unset, .unset, .unset, .unset, .unset, .unset, .unset, .unset, .unset, .unset, .unset, .unset, .unset, .unset, .unset, .unset, .unset, .unset, .unset, .unset, .unset, .unset, .unset]) (S' := [(.int (0 : Int32))]) rfl ?_
      exact J5 X0 N0 e0 _ (by simp only [if_pos c2])
    · skip
      refine Home.go (fun _ => XS.ifNo X0.here hx rfl (hb hby at_14) rfl ((if0 _ _).trans (feq c2).1)) ?_
      have bd4 : ¬ (i5 &&& (8 : Int32)) < (1 : Int32) ∧ ¬ (8 : Int32) < (i5 &&& (8 : Int32)) := ⟨(bnd_nel (bnd_and i5 (8 : Int32) (by decide)).1 c2 (by decide +kernel)), (bnd_and i5 (8 : Int32) (by decide)).2⟩
      refine Home.run X0 hx hby sg0_17_2 (pc' := 22) (L' := #[.val (.long j0), .second, .val (.long j1), .second, .val (.int i2), .val (.int i3), .val (.int i4), .val (.int i5), .val (.int v1), .unset, .unset, .unset, .unset, .unset, .unset, .unset, .unset, .unset, .unset, .unset, .unset, .unset, .unset, .unset, .unset, .unset, .unset, .unset, .unset, .unset, .unset, .unset, .unset, .unset, .unset, .unset, .unset, .unset, .unset, .unset, .unset, .unset, .unset, .unset, .unset, .unset, .unset, .unset, .unset, .unset, .unset, .unset, .unset]) (S' := [(.int (1 : Int32))]) rfl ?_
      exact J5 X0 N0 e0 _ (by simp only [if_neg c2])
  intro TJ5 lcJ5 XJ5 NJ5 eJ5 v6 hv6
  have bv6 : ¬ v6 < (0 : Int32) ∧ ¬ (1 : Int32) < v6 := by rw [hv6]; (repeat' split) <;> first | exact bnd_mono (bnd_lit (0 : Int32)) (by decide +kernel) (by decide +kernel) | exact bnd_mono (bnd_lit (1 : Int32)) (by decide +kernel) (by decide +kernel)
  show Home TJ5 (mkF m 22 #[.val (.long j0), .second, .val (.long j1), .second, .val (.int i2), .val (.int i3), .val (.int i4), .val (.int i5), .val (.int v1), .unset, .unset, .unset, .unset, .unset, .unset, .unset, .unset, .unset, .unset, .unset, .unset, .unset, .unset, .unset, .unset, .unset, .unset, .unset, .unset, .unset, .unset, .unset, .unset, .unset, .unset, .unset, .unset, .unset, .unset, .unset, .unset, .unset, .unset, .unset, .unset, .unset, .unset, .unset, .unset, .unset, .unset, .unset, .unset] [(.int v6)])
  refine Home.run XJ5 hx hby sg0_22_4 (pc' := 29) (L' := #[.val (.long j0), .second, .val (.long j1), .second, .val (.int i2), .val (.int i3), .val (.int i4), .val (.int i5), .val (.int v1), .val (.int v6), .unset, .unset, .unset, .unset, .unset, .unset, .unset, .unset, .unset, .unset, .unset, .unset, .unset, .unset, .unset, .unset, .unset, .unset, .unset, .unset, .unset, .unset, .unset, .unset, .unset, .unset, .unset, .unset, .unset, .unset, .unset, .unset, .unset, .unset, .unset, .unset, .unset, .unset, .unset, .unset, .unset, .unset, .unset]) (S' := [(.int (i5 &&& (16 : Int32)))]) rfl ?_
  suffices J10 : ∀ {T : State} {lc : List Loc} (X : Stand p l e room_1 s m #[(.long j0), (.long j1), (.int i2), (.int i3), (.int i4), (.int i5)] below meth c T lc 0 0) (N : Fr n0 lc) (eT : T.heap = h0) (v11 : Int32) (hv11 : v11 = (if (i5 &&& (16 : Int32)) = (0 : Int32) then (0 : Int32) else (1 : Int32))), @Home p e below s _ _ _ T (mkF m 37 #[.val (.long j0), .second, .val (.long j1), .second, .val (.int i2), .val (.int i3), .val (.int i4), .val (.int i5), .val (.int v1), .val (.int v6), .unset, .unset, .unset, .unset, .unset, .unset, .unset, .unset, .unset, .unset, .unset, .unset, .unset, .unset, .unset, .unset, .unset, .unset, .unset, .unset, .unset, .unset, .unset, .unset, .unset, .unset, .unset, .unset, .unset, .unset, .unset, .unset, .unset, .unset, .unset, .unset, .unset, .unset, .unset, .unset, .unset, .unset, .unset] [(.int v11)]) by
    by_cases c7 : (i5 &&& (16 : Int32)) = (0 : Int32)
    · skip
      refine Home.go (fun _ => XS.ifYes XJ5.here hx rfl (pc0 := 29) (pc' := 36) rfl (hb hby at_29) rfl ((if0 _ _).trans (teq c7).1) (by decide) (by decide)) ?_
      have bd8 : ¬ (i5 &&& (16 : Int32)) < (0 : Int32) ∧ ¬ (0 : Int32) < (i5 &&& (16 : Int32)) := ⟨(bnd_eql c7), (bnd_eqr c7)⟩
      refine Home.run XJ5 hx hby sg0_36_1 (pc' := 37) (L' := #[.val (.long j0), .second, .val (.long j1), .second, .val (.int i2), .val (.int i3), .val (.int i4), .val (.int i5), .val (.int v1), .val (.int v6), .unset, .unset, .unset, .unset, .unset, .unset, .unset, .unset, .unset, .unset, .unset, .unset, .unset, .unset, .unset, .unset, .unset, .unset, .unset, .unset, .unset, .unset, .unset, .unset, .unset, .unset, .unset, .unset, .unset, .unset, .unset, .unset, .unset, .unset, .unset, .unset, .unset, .unset, .unset, .unset, .unset, .unset, .unset]) (S' := [(.int (0 : Int32))]) rfl ?_
      exact J10 XJ5 NJ5 eJ5 _ (by simp only [if_pos c7])
    · skip
      refine Home.go (fun _ => XS.ifNo XJ5.here hx rfl (hb hby at_29) rfl ((if0 _ _).trans (feq c7).1)) ?_
      have bd9 : ¬ (i5 &&& (16 : Int32)) < (1 : Int32) ∧ ¬ (16 : Int32) < (i5 &&& (16 : Int32)) := ⟨(bnd_nel (bnd_and i5 (16 : Int32) (by decide)).1 c7 (by decide +kernel)), (bnd_and i5 (16 : Int32) (by decide)).2⟩
      refine Home.run XJ5 hx hby sg0_32_2 (pc' := 37) (L' := #[.val (.long j0), .second, .val (.long j1), .second, .val (.int i2), .val (.int i3), .val (.int i4), .val (.int i5), .val (.int v1), .val (.int v6), .unset, .unset, .unset, .unset, .unset, .unset, .unset, .unset, .unset, .unset, .unset, .unset, .unset, .unset, .unset, .unset, .unset, .unset, .unset, .unset, .unset, .unset, .unset, .unset, .unset, .unset, .unset, .unset, .unset, .unset, .unset, .unset, .unset, .unset, .unset, .unset, .unset, .unset, .unset, .unset, .unset, .unset, .unset]) (S' := [(.int (1 : Int32))]) rfl ?_
      exact J10 XJ5 NJ5 eJ5 _ (by simp only [if_neg c7])
  intro TJ10 lcJ10 XJ10 NJ10 eJ10 v11 hv11
  have bv11 : ¬ v11 < (0 : Int32) ∧ ¬ (1 : Int32) < v11 := by rw [hv11]; (repeat' split) <;> first | exact bnd_mono (bnd_lit (0 : Int32)) (by decide +kernel) (by decide +kernel) | exact bnd_mono (bnd_lit (1 : Int32)) (by decide +kernel) (by decide +kernel)
  show Home TJ10 (mkF m 37 #[.val (.long j0), .second, .val (.long j1), .second, .val (.int i2), .val (.int i3), .val (.int i4), .val (.int i5), .val (.int v1), .val (.int v6), .unset, .unset, .unset, .unset, .unset, .unset, .unset, .unset, .unset, .unset, .unset, .unset, .unset, .unset, .unset, .unset, .unset, .unset, .unset, .unset, .unset, .unset, .unset, .unset, .unset, .unset, .unset, .unset, .unset, .unset, .unset, .unset, .unset, .unset, .unset, .unset, .unset, .unset, .unset, .unset, .unset, .unset, .unset] [(.int v11)])
  refine Home.run XJ10 hx hby sg0_37_4 (pc' := 44) (L' := #[.val (.long j0), .second, .val (.long j1), .second, .val (.int i2), .val (.int i3), .val (.int i4), .val (.int i5), .val (.int v1), .val (.int v6), .val (.int v11), .unset, .unset, .unset, .unset, .unset, .unset, .unset, .unset, .unset, .unset, .unset, .unset, .unset, .unset, .unset, .unset, .unset, .unset, .unset, .unset, .unset, .unset, .unset, .unset, .unset, .unset, .unset, .unset, .unset, .unset, .unset, .unset, .unset, .unset, .unset, .unset, .unset, .unset, .unset, .unset, .unset, .unset]) (S' := [(.int (i5 &&& (32 : Int32)))]) rfl ?_
  suffices J15 : ∀ {T : State} {lc : List Loc} (X : Stand p l e room_1 s m #[(.long j0), (.long j1), (.int i2), (.int i3), (.int i4), (.int i5)] below meth c T lc 0 0) (N : Fr n0 lc) (eT : T.heap = h0) (v16 : Int32) (hv16 : v16 = (if (i5 &&& (32 : Int32)) = (0 : Int32) then (0 : Int32) else (1 : Int32))), @Home p e below s _ _ _ T (mkF m 52 #[.val (.long j0), .second, .val (.long j1), .second, .val (.int i2), .val (.int i3), .val (.int i4), .val (.int i5), .val (.int v1), .val (.int v6), .val (.int v11), .unset, .unset, .unset, .unset, .unset, .unset, .unset, .unset, .unset, .unset, .unset, .unset, .unset, .unset, .unset, .unset, .unset, .unset, .unset, .unset, .unset, .unset, .unset, .unset, .unset, .unset, .unset, .unset, .unset, .unset, .unset, .unset, .unset, .unset, .unset, .unset, .unset, .unset, .unset, .unset, .unset, .unset] [(.int v16)]) by
    by_cases c12 : (i5 &&& (32 : Int32)) = (0 : Int32)
    · skip
      refine Home.go (fun _ => XS.ifYes XJ10.here hx rfl (pc0 := 44) (pc' := 51) rfl (hb hby at_44) rfl ((if0 _ _).trans (teq c12).1) (by decide) (by decide)) ?_
      have bd13 : ¬ (i5 &&& (32 : Int32)) < (0 : Int32) ∧ ¬ (0 : Int32) < (i5 &&& (32 : Int32)) := ⟨(bnd_eql c12), (bnd_eqr c12)⟩
      refine Home.run XJ10 hx hby sg0_51_1 (pc' := 52) (L' := #[.val (.long j0), .second, .val (.long j1), .second, .val (.int i2), .val (.int i3), .val (.int i4), .val (.int i5), .val (.int v1), .val (.int v6), .val (.int v11), .unset, .unset, .unset, .unset, .unset, .unset, .unset, .unset, .unset, .unset, .unset, .unset, .unset, .unset, .unset, .unset, .unset, .unset, .unset, .unset, .unset, .unset, .unset, .unset, .unset, .unset, .unset, .unset, .unset, .unset, .unset, .unset, .unset, .unset, .unset, .unset, .unset, .unset, .unset, .unset, .unset, .unset]) (S' := [(.int (0 : Int32))]) rfl ?_
      exact J15 XJ10 NJ10 eJ10 _ (by simp only [if_pos c12])
    · skip
      refine Home.go (fun _ => XS.ifNo XJ10.here hx rfl (hb hby at_44) rfl ((if0 _ _).trans (feq c12).1)) ?_
      have bd14 : ¬ (i5 &&& (32 : Int32)) < (1 : Int32) ∧ ¬ (32 : Int32) < (i5 &&& (32 : Int32)) := ⟨(bnd_nel (bnd_and i5 (32 : Int32) (by decide)).1 c12 (by decide +kernel)), (bnd_and i5 (32 : Int32) (by decide)).2⟩
      refine Home.run XJ10 hx hby sg0_47_2 (pc' := 52) (L' := #[.val (.long j0), .second, .val (.long j1), .second, .val (.int i2), .val (.int i3), .val (.int i4), .val (.int i5), .val (.int v1), .val (.int v6), .val (.int v11), .unset, .unset, .unset, .unset, .unset, .unset, .unset, .unset, .unset, .unset, .unset, .unset, .unset, .unset, .unset, .unset, .unset, .unset, .unset, .unset, .unset, .unset, .unset, .unset, .unset, .unset, .unset, .unset, .unset, .unset, .unset, .unset, .unset, .unset, .unset, .unset, .unset, .unset, .unset, .unset, .unset, .unset]) (S' := [(.int (1 : Int32))]) rfl ?_
      exact J15 XJ10 NJ10 eJ10 _ (by simp only [if_neg c12])
  intro TJ15 lcJ15 XJ15 NJ15 eJ15 v16 hv16
  have bv16 : ¬ v16 < (0 : Int32) ∧ ¬ (1 : Int32) < v16 := by rw [hv16]; (repeat' split) <;> first | exact bnd_mono (bnd_lit (0 : Int32)) (by decide +kernel) (by decide +kernel) | exact bnd_mono (bnd_lit (1 : Int32)) (by decide +kernel) (by decide +kernel)
  show Home TJ15 (mkF m 52 #[.val (.long j0), .second, .val (.long j1), .second, .val (.int i2), .val (.int i3), .val (.int i4), .val (.int i5), .val (.int v1), .val (.int v6), .val (.int v11), .unset, .unset, .unset, .unset, .unset, .unset, .unset, .unset, .unset, .unset, .unset, .unset, .unset, .unset, .unset, .unset, .unset, .unset, .unset, .unset, .unset, .unset, .unset, .unset, .unset, .unset, .unset, .unset, .unset, .unset, .unset, .unset, .unset, .unset, .unset, .unset, .unset, .unset, .unset, .unset, .unset, .unset] [(.int v16)])
  refine Home.run XJ15 hx hby sg0_52_4 (pc' := 59) (L' := #[.val (.long j0), .second, .val (.long j1), .second, .val (.int i2), .val (.int i3), .val (.int i4), .val (.int i5), .val (.int v1), .val (.int v6), .val (.int v11), .val (.int v16), .unset, .unset, .unset, .unset, .unset, .unset, .unset, .unset, .unset, .unset, .unset, .unset, .unset, .unset, .unset, .unset, .unset, .unset, .unset, .unset, .unset, .unset, .unset, .unset, .unset, .unset, .unset, .unset, .unset, .unset, .unset, .unset, .unset, .unset, .unset, .unset, .unset, .unset, .unset, .unset, .unset]) (S' := [(.int (i5 &&& (64 : Int32)))]) rfl ?_
  suffices J20 : ∀ {T : State} {lc : List Loc} (X : Stand p l e room_1 s m #[(.long j0), (.long j1), (.int i2), (.int i3), (.int i4), (.int i5)] below meth c T lc 0 0) (N : Fr n0 lc) (eT : T.heap = h0) (v21 : Int32) (hv21 : v21 = (if (i5 &&& (64 : Int32)) = (0 : Int32) then (0 : Int32) else (1 : Int32))), @Home p e below s _ _ _ T (mkF m 67 #[.val (.long j0), .second, .val (.long j1), .second, .val (.int i2), .val (.int i3), .val (.int i4), .val (.int i5), .val (.int v1), .val (.int v6), .val (.int v11), .val (.int v16), .unset, .unset, .unset, .unset, .unset, .unset, .unset, .unset, .unset, .unset, .unset, .unset, .unset, .unset, .unset, .unset, .unset, .unset, .unset, .unset, .unset, .unset, .unset, .unset, .unset, .unset, .unset, .unset, .unset, .unset, .unset, .unset, .unset, .unset, .unset, .unset, .unset, .unset, .unset, .unset, .unset] [(.int v21)]) by
    by_cases c17 : (i5 &&& (64 : Int32)) = (0 : Int32)
    · skip
      refine Home.go (fun _ => XS.ifYes XJ15.here hx rfl (pc0 := 59) (pc' := 66) rfl (hb hby at_59) rfl ((if0 _ _).trans (teq c17).1) (by decide) (by decide)) ?_
      have bd18 : ¬ (i5 &&& (64 : Int32)) < (0 : Int32) ∧ ¬ (0 : Int32) < (i5 &&& (64 : Int32)) := ⟨(bnd_eql c17), (bnd_eqr c17)⟩
      refine Home.run XJ15 hx hby sg0_66_1 (pc' := 67) (L' := #[.val (.long j0), .second, .val (.long j1), .second, .val (.int i2), .val (.int i3), .val (.int i4), .val (.int i5), .val (.int v1), .val (.int v6), .val (.int v11), .val (.int v16), .unset, .unset, .unset, .unset, .unset, .unset, .unset, .unset, .unset, .unset, .unset, .unset, .unset, .unset, .unset, .unset, .unset, .unset, .unset, .unset, .unset, .unset, .unset, .unset, .unset, .unset, .unset, .unset, .unset, .unset, .unset, .unset, .unset, .unset, .unset, .unset, .unset, .unset, .unset, .unset, .unset]) (S' := [(.int (0 : Int32))]) rfl ?_
      exact J20 XJ15 NJ15 eJ15 _ (by simp only [if_pos c17])
    · skip
      refine Home.go (fun _ => XS.ifNo XJ15.here hx rfl (hb hby at_59) rfl ((if0 _ _).trans (feq c17).1)) ?_
      have bd19 : ¬ (i5 &&& (64 : Int32)) < (1 : Int32) ∧ ¬ (64 : Int32) < (i5 &&& (64 : Int32)) := ⟨(bnd_nel (bnd_and i5 (64 : Int32) (by decide)).1 c17 (by decide +kernel)), (bnd_and i5 (64 : Int32) (by decide)).2⟩
      refine Home.run XJ15 hx hby sg0_62_2 (pc' := 67) (L' := #[.val (.long j0), .second, .val (.long j1), .second, .val (.int i2), .val (.int i3), .val (.int i4), .val (.int i5), .val (.int v1), .val (.int v6), .val (.int v11), .val (.int v16), .unset, .unset, .unset, .unset, .unset, .unset, .unset, .unset, .unset, .unset, .unset, .unset, .unset, .unset, .unset, .unset, .unset, .unset, .unset, .unset, .unset, .unset, .unset, .unset, .unset, .unset, .unset, .unset, .unset, .unset, .unset, .unset, .unset, .unset, .unset, .unset, .unset, .unset, .unset, .unset, .unset]) (S' := [(.int (1 : Int32))]) rfl ?_
      exact J20 XJ15 NJ15 eJ15 _ (by simp only [if_neg c17])
  intro TJ20 lcJ20 XJ20 NJ20 eJ20 v21 hv21
  have bv21 : ¬ v21 < (0 : Int32) ∧ ¬ (1 : Int32) < v21 := by rw [hv21]; (repeat' split) <;> first | exact bnd_mono (bnd_lit (0 : Int32)) (by decide +kernel) (by decide +kernel) | exact bnd_mono (bnd_lit (1 : Int32)) (by decide +kernel) (by decide +kernel)
  show Home TJ20 (mkF m 67 #[.val (.long j0), .second, .val (.long j1), .second, .val (.int i2), .val (.int i3), .val (.int i4), .val (.int i5), .val (.int v1), .val (.int v6), .val (.int v11), .val (.int v16), .unset, .unset, .unset, .unset, .unset, .unset, .unset, .unset, .unset, .unset, .unset, .unset, .unset, .unset, .unset, .unset, .unset, .unset, .unset, .unset, .unset, .unset, .unset, .unset, .unset, .unset, .unset, .unset, .unset, .unset, .unset, .unset, .unset, .unset, .unset, .unset, .unset, .unset, .unset, .unset, .unset] [(.int v21)])
  refine Home.run XJ20 hx hby sg0_67_7 (pc' := 79) (L' := #[.val (.long j0), .second, .val (.long j1), .second, .val (.int i2), .val (.int i3), .val (.int i4), .val (.int i5), .val (.int v1), .val (.int v6), .val (.int v11), .val (.int v16), .val (.int v21), .val (.int (((i5.toUInt32 >>> ((7 : Int32) &&& 31).toUInt32).toInt32) &&& (31 : Int32))), .unset, .unset, .unset, .unset, .unset, .unset, .unset, .unset, .unset, .unset, .unset, .unset, .unset, .unset, .unset, .unset, .unset, .unset, .unset, .unset, .unset, .unset, .unset, .unset, .unset, .unset, .unset, .unset, .unset, .unset, .unset, .unset, .unset, .unset, .unset, .unset, .unset, .unset, .unset]) (S' := []) rfl ?_
  obtain ⟨v22, hv22⟩ : ∃ z, z = (((i5.toUInt32 >>> ((7 : Int32) &&& 31).toUInt32).toInt32) &&& (31 : Int32)) := ⟨_, rfl⟩
  rw [← hv22]
  have bv22 : ¬ v22 < (0 : Int32) ∧ ¬ (31 : Int32) < v22 := by rw [hv22]; exact (bnd_and ((i5.toUInt32 >>> ((7 : Int32) &&& 31).toUInt32).toInt32) (31 : Int32) (by decide))
  refine Home.run XJ20 hx hby sg0_79_1 (pc' := 81) (L' := #[.val (.long j0), .second, .val (.long j1), .second, .val (.int i2), .val (.int i3), .val (.int i4), .val (.int i5), .val (.int v1), .val (.int v6), .val (.int v11), .val (.int v16), .val (.int v21), .val (.int v22), .unset, .unset, .unset, .unset, .unset, .unset, .unset, .unset, .unset, .unset, .unset, .unset, .unset, .unset, .unset, .unset, .unset, .unset, .unset, .unset, .unset, .unset, .unset, .unset, .unset, .unset, .unset, .unset, .unset, .unset, .unset, .unset, .unset, .unset, .unset, .unset, .unset, .unset, .unset]) (S' := [(.int i2)]) rfl ?_
  refine Home.go (XJ20.ldcInt hx hown (mvT hZ (own_w0 hw)) rfl (hb hby at_81)) ?_
  refine Home.run XJ20 hx hby sg0_83_3 (pc' := 87) (L' := #[.val (.long j0), .second, .val (.long j1), .second, .val (.int i2), .val (.int i3), .val (.int i4), .val (.int i5), .val (.int v1), .val (.int v6), .val (.int v11), .val (.int v16), .val (.int v21), .val (.int v22), .val (.long ((i2 &&& (2147483647 : Int32)).toInt64)), .second, .unset, .unset, .unset, .unset, .unset, .unset, .unset, .unset, .unset, .unset, .unset, .unset, .unset, .unset, .unset, .unset, .unset, .unset, .unset, .unset, .unset, .unset, .unset, .unset, .unset, .unset, .unset, .unset, .unset, .unset, .unset, .unset, .unset, .unset, .unset, .unset, .unset]) (S' := []) rfl ?_
  obtain ⟨v23, hv23⟩ : ∃ z, z = ((i2 &&& (2147483647 : Int32)).toInt64) := ⟨_, rfl⟩
  rw [← hv23]
  refine Home.run XJ20 hx hby sg0_87_1 (pc' := 89) (L' := #[.val (.long j0), .second, .val (.long j1), .second, .val (.int i2), .val (.int i3), .val (.int i4), .val (.int i5), .val (.int v1), .val (.int v6), .val (.int v11), .val (.int v16), .val (.int v21), .val (.int v22), .val (.long v23), .second, .unset, .unset, .unset, .unset, .unset, .unset, .unset, .unset, .unset, .unset, .unset, .unset, .unset, .unset, .unset, .unset, .unset, .unset, .unset, .unset, .unset, .unset, .unset, .unset, .unset, .unset, .unset, .unset, .unset, .unset, .unset, .unset, .unset, .unset, .unset, .unset, .unset]) (S' := [(.int v21)]) rfl ?_
  suffices J27 : ∀ {T : State} {lc : List Loc} (X : Stand p l e room_1 s m #[(.long j0), (.long j1), (.int i2), (.int i3), (.int i4), (.int i5)] below meth c T lc 0 0) (N : Fr n0 lc) (eT : T.heap = h0) (v28 : Int64) (hv28 : v28 = (if v21 = (0 : Int32) then v23 else ((v23.toUInt64 >>> ((1 : Int32) &&& 0x3f).toInt64.toUInt64).toInt64))), @Home p e below s _ _ _ T (mkF m 101 #[.val (.long j0), .second, .val (.long j1), .second, .val (.int i2), .val (.int i3), .val (.int i4), .val (.int i5), .val (.int v1), .val (.int v6), .val (.int v11), .val (.int v16), .val (.int v21), .val (.int v22), .val (.long v23), .second, .unset, .unset, .unset, .unset, .unset, .unset, .unset, .unset, .unset, .unset, .unset, .unset, .unset, .unset, .unset, .unset, .unset, .unset, .unset, .unset, .unset, .unset, .unset, .unset, .unset, .unset, .unset, .unset, .unset, .unset, .unset, .unset, .unset, .unset, .unset, .unset, .unset] [(.long v28)]) by
    by_cases c24 : v21 = (0 : Int32)
    · skip
      refine Home.go (fun _ => XS.ifYes XJ20.here hx rfl (pc0 := 89) (pc' := 99) rfl (hb hby at_89) rfl ((if0 _ _).trans (teq c24).1) (by decide) (by decide)) ?_
      have bd25 : ¬ v21 < (0 : Int32) ∧ ¬ (0 : Int32) < v21 := ⟨(bnd_eql c24), (bnd_eqr c24)⟩
      refine Home.run XJ20 hx hby sg0_99_1 (pc' := 101) (L' := #[.val (.long j0), .second, .val (.long j1), .second, .val (.int i2), .val (.int i3), .val (.int i4), .val (.int i5), .val (.int v1), .val (.int v6), .val (.int v11), .val (.int v16), .val (.int v21), .val (.int v22), .val (.long v23), .second, .unset, .unset, .unset, .unset, .unset, .unset, .unset, .unset, .unset, .unset, .unset, .unset, .unset, .unset, .unset, .unset, .unset, .unset, .unset, .unset, .unset, .unset, .unset, .unset, .unset, .unset, .unset, .unset, .unset, .unset, .unset, .unset, .unset, .unset, .unset, .unset, .unset]) (S' := [(.long v23)]) rfl ?_
      exact J27 XJ20 NJ20 eJ20 _ (by simp only [if_pos c24])
    · skip
      refine Home.go (fun _ => XS.ifNo XJ20.here hx rfl (hb hby at_89) rfl ((if0 _ _).trans (feq c24).1)) ?_
      have bd26 : ¬ v21 < (1 : Int32) ∧ ¬ (1 : Int32) < v21 := ⟨(bnd_nel bv21.1 c24 (by decide +kernel)), bv21.2⟩
      refine Home.run XJ20 hx hby sg0_92_4 (pc' := 101) (L' := #[.val (.long j0), .second, .val (.long j1), .second, .val (.int i2), .val (.int i3), .val (.int i4), .val (.int i5), .val (.int v1), .val (.int v6), .val (.int v11), .val (.int v16), .val (.int v21), .val (.int v22), .val (.long v23), .second, .unset, .unset, .unset, .unset, .unset, .unset, .unset, .unset, .unset, .unset, .unset, .unset, .unset, .unset, .unset, .unset, .unset, .unset, .unset, .unset, .unset, .unset, .unset, .unset, .unset, .unset, .unset, .unset, .unset, .unset, .unset, .unset, .unset, .unset, .unset, .unset, .unset]) (S' := [(.long ((v23.toUInt64 >>> ((1 : Int32) &&& 0x3f).toInt64.toUInt64).toInt64))]) rfl ?_
      exact J27 XJ20 NJ20 eJ20 _ (by simp only [if_neg c24])
  intro TJ27 lcJ27 XJ27 NJ27 eJ27 v28 hv28
  show Home TJ27 (mkF m 101 #[.val (.long j0), .second, .val (.long j1), .second, .val (.int i2), .val (.int i3), .val (.int i4), .val (.int i5), .val (.int v1), .val (.int v6), .val (.int v11), .val (.int v16), .val (.int v21), .val (.int v22), .val (.long v23), .second, .unset, .unset, .unset, .unset, .unset, .unset, .unset, .unset, .unset, .unset, .unset, .unset, .unset, .unset, .unset, .unset, .unset, .unset, .unset, .unset, .unset, .unset, .unset, .unset, .unset, .unset, .unset, .unset, .unset, .unset, .unset, .unset, .unset, .unset, .unset, .unset, .unset] [(.long v28)])
  refine Home.run XJ27 hx hby sg0_101_2 (pc' := 105) (L' := #[.val (.long j0), .second, .val (.long j1), .second, .val (.int i2), .val (.int i3), .val (.int i4), .val (.int i5), .val (.int v1), .val (.int v6), .val (.int v11), .val (.int v16), .val (.int v21), .val (.int v22), .val (.long v23), .second, .val (.long v28), .second, .unset, .unset, .unset, .unset, .unset, .unset, .unset, .unset, .unset, .unset, .unset, .unset, .unset, .unset, .unset, .unset, .unset, .unset, .unset, .unset, .unset, .unset, .unset, .unset, .unset, .unset, .unset, .unset, .unset, .unset, .unset, .unset, .unset, .unset, .unset]) (S' := [(.int i3)]) rfl ?_
  refine Home.go (XJ27.ldcInt hx hown (mvT hZ (own_w0 hw)) rfl (hb hby at_105)) ?_
  refine Home.run XJ27 hx hby sg0_107_3 (pc' := 111) (L' := #[.val (.long j0), .second, .val (.long j1), .second, .val (.int i2), .val (.int i3), .val (.int i4), .val (.int i5), .val (.int v1), .val (.int v6), .val (.int v11), .val (.int v16), .val (.int v21), .val (.int v22), .val (.long v23), .second, .val (.long v28), .second, .val (.long ((i3 &&& (2147483647 : Int32)).toInt64)), .second, .unset, .unset, .unset, .unset, .unset, .unset, .unset, .unset, .unset, .unset, .unset, .unset, .unset, .unset, .unset, .unset, .unset, .unset, .unset, .unset, .unset, .unset, .unset, .unset, .unset, .unset, .unset, .unset, .unset, .unset, .unset, .unset, .unset]) (S' := []) rfl ?_
  obtain ⟨v29, hv29⟩ : ∃ z, z = ((i3 &&& (2147483647 : Int32)).toInt64) := ⟨_, rfl⟩
  rw [← hv29]
  refine Home.run XJ27 hx hby sg0_111_1 (pc' := 113) (L' := #[.val (.long j0), .second, .val (.long j1), .second, .val (.int i2), .val (.int i3), .val (.int i4), .val (.int i5), .val (.int v1), .val (.int v6), .val (.int v11), .val (.int v16), .val (.int v21), .val (.int v22), .val (.long v23), .second, .val (.long v28), .second, .val (.long v29), .second, .unset, .unset, .unset, .unset, .unset, .unset, .unset, .unset, .unset, .unset, .unset, .unset, .unset, .unset, .unset, .unset, .unset, .unset, .unset, .unset, .unset, .unset, .unset, .unset, .unset, .unset, .unset, .unset, .unset, .unset, .unset, .unset, .unset]) (S' := [(.int i4)]) rfl ?_
  refine Home.go (XJ27.ldcInt hx hown (mvT hZ (own_w0 hw)) rfl (hb hby at_113)) ?_
  refine Home.run XJ27 hx hby sg0_115_3 (pc' := 119) (L' := #[.val (.long j0), .second, .val (.long j1), .second, .val (.int i2), .val (.int i3), .val (.int i4), .val (.int i5), .val (.int v1), .val (.int v6), .val (.int v11), .val (.int v16), .val (.int v21), .val (.int v22), .val (.long v23), .second, .val (.long v28), .second, .val (.long v29), .second, .val (.long ((i4 &&& (2147483647 : Int32)).toInt64)), .second, .unset, .unset, .unset, .unset, .unset, .unset, .unset, .unset, .unset, .unset, .unset, .unset, .unset, .unset, .unset, .unset, .unset, .unset, .unset, .unset, .unset, .unset, .unset, .unset, .unset, .unset, .unset, .unset, .unset, .unset, .unset]) (S' := []) rfl ?_
  obtain ⟨v30, hv30⟩ : ∃ z, z = ((i4 &&& (2147483647 : Int32)).toInt64) := ⟨_, rfl⟩
  rw [← hv30]
  refine Home.run XJ27 hx hby sg0_119_4 (pc' := 126) (L' := #[.val (.long j0), .second, .val (.long j1), .second, .val (.int i2), .val (.int i3), .val (.int i4), .val (.int i5), .val (.int v1), .val (.int v6), .val (.int v11), .val (.int v16), .val (.int v21), .val (.int v22), .val (.long v23), .second, .val (.long v28), .second, .val (.long v29), .second, .val (.long v30), .second, .val (.long ((v30.toUInt64 >>> (v22 &&& 0x3f).toInt64.toUInt64).toInt64)), .second, .unset, .unset, .unset, .unset, .unset, .unset, .unset, .unset, .unset, .unset, .unset, .unset, .unset, .unset, .unset, .unset, .unset, .unset, .unset, .unset, .unset, .unset, .unset, .unset, .unset, .unset, .unset, .unset, .unset]) (S' := []) rfl ?_
  obtain ⟨v31, hv31⟩ : ∃ z, z = ((v30.toUInt64 >>> (v22 &&& 0x3f).toInt64.toUInt64).toInt64) := ⟨_, rfl⟩
  rw [← hv31]
  refine Home.run XJ27 hx hby sg0_126_8 (pc' := 139) (L' := #[.val (.long j0), .second, .val (.long j1), .second, .val (.int i2), .val (.int i3), .val (.int i4), .val (.int i5), .val (.int v1), .val (.int v6), .val (.int v11), .val (.int v16), .val (.int v21), .val (.int v22), .val (.long v23), .second, .val (.long v28), .second, .val (.long v29), .second, .val (.long v30), .second, .val (.long v31), .second, .val (.long (j1 + v23)), .second, .val (.long ((j1 + v23) + v28)), .second, .unset, .unset, .unset, .unset, .unset, .unset, .unset, .unset, .unset, .unset, .unset, .unset, .unset, .unset, .unset, .unset, .unset, .unset, .unset, .unset, .unset, .unset, .unset, .unset, .unset]) (S' := []) rfl ?_
  obtain ⟨v32, hv32⟩ : ∃ z, z = ((j1 + v23) + v28) := ⟨_, rfl⟩
  rw [← hv32]
  refine Home.run XJ27 hx hby sg0_139_1 (pc' := 141) (L' := #[.val (.long j0), .second, .val (.long j1), .second, .val (.int i2), .val (.int i3), .val (.int i4), .val (.int i5), .val (.int v1), .val (.int v6), .val (.int v11), .val (.int v16), .val (.int v21), .val (.int v22), .val (.long v23), .second, .val (.long v28), .second, .val (.long v29), .second, .val (.long v30), .second, .val (.long v31), .second, .val (.long (j1 + v23)), .second, .val (.long v32), .second, .unset, .unset, .unset, .unset, .unset, .unset, .unset, .unset, .unset, .unset, .unset, .unset, .unset, .unset, .unset, .unset, .unset, .unset, .unset, .unset, .unset, .unset, .unset, .unset, .unset]) (S' := [(.int v6)]) rfl ?_
  suffices J36 : ∀ {T : State} {lc : List Loc} (X : Stand p l e room_1 s m #[(.long j0), (.long j1), (.int i2), (.int i3), (.int i4), (.int i5)] below meth c T lc 0 0) (N : Fr n0 lc) (eT : T.heap = h0) (v37 : Int64) (hv37 : v37 = (if v6 = (0 : Int32) then v29 else (-1 : Int64))), @Home p e below s _ _ _ T (mkF m 152 #[.val (.long j0), .second, .val (.long j1), .second, .val (.int i2), .val (.int i3), .val (.int i4), .val (.int i5), .val (.int v1), .val (.int v6), .val (.int v11), .val (.int v16), .val (.int v21), .val (.int v22), .val (.long v23), .second, .val (.long v28), .second, .val (.long v29), .second, .val (.long v30), .second, .val (.long v31), .second, .val (.long (j1 + v23)), .second, .val (.long v32), .second, .unset, .unset, .unset, .unset, .unset, .unset, .unset, .unset, .unset, .unset, .unset, .unset, .unset, .unset, .unset, .unset, .unset, .unset, .unset, .unset, .unset, .unset, .unset, .unset, .unset] [(.long v37)]) by
    by_cases c33 : v6 = (0 : Int32)
    · skip
      refine Home.go (fun _ => XS.ifYes XJ27.here hx rfl (pc0 := 141) (pc' := 150) rfl (hb hby at_141) rfl ((if0 _ _).trans (teq c33).1) (by decide) (by decide)) ?_
      have bd34 : ¬ v6 < (0 : Int32) ∧ ¬ (0 : Int32) < v6 := ⟨(bnd_eql c33), (bnd_eqr c33)⟩
      refine Home.run XJ27 hx hby sg0_150_1 (pc' := 152) (L' := #[.val (.long j0), .second, .val (.long j1), .second, .val (.int i2), .val (.int i3), .val (.int i4), .val (.int i5), .val (.int v1), .val (.int v6), .val (.int v11), .val (.int v16), .val (.int v21), .val (.int v22), .val (.long v23), .second, .val (.long v28), .second, .val (.long v29), .second, .val (.long v30), .second, .val (.long v31), .second, .val (.long (j1 + v23)), .second, .val (.long v32), .second, .unset, .unset, .unset, .unset, .unset, .unset, .unset, .unset, .unset, .unset, .unset, .unset, .unset, .unset, .unset, .unset, .unset, .unset, .unset, .unset, .unset, .unset, .unset, .unset, .unset]) (S' := [(.long v29)]) rfl ?_
      exact J36 XJ27 NJ27 eJ27 _ (by simp only [if_pos c33])
    · skip
      refine Home.go (fun _ => XS.ifNo XJ27.here hx rfl (hb hby at_141) rfl ((if0 _ _).trans (feq c33).1)) ?_
      have bd35 : ¬ v6 < (1 : Int32) ∧ ¬ (1 : Int32) < v6 := ⟨(bnd_nel bv6.1 c33 (by decide +kernel)), bv6.2⟩
      refine Home.go (XJ27.ldc2Long hx hown (mvT hZ (own_w29 hw)) rfl (hb hby at_144)) ?_
      refine Home.run XJ27 hx hby sg0_147_1 (pc' := 152) (L' := #[.val (.long j0), .second, .val (.long j1), .second, .val (.int i2), .val (.int i3), .val (.int i4), .val (.int i5), .val (.int v1), .val (.int v6), .val (.int v11), .val (.int v16), .val (.int v21), .val (.int v22), .val (.long v23), .second, .val (.long v28), .second, .val (.long v29), .second, .val (.long v30), .second, .val (.long v31), .second, .val (.long (j1 + v23)), .second, .val (.long v32), .second, .unset, .unset, .unset, .unset, .unset, .unset, .unset, .unset, .unset, .unset, .unset, .unset, .unset, .unset, .unset, .unset, .unset, .unset, .unset, .unset, .unset, .unset, .unset, .unset, .unset]) (S' := [(.long (-1 : Int64))]) rfl ?_
      exact J36 XJ27 NJ27 eJ27 _ (by simp only [if_neg c33])
  intro TJ36 lcJ36 XJ36 NJ36 eJ36 v37 hv37
  show Home TJ36 (mkF m 152 #[.val (.long j0), .second, .val (.long j1), .second, .val (.int i2), .val (.int i3), .val (.int i4), .val (.int i5), .val (.int v1), .val (.int v6), .val (.int v11), .val (.int v16), .val (.int v21), .val (.int v22), .val (.long v23), .second, .val (.long v28), .second, .val (.long v29), .second, .val (.long v30), .second, .val (.long v31), .second, .val (.long (j1 + v23)), .second, .val (.long v32), .second, .unset, .unset, .unset, .unset, .unset, .unset, .unset, .unset, .unset, .unset, .unset, .unset, .unset, .unset, .unset, .unset, .unset, .unset, .unset, .unset, .unset, .unset, .unset, .unset, .unset] [(.long v37)])
  refine Home.run XJ36 hx hby sg0_152_2 (pc' := 156) (L' := #[.val (.long j0), .second, .val (.long j1), .second, .val (.int i2), .val (.int i3), .val (.int i4), .val (.int i5), .val (.int v1), .val (.int v6), .val (.int v11), .val (.int v16), .val (.int v21), .val (.int v22), .val (.long v23), .second, .val (.long v28), .second, .val (.long v29), .second, .val (.long v30), .second, .val (.long v31), .second, .val (.long (j1 + v23)), .second, .val (.long v32), .second, .val (.long v37), .second, .unset, .unset, .unset, .unset, .unset, .unset, .unset, .unset, .unset, .unset, .unset, .unset, .unset, .unset, .unset, .unset, .unset, .unset, .unset, .unset, .unset, .unset, .unset]) (S' := [(.int v11)]) rfl ?_
  suffices J41 : ∀ {T : State} {lc : List Loc} (X : Stand p l e room_1 s m #[(.long j0), (.long j1), (.int i2), (.int i3), (.int i4), (.int i5)] below meth c T lc 0 0) (N : Fr n0 lc) (eT : T.heap = h0) (v42 : Int64) (hv42 : v42 = (if v11 = (0 : Int32) then (v29 + v30) else (-1 : Int64))), @Home p e below s _ _ _ T (mkF m 170 #[.val (.long j0), .second, .val (.long j1), .second, .val (.int i2), .val (.int i3), .val (.int i4), .val (.int i5), .val (.int v1), .val (.int v6), .val (.int v11), .val (.int v16), .val (.int v21), .val (.int v22), .val (.long v23), .second, .val (.long v28), .second, .val (.long v29), .second, .val (.long v30), .second, .val (.long v31), .second, .val (.long (j1 + v23)), .second, .val (.long v32), .second, .val (.long v37), .second, .unset, .unset, .unset, .unset, .unset, .unset, .unset, .unset, .unset, .unset, .unset, .unset, .unset, .unset, .unset, .unset, .unset, .unset, .unset, .unset, .unset, .unset, .unset] [(.long v42)]) by
    by_cases c38 : v11 = (0 : Int32)
    · skip
      refine Home.go (fun _ => XS.ifYes XJ36.here hx rfl (pc0 := 156) (pc' := 165) rfl (hb hby at_156) rfl ((if0 _ _).trans (teq c38).1) (by decide) (by decide)) ?_
      have bd39 : ¬ v11 < (0 : Int32) ∧ ¬ (0 : Int32) < v11 := ⟨(bnd_eql c38), (bnd_eqr c38)⟩
      refine Home.run XJ36 hx hby sg0_165_3 (pc' := 170) (L' := #[.val (.long j0), .second, .val (.long j1), .second, .val (.int i2), .val (.int i3), .val (.int i4), .val (.int i5), .val (.int v1), .val (.int v6), .val (.int v11), .val (.int v16), .val (.int v21), .val (.int v22), .val (.long v23), .second, .val (.long v28), .second, .val (.long v29), .second, .val (.long v30), .second, .val (.long v31), .second, .val (.long (j1 + v23)), .second, .val (.long v32), .second, .val (.long v37), .second, .unset, .unset, .unset, .unset, .unset, .unset, .unset, .unset, .unset, .unset, .unset, .unset, .unset, .unset, .unset, .unset, .unset, .unset, .unset, .unset, .unset, .unset, .unset]) (S' := [(.long (v29 + v30))]) rfl ?_
      exact J41 XJ36 NJ36 eJ36 _ (by simp only [if_pos c38])
    · skip
      refine Home.go (fun _ => XS.ifNo XJ36.here hx rfl (hb hby at_156) rfl ((if0 _ _).trans (feq c38).1)) ?_
      have bd40 : ¬ v11 < (1 : Int32) ∧ ¬ (1 : Int32) < v11 := ⟨(bnd_nel bv11.1 c38 (by decide +kernel)), bv11.2⟩
      refine Home.go (XJ36.ldc2Long hx hown (mvT hZ (own_w29 hw)) rfl (hb hby at_159)) ?_
      refine Home.run XJ36 hx hby sg0_162_1 (pc' := 170) (L' := #[.val (.long j0), .second, .val (.long j1), .second, .val (.int i2), .val (.int i3), .val (.int i4), .val (.int i5), .val (.int v1), .val (.int v6), .val (.int v11), .val (.int v16), .val (.int v21), .val (.int v22), .val (.long v23), .second, .val (.long v28), .second, .val (.long v29), .second, .val (.long v30), .second, .val (.long v31), .second, .val (.long (j1 + v23)), .second, .val (.long v32), .second, .val (.long v37), .second, .unset, .unset, .unset, .unset, .unset, .unset, .unset, .unset, .unset, .unset, .unset, .unset, .unset, .unset, .unset, .unset, .unset, .unset, .unset, .unset, .unset, .unset, .unset]) (S' := [(.long (-1 : Int64))]) rfl ?_
      exact J41 XJ36 NJ36 eJ36 _ (by simp only [if_neg c38])
  intro TJ41 lcJ41 XJ41 NJ41 eJ41 v42 hv42
  show Home TJ41 (mkF m 170 #[.val (.long j0), .second, .val (.long j1), .second, .val (.int i2), .val (.int i3), .val (.int i4), .val (.int i5), .val (.int v1), .val (.int v6), .val (.int v11), .val (.int v16), .val (.int v21), .val (.int v22), .val (.long v23), .second, .val (.long v28), .second, .val (.long v29), .second, .val (.long v30), .second, .val (.long v31), .second, .val (.long (j1 + v23)), .second, .val (.long v32), .second, .val (.long v37), .second, .unset, .unset, .unset, .unset, .unset, .unset, .unset, .unset, .unset, .unset, .unset, .unset, .unset, .unset, .unset, .unset, .unset, .unset, .unset, .unset, .unset, .unset, .unset] [(.long v42)])
  refine Home.run XJ41 hx hby sg0_170_2 (pc' := 174) (L' := #[.val (.long j0), .second, .val (.long j1), .second, .val (.int i2), .val (.int i3), .val (.int i4), .val (.int i5), .val (.int v1), .val (.int v6), .val (.int v11), .val (.int v16), .val (.int v21), .val (.int v22), .val (.long v23), .second, .val (.long v28), .second, .val (.long v29), .second, .val (.long v30), .second, .val (.long v31), .second, .val (.long (j1 + v23)), .second, .val (.long v32), .second, .val (.long v37), .second, .val (.long v42), .second, .unset, .unset, .unset, .unset, .unset, .unset, .unset, .unset, .unset, .unset, .unset, .unset, .unset, .unset, .unset, .unset, .unset, .unset, .unset, .unset, .unset]) (S' := [(.int v16)]) rfl ?_
  suffices J46 : ∀ {T : State} {lc : List Loc} (X : Stand p l e room_1 s m #[(.long j0), (.long j1), (.int i2), (.int i3), (.int i4), (.int i5)] below meth c T lc 0 0) (N : Fr n0 lc) (eT : T.heap = h0) (v47 : Int64) (hv47 : v47 = (if v16 = (0 : Int32) then ((v29 + v30) + v31) else (-1 : Int64))), @Home p e below s _ _ _ T (mkF m 191 #[.val (.long j0), .second, .val (.long j1), .second, .val (.int i2), .val (.int i3), .val (.int i4), .val (.int i5), .val (.int v1), .val (.int v6), .val (.int v11), .val (.int v16), .val (.int v21), .val (.int v22), .val (.long v23), .second, .val (.long v28), .second, .val (.long v29), .second, .val (.long v30), .second, .val (.long v31), .second, .val (.long (j1 + v23)), .second, .val (.long v32), .second, .val (.long v37), .second, .val (.long v42), .second, .unset, .unset, .unset, .unset, .unset, .unset, .unset, .unset, .unset, .unset, .unset, .unset, .unset, .unset, .unset, .unset, .unset, .unset, .unset, .unset, .unset] [(.long v47)]) by
    by_cases c43 : v16 = (0 : Int32)
    · skip
      refine Home.go (fun _ => XS.ifYes XJ41.here hx rfl (pc0 := 174) (pc' := 183) rfl (hb hby at_174) rfl ((if0 _ _).trans (teq c43).1) (by decide) (by decide)) ?_
      have bd44 : ¬ v16 < (0 : Int32) ∧ ¬ (0 : Int32) < v16 := ⟨(bnd_eql c43), (bnd_eqr c43)⟩
      refine Home.run XJ41 hx hby sg0_183_5 (pc' := 191) (L' := #[.val (.long j0), .second, .val (.long j1), .second, .val (.int i2), .val (.int i3), .val (.int i4), .val (.int i5), .val (.int v1), .val (.int v6), .val (.int v11), .val (.int v16), .val (.int v21), .val (.int v22), .val (.long v23), .second, .val (.long v28), .second, .val (.long v29), .second, .val (.long v30), .second, .val (.long v31), .second, .val (.long (j1 + v23)), .second, .val (.long v32), .second, .val (.long v37), .second, .val (.long v42), .second, .unset, .unset, .unset, .unset, .unset, .unset, .unset, .unset, .unset, .unset, .unset, .unset, .unset, .unset, .unset, .unset, .unset, .unset, .unset, .unset, .unset]) (S' := [(.long ((v29 + v30) + v31))]) rfl ?_
      exact J46 XJ41 NJ41 eJ41 _ (by simp only [if_pos c43])
    · skip
      refine Home.go (fun _ => XS.ifNo XJ41.here hx rfl (hb hby at_174) rfl ((if0 _ _).trans (feq c43).1)) ?_
      have bd45 : ¬ v16 < (1 : Int32) ∧ ¬ (1 : Int32) < v16 := ⟨(bnd_nel bv16.1 c43 (by decide +kernel)), bv16.2⟩
      refine Home.go (XJ41.ldc2Long hx hown (mvT hZ (own_w29 hw)) rfl (hb hby at_177)) ?_
      refine Home.run XJ41 hx hby sg0_180_1 (pc' := 191) (L' := #[.val (.long j0), .second, .val (.long j1), .second, .val (.int i2), .val (.int i3), .val (.int i4), .val (.int i5), .val (.int v1), .val (.int v6), .val (.int v11), .val (.int v16), .val (.int v21), .val (.int v22), .val (.long v23), .second, .val (.long v28), .second, .val (.long v29), .second, .val (.long v30), .second, .val (.long v31), .second, .val (.long (j1 + v23)), .second, .val (.long v32), .second, .val (.long v37), .second, .val (.long v42), .second, .unset, .unset, .unset, .unset, .unset, .unset, .unset, .unset, .unset, .unset, .unset, .unset, .unset, .unset, .unset, .unset, .unset, .unset, .unset, .unset, .unset]) (S' := [(.long (-1 : Int64))]) rfl ?_
      exact J46 XJ41 NJ41 eJ41 _ (by simp only [if_neg c43])
  intro TJ46 lcJ46 XJ46 NJ46 eJ46 v47 hv47
  show Home TJ46 (mkF m 191 #[.val (.long j0), .second, .val (.long j1), .second, .val (.int i2), .val (.int i3), .val (.int i4), .val (.int i5), .val (.int v1), .val (.int v6), .val (.int v11), .val (.int v16), .val (.int v21), .val (.int v22), .val (.long v23), .second, .val (.long v28), .second, .val (.long v29), .second, .val (.long v30), .second, .val (.long v31), .second, .val (.long (j1 + v23)), .second, .val (.long v32), .second, .val (.long v37), .second, .val (.long v42), .second, .unset, .unset, .unset, .unset, .unset, .unset, .unset, .unset, .unset, .unset, .unset, .unset, .unset, .unset, .unset, .unset, .unset, .unset, .unset, .unset, .unset] [(.long v47)])
  refine Home.run XJ46 hx hby sg0_191_1 (pc' := 193) (L' := #[.val (.long j0), .second, .val (.long j1), .second, .val (.int i2), .val (.int i3), .val (.int i4), .val (.int i5), .val (.int v1), .val (.int v6), .val (.int v11), .val (.int v16), .val (.int v21), .val (.int v22), .val (.long v23), .second, .val (.long v28), .second, .val (.long v29), .second, .val (.long v30), .second, .val (.long v31), .second, .val (.long (j1 + v23)), .second, .val (.long v32), .second, .val (.long v37), .second, .val (.long v42), .second, .val (.long v47), .second, .unset, .unset, .unset, .unset, .unset, .unset, .unset, .unset, .unset, .unset, .unset, .unset, .unset, .unset, .unset, .unset, .unset, .unset, .unset]) (S' := []) rfl ?_
  refine Home.go (XJ46.ldc2Long hx hown (mvT hZ (own_w1 hw)) rfl (hb hby at_193)) ?_
  refine Home.run XJ46 hx hby sg0_196_2 (pc' := 199) (L' := #[.val (.long j0), .second, .val (.long j1), .second, .val (.int i2), .val (.int i3), .val (.int i4), .val (.int i5), .val (.int v1), .val (.int v6), .val (.int v11), .val (.int v16), .val (.int v21), .val (.int v22), .val (.long v23), .second, .val (.long v28), .second, .val (.long v29), .second, .val (.long v30), .second, .val (.long v31), .second, .val (.long (j1 + v23)), .second, .val (.long v32), .second, .val (.long v37), .second, .val (.long v42), .second, .val (.long v47), .second, .val (.long (100000000 : Int64)), .second, .unset, .unset, .unset, .unset, .unset, .unset, .unset, .unset, .unset, .unset, .unset, .unset, .unset, .unset, .unset, .unset, .unset]) (S' := [(.long j0)]) rfl ?_
  refine Home.go (XJ46.ldc2Long hx hown (mvT hZ (own_w2 hw)) rfl (hb hby at_199)) ?_
  refine Home.run XJ46 hx hby sg0_202_2 (pc' := 205) (L' := #[.val (.long j0), .second, .val (.long j1), .second, .val (.int i2), .val (.int i3), .val (.int i4), .val (.int i5), .val (.int v1), .val (.int v6), .val (.int v11), .val (.int v16), .val (.int v21), .val (.int v22), .val (.long v23), .second, .val (.long v28), .second, .val (.long v29), .second, .val (.long v30), .second, .val (.long v31), .second, .val (.long (j1 + v23)), .second, .val (.long v32), .second, .val (.long v37), .second, .val (.long v42), .second, .val (.long v47), .second, .val (.long (100000000 : Int64)), .second, .val (.long (j0 * (63 : Int64))), .second, .unset, .unset, .unset, .unset, .unset, .unset, .unset, .unset, .unset, .unset, .unset, .unset, .unset, .unset, .unset]) (S' := []) rfl ?_
  obtain ⟨v48, hv48⟩ : ∃ z, z = (j0 * (63 : Int64)) := ⟨_, rfl⟩
  rw [← hv48]
  refine Home.nw (newO XJ46 hx hZ hown (own_w3 hw) (own_w4 hw) (own_w5 hw) eJ46 rfl (hb hby at_205) (by decide) (by decide)) fun T49 h49 X49 e49 E49 A49 D49 _ => ?_
  obtain ⟨b49, g49⟩ : ∃ z, z = h0.size := ⟨_, rfl⟩
  rw [← g49] at A49 D49 ⊢
  have g_b49 : n0 ≤ b49 := Nat.le_trans (Old.le O0) (Nat.le_of_eq g49.symm)
  have F_processors_b49 : Fld Z h49 b49 "com/example/tryst/tryst/pubsub/Pacing" "processors" "I" (.int (0 : Int32)) := D49 (Or.inr (own_w13 hw)) (ty := .int) (by decide)
  have F_judging_b49 : Fld Z h49 b49 "com/example/tryst/tryst/pubsub/Pacing" "judging" "Z" (.int (0 : Int32)) := D49 (Or.inl (own_w20 hw)) (ty := .boolean) (by decide)
  have F_stretchStart_b49 : Fld Z h49 b49 "com/example/tryst/tryst/pubsub/Pacing" "stretchStart" "J" (.long (0 : Int64)) := D49 (Or.inl (own_w22 hw)) (ty := .long) (by decide)
  have F_othersAtStart_b49 : Fld Z h49 b49 "com/example/tryst/tryst/pubsub/Pacing" "othersAtStart" "J" (.long (0 : Int64)) := D49 (Or.inl (own_w24 hw)) (ty := .long) (by decide)
  have F_busy_b49 : Fld Z h49 b49 "com/example/tryst/tryst/pubsub/Pacing" "busy" "Z" (.int (0 : Int32)) := D49 (Or.inl (own_w26 hw)) (ty := .boolean) (by decide)
  have O49 := O0.ext E49
  have K49 : Keep h0 h49 ([] : List Addr) := Keep.ext (Keep.refl h0 ([] : List Addr)) E49
  show Home T49 (mkF m 208 #[.val (.long j0), .second, .val (.long j1), .second, .val (.int i2), .val (.int i3), .val (.int i4), .val (.int i5), .val (.int v1), .val (.int v6), .val (.int v11), .val (.int v16), .val (.int v21), .val (.int v22), .val (.long v23), .second, .val (.long v28), .second, .val (.long v29), .second, .val (.long v30), .second, .val (.long v31), .second, .val (.long (j1 + v23)), .second, .val (.long v32), .second, .val (.long v37), .second, .val (.long v42), .second, .val (.long v47), .second, .val (.long (100000000 : Int64)), .second, .val (.long v48), .second, .unset, .unset, .unset, .unset, .unset, .unset, .unset, .unset, .unset, .unset, .unset, .unset, .unset, .unset, .unset] [(.ref b49)])
  refine Home.run X49 hx hby sg0_208_2 (pc' := 211) (L' := #[.val (.long j0), .second, .val (.long j1), .second, .val (.int i2), .val (.int i3), .val (.int i4), .val (.int i5), .val (.int v1), .val (.int v6), .val (.int v11), .val (.int v16), .val (.int v21), .val (.int v22), .val (.long v23), .second, .val (.long v28), .second, .val (.long v29), .second, .val (.long v30), .second, .val (.long v31), .second, .val (.long (j1 + v23)), .second, .val (.long v32), .second, .val (.long v37), .second, .val (.long v42), .second, .val (.long v47), .second, .val (.long (100000000 : Int64)), .second, .val (.long v48), .second, .unset, .unset, .unset, .unset, .unset, .unset, .unset, .unset, .unset, .unset, .unset, .unset, .unset, .unset, .unset]) (S' := [(.int v1), (.ref b49), (.ref b49)]) rfl ?_
  refine Home.call (own_special X49 hx hZ hown rfl (own_w6 hw) (own_w7 hw) (own_w5 hw) (own_w8 hw) (by decide) (rm1 l Z a0 hw [] b49 v1 (0 : Int32) (0 : Int32) (0 : Int64) (0 : Int64) (0 : Int32) h49 n0 O49 A49 F_processors_b49 F_judging_b49 F_stretchStart_b49 F_othersAtStart_b49 F_busy_b49 g_b49) e49 rfl (by rw [hml]; rfl) (a := b49) (argsL := [(.int v1)]) (rest := [(.ref b49)]) (lenOf own_pd0 rfl) rfl rfl (W := 1) (by show 2 * 0 + _ ≤ _; exact Nat.le_of_eq rfl) (by decide) (by decide) (hb hby at_211) (by decide) (by decide)) ?_
  rintro _ T50 L50 X50 ⟨rfl, N50q, K50q, P50_0, P50_1, P50_2, P50_3, P50_4, P50_5⟩
  have O50 := Old.keep O49 K50q (allS g_b49 all0)
  have K50 : Keep h0 T50.heap ([] : List Addr) := Keep.trans K49 K50q (allS (Or.inr (Nat.le_trans (Nat.le_refl _) (Nat.le_of_eq g49.symm))) all0)
  have N50 := Fr.app NJ46 N50q
  refine Home.run X50 hx hby sg0_214_5 (pc' := 222) (L' := #[.val (.long j0), .second, .val (.long j1), .second, .val (.int i2), .val (.int i3), .val (.int i4), .val (.int i5), .val (.int v1), .val (.int v6), .val (.int v11), .val (.int v16), .val (.int v21), .val (.int v22), .val (.long v23), .second, .val (.long v28), .second, .val (.long v29), .second, .val (.long v30), .second, .val (.long v31), .second, .val (.long (j1 + v23)), .second, .val (.long v32), .second, .val (.long v37), .second, .val (.long v42), .second, .val (.long v47), .second, .val (.long (100000000 : Int64)), .second, .val (.long v48), .second, .val (.ref b49), .unset, .unset, .unset, .unset, .unset, .unset, .unset, .unset, .unset, .unset, .unset, .unset, .unset, .unset]) (S' := [(.long v37), (.long j1), (.long j0), (.ref b49)]) rfl ?_
  refine Home.call (own_virtual X50 hx hZ hown (own_w14 hw) (own_w15 hw) (notFace_of_selects (args := #[]) (mvT hZ (own_w17 hw))) (own_w17 hw) (own_w16 hw) (own_w5 hw) (own_w18 hw) (by decide) (rm3 l Z a0 hw [] b49 j0 j1 v37 (0 : Int32) (0 : Int32) (0 : Int64) (0 : Int64) (100000000 : Int64) v1 T50.heap n0 O50 P50_0 P50_5 g_b49 P50_2 P50_3 P50_4 S_STRETCH_NANOS P50_1) rfl P50_0 rfl (by rw [hml]; rfl) (argsL := [(.long j0), (.long j1), (.long v37)]) (rest := []) (lenOf own_pd1 rfl) rfl rfl (W := 0) (by show 2 * 0 + _ ≤ _; exact Nat.le_of_eq rfl) (by decide) (by decide) (hb hby at_222) (by decide) (by decide)) ?_
  rintro _ T51 L51 X51 ⟨rfl, N51q, K51q, P51_0, P51_1, P51_2, P51_3, P51_4, P51_5⟩
  have O51 := Old.keep O50 K51q (allS g_b49 all0)
  have K51 : Keep h0 T51.heap ([] : List Addr) := Keep.trans K50 K51q (allS (Or.inr (Nat.le_trans (Nat.le_refl _) (Nat.le_of_eq g49.symm))) all0)
  have N51 := Fr.app N50 N51q
  show Home T51 (mkF m 225 #[.val (.long j0), .second, .val (.long j1), .second, .val (.int i2), .val (.int i3), .val (.int i4), .val (.int i5), .val (.int v1), .val (.int v6), .val (.int v11), .val (.int v16), .val (.int v21), .val (.int v22), .val (.long v23), .second, .val (.long v28), .second, .val (.long v29), .second, .val (.long v30), .second, .val (.long v31), .second, .val (.long (j1 + v23)), .second, .val (.long v32), .second, .val (.long v37), .second, .val (.long v42), .second, .val (.long v47), .second, .val (.long (100000000 : Int64)), .second, .val (.long v48), .second, .val (.ref b49), .unset, .unset, .unset, .unset, .unset, .unset, .unset, .unset, .unset, .unset, .unset, .unset, .unset, .unset] [(.long (own_ra_ret j0 j1 v37 (0 : Int32) (0 : Int32) (0 : Int64) (0 : Int64) (100000000 : Int64) v1))])
  obtain ⟨r52, hr52⟩ : ∃ z, z = (own_ra_busy j1 v37 (0 : Int32) (0 : Int32) (0 : Int64) (0 : Int64) (100000000 : Int64) v1) := ⟨_, rfl⟩
  rw [← hr52] at P51_1
  obtain ⟨r53, hr53⟩ : ∃ z, z = (own_ra_judging v37 (0 : Int32)) := ⟨_, rfl⟩
  rw [← hr53] at P51_2
  obtain ⟨r54, hr54⟩ : ∃ z, z = (own_ra_stretchStart j1 v37 (0 : Int32) (0 : Int64) (100000000 : Int64)) := ⟨_, rfl⟩
  rw [← hr54] at P51_3
  obtain ⟨r55, hr55⟩ : ∃ z, z = (own_ra_othersAtStart j1 v37 (0 : Int32) (0 : Int64) (0 : Int64) (100000000 : Int64)) := ⟨_, rfl⟩
  rw [← hr55] at P51_4
  obtain ⟨r56, hr56⟩ : ∃ z, z = (own_ra_ret j0 j1 v37 (0 : Int32) (0 : Int32) (0 : Int64) (0 : Int64) (100000000 : Int64) v1) := ⟨_, rfl⟩
  rw [← hr56]
  show Home T51 (mkF m 225 #[.val (.long j0), .second, .val (.long j1), .second, .val (.int i2), .val (.int i3), .val (.int i4), .val (.int i5), .val (.int v1), .val (.int v6), .val (.int v11), .val (.int v16), .val (.int v21), .val (.int v22), .val (.long v23), .second, .val (.long v28), .second, .val (.long v29), .second, .val (.long v30), .second, .val (.long v31), .second, .val (.long (j1 + v23)), .second, .val (.long v32), .second, .val (.long v37), .second, .val (.long v42), .second, .val (.long v47), .second, .val (.long (100000000 : Int64)), .second, .val (.long v48), .second, .val (.ref b49), .unset, .unset, .unset, .unset, .unset, .unset, .unset, .unset, .unset, .unset, .unset, .unset, .unset, .unset] [(.long r56)])
  refine Home.run X51 hx hby sg0_225_5 (pc' := 234) (L' := #[.val (.long j0), .second, .val (.long j1), .second, .val (.int i2), .val (.int i3), .val (.int i4), .val (.int i5), .val (.int v1), .val (.int v6), .val (.int v11), .val (.int v16), .val (.int v21), .val (.int v22), .val (.long v23), .second, .val (.long v28), .second, .val (.long v29), .second, .val (.long v30), .second, .val (.long v31), .second, .val (.long (j1 + v23)), .second, .val (.long v32), .second, .val (.long v37), .second, .val (.long v42), .second, .val (.long v47), .second, .val (.long (100000000 : Int64)), .second, .val (.long v48), .second, .val (.ref b49), .val (.long r56), .second, .unset, .unset, .unset, .unset, .unset, .unset, .unset, .unset, .unset, .unset, .unset, .unset]) (S' := [(.long v42), (.long (j1 + v23)), (.long j0), (.ref b49)]) rfl ?_
  refine Home.call (own_virtual X51 hx hZ hown (own_w14 hw) (own_w15 hw) (notFace_of_selects (args := #[]) (mvT hZ (own_w17 hw))) (own_w17 hw) (own_w16 hw) (own_w5 hw) (own_w18 hw) (by decide) (rm3 l Z a0 hw [] b49 j0 (j1 + v23) v42 r52 r53 r54 r55 (100000000 : Int64) v1 T51.heap n0 O51 P51_0 P51_1 g_b49 P51_2 P51_3 P51_4 S_STRETCH_NANOS P51_5) rfl P51_0 rfl (by rw [hml]; rfl) (argsL := [(.long j0), (.long (j1 + v23)), (.long v42)]) (rest := []) (lenOf own_pd1 rfl) rfl rfl (W := 0) (by show 2 * 0 + _ ≤ _; exact Nat.le_of_eq rfl) (by decide) (by decide) (hb hby at_234) (by decide) (by decide)) ?_
  rintro _ T57 L57 X57 ⟨rfl, N57q, K57q, P57_0, P57_1, P57_2, P57_3, P57_4, P57_5⟩
  have O57 := Old.keep O51 K57q (allS g_b49 all0)
  have K57 : Keep h0 T57.heap ([] : List Addr) := Keep.trans K51 K57q (allS (Or.inr (Nat.le_trans (Nat.le_refl _) (Nat.le_of_eq g49.symm))) all0)
  have N57 := Fr.app N51 N57q
  show Home T57 (mkF m 237 #[.val (.long j0), .second, .val (.long j1), .second, .val (.int i2), .val (.int i3), .val (.int i4), .val (.int i5), .val (.int v1), .val (.int v6), .val (.int v11), .val (.int v16), .val (.int v21), .val (.int v22), .val (.long v23), .second, .val (.long v28), .second, .val (.long v29), .second, .val (.long v30), .second, .val (.long v31), .second, .val (.long (j1 + v23)), .second, .val (.long v32), .second, .val (.long v37), .second, .val (.long v42), .second, .val (.long v47), .second, .val (.long (100000000 : Int64)), .second, .val (.long v48), .second, .val (.ref b49), .val (.long r56), .second, .unset, .unset, .unset, .unset, .unset, .unset, .unset, .unset, .unset, .unset, .unset, .unset] [(.long (own_ra_ret j0 (j1 + v23) v42 r52 r53 r54 r55 (100000000 : Int64) v1))])
  obtain ⟨r58, hr58⟩ : ∃ z, z = (own_ra_busy (j1 + v23) v42 r52 r53 r54 r55 (100000000 : Int64) v1) := ⟨_, rfl⟩
  rw [← hr58] at P57_1
  obtain ⟨r59, hr59⟩ : ∃ z, z = (own_ra_judging v42 r53) := ⟨_, rfl⟩
  rw [← hr59] at P57_2
  obtain ⟨r60, hr60⟩ : ∃ z, z = (own_ra_stretchStart (j1 + v23) v42 r53 r54 (100000000 : Int64)) := ⟨_, rfl⟩
  rw [← hr60] at P57_3
  obtain ⟨r61, hr61⟩ : ∃ z, z = (own_ra_othersAtStart (j1 + v23) v42 r53 r54 r55 (100000000 : Int64)) := ⟨_, rfl⟩
  rw [← hr61] at P57_4
  obtain ⟨r62, hr62⟩ : ∃ z, z = (own_ra_ret j0 (j1 + v23) v42 r52 r53 r54 r55 (100000000 : Int64) v1) := ⟨_, rfl⟩
  rw [← hr62]
  show Home T57 (mkF m 237 #[.val (.long j0), .second, .val (.long j1), .second, .val (.int i2), .val (.int i3), .val (.int i4), .val (.int i5), .val (.int v1), .val (.int v6), .val (.int v11), .val (.int v16), .val (.int v21), .val (.int v22), .val (.long v23), .second, .val (.long v28), .second, .val (.long v29), .second, .val (.long v30), .second, .val (.long v31), .second, .val (.long (j1 + v23)), .second, .val (.long v32), .second, .val (.long v37), .second, .val (.long v42), .second, .val (.long v47), .second, .val (.long (100000000 : Int64)), .second, .val (.long v48), .second, .val (.ref b49), .val (.long r56), .second, .unset, .unset, .unset, .unset, .unset, .unset, .unset, .unset, .unset, .unset, .unset, .unset] [(.long r62)])
  refine Home.run X57 hx hby sg0_237_5 (pc' := 246) (L' := #[.val (.long j0), .second, .val (.long j1), .second, .val (.int i2), .val (.int i3), .val (.int i4), .val (.int i5), .val (.int v1), .val (.int v6), .val (.int v11), .val (.int v16), .val (.int v21), .val (.int v22), .val (.long v23), .second, .val (.long v28), .second, .val (.long v29), .second, .val (.long v30), .second, .val (.long v31), .second, .val (.long (j1 + v23)), .second, .val (.long v32), .second, .val (.long v37), .second, .val (.long v42), .second, .val (.long v47), .second, .val (.long (100000000 : Int64)), .second, .val (.long v48), .second, .val (.ref b49), .val (.long r56), .second, .val (.long r62), .second, .unset, .unset, .unset, .unset, .unset, .unset, .unset, .unset, .unset, .unset]) (S' := [(.long v47), (.long v32), (.long j0), (.ref b49)]) rfl ?_
  refine Home.call (own_virtual X57 hx hZ hown (own_w14 hw) (own_w15 hw) (notFace_of_selects (args := #[]) (mvT hZ (own_w17 hw))) (own_w17 hw) (own_w16 hw) (own_w5 hw) (own_w18 hw) (by decide) (rm3 l Z a0 hw [] b49 j0 v32 v47 r58 r59 r60 r61 (100000000 : Int64) v1 T57.heap n0 O57 P57_0 P57_1 g_b49 P57_2 P57_3 P57_4 S_STRETCH_NANOS P57_5) rfl P57_0 rfl (by rw [hml]; rfl) (argsL := [(.long j0), (.long v32), (.long v47)]) (rest := []) (lenOf own_pd1 rfl) rfl rfl (W := 0) (by show 2 * 0 + _ ≤ _; exact Nat.le_of_eq rfl) (by decide) (by decide) (hb hby at_246) (by decide) (by decide)) ?_
  rintro _ T63 L63 X63 ⟨rfl, N63q, K63q, P63_0, P63_1, P63_2, P63_3, P63_4, P63_5⟩
  have O63 := Old.keep O57 K63q (allS g_b49 all0)
  have K63 : Keep h0 T63.heap ([] : List Addr) := Keep.trans K57 K63q (allS (Or.inr (Nat.le_trans (Nat.le_refl _) (Nat.le_of_eq g49.symm))) all0)
  have N63 := Fr.app N57 N63q
  show Home T63 (mkF m 249 #[.val (.long j0), .second, .val (.long j1), .second, .val (.int i2), .val (.int i3), .val (.int i4), .val (.int i5), .val (.int v1), .val (.int v6), .val (.int v11), .val (.int v16), .val (.int v21), .val (.int v22), .val (.long v23), .second, .val (.long v28), .second, .val (.long v29), .second, .val (.long v30), .second, .val (.long v31), .second, .val (.long (j1 + v23)), .second, .val (.long v32), .second, .val (.long v37), .second, .val (.long v42), .second, .val (.long v47), .second, .val (.long (100000000 : Int64)), .second, .val (.long v48), .second, .val (.ref b49), .val (.long r56), .second, .val (.long r62), .second, .unset, .unset, .unset, .unset, .unset, .unset, .unset, .unset, .unset, .unset] [(.long (own_ra_ret j0 v32 v47 r58 r59 r60 r61 (100000000 : Int64) v1))])
  obtain ⟨r64, hr64⟩ : ∃ z, z = (own_ra_busy v32 v47 r58 r59 r60 r61 (100000000 : Int64) v1) := ⟨_, rfl⟩
  rw [← hr64] at P63_1
  obtain ⟨r65, hr65⟩ : ∃ z, z = (own_ra_judging v47 r59) := ⟨_, rfl⟩
  rw [← hr65] at P63_2
  obtain ⟨r66, hr66⟩ : ∃ z, z = (own_ra_stretchStart v32 v47 r59 r60 (100000000 : Int64)) := ⟨_, rfl⟩
  rw [← hr66] at P63_3
  obtain ⟨r67, hr67⟩ : ∃ z, z = (own_ra_othersAtStart v32 v47 r59 r60 r61 (100000000 : Int64)) := ⟨_, rfl⟩
  rw [← hr67] at P63_4
  obtain ⟨r68, hr68⟩ : ∃ z, z = (own_ra_ret j0 v32 v47 r58 r59 r60 r61 (100000000 : Int64) v1) := ⟨_, rfl⟩
  rw [← hr68]
  show Home T63 (mkF m 249 #[.val (.long j0), .second, .val (.long j1), .second, .val (.int i2), .val (.int i3), .val (.int i4), .val (.int i5), .val (.int v1), .val (.int v6), .val (.int v11), .val (.int v16), .val (.int v21), .val (.int v22), .val (.long v23), .second, .val (.long v28), .second, .val (.long v29), .second, .val (.long v30), .second, .val (.long v31), .second, .val (.long (j1 + v23)), .second, .val (.long v32), .second, .val (.long v37), .second, .val (.long v42), .second, .val (.long v47), .second, .val (.long (100000000 : Int64)), .second, .val (.long v48), .second, .val (.ref b49), .val (.long r56), .second, .val (.long r62), .second, .unset, .unset, .unset, .unset, .unset, .unset, .unset, .unset, .unset, .unset] [(.long r68)])
  refine Home.run X63 hx hby sg0_249_4 (pc' := 257) (L' := #[.val (.long j0), .second, .val (.long j1), .second, .val (.int i2), .val (.int i3), .val (.int i4), .val (.int i5), .val (.int v1), .val (.int v6), .val (.int v11), .val (.int v16), .val (.int v21), .val (.int v22), .val (.long v23), .second, .val (.long v28), .second, .val (.long v29), .second, .val (.long v30), .second, .val (.long v31), .second, .val (.long (j1 + v23)), .second, .val (.long v32), .second, .val (.long v37), .second, .val (.long v42), .second, .val (.long v47), .second, .val (.long (100000000 : Int64)), .second, .val (.long v48), .second, .val (.ref b49), .val (.long r56), .second, .val (.long r62), .second, .val (.long r68), .second, .val (.int v6), .unset, .unset, .unset, .unset, .unset, .unset, .unset]) (S' := [(.int v11)]) rfl ?_
  suffices J77 : ∀ {T : State} {lc : List Loc} (X : Stand p l e room_1 s m #[(.long j0), (.long j1), (.int i2), (.int i3), (.int i4), (.int i5)] below meth c T lc 1 5) (N : Fr n0 lc) (eT : T.heap = T63.heap) (v78 : Int32) (hv78 : v78 = (if v11 = (0 : Int32) then (if v6 = (0 : Int32) then (if v23 < (100000000 : Int64) then (0 : Int32) else (if (v23 * (v1.toInt64)) < (v30 * (2 : Int64)) then (1 : Int32) else (0 : Int32))) else (1 : Int32)) else (1 : Int32))), @Home p e below s _ _ _ T (mkF m 314 #[.val (.long j0), .second, .val (.long j1), .second, .val (.int i2), .val (.int i3), .val (.int i4), .val (.int i5), .val (.int v1), .val (.int v6), .val (.int v11), .val (.int v16), .val (.int v21), .val (.int v22), .val (.long v23), .second, .val (.long v28), .second, .val (.long v29), .second, .val (.long v30), .second, .val (.long v31), .second, .val (.long (j1 + v23)), .second, .val (.long v32), .second, .val (.long v37), .second, .val (.long v42), .second, .val (.long v47), .second, .val (.long (100000000 : Int64)), .second, .val (.long v48), .second, .val (.ref b49), .val (.long r56), .second, .val (.long r62), .second, .val (.long r68), .second, .val (.int v6), .val (.int v78), .unset, .unset, .unset, .unset, .unset, .unset] []) by
    by_cases c69 : v11 = (0 : Int32)
    · skip
      refine Home.go (fun _ => XS.ifYes X63.here hx rfl (pc0 := 257) (pc' := 266) rfl (hb hby at_257) rfl ((if0 _ _).trans (teq c69).1) (by decide) (by decide)) ?_
      have bd70 : ¬ v11 < (0 : Int32) ∧ ¬ (0 : Int32) < v11 := ⟨(bnd_eql c69), (bnd_eqr c69)⟩
      refine Home.run X63 hx hby sg0_266_1 (pc' := 268) (L' := #[.val (.long j0), .second, .val (.long j1), .second, .val (.int i2), .val (.int i3), .val (.int i4), .val (.int i5), .val (.int v1), .val (.int v6), .val (.int v11), .val (.int v16), .val (.int v21), .val (.int v22), .val (.long v23), .second, .val (.long v28), .second, .val (.long v29), .second, .val (.long v30), .second, .val (.long v31), .second, .val (.long (j1 + v23)), .second, .val (.long v32), .second, .val (.long v37), .second, .val (.long v42), .second, .val (.long v47), .second, .val (.long (100000000 : Int64)), .second, .val (.long v48), .second, .val (.ref b49), .val (.long r56), .second, .val (.long r62), .second, .val (.long r68), .second, .val (.int v6), .unset, .unset, .unset, .unset, .unset, .unset, .unset]) (S' := [(.int v6)]) rfl ?_
      by_cases c72 : v6 = (0 : Int32)
      · skip
        refine Home.go (fun _ => XS.ifYes X63.here hx rfl (pc0 := 268) (pc' := 277) rfl (hb hby at_268) rfl ((if0 _ _).trans (teq c72).1) (by decide) (by decide)) ?_
        have bd73 : ¬ v6 < (0 : Int32) ∧ ¬ (0 : Int32) < v6 := ⟨(bnd_eql c72), (bnd_eqr c72)⟩
        refine Home.run X63 hx hby sg0_277_3 (pc' := 282) (L' := #[.val (.long j0), .second, .val (.long j1), .second, .val (.int i2), .val (.int i3), .val (.int i4), .val (.int i5), .val (.int v1), .val (.int v6), .val (.int v11), .val (.int v16), .val (.int v21), .val (.int v22), .val (.long v23), .second, .val (.long v28), .second, .val (.long v29), .second, .val (.long v30), .second, .val (.long v31), .second, .val (.long (j1 + v23)), .second, .val (.long v32), .second, .val (.long v37), .second, .val (.long v42), .second, .val (.long v47), .second, .val (.long (100000000 : Int64)), .second, .val (.long v48), .second, .val (.ref b49), .val (.long r56), .second, .val (.long r62), .second, .val (.long r68), .second, .val (.int v6), .unset, .unset, .unset, .unset, .unset, .unset, .unset]) (S' := [(.int (lcmpW v23 (100000000 : Int64)))]) rfl ?_
        by_cases c75 : v23 < (100000000 : Int64)
        · skip
          refine Home.go (fun _ => XS.ifYes X63.here hx rfl (pc0 := 282) (pc' := 311) rfl (hb hby at_282) rfl ((if0 _ _).trans (tlt ((lw_lt _ _).mpr c75)).1) (by decide) (by decide)) ?_
          refine Home.run X63 hx hby sg0_311_2 (pc' := 314) (L' := #[.val (.long j0), .second, .val (.long j1), .second, .val (.int i2), .val (.int i3), .val (.int i4), .val (.int i5), .val (.int v1), .val (.int v6), .val (.int v11), .val (.int v16), .val (.int v21), .val (.int v22), .val (.long v23), .second, .val (.long v28), .second, .val (.long v29), .second, .val (.long v30), .second, .val (.long v31), .second, .val (.long (j1 + v23)), .second, .val (.long v32), .second, .val (.long v37), .second, .val (.long v42), .second, .val (.long v47), .second, .val (.long (100000000 : Int64)), .second, .val (.long v48), .second, .val (.ref b49), .val (.long r56), .second, .val (.long r62), .second, .val (.long r68), .second, .val (.int v6), .val (.int (0 : Int32)), .unset, .unset, .unset, .unset, .unset, .unset]) (S' := []) rfl ?_
          exact J77 X63 N63 rfl _ (by simp only [if_pos c69, if_pos c72, if_pos c75])
        · skip
          refine Home.go (fun _ => XS.ifNo X63.here hx rfl (hb hby at_282) rfl ((if0 _ _).trans (flt (mt (lw_lt _ _).mp c75)).1)) ?_
          refine Home.run X63 hx hby sg0_285_1 (pc' := 287) (L' := #[.val (.long j0), .second, .val (.long j1), .second, .val (.int i2), .val (.int i3), .val (.int i4), .val (.int i5), .val (.int v1), .val (.int v6), .val (.int v11), .val (.int v16), .val (.int v21), .val (.int v22), .val (.long v23), .second, .val (.long v28), .second, .val (.long v29), .second, .val (.long v30), .second, .val (.long v31), .second, .val (.long (j1 + v23)), .second, .val (.long v32), .second, .val (.long v37), .second, .val (.long v42), .second, .val (.long v47), .second, .val (.long (100000000 : Int64)), .second, .val (.long v48), .second, .val (.ref b49), .val (.long r56), .second, .val (.long r62), .second, .val (.long r68), .second, .val (.int v6), .unset, .unset, .unset, .unset, .unset, .unset, .unset]) (S' := [(.long v30)]) rfl ?_
          refine Home.go (X63.ldc2Long hx hown (mvT hZ (own_w32 hw)) rfl (hb hby at_287)) ?_
          refine Home.run X63 hx hby sg0_290_6 (pc' := 298) (L' := #[.val (.long j0), .second, .val (.long j1), .second, .val (.int i2), .val (.int i3), .val (.int i4), .val (.int i5), .val (.int v1), .val (.int v6), .val (.int v11), .val (.int v16), .val (.int v21), .val (.int v22), .val (.long v23), .second, .val (.long v28), .second, .val (.long v29), .second, .val (.long v30), .second, .val (.long v31), .second, .val (.long (j1 + v23)), .second, .val (.long v32), .second, .val (.long v37), .second, .val (.long v42), .second, .val (.long v47), .second, .val (.long (100000000 : Int64)), .second, .val (.long v48), .second, .val (.ref b49), .val (.long r56), .second, .val (.long r62), .second, .val (.long r68), .second, .val (.int v6), .unset, .unset, .unset, .unset, .unset, .unset, .unset]) (S' := [(.int (lcmpW (v30 * (2 : Int64)) (v23 * (v1.toInt64))))]) rfl ?_
          by_cases c76 : (v23 * (v1.toInt64)) < (v30 * (2 : Int64))
          · skip
            refine Home.go (fun _ => XS.ifNo X63.here hx rfl (hb hby at_298) rfl ((if0 _ _).trans (tlt ((lw_gt _ _).mpr c76)).2.2.2)) ?_
            refine Home.run X63 hx hby sg0_301_4 (pc' := 314) (L' := #[.val (.long j0), .second, .val (.long j1), .second, .val (.int i2), .val (.int i3), .val (.int i4), .val (.int i5), .val (.int v1), .val (.int v6), .val (.int v11), .val (.int v16), .val (.int v21), .val (.int v22), .val (.long v23), .second, .val (.long v28), .second, .val (.long v29), .second, .val (.long v30), .second, .val (.long v31), .second, .val (.long (j1 + v23)), .second, .val (.long v32), .second, .val (.long v37), .second, .val (.long v42), .second, .val (.long v47), .second, .val (.long (100000000 : Int64)), .second, .val (.long v48), .second, .val (.ref b49), .val (.long r56), .second, .val (.long r62), .second, .val (.long r68), .second, .val (.int v6), .val (.int (1 : Int32)), .unset, .unset, .unset, .unset, .unset, .unset]) (S' := []) rfl ?_
            exact J77 X63 N63 rfl _ (by simp only [if_pos c69, if_pos c72, if_neg c75, if_pos c76])
          · skip
            refine Home.go (fun _ => XS.ifYes X63.here hx rfl (pc0 := 298) (pc' := 305) rfl (hb hby at_298) rfl ((if0 _ _).trans (flt (mt (lw_gt _ _).mp c76)).2.2.2) (by decide) (by decide)) ?_
            refine Home.run X63 hx hby sg0_305_3 (pc' := 314) (L' := #[.val (.long j0), .second, .val (.long j1), .second, .val (.int i2), .val (.int i3), .val (.int i4), .val (.int i5), .val (.int v1), .val (.int v6), .val (.int v11), .val (.int v16), .val (.int v21), .val (.int v22), .val (.long v23), .second, .val (.long v28), .second, .val (.long v29), .second, .val (.long v30), .second, .val (.long v31), .second, .val (.long (j1 + v23)), .second, .val (.long v32), .second, .val (.long v37), .second, .val (.long v42), .second, .val (.long v47), .second, .val (.long (100000000 : Int64)), .second, .val (.long v48), .second, .val (.ref b49), .val (.long r56), .second, .val (.long r62), .second, .val (.long r68), .second, .val (.int v6), .val (.int (0 : Int32)), .unset, .unset, .unset, .unset, .unset, .unset]) (S' := []) rfl ?_
            exact J77 X63 N63 rfl _ (by simp only [if_pos c69, if_pos c72, if_neg c75, if_neg c76])
      · skip
        refine Home.go (fun _ => XS.ifNo X63.here hx rfl (hb hby at_268) rfl ((if0 _ _).trans (feq c72).1)) ?_
        have bd74 : ¬ v6 < (1 : Int32) ∧ ¬ (1 : Int32) < v6 := ⟨(bnd_nel bv6.1 c72 (by decide +kernel)), bv6.2⟩
        refine Home.run X63 hx hby sg0_271_3 (pc' := 314) (L' := #[.val (.long j0), .second, .val (.long j1), .second, .val (.int i2), .val (.int i3), .val (.int i4), .val (.int i5), .val (.int v1), .val (.int v6), .val (.int v11), .val (.int v16), .val (.int v21), .val (.int v22), .val (.long v23), .second, .val (.long v28), .second, .val (.long v29), .second, .val (.long v30), .second, .val (.long v31), .second, .val (.long (j1 + v23)), .second, .val (.long v32), .second, .val (.long v37), .second, .val (.long v42), .second, .val (.long v47), .second, .val (.long (100000000 : Int64)), .second, .val (.long v48), .second, .val (.ref b49), .val (.long r56), .second, .val (.long r62), .second, .val (.long r68), .second, .val (.int v6), .val (.int (1 : Int32)), .unset, .unset, .unset, .unset, .unset, .unset]) (S' := []) rfl ?_
        exact J77 X63 N63 rfl _ (by simp only [if_pos c69, if_neg c72])
    · skip
      refine Home.go (fun _ => XS.ifNo X63.here hx rfl (hb hby at_257) rfl ((if0 _ _).trans (feq c69).1)) ?_
      have bd71 : ¬ v11 < (1 : Int32) ∧ ¬ (1 : Int32) < v11 := ⟨(bnd_nel bv11.1 c69 (by decide +kernel)), bv11.2⟩
      refine Home.run X63 hx hby sg0_260_3 (pc' := 314) (L' := #[.val (.long j0), .second, .val (.long j1), .second, .val (.int i2), .val (.int i3), .val (.int i4), .val (.int i5), .val (.int v1), .val (.int v6), .val (.int v11), .val (.int v16), .val (.int v21), .val (.int v22), .val (.long v23), .second, .val (.long v28), .second, .val (.long v29), .second, .val (.long v30), .second, .val (.long v31), .second, .val (.long (j1 + v23)), .second, .val (.long v32), .second, .val (.long v37), .second, .val (.long v42), .second, .val (.long v47), .second, .val (.long (100000000 : Int64)), .second, .val (.long v48), .second, .val (.ref b49), .val (.long r56), .second, .val (.long r62), .second, .val (.long r68), .second, .val (.int v6), .val (.int (1 : Int32)), .unset, .unset, .unset, .unset, .unset, .unset]) (S' := []) rfl ?_
      exact J77 X63 N63 rfl _ (by simp only [if_neg c69])
  intro TJ77 lcJ77 XJ77 NJ77 eJ77 v78 hv78
  show Home TJ77 (mkF m 314 #[.val (.long j0), .second, .val (.long j1), .second, .val (.int i2), .val (.int i3), .val (.int i4), .val (.int i5), .val (.int v1), .val (.int v6), .val (.int v11), .val (.int v16), .val (.int v21), .val (.int v22), .val (.long v23), .second, .val (.long v28), .second, .val (.long v29), .second, .val (.long v30), .second, .val (.long v31), .second, .val (.long (j1 + v23)), .second, .val (.long v32), .second, .val (.long v37), .second, .val (.long v42), .second, .val (.long v47), .second, .val (.long (100000000 : Int64)), .second, .val (.long v48), .second, .val (.ref b49), .val (.long r56), .second, .val (.long r62), .second, .val (.long r68), .second, .val (.int v6), .val (.int v78), .unset, .unset, .unset, .unset, .unset, .unset] [])
  refine Home.run XJ77 hx hby sg0_314_1 (pc' := 316) (L' := #[.val (.long j0), .second, .val (.long j1), .second, .val (.int i2), .val (.int i3), .val (.int i4), .val (.int i5), .val (.int v1), .val (.int v6), .val (.int v11), .val (.int v16), .val (.int v21), .val (.int v22), .val (.long v23), .second, .val (.long v28), .second, .val (.long v29), .second, .val (.long v30), .second, .val (.long v31), .second, .val (.long (j1 + v23)), .second, .val (.long v32), .second, .val (.long v37), .second, .val (.long v42), .second, .val (.long v47), .second, .val (.long (100000000 : Int64)), .second, .val (.long v48), .second, .val (.ref b49), .val (.long r56), .second, .val (.long r62), .second, .val (.long r68), .second, .val (.int v6), .val (.int v78), .unset, .unset, .unset, .unset, .unset, .unset]) (S' := [(.int v16)]) rfl ?_
  by_cases c79 : v16 = (0 : Int32)
  · skip
    refine Home.go (fun _ => XS.ifYes XJ77.here hx rfl (pc0 := 316) (pc' := 325) rfl (hb hby at_316) rfl ((if0 _ _).trans (teq c79).1) (by decide) (by decide)) ?_
    have bd80 : ¬ v16 < (0 : Int32) ∧ ¬ (0 : Int32) < v16 := ⟨(bnd_eql c79), (bnd_eqr c79)⟩
    have fx81 : v16 = (0 : Int32) := bnd_fix bd80
    try rw [fx81]
    show Home TJ77 (mkF m 325 #[.val (.long j0), .second, .val (.long j1), .second, .val (.int i2), .val (.int i3), .val (.int i4), .val (.int i5), .val (.int v1), .val (.int v6), .val (.int v11), .val (.int (0 : Int32)), .val (.int v21), .val (.int v22), .val (.long v23), .second, .val (.long v28), .second, .val (.long v29), .second, .val (.long v30), .second, .val (.long v31), .second, .val (.long (j1 + v23)), .second, .val (.long v32), .second, .val (.long v37), .second, .val (.long v42), .second, .val (.long v47), .second, .val (.long (100000000 : Int64)), .second, .val (.long v48), .second, .val (.ref b49), .val (.long r56), .second, .val (.long r62), .second, .val (.long r68), .second, .val (.int v6), .val (.int v78), .unset, .unset, .unset, .unset, .unset, .unset] [])
    refine Home.run XJ77 hx hby sg0_325_1 (pc' := 327) (L' := #[.val (.long j0), .second, .val (.long j1), .second, .val (.int i2), .val (.int i3), .val (.int i4), .val (.int i5), .val (.int v1), .val (.int v6), .val (.int v11), .val (.int (0 : Int32)), .val (.int v21), .val (.int v22), .val (.long v23), .second, .val (.long v28), .second, .val (.long v29), .second, .val (.long v30), .second, .val (.long v31), .second, .val (.long (j1 + v23)), .second, .val (.long v32), .second, .val (.long v37), .second, .val (.long v42), .second, .val (.long v47), .second, .val (.long (100000000 : Int64)), .second, .val (.long v48), .second, .val (.ref b49), .val (.long r56), .second, .val (.long r62), .second, .val (.long r68), .second, .val (.int v6), .val (.int v78), .unset, .unset, .unset, .unset, .unset, .unset]) (S' := [(.int v6)]) rfl ?_
    by_cases c84 : v6 = (0 : Int32)
    · skip
      refine Home.go (fun _ => XS.ifYes XJ77.here hx rfl (pc0 := 327) (pc' := 341) rfl (hb hby at_327) rfl ((if0 _ _).trans (teq c84).1) (by decide) (by decide)) ?_
      have bd85 : ¬ v6 < (0 : Int32) ∧ ¬ (0 : Int32) < v6 := ⟨(bnd_eql c84), (bnd_eqr c84)⟩
      have fx86 : v6 = (0 : Int32) := bnd_fix bd85
      try rw [fx86]
      show Home TJ77 (mkF m 341 #[.val (.long j0), .second, .val (.long j1), .second, .val (.int i2), .val (.int i3), .val (.int i4), .val (.int i5), .val (.int v1), .val (.int (0 : Int32)), .val (.int v11), .val (.int (0 : Int32)), .val (.int v21), .val (.int v22), .val (.long v23), .second, .val (.long v28), .second, .val (.long v29), .second, .val (.long v30), .second, .val (.long v31), .second, .val (.long (j1 + v23)), .second, .val (.long v32), .second, .val (.long v37), .second, .val (.long v42), .second, .val (.long v47), .second, .val (.long (100000000 : Int64)), .second, .val (.long v48), .second, .val (.ref b49), .val (.long r56), .second, .val (.long r62), .second, .val (.long r68), .second, .val (.int (0 : Int32)), .val (.int v78), .unset, .unset, .unset, .unset, .unset, .unset] [])
      refine Home.run XJ77 hx hby sg0_341_1 (pc' := 343) (L' := #[.val (.long j0), .second, .val (.long j1), .second, .val (.int i2), .val (.int i3), .val (.int i4), .val (.int i5), .val (.int v1), .val (.int (0 : Int32)), .val (.int v11), .val (.int (0 : Int32)), .val (.int v21), .val (.int v22), .val (.long v23), .second, .val (.long v28), .second, .val (.long v29), .second, .val (.long v30), .second, .val (.long v31), .second, .val (.long (j1 + v23)), .second, .val (.long v32), .second, .val (.long v37), .second, .val (.long v42), .second, .val (.long v47), .second, .val (.long (100000000 : Int64)), .second, .val (.long v48), .second, .val (.ref b49), .val (.long r56), .second, .val (.long r62), .second, .val (.long r68), .second, .val (.int (0 : Int32)), .val (.int v78), .unset, .unset, .unset, .unset, .unset, .unset]) (S' := [(.int v11)]) rfl ?_
      suffices J93 : ∀ {T : State} {lc : List Loc} (X : Stand p l e room_1 s m #[(.long j0), (.long j1), (.int i2), (.int i3), (.int i4), (.int i5)] below meth c T lc 1 5) (N : Fr n0 lc) (eT : T.heap = T63.heap) (v94 : Int32) (hv94 : v94 = (if v11 = (0 : Int32) then (if v23 < (100000000 : Int64) then (0 : Int32) else (1 : Int32)) else (0 : Int32))), @Home p e below s _ _ _ T (mkF m 364 #[.val (.long j0), .second, .val (.long j1), .second, .val (.int i2), .val (.int i3), .val (.int i4), .val (.int i5), .val (.int v1), .val (.int (0 : Int32)), .val (.int v11), .val (.int (0 : Int32)), .val (.int v21), .val (.int v22), .val (.long v23), .second, .val (.long v28), .second, .val (.long v29), .second, .val (.long v30), .second, .val (.long v31), .second, .val (.long (j1 + v23)), .second, .val (.long v32), .second, .val (.long v37), .second, .val (.long v42), .second, .val (.long v47), .second, .val (.long (100000000 : Int64)), .second, .val (.long v48), .second, .val (.ref b49), .val (.long r56), .second, .val (.long r62), .second, .val (.long r68), .second, .val (.int (0 : Int32)), .val (.int v78), .unset, .unset, .unset, .unset, .unset, .unset] [(.int v94)]) by
        by_cases c89 : v11 = (0 : Int32)
        · skip
          refine Home.go (fun _ => XS.ifNo XJ77.here hx rfl (hb hby at_343) rfl ((if0 _ _).trans (teq c89).2)) ?_
          have bd90 : ¬ v11 < (0 : Int32) ∧ ¬ (0 : Int32) < v11 := ⟨(bnd_eql c89), (bnd_eqr c89)⟩
          refine Home.run XJ77 hx hby sg0_346_1 (pc' := 348) (L' := #[.val (.long j0), .second, .val (.long j1), .second, .val (.int i2), .val (.int i3), .val (.int i4), .val (.int i5), .val (.int v1), .val (.int (0 : Int32)), .val (.int v11), .val (.int (0 : Int32)), .val (.int v21), .val (.int v22), .val (.long v23), .second, .val (.long v28), .second, .val (.long v29), .second, .val (.long v30), .second, .val (.long v31), .second, .val (.long (j1 + v23)), .second, .val (.long v32), .second, .val (.long v37), .second, .val (.long v42), .second, .val (.long v47), .second, .val (.long (100000000 : Int64)), .second, .val (.long v48), .second, .val (.ref b49), .val (.long r56), .second, .val (.long r62), .second, .val (.long r68), .second, .val (.int (0 : Int32)), .val (.int v78), .unset, .unset, .unset, .unset, .unset, .unset]) (S' := [(.int (0 : Int32))]) rfl ?_
          refine Home.go (fun _ => XS.ifNo XJ77.here hx rfl (hb hby at_348) rfl ((if0 _ _).trans (teq (by decide)).2)) ?_
          refine Home.run XJ77 hx hby sg0_351_3 (pc' := 356) (L' := #[.val (.long j0), .second, .val (.long j1), .second, .val (.int i2), .val (.int i3), .val (.int i4), .val (.int i5), .val (.int v1), .val (.int (0 : Int32)), .val (.int v11), .val (.int (0 : Int32)), .val (.int v21), .val (.int v22), .val (.long v23), .second, .val (.long v28), .second, .val (.long v29), .second, .val (.long v30), .second, .val (.long v31), .second, .val (.long (j1 + v23)), .second, .val (.long v32), .second, .val (.long v37), .second, .val (.long v42), .second, .val (.long v47), .second, .val (.long (100000000 : Int64)), .second, .val (.long v48), .second, .val (.ref b49), .val (.long r56), .second, .val (.long r62), .second, .val (.long r68), .second, .val (.int (0 : Int32)), .val (.int v78), .unset, .unset, .unset, .unset, .unset, .unset]) (S' := [(.int (lcmpW v23 (100000000 : Int64)))]) rfl ?_
          by_cases c92 : v23 < (100000000 : Int64)
          · skip
            refine Home.go (fun _ => XS.ifYes XJ77.here hx rfl (pc0 := 356) (pc' := 363) rfl (hb hby at_356) rfl ((if0 _ _).trans (tlt ((lw_lt _ _).mpr c92)).1) (by decide) (by decide)) ?_
            refine Home.run XJ77 hx hby sg0_363_1 (pc' := 364) (L' := #[.val (.long j0), .second, .val (.long j1), .second, .val (.int i2), .val (.int i3), .val (.int i4), .val (.int i5), .val (.int v1), .val (.int (0 : Int32)), .val (.int v11), .val (.int (0 : Int32)), .val (.int v21), .val (.int v22), .val (.long v23), .second, .val (.long v28), .second, .val (.long v29), .second, .val (.long v30), .second, .val (.long v31), .second, .val (.long (j1 + v23)), .second, .val (.long v32), .second, .val (.long v37), .second, .val (.long v42), .second, .val (.long v47), .second, .val (.long (100000000 : Int64)), .second, .val (.long v48), .second, .val (.ref b49), .val (.long r56), .second, .val (.long r62), .second, .val (.long r68), .second, .val (.int (0 : Int32)), .val (.int v78), .unset, .unset, .unset, .unset, .unset, .unset]) (S' := [(.int (0 : Int32))]) rfl ?_
            exact J93 XJ77 NJ77 eJ77 _ (by simp only [if_pos c89, if_pos c92])
          · skip
            refine Home.go (fun _ => XS.ifNo XJ77.here hx rfl (hb hby at_356) rfl ((if0 _ _).trans (flt (mt (lw_lt _ _).mp c92)).1)) ?_
            refine Home.run XJ77 hx hby sg0_359_2 (pc' := 364) (L' := #[.val (.long j0), .second, .val (.long j1), .second, .val (.int i2), .val (.int i3), .val (.int i4), .val (.int i5), .val (.int v1), .val (.int (0 : Int32)), .val (.int v11), .val (.int (0 : Int32)), .val (.int v21), .val (.int v22), .val (.long v23), .second, .val (.long v28), .second, .val (.long v29), .second, .val (.long v30), .second, .val (.long v31), .second, .val (.long (j1 + v23)), .second, .val (.long v32), .second, .val (.long v37), .second, .val (.long v42), .second, .val (.long v47), .second, .val (.long (100000000 : Int64)), .second, .val (.long v48), .second, .val (.ref b49), .val (.long r56), .second, .val (.long r62), .second, .val (.long r68), .second, .val (.int (0 : Int32)), .val (.int v78), .unset, .unset, .unset, .unset, .unset, .unset]) (S' := [(.int (1 : Int32))]) rfl ?_
            exact J93 XJ77 NJ77 eJ77 _ (by simp only [if_pos c89, if_neg c92])
        · skip
          refine Home.go (fun _ => XS.ifYes XJ77.here hx rfl (pc0 := 343) (pc' := 363) rfl (hb hby at_343) rfl ((if0 _ _).trans (feq c89).2) (by decide) (by decide)) ?_
          have bd91 : ¬ v11 < (1 : Int32) ∧ ¬ (1 : Int32) < v11 := ⟨(bnd_nel bv11.1 c89 (by decide +kernel)), bv11.2⟩
          refine Home.run XJ77 hx hby sg0_363_1 (pc' := 364) (L' := #[.val (.long j0), .second, .val (.long j1), .second, .val (.int i2), .val (.int i3), .val (.int i4), .val (.int i5), .val (.int v1), .val (.int (0 : Int32)), .val (.int v11), .val (.int (0 : Int32)), .val (.int v21), .val (.int v22), .val (.long v23), .second, .val (.long v28), .second, .val (.long v29), .second, .val (.long v30), .second, .val (.long v31), .second, .val (.long (j1 + v23)), .second, .val (.long v32), .second, .val (.long v37), .second, .val (.long v42), .second, .val (.long v47), .second, .val (.long (100000000 : Int64)), .second, .val (.long v48), .second, .val (.ref b49), .val (.long r56), .second, .val (.long r62), .second, .val (.long r68), .second, .val (.int (0 : Int32)), .val (.int v78), .unset, .unset, .unset, .unset, .unset, .unset]) (S' := [(.int (0 : Int32))]) rfl ?_
          exact J93 XJ77 NJ77 eJ77 _ (by simp only [if_neg c89])
      intro TJ93 lcJ93 XJ93 NJ93 eJ93 v94 hv94
      have bv94 : ¬ v94 < (0 : Int32) ∧ ¬ (1 : Int32) < v94 := by rw [hv94]; (repeat' split) <;> first | exact bnd_mono (bnd_lit (0 : Int32)) (by decide +kernel) (by decide +kernel) | exact bnd_mono (bnd_lit (1 : Int32)) (by decide +kernel) (by decide +kernel)
      show Home TJ93 (mkF m 364 #[.val (.long j0), .second, .val (.long j1), .second, .val (.int i2), .val (.int i3), .val (.int i4), .val (.int i5), .val (.int v1), .val (.int (0 : Int32)), .val (.int v11), .val (.int (0 : Int32)), .val (.int v21), .val (.int v22), .val (.long v23), .second, .val (.long v28), .second, .val (.long v29), .second, .val (.long v30), .second, .val (.long v31), .second, .val (.long (j1 + v23)), .second, .val (.long v32), .second, .val (.long v37), .second, .val (.long v42), .second, .val (.long v47), .second, .val (.long (100000000 : Int64)), .second, .val (.long v48), .second, .val (.ref b49), .val (.long r56), .second, .val (.long r62), .second, .val (.long r68), .second, .val (.int (0 : Int32)), .val (.int v78), .unset, .unset, .unset, .unset, .unset, .unset] [(.int v94)])
      refine Home.run XJ93 hx hby sg0_364_2 (pc' := 368) (L' := #[.val (.long j0), .second, .val (.long j1), .second, .val (.int i2), .val (.int i3), .val (.int i4), .val (.int i5), .val (.int v1), .val (.int (0 : Int32)), .val (.int v11), .val (.int (0 : Int32)), .val (.int v21), .val (.int v22), .val (.long v23), .second, .val (.long v28), .second, .val (.long v29), .second, .val (.long v30), .second, .val (.long v31), .second, .val (.long (j1 + v23)), .second, .val (.long v32), .second, .val (.long v37), .second, .val (.long v42), .second, .val (.long v47), .second, .val (.long (100000000 : Int64)), .second, .val (.long v48), .second, .val (.ref b49), .val (.long r56), .second, .val (.long r62), .second, .val (.long r68), .second, .val (.int (0 : Int32)), .val (.int v78), .unset, .val (.int v94), .unset, .unset, .unset, .unset]) (S' := [(.int v94)]) rfl ?_
      suffices J98 : ∀ {T : State} {lc : List Loc} (X : Stand p l e room_1 s m #[(.long j0), (.long j1), (.int i2), (.int i3), (.int i4), (.int i5)] below meth c T lc 1 5) (N : Fr n0 lc) (eT : T.heap = T63.heap) (v99 : Int64) (hv99 : v99 = (if v94 = (0 : Int32) then (v23 + v28) else v28)), @Home p e below s _ _ _ T (mkF m 381 #[.val (.long j0), .second, .val (.long j1), .second, .val (.int i2), .val (.int i3), .val (.int i4), .val (.int i5), .val (.int v1), .val (.int (0 : Int32)), .val (.int v11), .val (.int (0 : Int32)), .val (.int v21), .val (.int v22), .val (.long v23), .second, .val (.long v28), .second, .val (.long v29), .second, .val (.long v30), .second, .val (.long v31), .second, .val (.long (j1 + v23)), .second, .val (.long v32), .second, .val (.long v37), .second, .val (.long v42), .second, .val (.long v47), .second, .val (.long (100000000 : Int64)), .second, .val (.long v48), .second, .val (.ref b49), .val (.long r56), .second, .val (.long r62), .second, .val (.long r68), .second, .val (.int (0 : Int32)), .val (.int v78), .unset, .val (.int v94), .unset, .unset, .unset, .unset] [(.long v99)]) by
        by_cases c95 : v94 = (0 : Int32)
        · skip
          refine Home.go (fun _ => XS.ifYes XJ93.here hx rfl (pc0 := 368) (pc' := 376) rfl (hb hby at_368) rfl ((if0 _ _).trans (teq c95).1) (by decide) (by decide)) ?_
          have bd96 : ¬ v94 < (0 : Int32) ∧ ¬ (0 : Int32) < v94 := ⟨(bnd_eql c95), (bnd_eqr c95)⟩
          refine Home.run XJ93 hx hby sg0_376_3 (pc' := 381) (L' := #[.val (.long j0), .second, .val (.long j1), .second, .val (.int i2), .val (.int i3), .val (.int i4), .val (.int i5), .val (.int v1), .val (.int (0 : Int32)), .val (.int v11), .val (.int (0 : Int32)), .val (.int v21), .val (.int v22), .val (.long v23), .second, .val (.long v28), .second, .val (.long v29), .second, .val (.long v30), .second, .val (.long v31), .second, .val (.long (j1 + v23)), .second, .val (.long v32), .second, .val (.long v37), .second, .val (.long v42), .second, .val (.long v47), .second, .val (.long (100000000 : Int64)), .second, .val (.long v48), .second, .val (.ref b49), .val (.long r56), .second, .val (.long r62), .second, .val (.long r68), .second, .val (.int (0 : Int32)), .val (.int v78), .unset, .val (.int v94), .unset, .unset, .unset, .unset]) (S' := [(.long (v23 + v28))]) rfl ?_
          exact J98 XJ93 NJ93 eJ93 _ (by simp only [if_pos c95])
        · skip
          refine Home.go (fun _ => XS.ifNo XJ93.here hx rfl (hb hby at_368) rfl ((if0 _ _).trans (feq c95).1)) ?_
          have bd97 : ¬ v94 < (1 : Int32) ∧ ¬ (1 : Int32) < v94 := ⟨(bnd_nel bv94.1 c95 (by decide +kernel)), bv94.2⟩
          refine Home.run XJ93 hx hby sg0_371_2 (pc' := 381) (L' := #[.val (.long j0), .second, .val (.long j1), .second, .val (.int i2), .val (.int i3), .val (.int i4), .val (.int i5), .val (.int v1), .val (.int (0 : Int32)), .val (.int v11), .val (.int (0 : Int32)), .val (.int v21), .val (.int v22), .val (.long v23), .second, .val (.long v28), .second, .val (.long v29), .second, .val (.long v30), .second, .val (.long v31), .second, .val (.long (j1 + v23)), .second, .val (.long v32), .second, .val (.long v37), .second, .val (.long v42), .second, .val (.long v47), .second, .val (.long (100000000 : Int64)), .second, .val (.long v48), .second, .val (.ref b49), .val (.long r56), .second, .val (.long r62), .second, .val (.long r68), .second, .val (.int (0 : Int32)), .val (.int v78), .unset, .val (.int v94), .unset, .unset, .unset, .unset]) (S' := [(.long v28)]) rfl ?_
          exact J98 XJ93 NJ93 eJ93 _ (by simp only [if_neg c95])
      intro TJ98 lcJ98 XJ98 NJ98 eJ98 v99 hv99
      show Home TJ98 (mkF m 381 #[.val (.long j0), .second, .val (.long j1), .second, .val (.int i2), .val (.int i3), .val (.int i4), .val (.int i5), .val (.int v1), .val (.int (0 : Int32)), .val (.int v11), .val (.int (0 : Int32)), .val (.int v21), .val (.int v22), .val (.long v23), .second, .val (.long v28), .second, .val (.long v29), .second, .val (.long v30), .second, .val (.long v31), .second, .val (.long (j1 + v23)), .second, .val (.long v32), .second, .val (.long v37), .second, .val (.long v42), .second, .val (.long v47), .second, .val (.long (100000000 : Int64)), .second, .val (.long v48), .second, .val (.ref b49), .val (.long r56), .second, .val (.long r62), .second, .val (.long r68), .second, .val (.int (0 : Int32)), .val (.int v78), .unset, .val (.int v94), .unset, .unset, .unset, .unset] [(.long v99)])
      refine Home.run XJ98 hx hby sg0_381_2 (pc' := 385) (L' := #[.val (.long j0), .second, .val (.long j1), .second, .val (.int i2), .val (.int i3), .val (.int i4), .val (.int i5), .val (.int v1), .val (.int (0 : Int32)), .val (.int v11), .val (.int (0 : Int32)), .val (.int v21), .val (.int v22), .val (.long v23), .second, .val (.long v28), .second, .val (.long v29), .second, .val (.long v30), .second, .val (.long v31), .second, .val (.long (j1 + v23)), .second, .val (.long v32), .second, .val (.long v37), .second, .val (.long v42), .second, .val (.long v47), .second, .val (.long (100000000 : Int64)), .second, .val (.long v48), .second, .val (.ref b49), .val (.long r56), .second, .val (.long r62), .second, .val (.long r68), .second, .val (.int (0 : Int32)), .val (.int v78), .unset, .val (.int v94), .val (.long v99), .second, .unset, .unset]) (S' := [(.int v94)]) rfl ?_
      suffices J103 : ∀ {T : State} {lc : List Loc} (X : Stand p l e room_1 s m #[(.long j0), (.long j1), (.int i2), (.int i3), (.int i4), (.int i5)] below meth c T lc 1 5) (N : Fr n0 lc) (eT : T.heap = T63.heap) (v104 : Int64) (hv104 : v104 = (if v94 = (0 : Int32) then (v30 + v31) else v31)), @Home p e below s _ _ _ T (mkF m 398 #[.val (.long j0), .second, .val (.long j1), .second, .val (.int i2), .val (.int i3), .val (.int i4), .val (.int i5), .val (.int v1), .val (.int (0 : Int32)), .val (.int v11), .val (.int (0 : Int32)), .val (.int v21), .val (.int v22), .val (.long v23), .second, .val (.long v28), .second, .val (.long v29), .second, .val (.long v30), .second, .val (.long v31), .second, .val (.long (j1 + v23)), .second, .val (.long v32), .second, .val (.long v37), .second, .val (.long v42), .second, .val (.long v47), .second, .val (.long (100000000 : Int64)), .second, .val (.long v48), .second, .val (.ref b49), .val (.long r56), .second, .val (.long r62), .second, .val (.long r68), .second, .val (.int (0 : Int32)), .val (.int v78), .unset, .val (.int v94), .val (.long v99), .second, .unset, .unset] [(.long v104)]) by
        by_cases c100 : v94 = (0 : Int32)
        · skip
          refine Home.go (fun _ => XS.ifYes XJ98.here hx rfl (pc0 := 385) (pc' := 393) rfl (hb hby at_385) rfl ((if0 _ _).trans (teq c100).1) (by decide) (by decide)) ?_
          have bd101 : ¬ v94 < (0 : Int32) ∧ ¬ (0 : Int32) < v94 := ⟨(bnd_eql c100), (bnd_eqr c100)⟩
          refine Home.run XJ98 hx hby sg0_393_3 (pc' := 398) (L' := #[.val (.long j0), .second, .val (.long j1), .second, .val (.int i2), .val (.int i3), .val (.int i4), .val (.int i5), .val (.int v1), .val (.int (0 : Int32)), .val (.int v11), .val (.int (0 : Int32)), .val (.int v21), .val (.int v22), .val (.long v23), .second, .val (.long v28), .second, .val (.long v29), .second, .val (.long v30), .second, .val (.long v31), .second, .val (.long (j1 + v23)), .second, .val (.long v32), .second, .val (.long v37), .second, .val (.long v42), .second, .val (.long v47), .second, .val (.long (100000000 : Int64)), .second, .val (.long v48), .second, .val (.ref b49), .val (.long r56), .second, .val (.long r62), .second, .val (.long r68), .second, .val (.int (0 : Int32)), .val (.int v78), .unset, .val (.int v94), .val (.long v99), .second, .unset, .unset]) (S' := [(.long (v30 + v31))]) rfl ?_
          exact J103 XJ98 NJ98 eJ98 _ (by simp only [if_pos c100])
        · skip
          refine Home.go (fun _ => XS.ifNo XJ98.here hx rfl (hb hby at_385) rfl ((if0 _ _).trans (feq c100).1)) ?_
          have bd102 : ¬ v94 < (1 : Int32) ∧ ¬ (1 : Int32) < v94 := ⟨(bnd_nel bv94.1 c100 (by decide +kernel)), bv94.2⟩
          refine Home.run XJ98 hx hby sg0_388_2 (pc' := 398) (L' := #[.val (.long j0), .second, .val (.long j1), .second, .val (.int i2), .val (.int i3), .val (.int i4), .val (.int i5), .val (.int v1), .val (.int (0 : Int32)), .val (.int v11), .val (.int (0 : Int32)), .val (.int v21), .val (.int v22), .val (.long v23), .second, .val (.long v28), .second, .val (.long v29), .second, .val (.long v30), .second, .val (.long v31), .second, .val (.long (j1 + v23)), .second, .val (.long v32), .second, .val (.long v37), .second, .val (.long v42), .second, .val (.long v47), .second, .val (.long (100000000 : Int64)), .second, .val (.long v48), .second, .val (.ref b49), .val (.long r56), .second, .val (.long r62), .second, .val (.long r68), .second, .val (.int (0 : Int32)), .val (.int v78), .unset, .val (.int v94), .val (.long v99), .second, .unset, .unset]) (S' := [(.long v31)]) rfl ?_
          exact J103 XJ98 NJ98 eJ98 _ (by simp only [if_neg c100])
      intro TJ103 lcJ103 XJ103 NJ103 eJ103 v104 hv104
      show Home TJ103 (mkF m 398 #[.val (.long j0), .second, .val (.long j1), .second, .val (.int i2), .val (.int i3), .val (.int i4), .val (.int i5), .val (.int v1), .val (.int (0 : Int32)), .val (.int v11), .val (.int (0 : Int32)), .val (.int v21), .val (.int v22), .val (.long v23), .second, .val (.long v28), .second, .val (.long v29), .second, .val (.long v30), .second, .val (.long v31), .second, .val (.long (j1 + v23)), .second, .val (.long v32), .second, .val (.long v37), .second, .val (.long v42), .second, .val (.long v47), .second, .val (.long (100000000 : Int64)), .second, .val (.long v48), .second, .val (.ref b49), .val (.long r56), .second, .val (.long r62), .second, .val (.long r68), .second, .val (.int (0 : Int32)), .val (.int v78), .unset, .val (.int v94), .val (.long v99), .second, .unset, .unset] [(.long v104)])
      refine Home.run XJ103 hx hby sg0_398_4 (pc' := 405) (L' := #[.val (.long j0), .second, .val (.long j1), .second, .val (.int i2), .val (.int i3), .val (.int i4), .val (.int i5), .val (.int v1), .val (.int (0 : Int32)), .val (.int v11), .val (.int (0 : Int32)), .val (.int v21), .val (.int v22), .val (.long v23), .second, .val (.long v28), .second, .val (.long v29), .second, .val (.long v30), .second, .val (.long v31), .second, .val (.long (j1 + v23)), .second, .val (.long v32), .second, .val (.long v37), .second, .val (.long v42), .second, .val (.long v47), .second, .val (.long (100000000 : Int64)), .second, .val (.long v48), .second, .val (.ref b49), .val (.long r56), .second, .val (.long r62), .second, .val (.long r68), .second, .val (.int (0 : Int32)), .val (.int v78), .unset, .val (.int v94), .val (.long v99), .second, .val (.long v104), .second]) (S' := [(.int (lcmpW v99 (100000000 : Int64)))]) rfl ?_
      suffices J107 : ∀ {T : State} {lc : List Loc} (X : Stand p l e room_1 s m #[(.long j0), (.long j1), (.int i2), (.int i3), (.int i4), (.int i5)] below meth c T lc 1 5) (N : Fr n0 lc) (eT : T.heap = T63.heap) (v108 : Int32) (hv108 : v108 = (if v99 < (100000000 : Int64) then v78 else (if (v99 * (v1.toInt64)) < (v104 * (2 : Int64)) then (1 : Int32) else (0 : Int32)))), @Home p e below s _ _ _ T (mkF m 438 #[.val (.long j0), .second, .val (.long j1), .second, .val (.int i2), .val (.int i3), .val (.int i4), .val (.int i5), .val (.int v1), .val (.int (0 : Int32)), .val (.int v11), .val (.int (0 : Int32)), .val (.int v21), .val (.int v22), .val (.long v23), .second, .val (.long v28), .second, .val (.long v29), .second, .val (.long v30), .second, .val (.long v31), .second, .val (.long (j1 + v23)), .second, .val (.long v32), .second, .val (.long v37), .second, .val (.long v42), .second, .val (.long v47), .second, .val (.long (100000000 : Int64)), .second, .val (.long v48), .second, .val (.ref b49), .val (.long r56), .second, .val (.long r62), .second, .val (.long r68), .second, .val (.int (0 : Int32)), .val (.int v78), .val (.int v108), .val (.int v94), .val (.long v99), .second, .val (.long v104), .second] []) by
        by_cases c105 : v99 < (100000000 : Int64)
        · skip
          refine Home.go (fun _ => XS.ifYes XJ103.here hx rfl (pc0 := 405) (pc' := 434) rfl (hb hby at_405) rfl ((if0 _ _).trans (tlt ((lw_lt _ _).mpr c105)).1) (by decide) (by decide)) ?_
          refine Home.run XJ103 hx hby sg0_434_2 (pc' := 438) (L' := #[.val (.long j0), .second, .val (.long j1), .second, .val (.int i2), .val (.int i3), .val (.int i4), .val (.int i5), .val (.int v1), .val (.int (0 : Int32)), .val (.int v11), .val (.int (0 : Int32)), .val (.int v21), .val (.int v22), .val (.long v23), .second, .val (.long v28), .second, .val (.long v29), .second, .val (.long v30), .second, .val (.long v31), .second, .val (.long (j1 + v23)), .second, .val (.long v32), .second, .val (.long v37), .second, .val (.long v42), .second, .val (.long v47), .second, .val (.long (100000000 : Int64)), .second, .val (.long v48), .second, .val (.ref b49), .val (.long r56), .second, .val (.long r62), .second, .val (.long r68), .second, .val (.int (0 : Int32)), .val (.int v78), .val (.int v78), .val (.int v94), .val (.long v99), .second, .val (.long v104), .second]) (S' := []) rfl ?_
          exact J107 XJ103 NJ103 eJ103 _ (by simp only [if_pos c105])
        · skip
          refine Home.go (fun _ => XS.ifNo XJ103.here hx rfl (hb hby at_405) rfl ((if0 _ _).trans (flt (mt (lw_lt _ _).mp c105)).1)) ?_
          refine Home.run XJ103 hx hby sg0_408_1 (pc' := 410) (L' := #[.val (.long j0), .second, .val (.long j1), .second, .val (.int i2), .val (.int i3), .val (.int i4), .val (.int i5), .val (.int v1), .val (.int (0 : Int32)), .val (.int v11), .val (.int (0 : Int32)), .val (.int v21), .val (.int v22), .val (.long v23), .second, .val (.long v28), .second, .val (.long v29), .second, .val (.long v30), .second, .val (.long v31), .second, .val (.long (j1 + v23)), .second, .val (.long v32), .second, .val (.long v37), .second, .val (.long v42), .second, .val (.long v47), .second, .val (.long (100000000 : Int64)), .second, .val (.long v48), .second, .val (.ref b49), .val (.long r56), .second, .val (.long r62), .second, .val (.long r68), .second, .val (.int (0 : Int32)), .val (.int v78), .unset, .val (.int v94), .val (.long v99), .second, .val (.long v104), .second]) (S' := [(.long v104)]) rfl ?_
          refine Home.go (XJ103.ldc2Long hx hown (mvT hZ (own_w32 hw)) rfl (hb hby at_410)) ?_
          refine Home.run XJ103 hx hby sg0_413_6 (pc' := 421) (L' := #[.val (.long j0), .second, .val (.long j1), .second, .val (.int i2), .val (.int i3), .val (.int i4), .val (.int i5), .val (.int v1), .val (.int (0 : Int32)), .val (.int v11), .val (.int (0 : Int32)), .val (.int v21), .val (.int v22), .val (.long v23), .second, .val (.long v28), .second, .val (.long v29), .second, .val (.long v30), .second, .val (.long v31), .second, .val (.long (j1 + v23)), .second, .val (.long v32), .second, .val (.long v37), .second, .val (.long v42), .second, .val (.long v47), .second, .val (.long (100000000 : Int64)), .second, .val (.long v48), .second, .val (.ref b49), .val (.long r56), .second, .val (.long r62), .second, .val (.long r68), .second, .val (.int (0 : Int32)), .val (.int v78), .unset, .val (.int v94), .val (.long v99), .second, .val (.long v104), .second]) (S' := [(.int (lcmpW (v104 * (2 : Int64)) (v99 * (v1.toInt64))))]) rfl ?_
          by_cases c106 : (v99 * (v1.toInt64)) < (v104 * (2 : Int64))
          · skip
            refine Home.go (fun _ => XS.ifNo XJ103.here hx rfl (hb hby at_421) rfl ((if0 _ _).trans (tlt ((lw_gt _ _).mpr c106)).2.2.2)) ?_
            refine Home.run XJ103 hx hby sg0_424_4 (pc' := 438) (L' := #[.val (.long j0), .second, .val (.long j1), .second, .val (.int i2), .val (.int i3), .val (.int i4), .val (.int i5), .val (.int v1), .val (.int (0 : Int32)), .val (.int v11), .val (.int (0 : Int32)), .val (.int v21), .val (.int v22), .val (.long v23), .second, .val (.long v28), .second, .val (.long v29), .second, .val (.long v30), .second, .val (.long v31), .second, .val (.long (j1 + v23)), .second, .val (.long v32), .second, .val (.long v37), .second, .val (.long v42), .second, .val (.long v47), .second, .val (.long (100000000 : Int64)), .second, .val (.long v48), .second, .val (.ref b49), .val (.long r56), .second, .val (.long r62), .second, .val (.long r68), .second, .val (.int (0 : Int32)), .val (.int v78), .val (.int (1 : Int32)), .val (.int v94), .val (.long v99), .second, .val (.long v104), .second]) (S' := []) rfl ?_
            exact J107 XJ103 NJ103 eJ103 _ (by simp only [if_neg c105, if_pos c106])
          · skip
            refine Home.go (fun _ => XS.ifYes XJ103.here hx rfl (pc0 := 421) (pc' := 428) rfl (hb hby at_421) rfl ((if0 _ _).trans (flt (mt (lw_gt _ _).mp c106)).2.2.2) (by decide) (by decide)) ?_
            refine Home.run XJ103 hx hby sg0_428_3 (pc' := 438) (L' := #[.val (.long j0), .second, .val (.long j1), .second, .val (.int i2), .val (.int i3), .val (.int i4), .val (.int i5), .val (.int v1), .val (.int (0 : Int32)), .val (.int v11), .val (.int (0 : Int32)), .val (.int v21), .val (.int v22), .val (.long v23), .second, .val (.long v28), .second, .val (.long v29), .second, .val (.long v30), .second, .val (.long v31), .second, .val (.long (j1 + v23)), .second, .val (.long v32), .second, .val (.long v37), .second, .val (.long v42), .second, .val (.long v47), .second, .val (.long (100000000 : Int64)), .second, .val (.long v48), .second, .val (.ref b49), .val (.long r56), .second, .val (.long r62), .second, .val (.long r68), .second, .val (.int (0 : Int32)), .val (.int v78), .val (.int (0 : Int32)), .val (.int v94), .val (.long v99), .second, .val (.long v104), .second]) (S' := []) rfl ?_
            exact J107 XJ103 NJ103 eJ103 _ (by simp only [if_neg c105, if_neg c106])
      intro TJ107 lcJ107 XJ107 NJ107 eJ107 v108 hv108
      show Home TJ107 (mkF m 438 #[.val (.long j0), .second, .val (.long j1), .second, .val (.int i2), .val (.int i3), .val (.int i4), .val (.int i5), .val (.int v1), .val (.int (0 : Int32)), .val (.int v11), .val (.int (0 : Int32)), .val (.int v21), .val (.int v22), .val (.long v23), .second, .val (.long v28), .second, .val (.long v29), .second, .val (.long v30), .second, .val (.long v31), .second, .val (.long (j1 + v23)), .second, .val (.long v32), .second, .val (.long v37), .second, .val (.long v42), .second, .val (.long v47), .second, .val (.long (100000000 : Int64)), .second, .val (.long v48), .second, .val (.ref b49), .val (.long r56), .second, .val (.long r62), .second, .val (.long r68), .second, .val (.int (0 : Int32)), .val (.int v78), .val (.int v108), .val (.int v94), .val (.long v99), .second, .val (.long v104), .second] [])
      refine Home.run XJ107 hx hby sg0_438_2 (pc' := 442) (L' := #[.val (.long j0), .second, .val (.long j1), .second, .val (.int i2), .val (.int i3), .val (.int i4), .val (.int i5), .val (.int v1), .val (.int (0 : Int32)), .val (.int v11), .val (.int (0 : Int32)), .val (.int v21), .val (.int v22), .val (.long v23), .second, .val (.long v28), .second, .val (.long v29), .second, .val (.long v30), .second, .val (.long v31), .second, .val (.long (j1 + v23)), .second, .val (.long v32), .second, .val (.long v37), .second, .val (.long v42), .second, .val (.long v47), .second, .val (.long (100000000 : Int64)), .second, .val (.long v48), .second, .val (.ref b49), .val (.long r56), .second, .val (.long r62), .second, .val (.long r68), .second, .val (.int (0 : Int32)), .val (.int v78), .val (.int v108), .val (.int v94), .val (.long v99), .second, .val (.long v104), .second]) (S' := [(.int (0 : Int32)), (.long r56)]) rfl ?_
      refine Home.go (fun _ => XS.ifYes XJ107.here hx rfl (pc0 := 442) (pc' := 450) rfl (hb hby at_442) rfl ((if0 _ _).trans (teq (by decide)).1) (by decide) (by decide)) ?_
      refine Home.run XJ107 hx hby sg0_450_2 (pc' := 452) (L' := #[.val (.long j0), .second, .val (.long j1), .second, .val (.int i2), .val (.int i3), .val (.int i4), .val (.int i5), .val (.int v1), .val (.int (0 : Int32)), .val (.int v11), .val (.int (0 : Int32)), .val (.int v21), .val (.int v22), .val (.long v23), .second, .val (.long v28), .second, .val (.long v29), .second, .val (.long v30), .second, .val (.long v31), .second, .val (.long (j1 + v23)), .second, .val (.long v32), .second, .val (.long v37), .second, .val (.long v42), .second, .val (.long v47), .second, .val (.long (100000000 : Int64)), .second, .val (.long v48), .second, .val (.ref b49), .val (.long r56), .second, .val (.long r62), .second, .val (.long r68), .second, .val (.int (0 : Int32)), .val (.int v78), .val (.int v108), .val (.int v94), .val (.long v99), .second, .val (.long v104), .second]) (S' := [(.int (lcmpW r56 (0 : Int64)))]) rfl ?_
      suffices J122 : ∀ {T : State} {lc : List Loc} (X : Stand p l e room_1 s m #[(.long j0), (.long j1), (.int i2), (.int i3), (.int i4), (.int i5)] below meth c T lc 1 5) (N : Fr n0 lc) (eT : T.heap = T63.heap) (v123 : Int32) (hv123 : v123 = (if r56 = (0 : Int64) then (if v78 = (0 : Int32) then (if r62 = (0 : Int64) then (if v108 = (0 : Int32) then (if r68 = (0 : Int64) then (1 : Int32) else (0 : Int32)) else (if r68 = v48 then (1 : Int32) else (0 : Int32))) else (0 : Int32)) else (if r62 = v48 then (if v108 = (0 : Int32) then (if r68 = (0 : Int64) then (1 : Int32) else (0 : Int32)) else (if r68 = v48 then (1 : Int32) else (0 : Int32))) else (0 : Int32))) else (0 : Int32))), @Home p e below s _ _ _ T (mkF m 494 #[.val (.long j0), .second, .val (.long j1), .second, .val (.int i2), .val (.int i3), .val (.int i4), .val (.int i5), .val (.int v1), .val (.int (0 : Int32)), .val (.int v11), .val (.int (0 : Int32)), .val (.int v21), .val (.int v22), .val (.long v23), .second, .val (.long v28), .second, .val (.long v29), .second, .val (.long v30), .second, .val (.long v31), .second, .val (.long (j1 + v23)), .second, .val (.long v32), .second, .val (.long v37), .second, .val (.long v42), .second, .val (.long v47), .second, .val (.long (100000000 : Int64)), .second, .val (.long v48), .second, .val (.ref b49), .val (.long r56), .second, .val (.long r62), .second, .val (.long r68), .second, .val (.int (0 : Int32)), .val (.int v78), .val (.int v108), .val (.int v94), .val (.long v99), .second, .val (.long v104), .second] [(.int v123)]) by
        by_cases c109 : r56 = (0 : Int64)
        · skip
          refine Home.go (fun _ => XS.ifNo XJ107.here hx rfl (hb hby at_452) rfl ((if0 _ _).trans (teq ((lw_eq _ _).mpr c109)).2)) ?_
          refine Home.run XJ107 hx hby sg0_455_2 (pc' := 459) (L' := #[.val (.long j0), .second, .val (.long j1), .second, .val (.int i2), .val (.int i3), .val (.int i4), .val (.int i5), .val (.int v1), .val (.int (0 : Int32)), .val (.int v11), .val (.int (0 : Int32)), .val (.int v21), .val (.int v22), .val (.long v23), .second, .val (.long v28), .second, .val (.long v29), .second, .val (.long v30), .second, .val (.long v31), .second, .val (.long (j1 + v23)), .second, .val (.long v32), .second, .val (.long v37), .second, .val (.long v42), .second, .val (.long v47), .second, .val (.long (100000000 : Int64)), .second, .val (.long v48), .second, .val (.ref b49), .val (.long r56), .second, .val (.long r62), .second, .val (.long r68), .second, .val (.int (0 : Int32)), .val (.int v78), .val (.int v108), .val (.int v94), .val (.long v99), .second, .val (.long v104), .second]) (S' := [(.int v78), (.long r62)]) rfl ?_
          by_cases c110 : v78 = (0 : Int32)
          · skip
            refine Home.go (fun _ => XS.ifYes XJ107.here hx rfl (pc0 := 459) (pc' := 467) rfl (hb hby at_459) rfl ((if0 _ _).trans (teq c110).1) (by decide) (by decide)) ?_
            have bd111 : ¬ v78 < (0 : Int32) ∧ ¬ (0 : Int32) < v78 := ⟨(bnd_eql c110), (bnd_eqr c110)⟩
            refine Home.run XJ107 hx hby sg0_467_2 (pc' := 469) (L' := #[.val (.long j0), .second, .val (.long j1), .second, .val (.int i2), .val (.int i3), .val (.int i4), .val (.int i5), .val (.int v1), .val (.int (0 : Int32)), .val (.int v11), .val (.int (0 : Int32)), .val (.int v21), .val (.int v22), .val (.long v23), .second, .val (.long v28), .second, .val (.long v29), .second, .val (.long v30), .second, .val (.long v31), .second, .val (.long (j1 + v23)), .second, .val (.long v32), .second, .val (.long v37), .second, .val (.long v42), .second, .val (.long v47), .second, .val (.long (100000000 : Int64)), .second, .val (.long v48), .second, .val (.ref b49), .val (.long r56), .second, .val (.long r62), .second, .val (.long r68), .second, .val (.int (0 : Int32)), .val (.int v78), .val (.int v108), .val (.int v94), .val (.long v99), .second, .val (.long v104), .second]) (S' := [(.int (lcmpW r62 (0 : Int64)))]) rfl ?_
            by_cases c112 : r62 = (0 : Int64)
            · skip
              refine Home.go (fun _ => XS.ifNo XJ107.here hx rfl (hb hby at_469) rfl ((if0 _ _).trans (teq ((lw_eq _ _).mpr c112)).2)) ?_
              refine Home.run XJ107 hx hby sg0_472_2 (pc' := 476) (L' := #[.val (.long j0), .second, .val (.long j1), .second, .val (.int i2), .val (.int i3), .val (.int i4), .val (.int i5), .val (.int v1), .val (.int (0 : Int32)), .val (.int v11), .val (.int (0 : Int32)), .val (.int v21), .val (.int v22), .val (.long v23), .second, .val (.long v28), .second, .val (.long v29), .second, .val (.long v30), .second, .val (.long v31), .second, .val (.long (j1 + v23)), .second, .val (.long v32), .second, .val (.long v37), .second, .val (.long v42), .second, .val (.long v47), .second, .val (.long (100000000 : Int64)), .second, .val (.long v48), .second, .val (.ref b49), .val (.long r56), .second, .val (.long r62), .second, .val (.long r68), .second, .val (.int (0 : Int32)), .val (.int v78), .val (.int v108), .val (.int v94), .val (.long v99), .second, .val (.long v104), .second]) (S' := [(.int v108), (.long r68)]) rfl ?_
              by_cases c113 : v108 = (0 : Int32)
              · skip
                refine Home.go (fun _ => XS.ifYes XJ107.here hx rfl (pc0 := 476) (pc' := 484) rfl (hb hby at_476) rfl ((if0 _ _).trans (teq c113).1) (by decide) (by decide)) ?_
                have bd114 : ¬ v108 < (0 : Int32) ∧ ¬ (0 : Int32) < v108 := ⟨(bnd_eql c113), (bnd_eqr c113)⟩
                refine Home.run XJ107 hx hby sg0_484_2 (pc' := 486) (L' := #[.val (.long j0), .second, .val (.long j1), .second, .val (.int i2), .val (.int i3), .val (.int i4), .val (.int i5), .val (.int v1), .val (.int (0 : Int32)), .val (.int v11), .val (.int (0 : Int32)), .val (.int v21), .val (.int v22), .val (.long v23), .second, .val (.long v28), .second, .val (.long v29), .second, .val (.long v30), .second, .val (.long v31), .second, .val (.long (j1 + v23)), .second, .val (.long v32), .second, .val (.long v37), .second, .val (.long v42), .second, .val (.long v47), .second, .val (.long (100000000 : Int64)), .second, .val (.long v48), .second, .val (.ref b49), .val (.long r56), .second, .val (.long r62), .second, .val (.long r68), .second, .val (.int (0 : Int32)), .val (.int v78), .val (.int v108), .val (.int v94), .val (.long v99), .second, .val (.long v104), .second]) (S' := [(.int (lcmpW r68 (0 : Int64)))]) rfl ?_
                by_cases c115 : r68 = (0 : Int64)
                · skip
                  refine Home.go (fun _ => XS.ifNo XJ107.here hx rfl (hb hby at_486) rfl ((if0 _ _).trans (teq ((lw_eq _ _).mpr c115)).2)) ?_
                  refine Home.run XJ107 hx hby sg0_489_2 (pc' := 494) (L' := #[.val (.long j0), .second, .val (.long j1), .second, .val (.int i2), .val (.int i3), .val (.int i4), .val (.int i5), .val (.int v1), .val (.int (0 : Int32)), .val (.int v11), .val (.int (0 : Int32)), .val (.int v21), .val (.int v22), .val (.long v23), .second, .val (.long v28), .second, .val (.long v29), .second, .val (.long v30), .second, .val (.long v31), .second, .val (.long (j1 + v23)), .second, .val (.long v32), .second, .val (.long v37), .second, .val (.long v42), .second, .val (.long v47), .second, .val (.long (100000000 : Int64)), .second, .val (.long v48), .second, .val (.ref b49), .val (.long r56), .second, .val (.long r62), .second, .val (.long r68), .second, .val (.int (0 : Int32)), .val (.int v78), .val (.int v108), .val (.int v94), .val (.long v99), .second, .val (.long v104), .second]) (S' := [(.int (1 : Int32))]) rfl ?_
                  exact J122 XJ107 NJ107 eJ107 _ (by simp only [if_pos c109, if_pos c110, if_pos c112, if_pos c113, if_pos c115])
                · skip
                  refine Home.go (fun _ => XS.ifYes XJ107.here hx rfl (pc0 := 486) (pc' := 493) rfl (hb hby at_486) rfl ((if0 _ _).trans (feq (mt (lw_eq _ _).mp c115)).2) (by decide) (by decide)) ?_
                  refine Home.run XJ107 hx hby sg0_493_1 (pc' := 494) (L' := #[.val (.long j0), .second, .val (.long j1), .second, .val (.int i2), .val (.int i3), .val (.int i4), .val (.int i5), .val (.int v1), .val (.int (0 : Int32)), .val (.int v11), .val (.int (0 : Int32)), .val (.int v21), .val (.int v22), .val (.long v23), .second, .val (.long v28), .second, .val (.long v29), .second, .val (.long v30), .second, .val (.long v31), .second, .val (.long (j1 + v23)), .second, .val (.long v32), .second, .val (.long v37), .second, .val (.long v42), .second, .val (.long v47), .second, .val (.long (100000000 : Int64)), .second, .val (.long v48), .second, .val (.ref b49), .val (.long r56), .second, .val (.long r62), .second, .val (.long r68), .second, .val (.int (0 : Int32)), .val (.int v78), .val (.int v108), .val (.int v94), .val (.long v99), .second, .val (.long v104), .second]) (S' := [(.int (0 : Int32))]) rfl ?_
                  exact J122 XJ107 NJ107 eJ107 _ (by simp only [if_pos c109, if_pos c110, if_pos c112, if_pos c113, if_neg c115])
              · skip
                refine Home.go (fun _ => XS.ifNo XJ107.here hx rfl (hb hby at_476) rfl ((if0 _ _).trans (feq c113).1)) ?_
                refine Home.run XJ107 hx hby sg0_479_3 (pc' := 486) (L' := #[.val (.long j0), .second, .val (.long j1), .second, .val (.int i2), .val (.int i3), .val (.int i4), .val (.int i5), .val (.int v1), .val (.int (0 : Int32)), .val (.int v11), .val (.int (0 : Int32)), .val (.int v21), .val (.int v22), .val (.long v23), .second, .val (.long v28), .second, .val (.long v29), .second, .val (.long v30), .second, .val (.long v31), .second, .val (.long (j1 + v23)), .second, .val (.long v32), .second, .val (.long v37), .second, .val (.long v42), .second, .val (.long v47), .second, .val (.long (100000000 : Int64)), .second, .val (.long v48), .second, .val (.ref b49), .val (.long r56), .second, .val (.long r62), .second, .val (.long r68), .second, .val (.int (0 : Int32)), .val (.int v78), .val (.int v108), .val (.int v94), .val (.long v99), .second, .val (.long v104), .second]) (S' := [(.int (lcmpW r68 v48))]) rfl ?_
                by_cases c116 : r68 = v48
                · skip
                  refine Home.go (fun _ => XS.ifNo XJ107.here hx rfl (hb hby at_486) rfl ((if0 _ _).trans (teq ((lw_eq _ _).mpr c116)).2)) ?_
                  refine Home.run XJ107 hx hby sg0_489_2 (pc' := 494) (L' := #[.val (.long j0), .second, .val (.long j1), .second, .val (.int i2), .val (.int i3), .val (.int i4), .val (.int i5), .val (.int v1), .val (.int (0 : Int32)), .val (.int v11), .val (.int (0 : Int32)), .val (.int v21), .val (.int v22), .val (.long v23), .second, .val (.long v28), .second, .val (.long v29), .second, .val (.long v30), .second, .val (.long v31), .second, .val (.long (j1 + v23)), .second, .val (.long v32), .second, .val (.long v37), .second, .val (.long v42), .second, .val (.long v47), .second, .val (.long (100000000 : Int64)), .second, .val (.long v48), .second, .val (.ref b49), .val (.long r56), .second, .val (.long r62), .second, .val (.long r68), .second, .val (.int (0 : Int32)), .val (.int v78), .val (.int v108), .val (.int v94), .val (.long v99), .second, .val (.long v104), .second]) (S' := [(.int (1 : Int32))]) rfl ?_
                  exact J122 XJ107 NJ107 eJ107 _ (by simp only [if_pos c109, if_pos c110, if_pos c112, if_neg c113, if_pos c116])
                · skip
                  refine Home.go (fun _ => XS.ifYes XJ107.here hx rfl (pc0 := 486) (pc' := 493) rfl (hb hby at_486) rfl ((if0 _ _).trans (feq (mt (lw_eq _ _).mp c116)).2) (by decide) (by decide)) ?_
                  refine Home.run XJ107 hx hby sg0_493_1 (pc' := 494) (L' := #[.val (.long j0), .second, .val (.long j1), .second, .val (.int i2), .val (.int i3), .val (.int i4), .val (.int i5), .val (.int v1), .val (.int (0 : Int32)), .val (.int v11), .val (.int (0 : Int32)), .val (.int v21), .val (.int v22), .val (.long v23), .second, .val (.long v28), .second, .val (.long v29), .second, .val (.long v30), .second, .val (.long v31), .second, .val (.long (j1 + v23)), .second, .val (.long v32), .second, .val (.long v37), .second, .val (.long v42), .second, .val (.long v47), .second, .val (.long (100000000 : Int64)), .second, .val (.long v48), .second, .val (.ref b49), .val (.long r56), .second, .val (.long r62), .second, .val (.long r68), .second, .val (.int (0 : Int32)), .val (.int v78), .val (.int v108), .val (.int v94), .val (.long v99), .second, .val (.long v104), .second]) (S' := [(.int (0 : Int32))]) rfl ?_
                  exact J122 XJ107 NJ107 eJ107 _ (by simp only [if_pos c109, if_pos c110, if_pos c112, if_neg c113, if_neg c116])
            · skip
              refine Home.go (fun _ => XS.ifYes XJ107.here hx rfl (pc0 := 469) (pc' := 493) rfl (hb hby at_469) rfl ((if0 _ _).trans (feq (mt (lw_eq _ _).mp c112)).2) (by decide) (by decide)) ?_
              refine Home.run XJ107 hx hby sg0_493_1 (pc' := 494) (L' := #[.val (.long j0), .second, .val (.long j1), .second, .val (.int i2), .val (.int i3), .val (.int i4), .val (.int i5), .val (.int v1), .val (.int (0 : Int32)), .val (.int v11), .val (.int (0 : Int32)), .val (.int v21), .val (.int v22), .val (.long v23), .second, .val (.long v28), .second, .val (.long v29), .second, .val (.long v30), .second, .val (.long v31), .second, .val (.long (j1 + v23)), .second, .val (.long v32), .second, .val (.long v37), .second, .val (.long v42), .second, .val (.long v47), .second, .val (.long (100000000 : Int64)), .second, .val (.long v48), .second, .val (.ref b49), .val (.long r56), .second, .val (.long r62), .second, .val (.long r68), .second, .val (.int (0 : Int32)), .val (.int v78), .val (.int v108), .val (.int v94), .val (.long v99), .second, .val (.long v104), .second]) (S' := [(.int (0 : Int32))]) rfl ?_
              exact J122 XJ107 NJ107 eJ107 _ (by simp only [if_pos c109, if_pos c110, if_neg c112])
          · skip
            refine Home.go (fun _ => XS.ifNo XJ107.here hx rfl (hb hby at_459) rfl ((if0 _ _).trans (feq c110).1)) ?_
            refine Home.run XJ107 hx hby sg0_462_3 (pc' := 469) (L' := #[.val (.long j0), .second, .val (.long j1), .second, .val (.int i2), .val (.int i3), .val (.int i4), .val (.int i5), .val (.int v1), .val (.int (0 : Int32)), .val (.int v11), .val (.int (0 : Int32)), .val (.int v21), .val (.int v22), .val (.long v23), .second, .val (.long v28), .second, .val (.long v29), .second, .val (.long v30), .second, .val (.long v31), .second, .val (.long (j1 + v23)), .second, .val (.long v32), .second, .val (.long v37), .second, .val (.long v42), .second, .val (.long v47), .second, .val (.long (100000000 : Int64)), .second, .val (.long v48), .second, .val (.ref b49), .val (.long r56), .second, .val (.long r62), .second, .val (.long r68), .second, .val (.int (0 : Int32)), .val (.int v78), .val (.int v108), .val (.int v94), .val (.long v99), .second, .val (.long v104), .second]) (S' := [(.int (lcmpW r62 v48))]) rfl ?_
            by_cases c117 : r62 = v48
            · skip
              refine Home.go (fun _ => XS.ifNo XJ107.here hx rfl (hb hby at_469) rfl ((if0 _ _).trans (teq ((lw_eq _ _).mpr c117)).2)) ?_
              refine Home.run XJ107 hx hby sg0_472_2 (pc' := 476) (L' := #[.val (.long j0), .second, .val (.long j1), .second, .val (.int i2), .val (.int i3), .val (.int i4), .val (.int i5), .val (.int v1), .val (.int (0 : Int32)), .val (.int v11), .val (.int (0 : Int32)), .val (.int v21), .val (.int v22), .val (.long v23), .second, .val (.long v28), .second, .val (.long v29), .second, .val (.long v30), .second, .val (.long v31), .second, .val (.long (j1 + v23)), .second, .val (.long v32), .second, .val (.long v37), .second, .val (.long v42), .second, .val (.long v47), .second, .val (.long (100000000 : Int64)), .second, .val (.long v48), .second, .val (.ref b49), .val (.long r56), .second, .val (.long r62), .second, .val (.long r68), .second, .val (.int (0 : Int32)), .val (.int v78), .val (.int v108), .val (.int v94), .val (.long v99), .second, .val (.long v104), .second]) (S' := [(.int v108), (.long r68)]) rfl ?_
              by_cases c118 : v108 = (0 : Int32)
              · skip
                refine Home.go (fun _ => XS.ifYes XJ107.here hx rfl (pc0 := 476) (pc' := 484) rfl (hb hby at_476) rfl ((if0 _ _).trans (teq c118).1) (by decide) (by decide)) ?_
                have bd119 : ¬ v108 < (0 : Int32) ∧ ¬ (0 : Int32) < v108 := ⟨(bnd_eql c118), (bnd_eqr c118)⟩
                refine Home.run XJ107 hx hby sg0_484_2 (pc' := 486) (L' := #[.val (.long j0), .second, .val (.long j1), .second, .val (.int i2), .val (.int i3), .val (.int i4), .val (.int i5), .val (.int v1), .val (.int (0 : Int32)), .val (.int v11), .val (.int (0 : Int32)), .val (.int v21), .val (.int v22), .val (.long v23), .second, .val (.long v28), .second, .val (.long v29), .second, .val (.long v30), .second, .val (.long v31), .second, .val (.long (j1 + v23)), .second, .val (.long v32), .second, .val (.long v37), .second, .val (.long v42), .second, .val (.long v47), .second, .val (.long (100000000 : Int64)), .second, .val (.long v48), .second, .val (.ref b49), .val (.long r56), .second, .val (.long r62), .second, .val (.long r68), .second, .val (.int (0 : Int32)), .val (.int v78), .val (.int v108), .val (.int v94), .val (.long v99), .second, .val (.long v104), .second]) (S' := [(.int (lcmpW r68 (0 : Int64)))]) rfl ?_
                by_cases c120 : r68 = (0 : Int64)
                · skip
                  refine Home.go (fun _ => XS.ifNo XJ107.here hx rfl (hb hby at_486) rfl ((if0 _ _).trans (teq ((lw_eq _ _).mpr c120)).2)) ?_
                  refine Home.run XJ107 hx hby sg0_489_2 (pc' := 494) (L' := #[.val (.long j0), .second, .val (.long j1), .second, .val (.int i2), .val (.int i3), .val (.int i4), .val (.int i5), .val (.int v1), .val (.int (0 : Int32)), .val (.int v11), .val (.int (0 : Int32)), .val (.int v21), .val (.int v22), .val (.long v23), .second, .val (.long v28), .second, .val (.long v29), .second, .val (.long v30), .second, .val (.long v31), .second, .val (.long (j1 + v23)), .second, .val (.long v32), .second, .val (.long v37), .second, .val (.long v42), .second, .val (.long v47), .second, .val (.long (100000000 : Int64)), .second, .val (.long v48), .second, .val (.ref b49), .val (.long r56), .second, .val (.long r62), .second, .val (.long r68), .second, .val (.int (0 : Int32)), .val (.int v78), .val (.int v108), .val (.int v94), .val (.long v99), .second, .val (.long v104), .second]) (S' := [(.int (1 : Int32))]) rfl ?_
                  exact J122 XJ107 NJ107 eJ107 _ (by simp only [if_pos c109, if_neg c110, if_pos c117, if_pos c118, if_pos c120])
                · skip
                  refine Home.go (fun _ => XS.ifYes XJ107.here hx rfl (pc0 := 486) (pc' := 493) rfl (hb hby at_486) rfl ((if0 _ _).trans (feq (mt (lw_eq _ _).mp c120)).2) (by decide) (by decide)) ?_
                  refine Home.run XJ107 hx hby sg0_493_1 (pc' := 494) (L' := #[.val (.long j0), .second, .val (.long j1), .second, .val (.int i2), .val (.int i3), .val (.int i4), .val (.int i5), .val (.int v1), .val (.int (0 : Int32)), .val (.int v11), .val (.int (0 : Int32)), .val (.int v21), .val (.int v22), .val (.long v23), .second, .val (.long v28), .second, .val (.long v29), .second, .val (.long v30), .second, .val (.long v31), .second, .val (.long (j1 + v23)), .second, .val (.long v32), .second, .val (.long v37), .second, .val (.long v42), .second, .val (.long v47), .second, .val (.long (100000000 : Int64)), .second, .val (.long v48), .second, .val (.ref b49), .val (.long r56), .second, .val (.long r62), .second, .val (.long r68), .second, .val (.int (0 : Int32)), .val (.int v78), .val (.int v108), .val (.int v94), .val (.long v99), .second, .val (.long v104), .second]) (S' := [(.int (0 : Int32))]) rfl ?_
                  exact J122 XJ107 NJ107 eJ107 _ (by simp only [if_pos c109, if_neg c110, if_pos c117, if_pos c118, if_neg c120])
              · skip
                refine Home.go (fun _ => XS.ifNo XJ107.here hx rfl (hb hby at_476) rfl ((if0 _ _).trans (feq c118).1)) ?_
                refine Home.run XJ107 hx hby sg0_479_3 (pc' := 486) (L' := #[.val (.long j0), .second, .val (.long j1), .second, .val (.int i2), .val (.int i3), .val (.int i4), .val (.int i5), .val (.int v1), .val (.int (0 : Int32)), .val (.int v11), .val (.int (0 : Int32)), .val (.int v21), .val (.int v22), .val (.long v23), .second, .val (.long v28), .second, .val (.long v29), .second, .val (.long v30), .second, .val (.long v31), .second, .val (.long (j1 + v23)), .second, .val (.long v32), .second, .val (.long v37), .second, .val (.long v42), .second, .val (.long v47), .second, .val (.long (100000000 : Int64)), .second, .val (.long v48), .second, .val (.ref b49), .val (.long r56), .second, .val (.long r62), .second, .val (.long r68), .second, .val (.int (0 : Int32)), .val (.int v78), .val (.int v108), .val (.int v94), .val (.long v99), .second, .val (.long v104), .second]) (S' := [(.int (lcmpW r68 v48))]) rfl ?_
                by_cases c121 : r68 = v48
                · skip
                  refine Home.go (fun _ => XS.ifNo XJ107.here hx rfl (hb hby at_486) rfl ((if0 _ _).trans (teq ((lw_eq _ _).mpr c121)).2)) ?_
                  refine Home.run XJ107 hx hby sg0_489_2 (pc' := 494) (L' := #[.val (.long j0), .second, .val (.long j1), .second, .val (.int i2), .val (.int i3), .val (.int i4), .val (.int i5), .val (.int v1), .val (.int (0 : Int32)), .val (.int v11), .val (.int (0 : Int32)), .val (.int v21), .val (.int v22), .val (.long v23), .second, .val (.long v28), .second, .val (.long v29), .second, .val (.long v30), .second, .val (.long v31), .second, .val (.long (j1 + v23)), .second, .val (.long v32), .second, .val (.long v37), .second, .val (.long v42), .second, .val (.long v47), .second, .val (.long (100000000 : Int64)), .second, .val (.long v48), .second, .val (.ref b49), .val (.long r56), .second, .val (.long r62), .second, .val (.long r68), .second, .val (.int (0 : Int32)), .val (.int v78), .val (.int v108), .val (.int v94), .val (.long v99), .second, .val (.long v104), .second]) (S' := [(.int (1 : Int32))]) rfl ?_
                  exact J122 XJ107 NJ107 eJ107 _ (by simp only [if_pos c109, if_neg c110, if_pos c117, if_neg c118, if_pos c121])
                · skip
                  refine Home.go (fun _ => XS.ifYes XJ107.here hx rfl (pc0 := 486) (pc' := 493) rfl (hb hby at_486) rfl ((if0 _ _).trans (feq (mt (lw_eq _ _).mp c121)).2) (by decide) (by decide)) ?_
                  refine Home.run XJ107 hx hby sg0_493_1 (pc' := 494) (L' := #[.val (.long j0), .second, .val (.long j1), .second, .val (.int i2), .val (.int i3), .val (.int i4), .val (.int i5), .val (.int v1), .val (.int (0 : Int32)), .val (.int v11), .val (.int (0 : Int32)), .val (.int v21), .val (.int v22), .val (.long v23), .second, .val (.long v28), .second, .val (.long v29), .second, .val (.long v30), .second, .val (.long v31), .second, .val (.long (j1 + v23)), .second, .val (.long v32), .second, .val (.long v37), .second, .val (.long v42), .second, .val (.long v47), .second, .val (.long (100000000 : Int64)), .second, .val (.long v48), .second, .val (.ref b49), .val (.long r56), .second, .val (.long r62), .second, .val (.long r68), .second, .val (.int (0 : Int32)), .val (.int v78), .val (.int v108), .val (.int v94), .val (.long v99), .second, .val (.long v104), .second]) (S' := [(.int (0 : Int32))]) rfl ?_
                  exact J122 XJ107 NJ107 eJ107 _ (by simp only [if_pos c109, if_neg c110, if_pos c117, if_neg c118, if_neg c121])
            · skip
              refine Home.go (fun _ => XS.ifYes XJ107.here hx rfl (pc0 := 469) (pc' := 493) rfl (hb hby at_469) rfl ((if0 _ _).trans (feq (mt (lw_eq _ _).mp c117)).2) (by decide) (by decide)) ?_
              refine Home.run XJ107 hx hby sg0_493_1 (pc' := 494) (L' := #[.val (.long j0), .second, .val (.long j1), .second, .val (.int i2), .val (.int i3), .val (.int i4), .val (.int i5), .val (.int v1), .val (.int (0 : Int32)), .val (.int v11), .val (.int (0 : Int32)), .val (.int v21), .val (.int v22), .val (.long v23), .second, .val (.long v28), .second, .val (.long v29), .second, .val (.long v30), .second, .val (.long v31), .second, .val (.long (j1 + v23)), .second, .val (.long v32), .second, .val (.long v37), .second, .val (.long v42), .second, .val (.long v47), .second, .val (.long (100000000 : Int64)), .second, .val (.long v48), .second, .val (.ref b49), .val (.long r56), .second, .val (.long r62), .second, .val (.long r68), .second, .val (.int (0 : Int32)), .val (.int v78), .val (.int v108), .val (.int v94), .val (.long v99), .second, .val (.long v104), .second]) (S' := [(.int (0 : Int32))]) rfl ?_
              exact J122 XJ107 NJ107 eJ107 _ (by simp only [if_pos c109, if_neg c110, if_neg c117])
        · skip
          refine Home.go (fun _ => XS.ifYes XJ107.here hx rfl (pc0 := 452) (pc' := 493) rfl (hb hby at_452) rfl ((if0 _ _).trans (feq (mt (lw_eq _ _).mp c109)).2) (by decide) (by decide)) ?_
          refine Home.run XJ107 hx hby sg0_493_1 (pc' := 494) (L' := #[.val (.long j0), .second, .val (.long j1), .second, .val (.int i2), .val (.int i3), .val (.int i4), .val (.int i5), .val (.int v1), .val (.int (0 : Int32)), .val (.int v11), .val (.int (0 : Int32)), .val (.int v21), .val (.int v22), .val (.long v23), .second, .val (.long v28), .second, .val (.long v29), .second, .val (.long v30), .second, .val (.long v31), .second, .val (.long (j1 + v23)), .second, .val (.long v32), .second, .val (.long v37), .second, .val (.long v42), .second, .val (.long v47), .second, .val (.long (100000000 : Int64)), .second, .val (.long v48), .second, .val (.ref b49), .val (.long r56), .second, .val (.long r62), .second, .val (.long r68), .second, .val (.int (0 : Int32)), .val (.int v78), .val (.int v108), .val (.int v94), .val (.long v99), .second, .val (.long v104), .second]) (S' := [(.int (0 : Int32))]) rfl ?_
          exact J122 XJ107 NJ107 eJ107 _ (by simp only [if_neg c109])
      intro TJ122 lcJ122 XJ122 NJ122 eJ122 v123 hv123
      have bv123 : ¬ v123 < (0 : Int32) ∧ ¬ (1 : Int32) < v123 := by rw [hv123]; (repeat' split) <;> first | exact bnd_mono (bnd_lit (1 : Int32)) (by decide +kernel) (by decide +kernel) | exact bnd_mono (bnd_lit (0 : Int32)) (by decide +kernel) (by decide +kernel)
      show Home TJ122 (mkF m 494 #[.val (.long j0), .second, .val (.long j1), .second, .val (.int i2), .val (.int i3), .val (.int i4), .val (.int i5), .val (.int v1), .val (.int (0 : Int32)), .val (.int v11), .val (.int (0 : Int32)), .val (.int v21), .val (.int v22), .val (.long v23), .second, .val (.long v28), .second, .val (.long v29), .second, .val (.long v30), .second, .val (.long v31), .second, .val (.long (j1 + v23)), .second, .val (.long v32), .second, .val (.long v37), .second, .val (.long v42), .second, .val (.long v47), .second, .val (.long (100000000 : Int64)), .second, .val (.long v48), .second, .val (.ref b49), .val (.long r56), .second, .val (.long r62), .second, .val (.long r68), .second, .val (.int (0 : Int32)), .val (.int v78), .val (.int v108), .val (.int v94), .val (.long v99), .second, .val (.long v104), .second] [(.int v123)])
      exact Home.retN XJ122 hx hlk (t := .boolean) hret (by simp) (hb hby at_494) ⟨congrArg some (congrArg Value.int (own_end0 j0 j1 i2 i3 i4 i5 v1 hv1 v6 hv6 v11 hv11 v16 hv16 v21 hv21 v22 hv22 v23 hv23 v28 hv28 v29 hv29 v30 hv30 v31 hv31 v32 hv32 v37 hv37 v42 hv42 v47 hv47 v48 hv48 r52 hr52 r53 hr53 r54 hr54 r55 hr55 r56 hr56 r58 hr58 r59 hr59 r60 hr60 r61 hr61 r62 hr62 r64 hr64 r65 hr65 r66 hr66 r67 hr67 r68 hr68 v78 hv78 v94 hv94 v99 hv99 v104 hv104 v108 hv108 v123 hv123 c79 c84)), NJ122⟩ (by decide) (by decide)
    · skip
      refine Home.go (fun _ => XS.ifNo XJ77.here hx rfl (hb hby at_327) rfl ((if0 _ _).trans (feq c84).1)) ?_
      have bd87 : ¬ v6 < (1 : Int32) ∧ ¬ (1 : Int32) < v6 := ⟨(bnd_nel bv6.1 c84 (by decide +kernel)), bv6.2⟩
      have fx88 : v6 = (1 : Int32) := bnd_fix bd87
      try rw [fx88]
      show Home TJ77 (mkF m 330 #[.val (.long j0), .second, .val (.long j1), .second, .val (.int i2), .val (.int i3), .val (.int i4), .val (.int i5), .val (.int v1), .val (.int (1 : Int32)), .val (.int v11), .val (.int (0 : Int32)), .val (.int v21), .val (.int v22), .val (.long v23), .second, .val (.long v28), .second, .val (.long v29), .second, .val (.long v30), .second, .val (.long v31), .second, .val (.long (j1 + v23)), .second, .val (.long v32), .second, .val (.long v37), .second, .val (.long v42), .second, .val (.long v47), .second, .val (.long (100000000 : Int64)), .second, .val (.long v48), .second, .val (.ref b49), .val (.long r56), .second, .val (.long r62), .second, .val (.long r68), .second, .val (.int (1 : Int32)), .val (.int v78), .unset, .unset, .unset, .unset, .unset, .unset] [])
      refine Home.run XJ77 hx hby sg0_330_1 (pc' := 332) (L' := #[.val (.long j0), .second, .val (.long j1), .second, .val (.int i2), .val (.int i3), .val (.int i4), .val (.int i5), .val (.int v1), .val (.int (1 : Int32)), .val (.int v11), .val (.int (0 : Int32)), .val (.int v21), .val (.int v22), .val (.long v23), .second, .val (.long v28), .second, .val (.long v29), .second, .val (.long v30), .second, .val (.long v31), .second, .val (.long (j1 + v23)), .second, .val (.long v32), .second, .val (.long v37), .second, .val (.long v42), .second, .val (.long v47), .second, .val (.long (100000000 : Int64)), .second, .val (.long v48), .second, .val (.ref b49), .val (.long r56), .second, .val (.long r62), .second, .val (.long r68), .second, .val (.int (1 : Int32)), .val (.int v78), .unset, .unset, .unset, .unset, .unset, .unset]) (S' := [(.int v11)]) rfl ?_
      by_cases c124 : v11 = (0 : Int32)
      · skip
        refine Home.go (fun _ => XS.ifYes XJ77.here hx rfl (pc0 := 332) (pc' := 341) rfl (hb hby at_332) rfl ((if0 _ _).trans (teq c124).1) (by decide) (by decide)) ?_
        have bd125 : ¬ v11 < (0 : Int32) ∧ ¬ (0 : Int32) < v11 := ⟨(bnd_eql c124), (bnd_eqr c124)⟩
        have fx126 : v11 = (0 : Int32) := bnd_fix bd125
        try rw [fx126]
        show Home TJ77 (mkF m 341 #[.val (.long j0), .second, .val (.long j1), .second, .val (.int i2), .val (.int i3), .val (.int i4), .val (.int i5), .val (.int v1), .val (.int (1 : Int32)), .val (.int (0 : Int32)), .val (.int (0 : Int32)), .val (.int v21), .val (.int v22), .val (.long v23), .second, .val (.long v28), .second, .val (.long v29), .second, .val (.long v30), .second, .val (.long v31), .second, .val (.long (j1 + v23)), .second, .val (.long v32), .second, .val (.long v37), .second, .val (.long v42), .second, .val (.long v47), .second, .val (.long (100000000 : Int64)), .second, .val (.long v48), .second, .val (.ref b49), .val (.long r56), .second, .val (.long r62), .second, .val (.long r68), .second, .val (.int (1 : Int32)), .val (.int v78), .unset, .unset, .unset, .unset, .unset, .unset] [])
        refine Home.run XJ77 hx hby sg0_341_1 (pc' := 343) (L' := #[.val (.long j0), .second, .val (.long j1), .second, .val (.int i2), .val (.int i3), .val (.int i4), .val (.int i5), .val (.int v1), .val (.int (1 : Int32)), .val (.int (0 : Int32)), .val (.int (0 : Int32)), .val (.int v21), .val (.int v22), .val (.long v23), .second, .val (.long v28), .second, .val (.long v29), .second, .val (.long v30), .second, .val (.long v31), .second, .val (.long (j1 + v23)), .second, .val (.long v32), .second, .val (.long v37), .second, .val (.long v42), .second, .val (.long v47), .second, .val (.long (100000000 : Int64)), .second, .val (.long v48), .second, .val (.ref b49), .val (.long r56), .second, .val (.long r62), .second, .val (.long r68), .second, .val (.int (1 : Int32)), .val (.int v78), .unset, .unset, .unset, .unset, .unset, .unset]) (S' := [(.int (0 : Int32))]) rfl ?_
        refine Home.go (fun _ => XS.ifNo XJ77.here hx rfl (hb hby at_343) rfl ((if0 _ _).trans (teq (by decide)).2)) ?_
        refine Home.run XJ77 hx hby sg0_346_1 (pc' := 348) (L' := #[.val (.long j0), .second, .val (.long j1), .second, .val (.int i2), .val (.int i3), .val (.int i4), .val (.int i5), .val (.int v1), .val (.int (1 : Int32)), .val (.int (0 : Int32)), .val (.int (0 : Int32)), .val (.int v21), .val (.int v22), .val (.long v23), .second, .val (.long v28), .second, .val (.long v29), .second, .val (.long v30), .second, .val (.long v31), .second, .val (.long (j1 + v23)), .second, .val (.long v32), .second, .val (.long v37), .second, .val (.long v42), .second, .val (.long v47), .second, .val (.long (100000000 : Int64)), .second, .val (.long v48), .second, .val (.ref b49), .val (.long r56), .second, .val (.long r62), .second, .val (.long r68), .second, .val (.int (1 : Int32)), .val (.int v78), .unset, .unset, .unset, .unset, .unset, .unset]) (S' := [(.int (1 : Int32))]) rfl ?_
        refine Home.go (fun _ => XS.ifYes XJ77.here hx rfl (pc0 := 348) (pc' := 359) rfl (hb hby at_348) rfl ((if0 _ _).trans (feq (by decide)).2) (by decide) (by decide)) ?_
        refine Home.run XJ77 hx hby sg0_359_4 (pc' := 368) (L' := #[.val (.long j0), .second, .val (.long j1), .second, .val (.int i2), .val (.int i3), .val (.int i4), .val (.int i5), .val (.int v1), .val (.int (1 : Int32)), .val (.int (0 : Int32)), .val (.int (0 : Int32)), .val (.int v21), .val (.int v22), .val (.long v23), .second, .val (.long v28), .second, .val (.long v29), .second, .val (.long v30), .second, .val (.long v31), .second, .val (.long (j1 + v23)), .second, .val (.long v32), .second, .val (.long v37), .second, .val (.long v42), .second, .val (.long v47), .second, .val (.long (100000000 : Int64)), .second, .val (.long v48), .second, .val (.ref b49), .val (.long r56), .second, .val (.long r62), .second, .val (.long r68), .second, .val (.int (1 : Int32)), .val (.int v78), .unset, .val (.int (1 : Int32)), .unset, .unset, .unset, .unset]) (S' := [(.int (1 : Int32))]) rfl ?_
        refine Home.go (fun _ => XS.ifNo XJ77.here hx rfl (hb hby at_368) rfl ((if0 _ _).trans (feq (by decide)).1)) ?_
        refine Home.run XJ77 hx hby sg0_371_4 (pc' := 385) (L' := #[.val (.long j0), .second, .val (.long j1), .second, .val (.int i2), .val (.int i3), .val (.int i4), .val (.int i5), .val (.int v1), .val (.int (1 : Int32)), .val (.int (0 : Int32)), .val (.int (0 : Int32)), .val (.int v21), .val (.int v22), .val (.long v23), .second, .val (.long v28), .second, .val (.long v29), .second, .val (.long v30), .second, .val (.long v31), .second, .val (.long (j1 + v23)), .second, .val (.long v32), .second, .val (.long v37), .second, .val (.long v42), .second, .val (.long v47), .second, .val (.long (100000000 : Int64)), .second, .val (.long v48), .second, .val (.ref b49), .val (.long r56), .second, .val (.long r62), .second, .val (.long r68), .second, .val (.int (1 : Int32)), .val (.int v78), .unset, .val (.int (1 : Int32)), .val (.long v28), .second, .unset, .unset]) (S' := [(.int (1 : Int32))]) rfl ?_
        refine Home.go (fun _ => XS.ifNo XJ77.here hx rfl (hb hby at_385) rfl ((if0 _ _).trans (feq (by decide)).1)) ?_
        refine Home.run XJ77 hx hby sg0_388_6 (pc' := 405) (L' := #[.val (.long j0), .second, .val (.long j1), .second, .val (.int i2), .val (.int i3), .val (.int i4), .val (.int i5), .val (.int v1), .val (.int (1 : Int32)), .val (.int (0 : Int32)), .val (.int (0 : Int32)), .val (.int v21), .val (.int v22), .val (.long v23), .second, .val (.long v28), .second, .val (.long v29), .second, .val (.long v30), .second, .val (.long v31), .second, .val (.long (j1 + v23)), .second, .val (.long v32), .second, .val (.long v37), .second, .val (.long v42), .second, .val (.long v47), .second, .val (.long (100000000 : Int64)), .second, .val (.long v48), .second, .val (.ref b49), .val (.long r56), .second, .val (.long r62), .second, .val (.long r68), .second, .val (.int (1 : Int32)), .val (.int v78), .unset, .val (.int (1 : Int32)), .val (.long v28), .second, .val (.long v31), .second]) (S' := [(.int (lcmpW v28 (100000000 : Int64)))]) rfl ?_
        suffices J131 : ∀ {T : State} {lc : List Loc} (X : Stand p l e room_1 s m #[(.long j0), (.long j1), (.int i2), (.int i3), (.int i4), (.int i5)] below meth c T lc 1 5) (N : Fr n0 lc) (eT : T.heap = T63.heap) (v132 : Int32) (hv132 : v132 = (if v28 < (100000000 : Int64) then v78 else (if (v28 * (v1.toInt64)) < (v31 * (2 : Int64)) then (1 : Int32) else (0 : Int32)))), @Home p e below s _ _ _ T (mkF m 438 #[.val (.long j0), .second, .val (.long j1), .second, .val (.int i2), .val (.int i3), .val (.int i4), .val (.int i5), .val (.int v1), .val (.int (1 : Int32)), .val (.int (0 : Int32)), .val (.int (0 : Int32)), .val (.int v21), .val (.int v22), .val (.long v23), .second, .val (.long v28), .second, .val (.long v29), .second, .val (.long v30), .second, .val (.long v31), .second, .val (.long (j1 + v23)), .second, .val (.long v32), .second, .val (.long v37), .second, .val (.long v42), .second, .val (.long v47), .second, .val (.long (100000000 : Int64)), .second, .val (.long v48), .second, .val (.ref b49), .val (.long r56), .second, .val (.long r62), .second, .val (.long r68), .second, .val (.int (1 : Int32)), .val (.int v78), .val (.int v132), .val (.int (1 : Int32)), .val (.long v28), .second, .val (.long v31), .second] []) by
          by_cases c129 : v28 < (100000000 : Int64)
          · skip
            refine Home.go (fun _ => XS.ifYes XJ77.here hx rfl (pc0 := 405) (pc' := 434) rfl (hb hby at_405) rfl ((if0 _ _).trans (tlt ((lw_lt _ _).mpr c129)).1) (by decide) (by decide)) ?_
            refine Home.run XJ77 hx hby sg0_434_2 (pc' := 438) (L' := #[.val (.long j0), .second, .val (.long j1), .second, .val (.int i2), .val (.int i3), .val (.int i4), .val (.int i5), .val (.int v1), .val (.int (1 : Int32)), .val (.int (0 : Int32)), .val (.int (0 : Int32)), .val (.int v21), .val (.int v22), .val (.long v23), .second, .val (.long v28), .second, .val (.long v29), .second, .val (.long v30), .second, .val (.long v31), .second, .val (.long (j1 + v23)), .second, .val (.long v32), .second, .val (.long v37), .second, .val (.long v42), .second, .val (.long v47), .second, .val (.long (100000000 : Int64)), .second, .val (.long v48), .second, .val (.ref b49), .val (.long r56), .second, .val (.long r62), .second, .val (.long r68), .second, .val (.int (1 : Int32)), .val (.int v78), .val (.int v78), .val (.int (1 : Int32)), .val (.long v28), .second, .val (.long v31), .second]) (S' := []) rfl ?_
            exact J131 XJ77 NJ77 eJ77 _ (by simp only [if_pos c129])
          · skip
            refine Home.go (fun _ => XS.ifNo XJ77.here hx rfl (hb hby at_405) rfl ((if0 _ _).trans (flt (mt (lw_lt _ _).mp c129)).1)) ?_
            refine Home.run XJ77 hx hby sg0_408_1 (pc' := 410) (L' := #[.val (.long j0), .second, .val (.long j1), .second, .val (.int i2), .val (.int i3), .val (.int i4), .val (.int i5), .val (.int v1), .val (.int (1 : Int32)), .val (.int (0 : Int32)), .val (.int (0 : Int32)), .val (.int v21), .val (.int v22), .val (.long v23), .second, .val (.long v28), .second, .val (.long v29), .second, .val (.long v30), .second, .val (.long v31), .second, .val (.long (j1 + v23)), .second, .val (.long v32), .second, .val (.long v37), .second, .val (.long v42), .second, .val (.long v47), .second, .val (.long (100000000 : Int64)), .second, .val (.long v48), .second, .val (.ref b49), .val (.long r56), .second, .val (.long r62), .second, .val (.long r68), .second, .val (.int (1 : Int32)), .val (.int v78), .unset, .val (.int (1 : Int32)), .val (.long v28), .second, .val (.long v31), .second]) (S' := [(.long v31)]) rfl ?_
            refine Home.go (XJ77.ldc2Long hx hown (mvT hZ (own_w32 hw)) rfl (hb hby at_410)) ?_
            refine Home.run XJ77 hx hby sg0_413_6 (pc' := 421) (L' := #[.val (.long j0), .second, .val (.long j1), .second, .val (.int i2), .val (.int i3), .val (.int i4), .val (.int i5), .val (.int v1), .val (.int (1 : Int32)), .val (.int (0 : Int32)), .val (.int (0 : Int32)), .val (.int v21), .val (.int v22), .val (.long v23), .second, .val (.long v28), .second, .val (.long v29), .second, .val (.long v30), .second, .val (.long v31), .second, .val (.long (j1 + v23)), .second, .val (.long v32), .second, .val (.long v37), .second, .val (.long v42), .second, .val (.long v47), .second, .val (.long (100000000 : Int64)), .second, .val (.long v48), .second, .val (.ref b49), .val (.long r56), .second, .val (.long r62), .second, .val (.long r68), .second, .val (.int (1 : Int32)), .val (.int v78), .unset, .val (.int (1 : Int32)), .val (.long v28), .second, .val (.long v31), .second]) (S' := [(.int (lcmpW (v31 * (2 : Int64)) (v28 * (v1.toInt64))))]) rfl ?_
            by_cases c130 : (v28 * (v1.toInt64)) < (v31 * (2 : Int64))
            · skip
              refine Home.go (fun _ => XS.ifNo XJ77.here hx rfl (hb hby at_421) rfl ((if0 _ _).trans (tlt ((lw_gt _ _).mpr c130)).2.2.2)) ?_
              refine Home.run XJ77 hx hby sg0_424_4 (pc' := 438) (L' := #[.val (.long j0), .second, .val (.long j1), .second, .val (.int i2), .val (.int i3), .val (.int i4), .val (.int i5), .val (.int v1), .val (.int (1 : Int32)), .val (.int (0 : Int32)), .val (.int (0 : Int32)), .val (.int v21), .val (.int v22), .val (.long v23), .second, .val (.long v28), .second, .val (.long v29), .second, .val (.long v30), .second, .val (.long v31), .second, .val (.long (j1 + v23)), .second, .val (.long v32), .second, .val (.long v37), .second, .val (.long v42), .second, .val (.long v47), .second, .val (.long (100000000 : Int64)), .second, .val (.long v48), .second, .val (.ref b49), .val (.long r56), .second, .val (.long r62), .second, .val (.long r68), .second, .val (.int (1 : Int32)), .val (.int v78), .val (.int (1 : Int32)), .val (.int (1 : Int32)), .val (.long v28), .second, .val (.long v31), .second]) (S' := []) rfl ?_
              exact J131 XJ77 NJ77 eJ77 _ (by simp only [if_neg c129, if_pos c130])
            · skip
              refine Home.go (fun _ => XS.ifYes XJ77.here hx rfl (pc0 := 421) (pc' := 428) rfl (hb hby at_421) rfl ((if0 _ _).trans (flt (mt (lw_gt _ _).mp c130)).2.2.2) (by decide) (by decide)) ?_
              refine Home.run XJ77 hx hby sg0_428_3 (pc' := 438) (L' := #[.val (.long j0), .second, .val (.long j1), .second, .val (.int i2), .val (.int i3), .val (.int i4), .val (.int i5), .val (.int v1), .val (.int (1 : Int32)), .val (.int (0 : Int32)), .val (.int (0 : Int32)), .val (.int v21), .val (.int v22), .val (.long v23), .second, .val (.long v28), .second, .val (.long v29), .second, .val (.long v30), .second, .val (.long v31), .second, .val (.long (j1 + v23)), .second, .val (.long v32), .second, .val (.long v37), .second, .val (.long v42), .second, .val (.long v47), .second, .val (.long (100000000 : Int64)), .second, .val (.long v48), .second, .val (.ref b49), .val (.long r56), .second, .val (.long r62), .second, .val (.long r68), .second, .val (.int (1 : Int32)), .val (.int v78), .val (.int (0 : Int32)), .val (.int (1 : Int32)), .val (.long v28), .second, .val (.long v31), .second]) (S' := []) rfl ?_
              exact J131 XJ77 NJ77 eJ77 _ (by simp only [if_neg c129, if_neg c130])
        intro TJ131 lcJ131 XJ131 NJ131 eJ131 v132 hv132
        show Home TJ131 (mkF m 438 #[.val (.long j0), .second, .val (.long j1), .second, .val (.int i2), .val (.int i3), .val (.int i4), .val (.int i5), .val (.int v1), .val (.int (1 : Int32)), .val (.int (0 : Int32)), .val (.int (0 : Int32)), .val (.int v21), .val (.int v22), .val (.long v23), .second, .val (.long v28), .second, .val (.long v29), .second, .val (.long v30), .second, .val (.long v31), .second, .val (.long (j1 + v23)), .second, .val (.long v32), .second, .val (.long v37), .second, .val (.long v42), .second, .val (.long v47), .second, .val (.long (100000000 : Int64)), .second, .val (.long v48), .second, .val (.ref b49), .val (.long r56), .second, .val (.long r62), .second, .val (.long r68), .second, .val (.int (1 : Int32)), .val (.int v78), .val (.int v132), .val (.int (1 : Int32)), .val (.long v28), .second, .val (.long v31), .second] [])
        refine Home.run XJ131 hx hby sg0_438_2 (pc' := 442) (L' := #[.val (.long j0), .second, .val (.long j1), .second, .val (.int i2), .val (.int i3), .val (.int i4), .val (.int i5), .val (.int v1), .val (.int (1 : Int32)), .val (.int (0 : Int32)), .val (.int (0 : Int32)), .val (.int v21), .val (.int v22), .val (.long v23), .second, .val (.long v28), .second, .val (.long v29), .second, .val (.long v30), .second, .val (.long v31), .second, .val (.long (j1 + v23)), .second, .val (.long v32), .second, .val (.long v37), .second, .val (.long v42), .second, .val (.long v47), .second, .val (.long (100000000 : Int64)), .second, .val (.long v48), .second, .val (.ref b49), .val (.long r56), .second, .val (.long r62), .second, .val (.long r68), .second, .val (.int (1 : Int32)), .val (.int v78), .val (.int v132), .val (.int (1 : Int32)), .val (.long v28), .second, .val (.long v31), .second]) (S' := [(.int (1 : Int32)), (.long r56)]) rfl ?_
        refine Home.go (fun _ => XS.ifNo XJ131.here hx rfl (hb hby at_442) rfl ((if0 _ _).trans (feq (by decide)).1)) ?_
        refine Home.run XJ131 hx hby sg0_445_3 (pc' := 452) (L' := #[.val (.long j0), .second, .val (.long j1), .second, .val (.int i2), .val (.int i3), .val (.int i4), .val (.int i5), .val (.int v1), .val (.int (1 : Int32)), .val (.int (0 : Int32)), .val (.int (0 : Int32)), .val (.int v21), .val (.int v22), .val (.long v23), .second, .val (.long v28), .second, .val (.long v29), .second, .val (.long v30), .second, .val (.long v31), .second, .val (.long (j1 + v23)), .second, .val (.long v32), .second, .val (.long v37), .second, .val (.long v42), .second, .val (.long v47), .second, .val (.long (100000000 : Int64)), .second, .val (.long v48), .second, .val (.ref b49), .val (.long r56), .second, .val (.long r62), .second, .val (.long r68), .second, .val (.int (1 : Int32)), .val (.int v78), .val (.int v132), .val (.int (1 : Int32)), .val (.long v28), .second, .val (.long v31), .second]) (S' := [(.int (lcmpW r56 v48))]) rfl ?_
        suffices J146 : ∀ {T : State} {lc : List Loc} (X : Stand p l e room_1 s m #[(.long j0), (.long j1), (.int i2), (.int i3), (.int i4), (.int i5)] below meth c T lc 1 5) (N : Fr n0 lc) (eT : T.heap = T63.heap) (v147 : Int32) (hv147 : v147 = (if r56 = v48 then (if v78 = (0 : Int32) then (if r62 = (0 : Int64) then (if v132 = (0 : Int32) then (if r68 = (0 : Int64) then (1 : Int32) else (0 : Int32)) else (if r68 = v48 then (1 : Int32) else (0 : Int32))) else (0 : Int32)) else (if r62 = v48 then (if v132 = (0 : Int32) then (if r68 = (0 : Int64) then (1 : Int32) else (0 : Int32)) else (if r68 = v48 then (1 : Int32) else (0 : Int32))) else (0 : Int32))) else (0 : Int32))), @Home p e below s _ _ _ T (mkF m 494 #[.val (.long j0), .second, .val (.long j1), .second, .val (.int i2), .val (.int i3), .val (.int i4), .val (.int i5), .val (.int v1), .val (.int (1 : Int32)), .val (.int (0 : Int32)), .val (.int (0 : Int32)), .val (.int v21), .val (.int v22), .val (.long v23), .second, .val (.long v28), .second, .val (.long v29), .second, .val (.long v30), .second, .val (.long v31), .second, .val (.long (j1 + v23)), .second, .val (.long v32), .second, .val (.long v37), .second, .val (.long v42), .second, .val (.long v47), .second, .val (.long (100000000 : Int64)), .second, .val (.long v48), .second, .val (.ref b49), .val (.long r56), .second, .val (.long r62), .second, .val (.long r68), .second, .val (.int (1 : Int32)), .val (.int v78), .val (.int v132), .val (.int (1 : Int32)), .val (.long v28), .second, .val (.long v31), .second] [(.int v147)]) by
          by_cases c133 : r56 = v48
          · skip
            refine Home.go (fun _ => XS.ifNo XJ131.here hx rfl (hb hby at_452) rfl ((if0 _ _).trans (teq ((lw_eq _ _).mpr c133)).2)) ?_
            refine Home.run XJ131 hx hby sg0_455_2 (pc' := 459) (L' := #[.val (.long j0), .second, .val (.long j1), .second, .val (.int i2), .val (.int i3), .val (.int i4), .val (.int i5), .val (.int v1), .val (.int (1 : Int32)), .val (.int (0 : Int32)), .val (.int (0 : Int32)), .val (.int v21), .val (.int v22), .val (.long v23), .second, .val (.long v28), .second, .val (.long v29), .second, .val (.long v30), .second, .val (.long v31), .second, .val (.long (j1 + v23)), .second, .val (.long v32), .second, .val (.long v37), .second, .val (.long v42), .second, .val (.long v47), .second, .val (.long (100000000 : Int64)), .second, .val (.long v48), .second, .val (.ref b49), .val (.long r56), .second, .val (.long r62), .second, .val (.long r68), .second, .val (.int (1 : Int32)), .val (.int v78), .val (.int v132), .val (.int (1 : Int32)), .val (.long v28), .second, .val (.long v31), .second]) (S' := [(.int v78), (.long r62)]) rfl ?_
            by_cases c134 : v78 = (0 : Int32)
            · skip
              refine Home.go (fun _ => XS.ifYes XJ131.here hx rfl (pc0 := 459) (pc' := 467) rfl (hb hby at_459) rfl ((if0 _ _).trans (teq c134).1) (by decide) (by decide)) ?_
              have bd135 : ¬ v78 < (0 : Int32) ∧ ¬ (0 : Int32) < v78 := ⟨(bnd_eql c134), (bnd_eqr c134)⟩
              refine Home.run XJ131 hx hby sg0_467_2 (pc' := 469) (L' := #[.val (.long j0), .second, .val (.long j1), .second, .val (.int i2), .val (.int i3), .val (.int i4), .val (.int i5), .val (.int v1), .val (.int (1 : Int32)), .val (.int (0 : Int32)), .val (.int (0 : Int32)), .val (.int v21), .val (.int v22), .val (.long v23), .second, .val (.long v28), .second, .val (.long v29), .second, .val (.long v30), .second, .val (.long v31), .second, .val (.long (j1 + v23)), .second, .val (.long v32), .second, .val (.long v37), .second, .val (.long v42), .second, .val (.long v47), .second, .val (.long (100000000 : Int64)), .second, .val (.long v48), .second, .val (.ref b49), .val (.long r56), .second, .val (.long r62), .second, .val (.long r68), .second, .val (.int (1 : Int32)), .val (.int v78), .val (.int v132), .val (.int (1 : Int32)), .val (.long v28), .second, .val (.long v31), .second]) (S' := [(.int (lcmpW r62 (0 : Int64)))]) rfl ?_
              by_cases c136 : r62 = (0 : Int64)
              · skip
                refine Home.go (fun _ => XS.ifNo XJ131.here hx rfl (hb hby at_469) rfl ((if0 _ _).trans (teq ((lw_eq _ _).mpr c136)).2)) ?_
                refine Home.run XJ131 hx hby sg0_472_2 (pc' := 476) (L' := #[.val (.long j0), .second, .val (.long j1), .second, .val (.int i2), .val (.int i3), .val (.int i4), .val (.int i5), .val (.int v1), .val (.int (1 : Int32)), .val (.int (0 : Int32)), .val (.int (0 : Int32)), .val (.int v21), .val (.int v22), .val (.long v23), .second, .val (.long v28), .second, .val (.long v29), .second, .val (.long v30), .second, .val (.long v31), .second, .val (.long (j1 + v23)), .second, .val (.long v32), .second, .val (.long v37), .second, .val (.long v42), .second, .val (.long v47), .second, .val (.long (100000000 : Int64)), .second, .val (.long v48), .second, .val (.ref b49), .val (.long r56), .second, .val (.long r62), .second, .val (.long r68), .second, .val (.int (1 : Int32)), .val (.int v78), .val (.int v132), .val (.int (1 : Int32)), .val (.long v28), .second, .val (.long v31), .second]) (S' := [(.int v132), (.long r68)]) rfl ?_
                by_cases c137 : v132 = (0 : Int32)
                · skip
                  refine Home.go (fun _ => XS.ifYes XJ131.here hx rfl (pc0 := 476) (pc' := 484) rfl (hb hby at_476) rfl ((if0 _ _).trans (teq c137).1) (by decide) (by decide)) ?_
                  have bd138 : ¬ v132 < (0 : Int32) ∧ ¬ (0 : Int32) < v132 := ⟨(bnd_eql c137), (bnd_eqr c137)⟩
                  refine Home.run XJ131 hx hby sg0_484_2 (pc' := 486) (L' := #[.val (.long j0), .second, .val (.long j1), .second, .val (.int i2), .val (.int i3), .val (.int i4), .val (.int i5), .val (.int v1), .val (.int (1 : Int32)), .val (.int (0 : Int32)), .val (.int (0 : Int32)), .val (.int v21), .val (.int v22), .val (.long v23), .second, .val (.long v28), .second, .val (.long v29), .second, .val (.long v30), .second, .val (.long v31), .second, .val (.long (j1 + v23)), .second, .val (.long v32), .second, .val (.long v37), .second, .val (.long v42), .second, .val (.long v47), .second, .val (.long (100000000 : Int64)), .second, .val (.long v48), .second, .val (.ref b49), .val (.long r56), .second, .val (.long r62), .second, .val (.long r68), .second, .val (.int (1 : Int32)), .val (.int v78), .val (.int v132), .val (.int (1 : Int32)), .val (.long v28), .second, .val (.long v31), .second]) (S' := [(.int (lcmpW r68 (0 : Int64)))]) rfl ?_
                  by_cases c139 : r68 = (0 : Int64)
                  · skip
                    refine Home.go (fun _ => XS.ifNo XJ131.here hx rfl (hb hby at_486) rfl ((if0 _ _).trans (teq ((lw_eq _ _).mpr c139)).2)) ?_
                    refine Home.run XJ131 hx hby sg0_489_2 (pc' := 494) (L' := #[.val (.long j0), .second, .val (.long j1), .second, .val (.int i2), .val (.int i3), .val (.int i4), .val (.int i5), .val (.int v1), .val (.int (1 : Int32)), .val (.int (0 : Int32)), .val (.int (0 : Int32)), .val (.int v21), .val (.int v22), .val (.long v23), .second, .val (.long v28), .second, .val (.long v29), .second, .val (.long v30), .second, .val (.long v31), .second, .val (.long (j1 + v23)), .second, .val (.long v32), .second, .val (.long v37), .second, .val (.long v42), .second, .val (.long v47), .second, .val (.long (100000000 : Int64)), .second, .val (.long v48), .second, .val (.ref b49), .val (.long r56), .second, .val (.long r62), .second, .val (.long r68), .second, .val (.int (1 : Int32)), .val (.int v78), .val (.int v132), .val (.int (1 : Int32)), .val (.long v28), .second, .val (.long v31), .second]) (S' := [(.int (1 : Int32))]) rfl ?_
                    exact J146 XJ131 NJ131 eJ131 _ (by simp only [if_pos c133, if_pos c134, if_pos c136, if_pos c137, if_pos c139])
                  · skip
                    refine Home.go (fun _ => XS.ifYes XJ131.here hx rfl (pc0 := 486) (pc' := 493) rfl (hb hby at_486) rfl ((if0 _ _).trans (feq (mt (lw_eq _ _).mp c139)).2) (by decide) (by decide)) ?_
                    refine Home.run XJ131 hx hby sg0_493_1 (pc' := 494) (L' := #[.val (.long j0), .second, .val (.long j1), .second, .val (.int i2), .val (.int i3), .val (.int i4), .val (.int i5), .val (.int v1), .val (.int (1 : Int32)), .val (.int (0 : Int32)), .val (.int (0 : Int32)), .val (.int v21), .val (.int v22), .val (.long v23), .second, .val (.long v28), .second, .val (.long v29), .second, .val (.long v30), .second, .val (.long v31), .second, .val (.long (j1 + v23)), .second, .val (.long v32), .second, .val (.long v37), .second, .val (.long v42), .second, .val (.long v47), .second, .val (.long (100000000 : Int64)), .second, .val (.long v48), .second, .val (.ref b49), .val (.long r56), .second, .val (.long r62), .second, .val (.long r68), .second, .val (.int (1 : Int32)), .val (.int v78), .val (.int v132), .val (.int (1 : Int32)), .val (.long v28), .second, .val (.long v31), .second]) (S' := [(.int (0 : Int32))]) rfl ?_
                    exact J146 XJ131 NJ131 eJ131 _ (by simp only [if_pos c133, if_pos c134, if_pos c136, if_pos c137, if_neg c139])
                · skip
                  refine Home.go (fun _ => XS.ifNo XJ131.here hx rfl (hb hby at_476) rfl ((if0 _ _).trans (feq c137).1)) ?_
                  refine Home.run XJ131 hx hby sg0_479_3 (pc' := 486) (L' := #[.val (.long j0), .second, .val (.long j1), .second, .val (.int i2), .val (.int i3), .val (.int i4), .val (.int i5), .val (.int v1), .val (.int (1 : Int32)), .val (.int (0 : Int32)), .val (.int (0 : Int32)), .val (.int v21), .val (.int v22), .val (.long v23), .second, .val (.long v28), .second, .val (.long v29), .second, .val (.long v30), .second, .val (.long v31), .second, .val (.long (j1 + v23)), .second, .val (.long v32), .second, .val (.long v37), .second, .val (.long v42), .second, .val (.long v47), .second, .val (.long (100000000 : Int64)), .second, .val (.long v48), .second, .val (.ref b49), .val (.long r56), .second, .val (.long r62), .second, .val (.long r68), .second, .val (.int (1 : Int32)), .val (.int v78), .val (.int v132), .val (.int (1 : Int32)), .val (.long v28), .second, .val (.long v31), .second]) (S' := [(.int (lcmpW r68 v48))]) rfl ?_
                  by_cases c140 : r68 = v48
                  · skip
                    refine Home.go (fun _ => XS.ifNo XJ131.here hx rfl (hb hby at_486) rfl ((if0 _ _).trans (teq ((lw_eq _ _).mpr c140)).2)) ?_
                    refine Home.run XJ131 hx hby sg0_489_2 (pc' := 494) (L' := #[.val (.long j0), .second, .val (.long j1), .second, .val (.int i2), .val (.int i3), .val (.int i4), .val (.int i5), .val (.int v1), .val (.int (1 : Int32)), .val (.int (0 : Int32)), .val (.int (0 : Int32)), .val (.int v21), .val (.int v22), .val (.long v23), .second, .val (.long v28), .second, .val (.long v29), .second, .val (.long v30), .second, .val (.long v31), .second, .val (.long (j1 + v23)), .second, .val (.long v32), .second, .val (.long v37), .second, .val (.long v42), .second, .val (.long v47), .second, .val (.long (100000000 : Int64)), .second, .val (.long v48), .second, .val (.ref b49), .val (.long r56), .second, .val (.long r62), .second, .val (.long r68), .second, .val (.int (1 : Int32)), .val (.int v78), .val (.int v132), .val (.int (1 : Int32)), .val (.long v28), .second, .val (.long v31), .second]) (S' := [(.int (1 : Int32))]) rfl ?_
                    exact J146 XJ131 NJ131 eJ131 _ (by simp only [if_pos c133, if_pos c134, if_pos c136, if_neg c137, if_pos c140])
                  · skip
                    refine Home.go (fun _ => XS.ifYes XJ131.here hx rfl (pc0 := 486) (pc' := 493) rfl (hb hby at_486) rfl ((if0 _ _).trans (feq (mt (lw_eq _ _).mp c140)).2) (by decide) (by decide)) ?_
                    refine Home.run XJ131 hx hby sg0_493_1 (pc' := 494) (L' := #[.val (.long j0), .second, .val (.long j1), .second, .val (.int i2), .val (.int i3), .val (.int i4), .val (.int i5), .val (.int v1), .val (.int (1 : Int32)), .val (.int (0 : Int32)), .val (.int (0 : Int32)), .val (.int v21), .val (.int v22), .val (.long v23), .second, .val (.long v28), .second, .val (.long v29), .second, .val (.long v30), .second, .val (.long v31), .second, .val (.long (j1 + v23)), .second, .val (.long v32), .second, .val (.long v37), .second, .val (.long v42), .second, .val (.long v47), .second, .val (.long (100000000 : Int64)), .second, .val (.long v48), .second, .val (.ref b49), .val (.long r56), .second, .val (.long r62), .second, .val (.long r68), .second, .val (.int (1 : Int32)), .val (.int v78), .val (.int v132), .val (.int (1 : Int32)), .val (.long v28), .second, .val (.long v31), .second]) (S' := [(.int (0 : Int32))]) rfl ?_
                    exact J146 XJ131 NJ131 eJ131 _ (by simp only [if_pos c133, if_pos c134, if_pos c136, if_neg c137, if_neg c140])
              · skip
                refine Home.go (fun _ => XS.ifYes XJ131.here hx rfl (pc0 := 469) (pc' := 493) rfl (hb hby at_469) rfl ((if0 _ _).trans (feq (mt (lw_eq _ _).mp c136)).2) (by decide) (by decide)) ?_
                refine Home.run XJ131 hx hby sg0_493_1 (pc' := 494) (L' := #[.val (.long j0), .second, .val (.long j1), .second, .val (.int i2), .val (.int i3), .val (.int i4), .val (.int i5), .val (.int v1), .val (.int (1 : Int32)), .val (.int (0 : Int32)), .val (.int (0 : Int32)), .val (.int v21), .val (.int v22), .val (.long v23), .second, .val (.long v28), .second, .val (.long v29), .second, .val (.long v30), .second, .val (.long v31), .second, .val (.long (j1 + v23)), .second, .val (.long v32), .second, .val (.long v37), .second, .val (.long v42), .second, .val (.long v47), .second, .val (.long (100000000 : Int64)), .second, .val (.long v48), .second, .val (.ref b49), .val (.long r56), .second, .val (.long r62), .second, .val (.long r68), .second, .val (.int (1 : Int32)), .val (.int v78), .val (.int v132), .val (.int (1 : Int32)), .val (.long v28), .second, .val (.long v31), .second]) (S' := [(.int (0 : Int32))]) rfl ?_
                exact J146 XJ131 NJ131 eJ131 _ (by simp only [if_pos c133, if_pos c134, if_neg c136])
            · skip
              refine Home.go (fun _ => XS.ifNo XJ131.here hx rfl (hb hby at_459) rfl ((if0 _ _).trans (feq c134).1)) ?_
              refine Home.run XJ131 hx hby sg0_462_3 (pc' := 469) (L' := #[.val (.long j0), .second, .val (.long j1), .second, .val (.int i2), .val (.int i3), .val (.int i4), .val (.int i5), .val (.int v1), .val (.int (1 : Int32)), .val (.int (0 : Int32)), .val (.int (0 : Int32)), .val (.int v21), .val (.int v22), .val (.long v23), .second, .val (.long v28), .second, .val (.long v29), .second, .val (.long v30), .second, .val (.long v31), .second, .val (.long (j1 + v23)), .second, .val (.long v32), .second, .val (.long v37), .second, .val (.long v42), .second, .val (.long v47), .second, .val (.long (100000000 : Int64)), .second, .val (.long v48), .second, .val (.ref b49), .val (.long r56), .second, .val (.long r62), .second, .val (.long r68), .second, .val (.int (1 : Int32)), .val (.int v78), .val (.int v132), .val (.int (1 : Int32)), .val (.long v28), .second, .val (.long v31), .second]) (S' := [(.int (lcmpW r62 v48))]) rfl ?_
              by_cases c141 : r62 = v48
              · skip
                refine Home.go (fun _ => XS.ifNo XJ131.here hx rfl (hb hby at_469) rfl ((if0 _ _).trans (teq ((lw_eq _ _).mpr c141)).2)) ?_
                refine Home.run XJ131 hx hby sg0_472_2 (pc' := 476) (L' := #[.val (.long j0), .second, .val (.long j1), .second, .val (.int i2), .val (.int i3), .val (.int i4), .val (.int i5), .val (.int v1), .val (.int (1 : Int32)), .val (.int (0 : Int32)), .val (.int (0 : Int32)), .val (.int v21), .val (.int v22), .val (.long v23), .second, .val (.long v28), .second, .val (.long v29), .second, .val (.long v30), .second, .val (.long v31), .second, .val (.long (j1 + v23)), .second, .val (.long v32), .second, .val (.long v37), .second, .val (.long v42), .second, .val (.long v47), .second, .val (.long (100000000 : Int64)), .second, .val (.long v48), .second, .val (.ref b49), .val (.long r56), .second, .val (.long r62), .second, .val (.long r68), .second, .val (.int (1 : Int32)), .val (.int v78), .val (.int v132), .val (.int (1 : Int32)), .val (.long v28), .second, .val (.long v31), .second]) (S' := [(.int v132), (.long r68)]) rfl ?_
                by_cases c142 : v132 = (0 : Int32)
                · skip
                  refine Home.go (fun _ => XS.ifYes XJ131.here hx rfl (pc0 := 476) (pc' := 484) rfl (hb hby at_476) rfl ((if0 _ _).trans (teq c142).1) (by decide) (by decide)) ?_
                  have bd143 : ¬ v132 < (0 : Int32) ∧ ¬ (0 : Int32) < v132 := ⟨(bnd_eql c142), (bnd_eqr c142)⟩
                  refine Home.run XJ131 hx hby sg0_484_2 (pc' := 486) (L' := #[.val (.long j0), .second, .val (.long j1), .second, .val (.int i2), .val (.int i3), .val (.int i4), .val (.int i5), .val (.int v1), .val (.int (1 : Int32)), .val (.int (0 : Int32)), .val (.int (0 : Int32)), .val (.int v21), .val (.int v22), .val (.long v23), .second, .val (.long v28), .second, .val (.long v29), .second, .val (.long v30), .second, .val (.long v31), .second, .val (.long (j1 + v23)), .second, .val (.long v32), .second, .val (.long v37), .second, .val (.long v42), .second, .val (.long v47), .second, .val (.long (100000000 : Int64)), .second, .val (.long v48), .second, .val (.ref b49), .val (.long r56), .second, .val (.long r62), .second, .val (.long r68), .second, .val (.int (1 : Int32)), .val (.int v78), .val (.int v132), .val (.int (1 : Int32)), .val (.long v28), .second, .val (.long v31), .second]) (S' := [(.int (lcmpW r68 (0 : Int64)))]) rfl ?_
                  by_cases c144 : r68 = (0 : Int64)
                  · skip
                    refine Home.go (fun _ => XS.ifNo XJ131.here hx rfl (hb hby at_486) rfl ((if0 _ _).trans (teq ((lw_eq _ _).mpr c144)).2)) ?_
                    refine Home.run XJ131 hx hby sg0_489_2 (pc' := 494) (L' := #[.val (.long j0), .second, .val (.long j1), .second, .val (.int i2), .val (.int i3), .val (.int i4), .val (.int i5), .val (.int v1), .val (.int (1 : Int32)), .val (.int (0 : Int32)), .val (.int (0 : Int32)), .val (.int v21), .val (.int v22), .val (.long v23), .second, .val (.long v28), .second, .val (.long v29), .second, .val (.long v30), .second, .val (.long v31), .second, .val (.long (j1 + v23)), .second, .val (.long v32), .second, .val (.long v37), .second, .val (.long v42), .second, .val (.long v47), .second, .val (.long (100000000 : Int64)), .second, .val (.long v48), .second, .val (.ref b49), .val (.long r56), .second, .val (.long r62), .second, .val (.long r68), .second, .val (.int (1 : Int32)), .val (.int v78), .val (.int v132), .val (.int (1 : Int32)), .val (.long v28), .second, .val (.long v31), .second]) (S' := [(.int (1 : Int32))]) rfl ?_
                    exact J146 XJ131 NJ131 eJ131 _ (by simp only [if_pos c133, if_neg c134, if_pos c141, if_pos c142, if_pos c144])
                  · skip
                    refine Home.go (fun _ => XS.ifYes XJ131.here hx rfl (pc0 := 486) (pc' := 493) rfl (hb hby at_486) rfl ((if0 _ _).trans (feq (mt (lw_eq _ _).mp c144)).2) (by decide) (by decide)) ?_
                    refine Home.run XJ131 hx hby sg0_493_1 (pc' := 494) (L' := #[.val (.long j0), .second, .val (.long j1), .second, .val (.int i2), .val (.int i3), .val (.int i4), .val (.int i5), .val (.int v1), .val (.int (1 : Int32)), .val (.int (0 : Int32)), .val (.int (0 : Int32)), .val (.int v21), .val (.int v22), .val (.long v23), .second, .val (.long v28), .second, .val (.long v29), .second, .val (.long v30), .second, .val (.long v31), .second, .val (.long (j1 + v23)), .second, .val (.long v32), .second, .val (.long v37), .second, .val (.long v42), .second, .val (.long v47), .second, .val (.long (100000000 : Int64)), .second, .val (.long v48), .second, .val (.ref b49), .val (.long r56), .second, .val (.long r62), .second, .val (.long r68), .second, .val (.int (1 : Int32)), .val (.int v78), .val (.int v132), .val (.int (1 : Int32)), .val (.long v28), .second, .val (.long v31), .second]) (S' := [(.int (0 : Int32))]) rfl ?_
                    exact J146 XJ131 NJ131 eJ131 _ (by simp only [if_pos c133, if_neg c134, if_pos c141, if_pos c142, if_neg c144])
                · skip
                  refine Home.go (fun _ => XS.ifNo XJ131.here hx rfl (hb hby at_476) rfl ((if0 _ _).trans (feq c142).1)) ?_
                  refine Home.run XJ131 hx hby sg0_479_3 (pc' := 486) (L' := #[.val (.long j0), .second, .val (.long j1), .second, .val (.int i2), .val (.int i3), .val (.int i4), .val (.int i5), .val (.int v1), .val (.int (1 : Int32)), .val (.int (0 : Int32)), .val (.int (0 : Int32)), .val (.int v21), .val (.int v22), .val (.long v23), .second, .val (.long v28), .second, .val (.long v29), .second, .val (.long v30), .second, .val (.long v31), .second, .val (.long (j1 + v23)), .second, .val (.long v32), .second, .val (.long v37), .second, .val (.long v42), .second, .val (.long v47), .second, .val (.long (100000000 : Int64)), .second, .val (.long v48), .second, .val (.ref b49), .val (.long r56), .second, .val (.long r62), .second, .val (.long r68), .second, .val (.int (1 : Int32)), .val (.int v78), .val (.int v132), .val (.int (1 : Int32)), .val (.long v28), .second, .val (.long v31), .second]) (S' := [(.int (lcmpW r68 v48))]) rfl ?_
                  by_cases c145 : r68 = v48
                  · skip
                    refine Home.go (fun _ => XS.ifNo XJ131.here hx rfl (hb hby at_486) rfl ((if0 _ _).trans (teq ((lw_eq _ _).mpr c145)).2)) ?_
                    refine Home.run XJ131 hx hby sg0_489_2 (pc' := 494) (L' := #[.val (.long j0), .second, .val (.long j1), .second, .val (.int i2), .val (.int i3), .val (.int i4), .val (.int i5), .val (.int v1), .val (.int (1 : Int32)), .val (.int (0 : Int32)), .val (.int (0 : Int32)), .val (.int v21), .val (.int v22), .val (.long v23), .second, .val (.long v28), .second, .val (.long v29), .second, .val (.long v30), .second, .val (.long v31), .second, .val (.long (j1 + v23)), .second, .val (.long v32), .second, .val (.long v37), .second, .val (.long v42), .second, .val (.long v47), .second, .val (.long (100000000 : Int64)), .second, .val (.long v48), .second, .val (.ref b49), .val (.long r56), .second, .val (.long r62), .second, .val (.long r68), .second, .val (.int (1 : Int32)), .val (.int v78), .val (.int v132), .val (.int (1 : Int32)), .val (.long v28), .second, .val (.long v31), .second]) (S' := [(.int (1 : Int32))]) rfl ?_
                    exact J146 XJ131 NJ131 eJ131 _ (by simp only [if_pos c133, if_neg c134, if_pos c141, if_neg c142, if_pos c145])
                  · skip
                    refine Home.go (fun _ => XS.ifYes XJ131.here hx rfl (pc0 := 486) (pc' := 493) rfl (hb hby at_486) rfl ((if0 _ _).trans (feq (mt (lw_eq _ _).mp c145)).2) (by decide) (by decide)) ?_
                    refine Home.run XJ131 hx hby sg0_493_1 (pc' := 494) (L' := #[.val (.long j0), .second, .val (.long j1), .second, .val (.int i2), .val (.int i3), .val (.int i4), .val (.int i5), .val (.int v1), .val (.int (1 : Int32)), .val (.int (0 : Int32)), .val (.int (0 : Int32)), .val (.int v21), .val (.int v22), .val (.long v23), .second, .val (.long v28), .second, .val (.long v29), .second, .val (.long v30), .second, .val (.long v31), .second, .val (.long (j1 + v23)), .second, .val (.long v32), .second, .val (.long v37), .second, .val (.long v42), .second, .val (.long v47), .second, .val (.long (100000000 : Int64)), .second, .val (.long v48), .second, .val (.ref b49), .val (.long r56), .second, .val (.long r62), .second, .val (.long r68), .second, .val (.int (1 : Int32)), .val (.int v78), .val (.int v132), .val (.int (1 : Int32)), .val (.long v28), .second, .val (.long v31), .second]) (S' := [(.int (0 : Int32))]) rfl ?_
                    exact J146 XJ131 NJ131 eJ131 _ (by simp only [if_pos c133, if_neg c134, if_pos c141, if_neg c142, if_neg c145])
              · skip
                refine Home.go (fun _ => XS.ifYes XJ131.here hx rfl (pc0 := 469) (pc' := 493) rfl (hb hby at_469) rfl ((if0 _ _).trans (feq (mt (lw_eq _ _).mp c141)).2) (by decide) (by decide)) ?_
                refine Home.run XJ131 hx hby sg0_493_1 (pc' := 494) (L' := #[.val (.long j0), .second, .val (.long j1), .second, .val (.int i2), .val (.int i3), .val (.int i4), .val (.int i5), .val (.int v1), .val (.int (1 : Int32)), .val (.int (0 : Int32)), .val (.int (0 : Int32)), .val (.int v21), .val (.int v22), .val (.long v23), .second, .val (.long v28), .second, .val (.long v29), .second, .val (.long v30), .second, .val (.long v31), .second, .val (.long (j1 + v23)), .second, .val (.long v32), .second, .val (.long v37), .second, .val (.long v42), .second, .val (.long v47), .second, .val (.long (100000000 : Int64)), .second, .val (.long v48), .second, .val (.ref b49), .val (.long r56), .second, .val (.long r62), .second, .val (.long r68), .second, .val (.int (1 : Int32)), .val (.int v78), .val (.int v132), .val (.int (1 : Int32)), .val (.long v28), .second, .val (.long v31), .second]) (S' := [(.int (0 : Int32))]) rfl ?_
                exact J146 XJ131 NJ131 eJ131 _ (by simp only [if_pos c133, if_neg c134, if_neg c141])
          · skip
            refine Home.go (fun _ => XS.ifYes XJ131.here hx rfl (pc0 := 452) (pc' := 493) rfl (hb hby at_452) rfl ((if0 _ _).trans (feq (mt (lw_eq _ _).mp c133)).2) (by decide) (by decide)) ?_
            refine Home.run XJ131 hx hby sg0_493_1 (pc' := 494) (L' := #[.val (.long j0), .second, .val (.long j1), .second, .val (.int i2), .val (.int i3), .val (.int i4), .val (.int i5), .val (.int v1), .val (.int (1 : Int32)), .val (.int (0 : Int32)), .val (.int (0 : Int32)), .val (.int v21), .val (.int v22), .val (.long v23), .second, .val (.long v28), .second, .val (.long v29), .second, .val (.long v30), .second, .val (.long v31), .second, .val (.long (j1 + v23)), .second, .val (.long v32), .second, .val (.long v37), .second, .val (.long v42), .second, .val (.long v47), .second, .val (.long (100000000 : Int64)), .second, .val (.long v48), .second, .val (.ref b49), .val (.long r56), .second, .val (.long r62), .second, .val (.long r68), .second, .val (.int (1 : Int32)), .val (.int v78), .val (.int v132), .val (.int (1 : Int32)), .val (.long v28), .second, .val (.long v31), .second]) (S' := [(.int (0 : Int32))]) rfl ?_
            exact J146 XJ131 NJ131 eJ131 _ (by simp only [if_neg c133])
        intro TJ146 lcJ146 XJ146 NJ146 eJ146 v147 hv147
        have bv147 : ¬ v147 < (0 : Int32) ∧ ¬ (1 : Int32) < v147 := by rw [hv147]; (repeat' split) <;> first | exact bnd_mono (bnd_lit (1 : Int32)) (by decide +kernel) (by decide +kernel) | exact bnd_mono (bnd_lit (0 : Int32)) (by decide +kernel) (by decide +kernel)
        show Home TJ146 (mkF m 494 #[.val (.long j0), .second, .val (.long j1), .second, .val (.int i2), .val (.int i3), .val (.int i4), .val (.int i5), .val (.int v1), .val (.int (1 : Int32)), .val (.int (0 : Int32)), .val (.int (0 : Int32)), .val (.int v21), .val (.int v22), .val (.long v23), .second, .val (.long v28), .second, .val (.long v29), .second, .val (.long v30), .second, .val (.long v31), .second, .val (.long (j1 + v23)), .second, .val (.long v32), .second, .val (.long v37), .second, .val (.long v42), .second, .val (.long v47), .second, .val (.long (100000000 : Int64)), .second, .val (.long v48), .second, .val (.ref b49), .val (.long r56), .second, .val (.long r62), .second, .val (.long r68), .second, .val (.int (1 : Int32)), .val (.int v78), .val (.int v132), .val (.int (1 : Int32)), .val (.long v28), .second, .val (.long v31), .second] [(.int v147)])
        exact Home.retN XJ146 hx hlk (t := .boolean) hret (by simp) (hb hby at_494) ⟨congrArg some (congrArg Value.int (own_end1 j0 j1 i2 i3 i4 i5 v1 hv1 v6 hv6 v11 hv11 v16 hv16 v21 hv21 v22 hv22 v23 hv23 v28 hv28 v29 hv29 v30 hv30 v31 hv31 v32 hv32 v37 hv37 v42 hv42 v47 hv47 v48 hv48 r52 hr52 r53 hr53 r54 hr54 r55 hr55 r56 hr56 r58 hr58 r59 hr59 r60 hr60 r61 hr61 r62 hr62 r64 hr64 r65 hr65 r66 hr66 r67 hr67 r68 hr68 v78 hv78 v132 hv132 v147 hv147 c79 c84 c124)), NJ146⟩ (by decide) (by decide)
      · skip
        refine Home.go (fun _ => XS.ifNo XJ77.here hx rfl (hb hby at_332) rfl ((if0 _ _).trans (feq c124).1)) ?_
        have bd127 : ¬ v11 < (1 : Int32) ∧ ¬ (1 : Int32) < v11 := ⟨(bnd_nel bv11.1 c124 (by decide +kernel)), bv11.2⟩
        have fx128 : v11 = (1 : Int32) := bnd_fix bd127
        try rw [fx128]
        show Home TJ77 (mkF m 335 #[.val (.long j0), .second, .val (.long j1), .second, .val (.int i2), .val (.int i3), .val (.int i4), .val (.int i5), .val (.int v1), .val (.int (1 : Int32)), .val (.int (1 : Int32)), .val (.int (0 : Int32)), .val (.int v21), .val (.int v22), .val (.long v23), .second, .val (.long v28), .second, .val (.long v29), .second, .val (.long v30), .second, .val (.long v31), .second, .val (.long (j1 + v23)), .second, .val (.long v32), .second, .val (.long v37), .second, .val (.long v42), .second, .val (.long v47), .second, .val (.long (100000000 : Int64)), .second, .val (.long v48), .second, .val (.ref b49), .val (.long r56), .second, .val (.long r62), .second, .val (.long r68), .second, .val (.int (1 : Int32)), .val (.int v78), .unset, .unset, .unset, .unset, .unset, .unset] [])
        refine Home.run XJ77 hx hby sg0_335_5 (pc' := 442) (L' := #[.val (.long j0), .second, .val (.long j1), .second, .val (.int i2), .val (.int i3), .val (.int i4), .val (.int i5), .val (.int v1), .val (.int (1 : Int32)), .val (.int (1 : Int32)), .val (.int (0 : Int32)), .val (.int v21), .val (.int v22), .val (.long v23), .second, .val (.long v28), .second, .val (.long v29), .second, .val (.long v30), .second, .val (.long v31), .second, .val (.long (j1 + v23)), .second, .val (.long v32), .second, .val (.long v37), .second, .val (.long v42), .second, .val (.long v47), .second, .val (.long (100000000 : Int64)), .second, .val (.long v48), .second, .val (.ref b49), .val (.long r56), .second, .val (.long r62), .second, .val (.long r68), .second, .val (.int (1 : Int32)), .val (.int v78), .val (.int (1 : Int32)), .unset, .unset, .unset, .unset, .unset]) (S' := [(.int (1 : Int32)), (.long r56)]) rfl ?_
        refine Home.go (fun _ => XS.ifNo XJ77.here hx rfl (hb hby at_442) rfl ((if0 _ _).trans (feq (by decide)).1)) ?_
        refine Home.run XJ77 hx hby sg0_445_3 (pc' := 452) (L' := #[.val (.long j0), .second, .val (.long j1), .second, .val (.int i2), .val (.int i3), .val (.int i4), .val (.int i5), .val (.int v1), .val (.int (1 : Int32)), .val (.int (1 : Int32)), .val (.int (0 : Int32)), .val (.int v21), .val (.int v22), .val (.long v23), .second, .val (.long v28), .second, .val (.long v29), .second, .val (.long v30), .second, .val (.long v31), .second, .val (.long (j1 + v23)), .second, .val (.long v32), .second, .val (.long v37), .second, .val (.long v42), .second, .val (.long v47), .second, .val (.long (100000000 : Int64)), .second, .val (.long v48), .second, .val (.ref b49), .val (.long r56), .second, .val (.long r62), .second, .val (.long r68), .second, .val (.int (1 : Int32)), .val (.int v78), .val (.int (1 : Int32)), .unset, .unset, .unset, .unset, .unset]) (S' := [(.int (lcmpW r56 v48))]) rfl ?_
        suffices J155 : ∀ {T : State} {lc : List Loc} (X : Stand p l e room_1 s m #[(.long j0), (.long j1), (.int i2), (.int i3), (.int i4), (.int i5)] below meth c T lc 1 5) (N : Fr n0 lc) (eT : T.heap = T63.heap) (v156 : Int32) (hv156 : v156 = (if r56 = v48 then (if v78 = (0 : Int32) then (if r62 = (0 : Int64) then (if r68 = v48 then (1 : Int32) else (0 : Int32)) else (0 : Int32)) else (if r62 = v48 then (if r68 = v48 then (1 : Int32) else (0 : Int32)) else (0 : Int32))) else (0 : Int32))), @Home p e below s _ _ _ T (mkF m 494 #[.val (.long j0), .second, .val (.long j1), .second, .val (.int i2), .val (.int i3), .val (.int i4), .val (.int i5), .val (.int v1), .val (.int (1 : Int32)), .val (.int (1 : Int32)), .val (.int (0 : Int32)), .val (.int v21), .val (.int v22), .val (.long v23), .second, .val (.long v28), .second, .val (.long v29), .second, .val (.long v30), .second, .val (.long v31), .second, .val (.long (j1 + v23)), .second, .val (.long v32), .second, .val (.long v37), .second, .val (.long v42), .second, .val (.long v47), .second, .val (.long (100000000 : Int64)), .second, .val (.long v48), .second, .val (.ref b49), .val (.long r56), .second, .val (.long r62), .second, .val (.long r68), .second, .val (.int (1 : Int32)), .val (.int v78), .val (.int (1 : Int32)), .unset, .unset, .unset, .unset, .unset] [(.int v156)]) by
          by_cases c148 : r56 = v48
          · skip
            refine Home.go (fun _ => XS.ifNo XJ77.here hx rfl (hb hby at_452) rfl ((if0 _ _).trans (teq ((lw_eq _ _).mpr c148)).2)) ?_
            refine Home.run XJ77 hx hby sg0_455_2 (pc' := 459) (L' := #[.val (.long j0), .second, .val (.long j1), .second, .val (.int i2), .val (.int i3), .val (.int i4), .val (.int i5), .val (.int v1), .val (.int (1 : Int32)), .val (.int (1 : Int32)), .val (.int (0 : Int32)), .val (.int v21), .val (.int v22), .val (.long v23), .second, .val (.long v28), .second, .val (.long v29), .second, .val (.long v30), .second, .val (.long v31), .second, .val (.long (j1 + v23)), .second, .val (.long v32), .second, .val (.long v37), .second, .val (.long v42), .second, .val (.long v47), .second, .val (.long (100000000 : Int64)), .second, .val (.long v48), .second, .val (.ref b49), .val (.long r56), .second, .val (.long r62), .second, .val (.long r68), .second, .val (.int (1 : Int32)), .val (.int v78), .val (.int (1 : Int32)), .unset, .unset, .unset, .unset, .unset]) (S' := [(.int v78), (.long r62)]) rfl ?_
            by_cases c149 : v78 = (0 : Int32)
            · skip
              refine Home.go (fun _ => XS.ifYes XJ77.here hx rfl (pc0 := 459) (pc' := 467) rfl (hb hby at_459) rfl ((if0 _ _).trans (teq c149).1) (by decide) (by decide)) ?_
              have bd150 : ¬ v78 < (0 : Int32) ∧ ¬ (0 : Int32) < v78 := ⟨(bnd_eql c149), (bnd_eqr c149)⟩
              refine Home.run XJ77 hx hby sg0_467_2 (pc' := 469) (L' := #[.val (.long j0), .second, .val (.long j1), .second, .val (.int i2), .val (.int i3), .val (.int i4), .val (.int i5), .val (.int v1), .val (.int (1 : Int32)), .val (.int (1 : Int32)), .val (.int (0 : Int32)), .val (.int v21), .val (.int v22), .val (.long v23), .second, .val (.long v28), .second, .val (.long v29), .second, .val (.long v30), .second, .val (.long v31), .second, .val (.long (j1 + v23)), .second, .val (.long v32), .second, .val (.long v37), .second, .val (.long v42), .second, .val (.long v47), .second, .val (.long (100000000 : Int64)), .second, .val (.long v48), .second, .val (.ref b49), .val (.long r56), .second, .val (.long r62), .second, .val (.long r68), .second, .val (.int (1 : Int32)), .val (.int v78), .val (.int (1 : Int32)), .unset, .unset, .unset, .unset, .unset]) (S' := [(.int (lcmpW r62 (0 : Int64)))]) rfl ?_
              by_cases c151 : r62 = (0 : Int64)
              · skip
                refine Home.go (fun _ => XS.ifNo XJ77.here hx rfl (hb hby at_469) rfl ((if0 _ _).trans (teq ((lw_eq _ _).mpr c151)).2)) ?_
                refine Home.run XJ77 hx hby sg0_472_2 (pc' := 476) (L' := #[.val (.long j0), .second, .val (.long j1), .second, .val (.int i2), .val (.int i3), .val (.int i4), .val (.int i5), .val (.int v1), .val (.int (1 : Int32)), .val (.int (1 : Int32)), .val (.int (0 : Int32)), .val (.int v21), .val (.int v22), .val (.long v23), .second, .val (.long v28), .second, .val (.long v29), .second, .val (.long v30), .second, .val (.long v31), .second, .val (.long (j1 + v23)), .second, .val (.long v32), .second, .val (.long v37), .second, .val (.long v42), .second, .val (.long v47), .second, .val (.long (100000000 : Int64)), .second, .val (.long v48), .second, .val (.ref b49), .val (.long r56), .second, .val (.long r62), .second, .val (.long r68), .second, .val (.int (1 : Int32)), .val (.int v78), .val (.int (1 : Int32)), .unset, .unset, .unset, .unset, .unset]) (S' := [(.int (1 : Int32)), (.long r68)]) rfl ?_
                refine Home.go (fun _ => XS.ifNo XJ77.here hx rfl (hb hby at_476) rfl ((if0 _ _).trans (feq (by decide)).1)) ?_
                refine Home.run XJ77 hx hby sg0_479_3 (pc' := 486) (L' := #[.val (.long j0), .second, .val (.long j1), .second, .val (.int i2), .val (.int i3), .val (.int i4), .val (.int i5), .val (.int v1), .val (.int (1 : Int32)), .val (.int (1 : Int32)), .val (.int (0 : Int32)), .val (.int v21), .val (.int v22), .val (.long v23), .second, .val (.long v28), .second, .val (.long v29), .second, .val (.long v30), .second, .val (.long v31), .second, .val (.long (j1 + v23)), .second, .val (.long v32), .second, .val (.long v37), .second, .val (.long v42), .second, .val (.long v47), .second, .val (.long (100000000 : Int64)), .second, .val (.long v48), .second, .val (.ref b49), .val (.long r56), .second, .val (.long r62), .second, .val (.long r68), .second, .val (.int (1 : Int32)), .val (.int v78), .val (.int (1 : Int32)), .unset, .unset, .unset, .unset, .unset]) (S' := [(.int (lcmpW r68 v48))]) rfl ?_
                by_cases c152 : r68 = v48
                · skip
                  refine Home.go (fun _ => XS.ifNo XJ77.here hx rfl (hb hby at_486) rfl ((if0 _ _).trans (teq ((lw_eq _ _).mpr c152)).2)) ?_
                  refine Home.run XJ77 hx hby sg0_489_2 (pc' := 494) (L' := #[.val (.long j0), .second, .val (.long j1), .second, .val (.int i2), .val (.int i3), .val (.int i4), .val (.int i5), .val (.int v1), .val (.int (1 : Int32)), .val (.int (1 : Int32)), .val (.int (0 : Int32)), .val (.int v21), .val (.int v22), .val (.long v23), .second, .val (.long v28), .second, .val (.long v29), .second, .val (.long v30), .second, .val (.long v31), .second, .val (.long (j1 + v23)), .second, .val (.long v32), .second, .val (.long v37), .second, .val (.long v42), .second, .val (.long v47), .second, .val (.long (100000000 : Int64)), .second, .val (.long v48), .second, .val (.ref b49), .val (.long r56), .second, .val (.long r62), .second, .val (.long r68), .second, .val (.int (1 : Int32)), .val (.int v78), .val (.int (1 : Int32)), .unset, .unset, .unset, .unset, .unset]) (S' := [(.int (1 : Int32))]) rfl ?_
                  exact J155 XJ77 NJ77 eJ77 _ (by simp only [if_pos c148, if_pos c149, if_pos c151, if_pos c152])
                · skip
                  refine Home.go (fun _ => XS.ifYes XJ77.here hx rfl (pc0 := 486) (pc' := 493) rfl (hb hby at_486) rfl ((if0 _ _).trans (feq (mt (lw_eq _ _).mp c152)).2) (by decide) (by decide)) ?_
                  refine Home.run XJ77 hx hby sg0_493_1 (pc' := 494) (L' := #[.val (.long j0), .second, .val (.long j1), .second, .val (.int i2), .val (.int i3), .val (.int i4), .val (.int i5), .val (.int v1), .val (.int (1 : Int32)), .val (.int (1 : Int32)), .val (.int (0 : Int32)), .val (.int v21), .val (.int v22), .val (.long v23), .second, .val (.long v28), .second, .val (.long v29), .second, .val (.long v30), .second, .val (.long v31), .second, .val (.long (j1 + v23)), .second, .val (.long v32), .second, .val (.long v37), .second, .val (.long v42), .second, .val (.long v47), .second, .val (.long (100000000 : Int64)), .second, .val (.long v48), .second, .val (.ref b49), .val (.long r56), .second, .val (.long r62), .second, .val (.long r68), .second, .val (.int (1 : Int32)), .val (.int v78), .val (.int (1 : Int32)), .unset, .unset, .unset, .unset, .unset]) (S' := [(.int (0 : Int32))]) rfl ?_
                  exact J155 XJ77 NJ77 eJ77 _ (by simp only [if_pos c148, if_pos c149, if_pos c151, if_neg c152])
              · skip
                refine Home.go (fun _ => XS.ifYes XJ77.here hx rfl (pc0 := 469) (pc' := 493) rfl (hb hby at_469) rfl ((if0 _ _).trans (feq (mt (lw_eq _ _).mp c151)).2) (by decide) (by decide)) ?_
                refine Home.run XJ77 hx hby sg0_493_1 (pc' := 494) (L' := #[.val (.long j0), .second, .val (.long j1), .second, .val (.int i2), .val (.int i3), .val (.int i4), .val (.int i5), .val (.int v1), .val (.int (1 : Int32)), .val (.int (1 : Int32)), .val (.int (0 : Int32)), .val (.int v21), .val (.int v22), .val (.long v23), .second, .val (.long v28), .second, .val (.long v29), .second, .val (.long v30), .second, .val (.long v31), .second, .val (.long (j1 + v23)), .second, .val (.long v32), .second, .val (.long v37), .second, .val (.long v42), .second, .val (.long v47), .second, .val (.long (100000000 : Int64)), .second, .val (.long v48), .second, .val (.ref b49), .val (.long r56), .second, .val (.long r62), .second, .val (.long r68), .second, .val (.int (1 : Int32)), .val (.int v78), .val (.int (1 : Int32)), .unset, .unset, .unset, .unset, .unset]) (S' := [(.int (0 : Int32))]) rfl ?_
                exact J155 XJ77 NJ77 eJ77 _ (by simp only [if_pos c148, if_pos c149, if_neg c151])
            · skip
              refine Home.go (fun _ => XS.ifNo XJ77.here hx rfl (hb hby at_459) rfl ((if0 _ _).trans (feq c149).1)) ?_
              refine Home.run XJ77 hx hby sg0_462_3 (pc' := 469) (L' := #[.val (.long j0), .second, .val (.long j1), .second, .val (.int i2), .val (.int i3), .val (.int i4), .val (.int i5), .val (.int v1), .val (.int (1 : Int32)), .val (.int (1 : Int32)), .val (.int (0 : Int32)), .val (.int v21), .val (.int v22), .val (.long v23), .second, .val (.long v28), .second, .val (.long v29), .second, .val (.long v30), .second, .val (.long v31), .second, .val (.long (j1 + v23)), .second, .val (.long v32), .second, .val (.long v37), .second, .val (.long v42), .second, .val (.long v47), .second, .val (.long (100000000 : Int64)), .second, .val (.long v48), .second, .val (.ref b49), .val (.long r56), .second, .val (.long r62), .second, .val (.long r68), .second, .val (.int (1 : Int32)), .val (.int v78), .val (.int (1 : Int32)), .unset, .unset, .unset, .unset, .unset]) (S' := [(.int (lcmpW r62 v48))]) rfl ?_
              by_cases c153 : r62 = v48
              · skip
                refine Home.go (fun _ => XS.ifNo XJ77.here hx rfl (hb hby at_469) rfl ((if0 _ _).trans (teq ((lw_eq _ _).mpr c153)).2)) ?_
                refine Home.run XJ77 hx hby sg0_472_2 (pc' := 476) (L' := #[.val (.long j0), .second, .val (.long j1), .second, .val (.int i2), .val (.int i3), .val (.int i4), .val (.int i5), .val (.int v1), .val (.int (1 : Int32)), .val (.int (1 : Int32)), .val (.int (0 : Int32)), .val (.int v21), .val (.int v22), .val (.long v23), .second, .val (.long v28), .second, .val (.long v29), .second, .val (.long v30), .second, .val (.long v31), .second, .val (.long (j1 + v23)), .second, .val (.long v32), .second, .val (.long v37), .second, .val (.long v42), .second, .val (.long v47), .second, .val (.long (100000000 : Int64)), .second, .val (.long v48), .second, .val (.ref b49), .val (.long r56), .second, .val (.long r62), .second, .val (.long r68), .second, .val (.int (1 : Int32)), .val (.int v78), .val (.int (1 : Int32)), .unset, .unset, .unset, .unset, .unset]) (S' := [(.int (1 : Int32)), (.long r68)]) rfl ?_
                refine Home.go (fun _ => XS.ifNo XJ77.here hx rfl (hb hby at_476) rfl ((if0 _ _).trans (feq (by decide)).1)) ?_
                refine Home.run XJ77 hx hby sg0_479_3 (pc' := 486) (L' := #[.val (.long j0), .second, .val (.long j1), .second, .val (.int i2), .val (.int i3), .val (.int i4), .val (.int i5), .val (.int v1), .val (.int (1 : Int32)), .val (.int (1 : Int32)), .val (.int (0 : Int32)), .val (.int v21), .val (.int v22), .val (.long v23), .second, .val (.long v28), .second, .val (.long v29), .second, .val (.long v30), .second, .val (.long v31), .second, .val (.long (j1 + v23)), .second, .val (.long v32), .second, .val (.long v37), .second, .val (.long v42), .second, .val (.long v47), .second, .val (.long (100000000 : Int64)), .second, .val (.long v48), .second, .val (.ref b49), .val (.long r56), .second, .val (.long r62), .second, .val (.long r68), .second, .val (.int (1 : Int32)), .val (.int v78), .val (.int (1 : Int32)), .unset, .unset, .unset, .unset, .unset]) (S' := [(.int (lcmpW r68 v48))]) rfl ?_
                by_cases c154 : r68 = v48
                · skip
                  refine Home.go (fun _ => XS.ifNo XJ77.here hx rfl (hb hby at_486) rfl ((if0 _ _).trans (teq ((lw_eq _ _).mpr c154)).2)) ?_
                  refine Home.run XJ77 hx hby sg0_489_2 (pc' := 494) (L' := #[.val (.long j0), .second, .val (.long j1), .second, .val (.int i2), .val (.int i3), .val (.int i4), .val (.int i5), .val (.int v1), .val (.int (1 : Int32)), .val (.int (1 : Int32)), .val (.int (0 : Int32)), .val (.int v21), .val (.int v22), .val (.long v23), .second, .val (.long v28), .second, .val (.long v29), .second, .val (.long v30), .second, .val (.long v31), .second, .val (.long (j1 + v23)), .second, .val (.long v32), .second, .val (.long v37), .second, .val (.long v42), .second, .val (.long v47), .second, .val (.long (100000000 : Int64)), .second, .val (.long v48), .second, .val (.ref b49), .val (.long r56), .second, .val (.long r62), .second, .val (.long r68), .second, .val (.int (1 : Int32)), .val (.int v78), .val (.int (1 : Int32)), .unset, .unset, .unset, .unset, .unset]) (S' := [(.int (1 : Int32))]) rfl ?_
                  exact J155 XJ77 NJ77 eJ77 _ (by simp only [if_pos c148, if_neg c149, if_pos c153, if_pos c154])
                · skip
                  refine Home.go (fun _ => XS.ifYes XJ77.here hx rfl (pc0 := 486) (pc' := 493) rfl (hb hby at_486) rfl ((if0 _ _).trans (feq (mt (lw_eq _ _).mp c154)).2) (by decide) (by decide)) ?_
                  refine Home.run XJ77 hx hby sg0_493_1 (pc' := 494) (L' := #[.val (.long j0), .second, .val (.long j1), .second, .val (.int i2), .val (.int i3), .val (.int i4), .val (.int i5), .val (.int v1), .val (.int (1 : Int32)), .val (.int (1 : Int32)), .val (.int (0 : Int32)), .val (.int v21), .val (.int v22), .val (.long v23), .second, .val (.long v28), .second, .val (.long v29), .second, .val (.long v30), .second, .val (.long v31), .second, .val (.long (j1 + v23)), .second, .val (.long v32), .second, .val (.long v37), .second, .val (.long v42), .second, .val (.long v47), .second, .val (.long (100000000 : Int64)), .second, .val (.long v48), .second, .val (.ref b49), .val (.long r56), .second, .val (.long r62), .second, .val (.long r68), .second, .val (.int (1 : Int32)), .val (.int v78), .val (.int (1 : Int32)), .unset, .unset, .unset, .unset, .unset]) (S' := [(.int (0 : Int32))]) rfl ?_
                  exact J155 XJ77 NJ77 eJ77 _ (by simp only [if_pos c148, if_neg c149, if_pos c153, if_neg c154])
              · skip
                refine Home.go (fun _ => XS.ifYes XJ77.here hx rfl (pc0 := 469) (pc' := 493) rfl (hb hby at_469) rfl ((if0 _ _).trans (feq (mt (lw_eq _ _).mp c153)).2) (by decide) (by decide)) ?_
                refine Home.run XJ77 hx hby sg0_493_1 (pc' := 494) (L' := #[.val (.long j0), .second, .val (.long j1), .second, .val (.int i2), .val (.int i3), .val (.int i4), .val (.int i5), .val (.int v1), .val (.int (1 : Int32)), .val (.int (1 : Int32)), .val (.int (0 : Int32)), .val (.int v21), .val (.int v22), .val (.long v23), .second, .val (.long v28), .second, .val (.long v29), .second, .val (.long v30), .second, .val (.long v31), .second, .val (.long (j1 + v23)), .second, .val (.long v32), .second, .val (.long v37), .second, .val (.long v42), .second, .val (.long v47), .second, .val (.long (100000000 : Int64)), .second, .val (.long v48), .second, .val (.ref b49), .val (.long r56), .second, .val (.long r62), .second, .val (.long r68), .second, .val (.int (1 : Int32)), .val (.int v78), .val (.int (1 : Int32)), .unset, .unset, .unset, .unset, .unset]) (S' := [(.int (0 : Int32))]) rfl ?_
                exact J155 XJ77 NJ77 eJ77 _ (by simp only [if_pos c148, if_neg c149, if_neg c153])
          · skip
            refine Home.go (fun _ => XS.ifYes XJ77.here hx rfl (pc0 := 452) (pc' := 493) rfl (hb hby at_452) rfl ((if0 _ _).trans (feq (mt (lw_eq _ _).mp c148)).2) (by decide) (by decide)) ?_
            refine Home.run XJ77 hx hby sg0_493_1 (pc' := 494) (L' := #[.val (.long j0), .second, .val (.long j1), .second, .val (.int i2), .val (.int i3), .val (.int i4), .val (.int i5), .val (.int v1), .val (.int (1 : Int32)), .val (.int (1 : Int32)), .val (.int (0 : Int32)), .val (.int v21), .val (.int v22), .val (.long v23), .second, .val (.long v28), .second, .val (.long v29), .second, .val (.long v30), .second, .val (.long v31), .second, .val (.long (j1 + v23)), .second, .val (.long v32), .second, .val (.long v37), .second, .val (.long v42), .second, .val (.long v47), .second, .val (.long (100000000 : Int64)), .second, .val (.long v48), .second, .val (.ref b49), .val (.long r56), .second, .val (.long r62), .second, .val (.long r68), .second, .val (.int (1 : Int32)), .val (.int v78), .val (.int (1 : Int32)), .unset, .unset, .unset, .unset, .unset]) (S' := [(.int (0 : Int32))]) rfl ?_
            exact J155 XJ77 NJ77 eJ77 _ (by simp only [if_neg c148])
        intro TJ155 lcJ155 XJ155 NJ155 eJ155 v156 hv156
        have bv156 : ¬ v156 < (0 : Int32) ∧ ¬ (1 : Int32) < v156 := by rw [hv156]; (repeat' split) <;> first | exact bnd_mono (bnd_lit (1 : Int32)) (by decide +kernel) (by decide +kernel) | exact bnd_mono (bnd_lit (0 : Int32)) (by decide +kernel) (by decide +kernel)
        show Home TJ155 (mkF m 494 #[.val (.long j0), .second, .val (.long j1), .second, .val (.int i2), .val (.int i3), .val (.int i4), .val (.int i5), .val (.int v1), .val (.int (1 : Int32)), .val (.int (1 : Int32)), .val (.int (0 : Int32)), .val (.int v21), .val (.int v22), .val (.long v23), .second, .val (.long v28), .second, .val (.long v29), .second, .val (.long v30), .second, .val (.long v31), .second, .val (.long (j1 + v23)), .second, .val (.long v32), .second, .val (.long v37), .second, .val (.long v42), .second, .val (.long v47), .second, .val (.long (100000000 : Int64)), .second, .val (.long v48), .second, .val (.ref b49), .val (.long r56), .second, .val (.long r62), .second, .val (.long r68), .second, .val (.int (1 : Int32)), .val (.int v78), .val (.int (1 : Int32)), .unset, .unset, .unset, .unset, .unset] [(.int v156)])
        exact Home.retN XJ155 hx hlk (t := .boolean) hret (by simp) (hb hby at_494) ⟨congrArg some (congrArg Value.int (own_end2 j0 j1 i2 i3 i4 i5 v1 hv1 v6 hv6 v11 hv11 v16 hv16 v21 hv21 v22 hv22 v23 hv23 v28 hv28 v29 hv29 v30 hv30 v31 hv31 v32 hv32 v37 hv37 v42 hv42 v47 hv47 v48 hv48 r52 hr52 r53 hr53 r54 hr54 r55 hr55 r56 hr56 r58 hr58 r59 hr59 r60 hr60 r61 hr61 r62 hr62 r64 hr64 r65 hr65 r66 hr66 r67 hr67 r68 hr68 v78 hv78 v156 hv156 c79 c84 c124)), NJ155⟩ (by decide) (by decide)
  · skip
    refine Home.go (fun _ => XS.ifNo XJ77.here hx rfl (hb hby at_316) rfl ((if0 _ _).trans (feq c79).1)) ?_
    have bd82 : ¬ v16 < (1 : Int32) ∧ ¬ (1 : Int32) < v16 := ⟨(bnd_nel bv16.1 c79 (by decide +kernel)), bv16.2⟩
    have fx83 : v16 = (1 : Int32) := bnd_fix bd82
    try rw [fx83]
    show Home TJ77 (mkF m 319 #[.val (.long j0), .second, .val (.long j1), .second, .val (.int i2), .val (.int i3), .val (.int i4), .val (.int i5), .val (.int v1), .val (.int v6), .val (.int v11), .val (.int (1 : Int32)), .val (.int v21), .val (.int v22), .val (.long v23), .second, .val (.long v28), .second, .val (.long v29), .second, .val (.long v30), .second, .val (.long v31), .second, .val (.long (j1 + v23)), .second, .val (.long v32), .second, .val (.long v37), .second, .val (.long v42), .second, .val (.long v47), .second, .val (.long (100000000 : Int64)), .second, .val (.long v48), .second, .val (.ref b49), .val (.long r56), .second, .val (.long r62), .second, .val (.long r68), .second, .val (.int v6), .val (.int v78), .unset, .unset, .unset, .unset, .unset, .unset] [])
    refine Home.run XJ77 hx hby sg0_319_5 (pc' := 442) (L' := #[.val (.long j0), .second, .val (.long j1), .second, .val (.int i2), .val (.int i3), .val (.int i4), .val (.int i5), .val (.int v1), .val (.int v6), .val (.int v11), .val (.int (1 : Int32)), .val (.int v21), .val (.int v22), .val (.long v23), .second, .val (.long v28), .second, .val (.long v29), .second, .val (.long v30), .second, .val (.long v31), .second, .val (.long (j1 + v23)), .second, .val (.long v32), .second, .val (.long v37), .second, .val (.long v42), .second, .val (.long v47), .second, .val (.long (100000000 : Int64)), .second, .val (.long v48), .second, .val (.ref b49), .val (.long r56), .second, .val (.long r62), .second, .val (.long r68), .second, .val (.int v6), .val (.int v78), .val (.int (1 : Int32)), .unset, .unset, .unset, .unset, .unset]) (S' := [(.int v6), (.long r56)]) rfl ?_
    suffices J160 : ∀ {T : State} {lc : List Loc} (X : Stand p l e room_1 s m #[(.long j0), (.long j1), (.int i2), (.int i3), (.int i4), (.int i5)] below meth c T lc 1 5) (N : Fr n0 lc) (eT : T.heap = T63.heap) (v161 : Int64) (hv161 : v161 = (if v6 = (0 : Int32) then (0 : Int64) else v48)), @Home p e below s _ _ _ T (mkF m 451 #[.val (.long j0), .second, .val (.long j1), .second, .val (.int i2), .val (.int i3), .val (.int i4), .val (.int i5), .val (.int v1), .val (.int v6), .val (.int v11), .val (.int (1 : Int32)), .val (.int v21), .val (.int v22), .val (.long v23), .second, .val (.long v28), .second, .val (.long v29), .second, .val (.long v30), .second, .val (.long v31), .second, .val (.long (j1 + v23)), .second, .val (.long v32), .second, .val (.long v37), .second, .val (.long v42), .second, .val (.long v47), .second, .val (.long (100000000 : Int64)), .second, .val (.long v48), .second, .val (.ref b49), .val (.long r56), .second, .val (.long r62), .second, .val (.long r68), .second, .val (.int v6), .val (.int v78), .val (.int (1 : Int32)), .unset, .unset, .unset, .unset, .unset] [(.long v161), (.long r56)]) by
      by_cases c157 : v6 = (0 : Int32)
      · skip
        refine Home.go (fun _ => XS.ifYes XJ77.here hx rfl (pc0 := 442) (pc' := 450) rfl (hb hby at_442) rfl ((if0 _ _).trans (teq c157).1) (by decide) (by decide)) ?_
        have bd158 : ¬ v6 < (0 : Int32) ∧ ¬ (0 : Int32) < v6 := ⟨(bnd_eql c157), (bnd_eqr c157)⟩
        refine Home.run XJ77 hx hby sg0_450_1 (pc' := 451) (L' := #[.val (.long j0), .second, .val (.long j1), .second, .val (.int i2), .val (.int i3), .val (.int i4), .val (.int i5), .val (.int v1), .val (.int v6), .val (.int v11), .val (.int (1 : Int32)), .val (.int v21), .val (.int v22), .val (.long v23), .second, .val (.long v28), .second, .val (.long v29), .second, .val (.long v30), .second, .val (.long v31), .second, .val (.long (j1 + v23)), .second, .val (.long v32), .second, .val (.long v37), .second, .val (.long v42), .second, .val (.long v47), .second, .val (.long (100000000 : Int64)), .second, .val (.long v48), .second, .val (.ref b49), .val (.long r56), .second, .val (.long r62), .second, .val (.long r68), .second, .val (.int v6), .val (.int v78), .val (.int (1 : Int32)), .unset, .unset, .unset, .unset, .unset]) (S' := [(.long (0 : Int64)), (.long r56)]) rfl ?_
        exact J160 XJ77 NJ77 eJ77 _ (by simp only [if_pos c157])
      · skip
        refine Home.go (fun _ => XS.ifNo XJ77.here hx rfl (hb hby at_442) rfl ((if0 _ _).trans (feq c157).1)) ?_
        have bd159 : ¬ v6 < (1 : Int32) ∧ ¬ (1 : Int32) < v6 := ⟨(bnd_nel bv6.1 c157 (by decide +kernel)), bv6.2⟩
        refine Home.run XJ77 hx hby sg0_445_2 (pc' := 451) (L' := #[.val (.long j0), .second, .val (.long j1), .second, .val (.int i2), .val (.int i3), .val (.int i4), .val (.int i5), .val (.int v1), .val (.int v6), .val (.int v11), .val (.int (1 : Int32)), .val (.int v21), .val (.int v22), .val (.long v23), .second, .val (.long v28), .second, .val (.long v29), .second, .val (.long v30), .second, .val (.long v31), .second, .val (.long (j1 + v23)), .second, .val (.long v32), .second, .val (.long v37), .second, .val (.long v42), .second, .val (.long v47), .second, .val (.long (100000000 : Int64)), .second, .val (.long v48), .second, .val (.ref b49), .val (.long r56), .second, .val (.long r62), .second, .val (.long r68), .second, .val (.int v6), .val (.int v78), .val (.int (1 : Int32)), .unset, .unset, .unset, .unset, .unset]) (S' := [(.long v48), (.long r56)]) rfl ?_
        exact J160 XJ77 NJ77 eJ77 _ (by simp only [if_neg c157])
    intro TJ160 lcJ160 XJ160 NJ160 eJ160 v161 hv161
    show Home TJ160 (mkF m 451 #[.val (.long j0), .second, .val (.long j1), .second, .val (.int i2), .val (.int i3), .val (.int i4), .val (.int i5), .val (.int v1), .val (.int v6), .val (.int v11), .val (.int (1 : Int32)), .val (.int v21), .val (.int v22), .val (.long v23), .second, .val (.long v28), .second, .val (.long v29), .second, .val (.long v30), .second, .val (.long v31), .second, .val (.long (j1 + v23)), .second, .val (.long v32), .second, .val (.long v37), .second, .val (.long v42), .second, .val (.long v47), .second, .val (.long (100000000 : Int64)), .second, .val (.long v48), .second, .val (.ref b49), .val (.long r56), .second, .val (.long r62), .second, .val (.long r68), .second, .val (.int v6), .val (.int v78), .val (.int (1 : Int32)), .unset, .unset, .unset, .unset, .unset] [(.long v161), (.long r56)])
    refine Home.run XJ160 hx hby sg0_451_1 (pc' := 452) (L' := #[.val (.long j0), .second, .val (.long j1), .second, .val (.int i2), .val (.int i3), .val (.int i4), .val (.int i5), .val (.int v1), .val (.int v6), .val (.int v11), .val (.int (1 : Int32)), .val (.int v21), .val (.int v22), .val (.long v23), .second, .val (.long v28), .second, .val (.long v29), .second, .val (.long v30), .second, .val (.long v31), .second, .val (.long (j1 + v23)), .second, .val (.long v32), .second, .val (.long v37), .second, .val (.long v42), .second, .val (.long v47), .second, .val (.long (100000000 : Int64)), .second, .val (.long v48), .second, .val (.ref b49), .val (.long r56), .second, .val (.long r62), .second, .val (.long r68), .second, .val (.int v6), .val (.int v78), .val (.int (1 : Int32)), .unset, .unset, .unset, .unset, .unset]) (S' := [(.int (lcmpW r56 v161))]) rfl ?_
    suffices J169 : ∀ {T : State} {lc : List Loc} (X : Stand p l e room_1 s m #[(.long j0), (.long j1), (.int i2), (.int i3), (.int i4), (.int i5)] below meth c T lc 1 5) (N : Fr n0 lc) (eT : T.heap = T63.heap) (v170 : Int32) (hv170 : v170 = (if r56 = v161 then (if v78 = (0 : Int32) then (if r62 = (0 : Int64) then (if r68 = v48 then (1 : Int32) else (0 : Int32)) else (0 : Int32)) else (if r62 = v48 then (if r68 = v48 then (1 : Int32) else (0 : Int32)) else (0 : Int32))) else (0 : Int32))), @Home p e below s _ _ _ T (mkF m 494 #[.val (.long j0), .second, .val (.long j1), .second, .val (.int i2), .val (.int i3), .val (.int i4), .val (.int i5), .val (.int v1), .val (.int v6), .val (.int v11), .val (.int (1 : Int32)), .val (.int v21), .val (.int v22), .val (.long v23), .second, .val (.long v28), .second, .val (.long v29), .second, .val (.long v30), .second, .val (.long v31), .second, .val (.long (j1 + v23)), .second, .val (.long v32), .second, .val (.long v37), .second, .val (.long v42), .second, .val (.long v47), .second, .val (.long (100000000 : Int64)), .second, .val (.long v48), .second, .val (.ref b49), .val (.long r56), .second, .val (.long r62), .second, .val (.long r68), .second, .val (.int v6), .val (.int v78), .val (.int (1 : Int32)), .unset, .unset, .unset, .unset, .unset] [(.int v170)]) by
      by_cases c162 : r56 = v161
      · skip
        refine Home.go (fun _ => XS.ifNo XJ160.here hx rfl (hb hby at_452) rfl ((if0 _ _).trans (teq ((lw_eq _ _).mpr c162)).2)) ?_
        refine Home.run XJ160 hx hby sg0_455_2 (pc' := 459) (L' := #[.val (.long j0), .second, .val (.long j1), .second, .val (.int i2), .val (.int i3), .val (.int i4), .val (.int i5), .val (.int v1), .val (.int v6), .val (.int v11), .val (.int (1 : Int32)), .val (.int v21), .val (.int v22), .val (.long v23), .second, .val (.long v28), .second, .val (.long v29), .second, .val (.long v30), .second, .val (.long v31), .second, .val (.long (j1 + v23)), .second, .val (.long v32), .second, .val (.long v37), .second, .val (.long v42), .second, .val (.long v47), .second, .val (.long (100000000 : Int64)), .second, .val (.long v48), .second, .val (.ref b49), .val (.long r56), .second, .val (.long r62), .second, .val (.long r68), .second, .val (.int v6), .val (.int v78), .val (.int (1 : Int32)), .unset, .unset, .unset, .unset, .unset]) (S' := [(.int v78), (.long r62)]) rfl ?_
        by_cases c163 : v78 = (0 : Int32)
        · skip
          refine Home.go (fun _ => XS.ifYes XJ160.here hx rfl (pc0 := 459) (pc' := 467) rfl (hb hby at_459) rfl ((if0 _ _).trans (teq c163).1) (by decide) (by decide)) ?_
          have bd164 : ¬ v78 < (0 : Int32) ∧ ¬ (0 : Int32) < v78 := ⟨(bnd_eql c163), (bnd_eqr c163)⟩
          refine Home.run XJ160 hx hby sg0_467_2 (pc' := 469) (L' := #[.val (.long j0), .second, .val (.long j1), .second, .val (.int i2), .val (.int i3), .val (.int i4), .val (.int i5), .val (.int v1), .val (.int v6), .val (.int v11), .val (.int (1 : Int32)), .val (.int v21), .val (.int v22), .val (.long v23), .second, .val (.long v28), .second, .val (.long v29), .second, .val (.long v30), .second, .val (.long v31), .second, .val (.long (j1 + v23)), .second, .val (.long v32), .second, .val (.long v37), .second, .val (.long v42), .second, .val (.long v47), .second, .val (.long (100000000 : Int64)), .second, .val (.long v48), .second, .val (.ref b49), .val (.long r56), .second, .val (.long r62), .second, .val (.long r68), .second, .val (.int v6), .val (.int v78), .val (.int (1 : Int32)), .unset, .unset, .unset, .unset, .unset]) (S' := [(.int (lcmpW r62 (0 : Int64)))]) rfl ?_
          by_cases c165 : r62 = (0 : Int64)
          · skip
            refine Home.go (fun _ => XS.ifNo XJ160.here hx rfl (hb hby at_469) rfl ((if0 _ _).trans (teq ((lw_eq _ _).mpr c165)).2)) ?_
            refine Home.run XJ160 hx hby sg0_472_2 (pc' := 476) (L' := #[.val (.long j0), .second, .val (.long j1), .second, .val (.int i2), .val (.int i3), .val (.int i4), .val (.int i5), .val (.int v1), .val (.int v6), .val (.int v11), .val (.int (1 : Int32)), .val (.int v21), .val (.int v22), .val (.long v23), .second, .val (.long v28), .second, .val (.long v29), .second, .val (.long v30), .second, .val (.long v31), .second, .val (.long (j1 + v23)), .second, .val (.long v32), .second, .val (.long v37), .second, .val (.long v42), .second, .val (.long v47), .second, .val (.long (100000000 : Int64)), .second, .val (.long v48), .second, .val (.ref b49), .val (.long r56), .second, .val (.long r62), .second, .val (.long r68), .second, .val (.int v6), .val (.int v78), .val (.int (1 : Int32)), .unset, .unset, .unset, .unset, .unset]) (S' := [(.int (1 : Int32)), (.long r68)]) rfl ?_
            refine Home.go (fun _ => XS.ifNo XJ160.here hx rfl (hb hby at_476) rfl ((if0 _ _).trans (feq (by decide)).1)) ?_
            refine Home.run XJ160 hx hby sg0_479_3 (pc' := 486) (L' := #[.val (.long j0), .second, .val (.long j1), .second, .val (.int i2), .val (.int i3), .val (.int i4), .val (.int i5), .val (.int v1), .val (.int v6), .val (.int v11), .val (.int (1 : Int32)), .val (.int v21), .val (.int v22), .val (.long v23), .second, .val (.long v28), .second, .val (.long v29), .second, .val (.long v30), .second, .val (.long v31), .second, .val (.long (j1 + v23)), .second, .val (.long v32), .second, .val (.long v37), .second, .val (.long v42), .second, .val (.long v47), .second, .val (.long (100000000 : Int64)), .second, .val (.long v48), .second, .val (.ref b49), .val (.long r56), .second, .val (.long r62), .second, .val (.long r68), .second, .val (.int v6), .val (.int v78), .val (.int (1 : Int32)), .unset, .unset, .unset, .unset, .unset]) (S' := [(.int (lcmpW r68 v48))]) rfl ?_
            by_cases c166 : r68 = v48
            · skip
              refine Home.go (fun _ => XS.ifNo XJ160.here hx rfl (hb hby at_486) rfl ((if0 _ _).trans (teq ((lw_eq _ _).mpr c166)).2)) ?_
              refine Home.run XJ160 hx hby sg0_489_2 (pc' := 494) (L' := #[.val (.long j0), .second, .val (.long j1), .second, .val (.int i2), .val (.int i3), .val (.int i4), .val (.int i5), .val (.int v1), .val (.int v6), .val (.int v11), .val (.int (1 : Int32)), .val (.int v21), .val (.int v22), .val (.long v23), .second, .val (.long v28), .second, .val (.long v29), .second, .val (.long v30), .second, .val (.long v31), .second, .val (.long (j1 + v23)), .second, .val (.long v32), .second, .val (.long v37), .second, .val (.long v42), .second, .val (.long v47), .second, .val (.long (100000000 : Int64)), .second, .val (.long v48), .second, .val (.ref b49), .val (.long r56), .second, .val (.long r62), .second, .val (.long r68), .second, .val (.int v6), .val (.int v78), .val (.int (1 : Int32)), .unset, .unset, .unset, .unset, .unset]) (S' := [(.int (1 : Int32))]) rfl ?_
              exact J169 XJ160 NJ160 eJ160 _ (by simp only [if_pos c162, if_pos c163, if_pos c165, if_pos c166])
            · skip
              refine Home.go (fun _ => XS.ifYes XJ160.here hx rfl (pc0 := 486) (pc' := 493) rfl (hb hby at_486) rfl ((if0 _ _).trans (feq (mt (lw_eq _ _).mp c166)).2) (by decide) (by decide)) ?_
              refine Home.run XJ160 hx hby sg0_493_1 (pc' := 494) (L' := #[.val (.long j0), .second, .val (.long j1), .second, .val (.int i2), .val (.int i3), .val (.int i4), .val (.int i5), .val (.int v1), .val (.int v6), .val (.int v11), .val (.int (1 : Int32)), .val (.int v21), .val (.int v22), .val (.long v23), .second, .val (.long v28), .second, .val (.long v29), .second, .val (.long v30), .second, .val (.long v31), .second, .val (.long (j1 + v23)), .second, .val (.long v32), .second, .val (.long v37), .second, .val (.long v42), .second, .val (.long v47), .second, .val (.long (100000000 : Int64)), .second, .val (.long v48), .second, .val (.ref b49), .val (.long r56), .second, .val (.long r62), .second, .val (.long r68), .second, .val (.int v6), .val (.int v78), .val (.int (1 : Int32)), .unset, .unset, .unset, .unset, .unset]) (S' := [(.int (0 : Int32))]) rfl ?_
              exact J169 XJ160 NJ160 eJ160 _ (by simp only [if_pos c162, if_pos c163, if_pos c165, if_neg c166])
          · skip
            refine Home.go (fun _ => XS.ifYes XJ160.here hx rfl (pc0 := 469) (pc' := 493) rfl (hb hby at_469) rfl ((if0 _ _).trans (feq (mt (lw_eq _ _).mp c165)).2) (by decide) (by decide)) ?_
            refine Home.run XJ160 hx hby sg0_493_1 (pc' := 494) (L' := #[.val (.long j0), .second, .val (.long j1), .second, .val (.int i2), .val (.int i3), .val (.int i4), .val (.int i5), .val (.int v1), .val (.int v6), .val (.int v11), .val (.int (1 : Int32)), .val (.int v21), .val (.int v22), .val (.long v23), .second, .val (.long v28), .second, .val (.long v29), .second, .val (.long v30), .second, .val (.long v31), .second, .val (.long (j1 + v23)), .second, .val (.long v32), .second, .val (.long v37), .second, .val (.long v42), .second, .val (.long v47), .second, .val (.long (100000000 : Int64)), .second, .val (.long v48), .second, .val (.ref b49), .val (.long r56), .second, .val (.long r62), .second, .val (.long r68), .second, .val (.int v6), .val (.int v78), .val (.int (1 : Int32)), .unset, .unset, .unset, .unset, .unset]) (S' := [(.int (0 : Int32))]) rfl ?_
            exact J169 XJ160 NJ160 eJ160 _ (by simp only [if_pos c162, if_pos c163, if_neg c165])
        · skip
          refine Home.go (fun _ => XS.ifNo XJ160.here hx rfl (hb hby at_459) rfl ((if0 _ _).trans (feq c163).1)) ?_
          refine Home.run XJ160 hx hby sg0_462_3 (pc' := 469) (L' := #[.val (.long j0), .second, .val (.long j1), .second, .val (.int i2), .val (.int i3), .val (.int i4), .val (.int i5), .val (.int v1), .val (.int v6), .val (.int v11), .val (.int (1 : Int32)), .val (.int v21), .val (.int v22), .val (.long v23), .second, .val (.long v28), .second, .val (.long v29), .second, .val (.long v30), .second, .val (.long v31), .second, .val (.long (j1 + v23)), .second, .val (.long v32), .second, .val (.long v37), .second, .val (.long v42), .second, .val (.long v47), .second, .val (.long (100000000 : Int64)), .second, .val (.long v48), .second, .val (.ref b49), .val (.long r56), .second, .val (.long r62), .second, .val (.long r68), .second, .val (.int v6), .val (.int v78), .val (.int (1 : Int32)), .unset, .unset, .unset, .unset, .unset]) (S' := [(.int (lcmpW r62 v48))]) rfl ?_
          by_cases c167 : r62 = v48
          · skip
            refine Home.go (fun _ => XS.ifNo XJ160.here hx rfl (hb hby at_469) rfl ((if0 _ _).trans (teq ((lw_eq _ _).mpr c167)).2)) ?_
            refine Home.run XJ160 hx hby sg0_472_2 (pc' := 476) (L' := #[.val (.long j0), .second, .val (.long j1), .second, .val (.int i2), .val (.int i3), .val (.int i4), .val (.int i5), .val (.int v1), .val (.int v6), .val (.int v11), .val (.int (1 : Int32)), .val (.int v21), .val (.int v22), .val (.long v23), .second, .val (.long v28), .second, .val (.long v29), .second, .val (.long v30), .second, .val (.long v31), .second, .val (.long (j1 + v23)), .second, .val (.long v32), .second, .val (.long v37), .second, .val (.long v42), .second, .val (.long v47), .second, .val (.long (100000000 : Int64)), .second, .val (.long v48), .second, .val (.ref b49), .val (.long r56), .second, .val (.long r62), .second, .val (.long r68), .second, .val (.int v6), .val (.int v78), .val (.int (1 : Int32)), .unset, .unset, .unset, .unset, .unset]) (S' := [(.int (1 : Int32)), (.long r68)]) rfl ?_
            refine Home.go (fun _ => XS.ifNo XJ160.here hx rfl (hb hby at_476) rfl ((if0 _ _).trans (feq (by decide)).1)) ?_
            refine Home.run XJ160 hx hby sg0_479_3 (pc' := 486) (L' := #[.val (.long j0), .second, .val (.long j1), .second, .val (.int i2), .val (.int i3), .val (.int i4), .val (.int i5), .val (.int v1), .val (.int v6), .val (.int v11), .val (.int (1 : Int32)), .val (.int v21), .val (.int v22), .val (.long v23), .second, .val (.long v28), .second, .val (.long v29), .second, .val (.long v30), .second, .val (.long v31), .second, .val (.long (j1 + v23)), .second, .val (.long v32), .second, .val (.long v37), .second, .val (.long v42), .second, .val (.long v47), .second, .val (.long (100000000 : Int64)), .second, .val (.long v48), .second, .val (.ref b49), .val (.long r56), .second, .val (.long r62), .second, .val (.long r68), .second, .val (.int v6), .val (.int v78), .val (.int (1 : Int32)), .unset, .unset, .unset, .unset, .unset]) (S' := [(.int (lcmpW r68 v48))]) rfl ?_
            by_cases c168 : r68 = v48
            · skip
              refine Home.go (fun _ => XS.ifNo XJ160.here hx rfl (hb hby at_486) rfl ((if0 _ _).trans (teq ((lw_eq _ _).mpr c168)).2)) ?_
              refine Home.run XJ160 hx hby sg0_489_2 (pc' := 494) (L' := #[.val (.long j0), .second, .val (.long j1), .second, .val (.int i2), .val (.int i3), .val (.int i4), .val (.int i5), .val (.int v1), .val (.int v6), .val (.int v11), .val (.int (1 : Int32)), .val (.int v21), .val (.int v22), .val (.long v23), .second, .val (.long v28), .second, .val (.long v29), .second, .val (.long v30), .second, .val (.long v31), .second, .val (.long (j1 + v23)), .second, .val (.long v32), .second, .val (.long v37), .second, .val (.long v42), .second, .val (.long v47), .second, .val (.long (100000000 : Int64)), .second, .val (.long v48), .second, .val (.ref b49), .val (.long r56), .second, .val (.long r62), .second, .val (.long r68), .second, .val (.int v6), .val (.int v78), .val (.int (1 : Int32)), .unset, .unset, .unset, .unset, .unset]) (S' := [(.int (1 : Int32))]) rfl ?_
              exact J169 XJ160 NJ160 eJ160 _ (by simp only [if_pos c162, if_neg c163, if_pos c167, if_pos c168])
            · skip
              refine Home.go (fun _ => XS.ifYes XJ160.here hx rfl (pc0 := 486) (pc' := 493) rfl (hb hby at_486) rfl ((if0 _ _).trans (feq (mt (lw_eq _ _).mp c168)).2) (by decide) (by decide)) ?_
              refine Home.run XJ160 hx hby sg0_493_1 (pc' := 494) (L' := #[.val (.long j0), .second, .val (.long j1), .second, .val (.int i2), .val (.int i3), .val (.int i4), .val (.int i5), .val (.int v1), .val (.int v6), .val (.int v11), .val (.int (1 : Int32)), .val (.int v21), .val (.int v22), .val (.long v23), .second, .val (.long v28), .second, .val (.long v29), .second, .val (.long v30), .second, .val (.long v31), .second, .val (.long (j1 + v23)), .second, .val (.long v32), .second, .val (.long v37), .second, .val (.long v42), .second, .val (.long v47), .second, .val (.long (100000000 : Int64)), .second, .val (.long v48), .second, .val (.ref b49), .val (.long r56), .second, .val (.long r62), .second, .val (.long r68), .second, .val (.int v6), .val (.int v78), .val (.int (1 : Int32)), .unset, .unset, .unset, .unset, .unset]) (S' := [(.int (0 : Int32))]) rfl ?_
              exact J169 XJ160 NJ160 eJ160 _ (by simp only [if_pos c162, if_neg c163, if_pos c167, if_neg c168])
          · skip
            refine Home.go (fun _ => XS.ifYes XJ160.here hx rfl (pc0 := 469) (pc' := 493) rfl (hb hby at_469) rfl ((if0 _ _).trans (feq (mt (lw_eq _ _).mp c167)).2) (by decide) (by decide)) ?_
            refine Home.run XJ160 hx hby sg0_493_1 (pc' := 494) (L' := #[.val (.long j0), .second, .val (.long j1), .second, .val (.int i2), .val (.int i3), .val (.int i4), .val (.int i5), .val (.int v1), .val (.int v6), .val (.int v11), .val (.int (1 : Int32)), .val (.int v21), .val (.int v22), .val (.long v23), .second, .val (.long v28), .second, .val (.long v29), .second, .val (.long v30), .second, .val (.long v31), .second, .val (.long (j1 + v23)), .second, .val (.long v32), .second, .val (.long v37), .second, .val (.long v42), .second, .val (.long v47), .second, .val (.long (100000000 : Int64)), .second, .val (.long v48), .second, .val (.ref b49), .val (.long r56), .second, .val (.long r62), .second, .val (.long r68), .second, .val (.int v6), .val (.int v78), .val (.int (1 : Int32)), .unset, .unset, .unset, .unset, .unset]) (S' := [(.int (0 : Int32))]) rfl ?_
            exact J169 XJ160 NJ160 eJ160 _ (by simp only [if_pos c162, if_neg c163, if_neg c167])
      · skip
        refine Home.go (fun _ => XS.ifYes XJ160.here hx rfl (pc0 := 452) (pc' := 493) rfl (hb hby at_452) rfl ((if0 _ _).trans (feq (mt (lw_eq _ _).mp c162)).2) (by decide) (by decide)) ?_
        refine Home.run XJ160 hx hby sg0_493_1 (pc' := 494) (L' := #[.val (.long j0), .second, .val (.long j1), .second, .val (.int i2), .val (.int i3), .val (.int i4), .val (.int i5), .val (.int v1), .val (.int v6), .val (.int v11), .val (.int (1 : Int32)), .val (.int v21), .val (.int v22), .val (.long v23), .second, .val (.long v28), .second, .val (.long v29), .second, .val (.long v30), .second, .val (.long v31), .second, .val (.long (j1 + v23)), .second, .val (.long v32), .second, .val (.long v37), .second, .val (.long v42), .second, .val (.long v47), .second, .val (.long (100000000 : Int64)), .second, .val (.long v48), .second, .val (.ref b49), .val (.long r56), .second, .val (.long r62), .second, .val (.long r68), .second, .val (.int v6), .val (.int v78), .val (.int (1 : Int32)), .unset, .unset, .unset, .unset, .unset]) (S' := [(.int (0 : Int32))]) rfl ?_
        exact J169 XJ160 NJ160 eJ160 _ (by simp only [if_neg c162])
    intro TJ169 lcJ169 XJ169 NJ169 eJ169 v170 hv170
    have bv170 : ¬ v170 < (0 : Int32) ∧ ¬ (1 : Int32) < v170 := by rw [hv170]; (repeat' split) <;> first | exact bnd_mono (bnd_lit (1 : Int32)) (by decide +kernel) (by decide +kernel) | exact bnd_mono (bnd_lit (0 : Int32)) (by decide +kernel) (by decide +kernel)
    show Home TJ169 (mkF m 494 #[.val (.long j0), .second, .val (.long j1), .second, .val (.int i2), .val (.int i3), .val (.int i4), .val (.int i5), .val (.int v1), .val (.int v6), .val (.int v11), .val (.int (1 : Int32)), .val (.int v21), .val (.int v22), .val (.long v23), .second, .val (.long v28), .second, .val (.long v29), .second, .val (.long v30), .second, .val (.long v31), .second, .val (.long (j1 + v23)), .second, .val (.long v32), .second, .val (.long v37), .second, .val (.long v42), .second, .val (.long v47), .second, .val (.long (100000000 : Int64)), .second, .val (.long v48), .second, .val (.ref b49), .val (.long r56), .second, .val (.long r62), .second, .val (.long r68), .second, .val (.int v6), .val (.int v78), .val (.int (1 : Int32)), .unset, .unset, .unset, .unset, .unset] [(.int v170)])
    exact Home.retN XJ169 hx hlk (t := .boolean) hret (by simp) (hb hby at_494) ⟨congrArg some (congrArg Value.int (own_end3 j0 j1 i2 i3 i4 i5 v1 hv1 v6 hv6 v11 hv11 v16 hv16 v21 hv21 v22 hv22 v23 hv23 v28 hv28 v29 hv29 v30 hv30 v31 hv31 v32 hv32 v37 hv37 v42 hv42 v47 hv47 v48 hv48 r52 hr52 r53 hr53 r54 hr54 r55 hr55 r56 hr56 r58 hr58 r59 hr59 r60 hr60 r61 hr61 r62 hr62 r64 hr64 r65 hr65 r66 hr66 r67 hr67 r68 hr68 v78 hv78 v161 hv161 v170 hv170 c79)), NJ169⟩ (by decide) (by decide)
set_option maxRecDepth 65536 in
set_option maxHeartbeats 40000000 in
theorem comes_1 {Post : Tables → Env → Array Value → State → Outcome → State → Prop} (hpost : ∀ tb e args s v u, (limb_1_1.after args s (.returned v) u = true ∧ limb_1_2.after args s (.returned v) u = true ∧ True) → FrameEnd s (.returned v) u (Jvm.fieldLocs frame_1_writes args s ++ Jvm.arrayLocs frame_1_arrays args s ++ Jvm.staticLocs frame_1_statics s) 16 128 → Post tb e args s (.returned v) u) :
    ArmFor flags0 classFile x code maxLocals ret World_1 tables_1 room_1 Calls_1 rest_1 Pre_1 Post := by
  intro l hfl _ _ p e ha hc hk s m args below hf hA hF happ hP
  obtain ⟨hcalls, hrest, hpre⟩ := hP
  obtain ⟨-, -, -, hnamed, -, -, -, hat⟩ := (Spec.applies_iff hf).mp happ
  obtain ⟨hg, hn⟩ := and_e (Cond.before_iff.mp (show (Jvm.Cond.and given_1 narrow_1).before args s = true from hpre))
  obtain ⟨gg1, gg2⟩ := and_e hg
  obtain ⟨gg3, gg4⟩ := and_e gg2
  obtain ⟨gg5, gg6⟩ := and_e gg4
  obtain ⟨gg7, gg8⟩ := and_e gg6
  obtain ⟨gg9, gg10⟩ := and_e gg8
  obtain ⟨gg11, gg12⟩ := and_e gg10
  obtain ⟨w0, w1, w2, w3, w4, w5, rfl⟩ : ∃ w0 w1 w2 w3 w4 w5 : Value, args = #[w0, w1, w2, w3, w4, w5] := by
    have hs : args.size = 6 := by simpa [Cond.value, given_1] using gg1
    obtain ⟨L⟩ := args
    match L, hs with
    | [w0, w1, w2, w3, w4, w5], _ => exact ⟨w0, w1, w2, w3, w4, w5, rfl⟩
  have hw := fun d (hd : d ∈ tables_1) => atoms_spec (ws := Jvm.Cond.code x code maxLocals ret :: tables_1) hat d (List.mem_cons_of_mem _ hd)
  have hfit : Fit s := fun {y c} hc i hi => by
    obtain ⟨ha, rfl⟩ := Array.getElem?_eq_some_iff.mp hc
    have q := List.all_eq_true.mp ((Array.all_eq_true_iff_forall_mem.mp hF) _ (Array.getElem_mem ha)) i (List.mem_range.mpr hi)
    simpa [Array.getElem?_eq_getElem hi] using q
  obtain ⟨i0, ei0⟩ := isL_v gg3
  obtain rfl : w0 = (.long i0) := Option.some.inj ei0
  obtain ⟨i1, ei1⟩ := isL_v gg5
  obtain rfl : w1 = (.long i1) := Option.some.inj ei1
  obtain ⟨i2, ei2⟩ := is_v gg7
  obtain rfl : w2 = (.int i2) := Option.some.inj ei2
  obtain ⟨i3, ei3⟩ := is_v gg9
  obtain rfl : w3 = (.int i3) := Option.some.inj ei3
  obtain ⟨i4, ei4⟩ := is_v gg11
  obtain rfl : w4 = (.int i4) := Option.some.inj ei4
  obtain ⟨i5, ei5⟩ := is_v gg12
  obtain rfl : w5 = (.int i5) := Option.some.inj ei5
  have S_STRETCH_NANOS := own_sta_long hn (own_w5 hw) (own_w28 hw)
  obtain ⟨n, o, h1, h2, h3, _, L, rfl, ⟨rfl, N⟩, hq⟩ := rm0 l s _ hw tables_1 i0 i1 i2 i3 i4 i5 s.heap s.heap.size (Old.start s) S_STRETCH_NANOS p e ha hc hk s m _ below hf ((Spec.applies_iff_loose hf).mp happ).1 ⟨rfl, State.Warmed39.refl s, rfl⟩ trivial
  refine ⟨n, _, h1, h2, h3, hpost _ _ _ _ _ _ ⟨Cond.after_iff.mpr rfl, Cond.after_iff.mpr (eq_i res_at (Term.int_eval (1)) rfl), trivial⟩ ⟨hq.1, hq.2.1, (hq.2.2.sift fun y hy => Or.inr (N y hy)).mono (by decide) (by decide)⟩⟩
theorem main_1_1 : Claimed_1_1 := comes_1 fun _ _ _ _ _ _ h hF => ⟨h.1, hF⟩
theorem main_1_2 : Claimed_1_2 := comes_1 fun _ _ _ _ _ _ h hF => ⟨h.2.1, hF⟩
end Jvm.Pilot.@@N@@
namespace Jvm.Pilot.@@N@@
open Jvm Jvm.ClassFile Sem Op Lib Jvm.Free Jvm.Stand Jvm.Pilot.@@N@@.Jvm.D
/-! MADE BY PROGRAM (witnessworld.py) out of the Statement's table words and the real class files: 9 classes; the members and pool entries that the words name. The judged class is class 1, her method 1. -/
namespace start1
open Jvm.ClassFile
def u (s : String) : CpInfo := .utf8 (stringToUtf16 s)
/-- a pool by its gaps: so many unusable entries, then the entry; so many at the end -/
def gap : Nat → List CpInfo → List CpInfo
  | 0, r => r
  | n + 1, r => .unusable :: gap n r
def poolList (es : List (Nat × CpInfo)) (last : Nat) : List CpInfo := es.foldr (fun e r => gap e.1 (e.2 :: r)) (gap last [])
def pool (es : List (Nat × CpInfo)) (last : Nat) : Array CpInfo := ⟨poolList es last⟩
def fileOf (pool : Array CpInfo) (this : Nat) (attrs : Array Attribute := #[]) (ms : Array MethodInfo := #[]) (fl : Nat := 33) (sup : Nat := 0) (ifs : Array Nat := #[]) (fds : Array FieldInfo := #[]) : ClassFile where
  minorVersion := 0
  majorVersion := 65
  constantPool := pool
  accessFlags := fl
  thisClass := this
  superClass := sup
  interfaces := ifs
  fields := fds
  methods := ms
  attributes := attrs
def plain (name : String) (sup : Option ClassId) : Class where
  name := name
  kind := .ordinary
  loader := none
  accessFlags := 33
  super := sup
  interfaces := #[]
  cf := none
  fields := #[]
  methods := #[]
  instanceTypes := #[]
  staticTypes := #[]
  resolved := #[]
  callSites := []
  init := .initialized
  statics := none
  mirror := none

def pool0 : Array CpInfo := pool [(5, u "<init>"), (0, u "()V"), (1, .class_ 10), (1, u "java/lang/Object")] 113

def k0c0 : Code := { maxStack := 0, maxLocals := 1, code := object_method_1_code, exceptionTable := #[], attributes := #[] }
def k0m0 : Method := { name := "<init>", desc := "()V", sig := { parameters := [], returnType := none }, accessFlags := 1, code := some k0c0 }
/-- java/lang/Object -/
def k0 : Class := { plain "java/lang/Object" none with
  accessFlags := 33
  interfaces := #[]
  cf := some (fileOf pool0 8 #[] #[{ accessFlags := 1, nameIndex := 5, descriptorIndex := 6, attributes := #[] }] 33 0 #[] #[])
  fields := #[]
  methods := #[k0m0]
  instanceTypes := #[]
  staticTypes := #[]
  resolved := Array.replicate 124 none
  statics := none }

def pool1 : Array CpInfo := pool [(2, .class_ 4), (1, u "java/lang/Object"), (0, u "<init>"), (0, u "()V"), (0, .integer 2147483647), (0, .long 18446744073709551615), (1, .long 100000000), (1, .long 63), (1, .class_ 15), (0, u "com/example/tryst/tryst/pubsub/Pacing"), (0, .methodref 14 17), (0, .nameAndType 5 18), (0, u "(I)V"), (0, .methodref 14 20), (0, .nameAndType 21 22), (0, u "restAfter"), (0, u "(JJJ)J"), (0, .long 2), (1, .class_ 26), (0, u "com/example/tryst/tryst/pubsub/PacingRestAfterPinLaw"), (2, u "law"), (0, u "(JJIIII)Z")] 3

def k1m0 : Method := { name := "<init>", desc := "()V", sig := { parameters := [], returnType := none }, accessFlags := 1, code := none }
def k1c1 : Code := { maxStack := 7, maxLocals := 53, code := code, exceptionTable := #[], attributes := #[] }
def k1m1 : Method := { name := "law", desc := "(JJIIII)Z", sig := { parameters := [.long, .long, .int, .int, .int, .int], returnType := some .boolean }, accessFlags := 9, code := some k1c1 }
/-- com/example/tryst/tryst/pubsub/PacingRestAfterPinLaw -/
def k1 : Class := { plain "com/example/tryst/tryst/pubsub/PacingRestAfterPinLaw" (some 0) with
  accessFlags := 49
  interfaces := #[]
  cf := some (fileOf pool1 25 #[] #[{ accessFlags := 1, nameIndex := 5, descriptorIndex := 6, attributes := #[] }, { accessFlags := 9, nameIndex := 29, descriptorIndex := 30, attributes := #[] }] 49 2 #[] #[])
  fields := #[]
  methods := #[k1m0, k1m1]
  instanceTypes := #[]
  staticTypes := #[]
  resolved := Array.replicate 34 none
  statics := none }

def pool2 : Array CpInfo := pool [(1, .methodref 2 3), (0, .class_ 4), (0, .nameAndType 5 6), (0, u "java/lang/Object"), (0, u "<init>"), (0, u "()V"), (0, .fieldref 8 9), (0, .class_ 10), (0, .nameAndType 11 12), (0, u "com/example/tryst/tryst/pubsub/Pacing"), (0, u "processors"), (0, u "I"), (0, .fieldref 8 14), (0, .nameAndType 15 16), (0, u "busy"), (0, u "Z"), (0, .fieldref 8 18), (0, .nameAndType 19 16), (0, u "judging"), (0, .fieldref 8 21), (0, .nameAndType 22 23), (0, u "stretchStart"), (0, u "J"), (0, .fieldref 8 25), (0, .nameAndType 26 23), (0, u "othersAtStart"), (0, .fieldref 8 28), (0, .nameAndType 29 23), (0, u "STRETCH_NANOS"), (0, .long 2), (1, .long 63), (13, u "SHARE"), (2, u "STRETCH_MILLIS"), (0, u "(I)V"), (2, u "restAfter"), (0, u "(JJJ)J")] 4

def k2c0 : Code := { maxStack := 2, maxLocals := 2, code := prog_26_method_1_code, exceptionTable := #[], attributes := #[] }
def k2m0 : Method := { name := "<init>", desc := "(I)V", sig := { parameters := [.int], returnType := none }, accessFlags := 0, code := some k2c0 }
def k2c1 : Code := { maxStack := 5, maxLocals := 9, code := prog_26_method_2_code, exceptionTable := #[], attributes := #[] }
def k2m1 : Method := { name := "restAfter", desc := "(JJJ)J", sig := { parameters := [.long, .long, .long], returnType := some .long }, accessFlags := 0, code := some k2c1 }
/-- com/example/tryst/tryst/pubsub/Pacing -/
def k2 : Class := { plain "com/example/tryst/tryst/pubsub/Pacing" (some 0) with
  accessFlags := 48
  interfaces := #[]
  cf := some (fileOf pool2 8 #[] #[{ accessFlags := 0, nameIndex := 5, descriptorIndex := 50, attributes := #[] }, { accessFlags := 0, nameIndex := 53, descriptorIndex := 54, attributes := #[] }] 48 2 #[] #[{ accessFlags := 24, nameIndex := 46, descriptorIndex := 12, attributes := #[] }, { accessFlags := 24, nameIndex := 49, descriptorIndex := 23, attributes := #[] }, { accessFlags := 26, nameIndex := 29, descriptorIndex := 23, attributes := #[] }, { accessFlags := 18, nameIndex := 11, descriptorIndex := 12, attributes := #[] }, { accessFlags := 2, nameIndex := 15, descriptorIndex := 16, attributes := #[] }, { accessFlags := 2, nameIndex := 19, descriptorIndex := 16, attributes := #[] }, { accessFlags := 2, nameIndex := 22, descriptorIndex := 23, attributes := #[] }, { accessFlags := 2, nameIndex := 26, descriptorIndex := 23, attributes := #[] }])
  fields := #[{ name := "SHARE", type := .int, accessFlags := 24, slot := 0, constantValue := 0 }, { name := "STRETCH_MILLIS", type := .long, accessFlags := 24, slot := 1, constantValue := 0 }, { name := "STRETCH_NANOS", type := .long, accessFlags := 26, slot := 2, constantValue := 0 }, { name := "processors", type := .int, accessFlags := 18, slot := 0, constantValue := 0 }, { name := "busy", type := .boolean, accessFlags := 2, slot := 1, constantValue := 0 }, { name := "judging", type := .boolean, accessFlags := 2, slot := 2, constantValue := 0 }, { name := "stretchStart", type := .long, accessFlags := 2, slot := 3, constantValue := 0 }, { name := "othersAtStart", type := .long, accessFlags := 2, slot := 4, constantValue := 0 }]
  methods := #[k2m0, k2m1]
  instanceTypes := #[.int, .boolean, .boolean, .long, .long]
  staticTypes := #[.int, .long, .long]
  resolved := Array.replicate 59 none
  statics := some 0 }

def pool3 : Array CpInfo := pool [(1, u "java/lang/Cloneable"), (0, .class_ 1), (0, u "java/lang/Object"), (0, .class_ 3)] 3

/-- java/lang/Cloneable -/
def k3 : Class := { plain "java/lang/Cloneable" (some 0) with
  accessFlags := 1537
  interfaces := #[]
  cf := some (fileOf pool3 2 #[] #[] 1537 4 #[] #[])
  fields := #[]
  methods := #[]
  instanceTypes := #[]
  staticTypes := #[]
  resolved := Array.replicate 8 none
  statics := none }

def pool4 : Array CpInfo := pool [(1, u "java/io/Serializable"), (0, .class_ 1), (0, u "java/lang/Object"), (0, .class_ 3)] 3

/-- java/io/Serializable -/
def k4 : Class := { plain "java/io/Serializable" (some 0) with
  accessFlags := 1537
  interfaces := #[]
  cf := some (fileOf pool4 2 #[] #[] 1537 4 #[] #[])
  fields := #[]
  methods := #[]
  instanceTypes := #[]
  staticTypes := #[]
  resolved := Array.replicate 8 none
  statics := none }

/-- the primitive byte -/
def k5 : Class := { plain "byte" none with kind := .primitive 'B', accessFlags := 0x411 }
/-- [B -/
def k6 : Class := { plain "[B" (some 0) with kind := .array 5 .byte, interfaces := #[3, 4], accessFlags := 1041 }

/-- the primitive int -/
def k7 : Class := { plain "int" none with kind := .primitive 'I', accessFlags := 0x411 }
/-- [I -/
def k8 : Class := { plain "[I" (some 0) with kind := .array 7 .int, interfaces := #[3, 4], accessFlags := 1041 }

def heap : Heap := #[{ cls := 2, slots := #[.int 0, .long 0, .long 100000000], vm := .statics 2 }]
def classes : Array Class := #[k0, k1, k2, k3, k4, k5, k6, k7, k8]
def interned : List (Array UInt16 × Addr) := []
def slotsUsed : Nat := 3
def theMethod : MethodId := ⟨1, 1⟩
def args0 : Array Value := #[.long 5, .long 6, .int 7, .int 8, .int 9, .int 3]
def aboutOver (below : List Frame) : State where
  vm := { classes := classes, interned := interned.toArray }
  heap := heap
  slotsUsed := slotsUsed
  threads := #[{ frames := .invoking theMethod args0 :: below }]
def below0 : List Frame := [.native { method := ⟨0, 0⟩, args := #[] }]
def about1 : State := aboutOver below0
def p0 : Program := .bare "" "" ""
def e0 : Env := launch0.env 0 0 0
theorem w_frames : about1.frames = Frame.invoking theMethod args0 :: below0 := rfl
set_option maxRecDepth 65536 in
theorem w_args : argsFit about1.vm theMethod args0 = true := by decide +kernel
set_option maxRecDepth 65536 in
theorem w_heap : heapFits about1 = true := by decide +kernel
set_option maxRecDepth 65536 in
theorem w_runnable : about1.curStatus? = some .runnable := by decide +kernel
set_option maxRecDepth 65536 in
theorem w_alone : about1.alone = true := by decide +kernel
set_option maxRecDepth 65536 in
theorem w_named : about1.methodNamed? x = some theMethod := by decide +kernel
set_option maxRecDepth 65536 in
theorem w_hears : about1.hears theMethod below0 = true := by decide +kernel
set_option maxRecDepth 65536 in
theorem w_ripe : about1.ripe theMethod args0 below0 = true := by decide +kernel
theorem w_running : about1.status = .running := rfl
set_option maxRecDepth 65536 in
theorem w_room : about1.hasRoom e0.platform room_1 = true :=
  launch0.hasRoom_least _ room_1 (by decide +kernel) (by decide +kernel) (by decide +kernel) (by decide +kernel) (by decide +kernel) (by decide +kernel)
theorem allAtoms_all (ts : List Jvm.Cond) (a : Array Jvm.Value) (st : Jvm.State) : (allAtoms ts).before a st = ts.all (fun c => c.before a st) := by
  induction ts with
  | nil => rfl
  | cons c t ih =>
    show (Jvm.Cond.and c (allAtoms t)).before a st = _
    rw [Jvm.Cond.before_and, ih, List.all_cons]
def words1 : List Jvm.Cond := Jvm.Cond.code x code maxLocals ret :: tables_1
/-- a 'code' word, met by the world's own term for the bytes: nothing is compared byte by byte -/
theorem code_word {y : MethodName} {bytes : ByteArray} {mx : Nat} {rt : Option FieldType} {a : Array Value} {s : State} {m : MethodId} {meth : Method} {c : Code} (h1 : s.methodNamed? y = some m) (h2 : s.vm.method? m = some meth) (h3 : meth.code = some c) (h4 : c.code = bytes)
    (h5 : (c.maxLocals == mx && c.exceptionTable.isEmpty && decide (c.maxStack ≤ mostOperands) && decide (meth.sig.returnType = rt) && !meth.locks && decide (parseMethodDescriptor y.desc = some meth.sig)) = true) : (Jvm.Cond.code y bytes mx rt).before a s = true := by
  simp only [Bool.and_eq_true, beq_iff_eq, Bool.not_eq_true', decide_eq_true_eq] at h5
  obtain ⟨⟨⟨⟨⟨g1, g2⟩, g3⟩, g4⟩, g5⟩, g6⟩ := h5
  simp [Cond.before, Cond.holds, Cond.value, h1, h2, h3, h4, g1, g2, g3, g4, g5, g6]
def isCode : Jvm.Cond → Bool
  | .code _ _ _ _ => true
  | _ => false
theorem all_split {L : List Jvm.Cond} {P : Jvm.Cond → Bool} (h1 : L.all (fun c => isCode c || P c) = true) (h2 : ∀ c ∈ L.filter isCode, P c = true) : L.all P = true := by
  refine List.all_eq_true.mpr fun c hc => ?_
  have h := List.all_eq_true.mp h1 c hc
  rcases Bool.eq_false_or_eq_true (isCode c) with hi | hi
  · exact h2 c (List.mem_filter.mpr ⟨hc, hi⟩)
  · simpa [hi] using h
set_option maxRecDepth 65536 in
theorem w_c0 : (Jvm.Cond.code x code maxLocals ret).before args0 about1 = true := code_word (m := ⟨1, 1⟩) (meth := k1m1) (c := k1c1) (by decide +kernel) rfl rfl rfl (by decide +kernel)
set_option maxRecDepth 65536 in
theorem w_c1 : (Jvm.Cond.code ({ cls := "com/example/tryst/tryst/pubsub/Pacing", name := "<init>", desc := "(I)V" } : Jvm.MethodName) prog_26_method_1_code (2 : Nat) (Option.none : Option Jvm.ClassFile.FieldType)).before args0 about1 = true := code_word (m := ⟨2, 0⟩) (meth := k2m0) (c := k2c0) (by decide +kernel) rfl rfl rfl (by decide +kernel)
set_option maxRecDepth 65536 in
theorem w_c2 : (Jvm.Cond.code ({ cls := "java/lang/Object", name := "<init>", desc := "()V" } : Jvm.MethodName) object_method_1_code (1 : Nat) (Option.none : Option Jvm.ClassFile.FieldType)).before args0 about1 = true := code_word (m := ⟨0, 0⟩) (meth := k0m0) (c := k0c0) (by decide +kernel) rfl rfl rfl (by decide +kernel)
set_option maxRecDepth 65536 in
theorem w_c3 : (Jvm.Cond.code ({ cls := "com/example/tryst/tryst/pubsub/Pacing", name := "restAfter", desc := "(JJJ)J" } : Jvm.MethodName) prog_26_method_2_code (9 : Nat) (Option.some Jvm.ClassFile.FieldType.long)).before args0 about1 = true := code_word (m := ⟨2, 1⟩) (meth := k2m1) (c := k2c1) (by decide +kernel) rfl rfl rfl (by decide +kernel)
def codes1 : List Jvm.Cond := [Jvm.Cond.code x code maxLocals ret, Jvm.Cond.code ({ cls := "com/example/tryst/tryst/pubsub/Pacing", name := "<init>", desc := "(I)V" } : Jvm.MethodName) prog_26_method_1_code (2 : Nat) (Option.none : Option Jvm.ClassFile.FieldType), Jvm.Cond.code ({ cls := "java/lang/Object", name := "<init>", desc := "()V" } : Jvm.MethodName) object_method_1_code (1 : Nat) (Option.none : Option Jvm.ClassFile.FieldType), Jvm.Cond.code ({ cls := "com/example/tryst/tryst/pubsub/Pacing", name := "restAfter", desc := "(JJJ)J" } : Jvm.MethodName) prog_26_method_2_code (9 : Nat) (Option.some Jvm.ClassFile.FieldType.long)]
set_option maxRecDepth 65536 in
theorem codes_eq : words1.filter isCode = codes1 := rfl
theorem w_codes : ∀ c ∈ words1.filter isCode, c.before args0 about1 = true := by
  rw [codes_eq]
  intro c hc
  simp only [codes1, List.mem_cons, List.not_mem_nil, or_false] at hc
  rcases hc with rfl | rfl | rfl | rfl
  · exact w_c0
  · exact w_c1
  · exact w_c2
  · exact w_c3
set_option maxRecDepth 65536 in
theorem w_t1 : (words1.take 24).all (fun c => isCode c || c.before args0 about1) = true := by decide +kernel
set_option maxRecDepth 65536 in
theorem w_t2 : (words1.drop 24).all (fun c => isCode c || c.before args0 about1) = true := by decide +kernel
theorem w_tables : (allAtoms (Jvm.Cond.code x code maxLocals ret :: tables_1)).before args0 about1 = true := by
  rw [allAtoms_all]
  show words1.all (fun c => c.before args0 about1) = true
  refine all_split ?_ w_codes
  rw [← List.take_append_drop 24 words1, List.all_append, w_t1, w_t2]
  rfl
set_option maxRecDepth 65536 in
theorem w_case : (Jvm.Cond.and given_1 narrow_1).before args0 about1 = true := by decide +kernel
theorem w_applies : (headSpec (Jvm.Cond.code x code maxLocals ret :: tables_1) room_1).applies x e0.platform about1 = true :=
  (Spec.applies_iff w_frames).mpr ⟨w_running, w_runnable, w_alone, w_named, w_hears, w_ripe, w_room, w_tables⟩
theorem atStart : AtStart classFile x code maxLocals ret World_1 tables_1 room_1 Calls_1 rest_1 Pre_1 launch0 p0 e0 about1 theMethod args0 below0 :=
  ⟨lists_1, trivial, launch0.admits_env _ _ _, launch0.least_env, fairChoices_fair.cas, fairChoices_fair.clock, w_frames, w_args, w_heap, w_applies, trivial, trivial, w_case⟩
end start1
theorem witness_1 : WitnessClaimed_1 := ⟨start1.p0, start1.e0, start1.about1, start1.theMethod, start1.args0, start1.below0, start1.atStart⟩
end Jvm.Pilot.@@N@@
