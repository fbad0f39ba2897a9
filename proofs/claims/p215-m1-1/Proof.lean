import JvmDerived
import JvmDerived.Pilot.@@N@@Statement
import JvmDerived.Pilot.@@N@@Code
set_option linter.unusedVariables false
set_option linter.unusedSimpArgs false
namespace Jvm.OwnKit
open Jvm Jvm.ClassFile Sem Op Lib Jvm.Free Jvm.Stand Jvm.LawKit Jvm.RoadKit
section Walk
variable {p : Program} {l : Launch} {e : Env} {R : Room} {s : State} {m : MethodId} {args : Array Value} {below : List Frame} {meth : Method} {c : Code} {T T' : State} {locs : List Loc} {cells slots k n : Nat} {Q : Option Value → Heap → List Loc → Prop} {g g' : JFrame}
/-- from T with the frame g on top the run comes home: it returns, and Q says of what it returned, the heap and the places written -/
def Home {p : Program} {e : Env} {below : List Frame} {s : State} {Q : Option Value → Heap → List Loc → Prop} {k n : Nat} (T : State) (g : JFrame) : Prop :=
  ∃ U o, Steps p.tables e below (T.setTop g) U ∧ U.status = .running ∧ Ended U below o ∧ ∃ v L, o = .returned v ∧ Q v U.heap L ∧ FrameEnd s o U L k n
theorem Home.go (st : ∀ t, Steps p.tables e below (T'.setTop g') t → Steps p.tables e below (T.setTop g) t) (H : @Home p e below s Q k n T' g') : @Home p e below s Q k n T g := by
  obtain ⟨U, o, h1, h2⟩ := H
  exact ⟨U, o, st _ h1, h2⟩
section Cps
variable {S : State → Prop} {S2 : State → Heap → Prop} {W E A D M : Heap → Prop} {A2 : Heap → ClassId → Prop} {O : ClassId → Prop} {h : Heap}
theorem Home.st (q : ∃ T', S T' ∧ T'.heap = h ∧ ∀ t, Steps p.tables e below (T'.setTop g') t → Steps p.tables e below (T.setTop g) t) (H : ∀ T', S T' → T'.heap = h → @Home p e below s Q k n T' g') : @Home p e below s Q k n T g := by
  obtain ⟨T', x, y, st⟩ := q
  exact Home.go st (H T' x y)
theorem Home.wr (q : ∃ T' h', S T' ∧ T'.heap = h' ∧ W h' ∧ ∀ t, Steps p.tables e below (T'.setTop g') t → Steps p.tables e below (T.setTop g) t) (H : ∀ T' h', S T' → T'.heap = h' → W h' → @Home p e below s Q k n T' g') : @Home p e below s Q k n T g := by
  obtain ⟨T', h', x, y, z, st⟩ := q
  exact Home.go st (H T' h' x y z)
theorem Home.nw (q : ∃ T' h', S T' ∧ T'.heap = h' ∧ E h' ∧ A h' ∧ D h' ∧ M h' ∧ ∀ t, Steps p.tables e below (T'.setTop g') t → Steps p.tables e below (T.setTop g) t) (H : ∀ T' h', S T' → T'.heap = h' → E h' → A h' → D h' → M h' → @Home p e below s Q k n T' g') : @Home p e below s Q k n T g := by
  obtain ⟨T', h', x, y, z, u, v, w, st⟩ := q
  exact Home.go st (H T' h' x y z u v w)
theorem Home.na (q : ∃ T' h' c', S T' ∧ T'.heap = h' ∧ E h' ∧ A2 h' c' ∧ ∀ t, Steps p.tables e below (T'.setTop g') t → Steps p.tables e below (T.setTop g) t) (H : ∀ T' h' c', S T' → T'.heap = h' → E h' → A2 h' c' → @Home p e below s Q k n T' g') : @Home p e below s Q k n T g := by
  obtain ⟨T', h', c', x, y, z, u, st⟩ := q
  exact Home.go st (H T' h' c' x y z u)
theorem Home.nr (q : ∃ T' h' c', S T' ∧ T'.heap = h' ∧ E h' ∧ A2 h' c' ∧ O c' ∧ ∀ t, Steps p.tables e below (T'.setTop g') t → Steps p.tables e below (T.setTop g) t) (H : ∀ T' h' c', S T' → T'.heap = h' → E h' → A2 h' c' → O c' → @Home p e below s Q k n T' g') : @Home p e below s Q k n T g := by
  obtain ⟨T', h', c', x, y, z, u, v, st⟩ := q
  exact Home.go st (H T' h' c' x y z u v)
theorem Home.call {S3 : State → List Loc → Prop} {Q3 : Option Value → State → List Loc → Prop} {gv : Option Value → JFrame} (q : ∃ v T' L, S3 T' L ∧ Q3 v T' L ∧ ∀ t, Steps p.tables e below (T'.setTop (gv v)) t → Steps p.tables e below (T.setTop g) t) (H : ∀ v T' L, S3 T' L → Q3 v T' L → @Home p e below s Q k n T' (gv v)) : @Home p e below s Q k n T g := by
  obtain ⟨v, T', L, x, y, st⟩ := q
  exact Home.go st (H v T' L x y)
end Cps
theorem Home.enter (q : g = g') (H : @Home p e below s Q k n T g') : @Home p e below s Q k n T g := by
  subst q; exact H
theorem Home.retN (X : Stand p l e R s m args below meth c T locs cells slots) (hx : p.tables.exec = Jvm.exec) (hlk : meth.locks = false) {pc : Nat} {Ls : Array Slot} {z : Int32} {t : FieldType} {rest : List Value} (hret : meth.sig.returnType = some t) (ht : t = .boolean ∨ t = .byte ∨ t = .char ∨ t = .short)
    (hd : decode c.code pc = .ok (.ireturn, 1)) (hQ : Q (some (.int (nar t z))) T.heap locs) (hk : cells ≤ k) (hn : slots ≤ n) : @Home p e below s Q k n T (mkF m pc Ls (.int z :: rest)) := by
  obtain ⟨fs, hr, hrun, hended, hW, hsame⟩ := X.leave (v := some (.int (nar t z))) (fun h => by rw [hret] at h; cases h) hlk
  exact ⟨_, _, Jvm.RoadKit.retN X hx hret ht hd hr, hrun, hended, _, _, rfl, hQ, ⟨_, rfl⟩, hW, hsame.mono hk hn⟩
theorem Home.ret (X : Stand p l e R s m args below meth c T locs cells slots) (hx : p.tables.exec = Jvm.exec) (hlk : meth.locks = false) {pc : Nat} {Ls : Array Slot} {w : Value} {t : FieldType} {i : Instr} {rest : List Value} (hret : meth.sig.returnType = some t) (hnn : narrow t w = w)
    (hi : (i = .ireturn ∧ (t = .int ∨ t = .boolean ∨ t = .byte ∨ t = .char ∨ t = .short) ∧ ∃ z, w = .int z) ∨ (i = .lreturn ∧ t = .long ∧ ∃ z, w = .long z) ∨ (i = .dreturn ∧ t = .double ∧ ∃ z, w = .double z) ∨ (i = .freturn ∧ t = .float ∧ ∃ z, w = .float z) ∨ (i = .areturn ∧ t.isReference = true ∧ w.isRef = true))
    (hd : decode c.code pc = .ok (i, 1)) (hQ : Q (some w) T.heap locs) (hk : cells ≤ k) (hn : slots ≤ n) : @Home p e below s Q k n T (mkF m pc Ls (w :: rest)) := by
  obtain ⟨fs, hr, hrun, hended, hW, hsame⟩ := X.leave (v := some w) (fun h => by rw [hret] at h; cases h) hlk
  exact ⟨_, _, retOut X hx hret hnn hi hd hr, hrun, hended, _, _, rfl, hQ, ⟨_, rfl⟩, hW, hsame.mono hk hn⟩
theorem Home.retI (X : Stand p l e R s m args below meth c T locs cells slots) (hx : p.tables.exec = Jvm.exec) (hlk : meth.locks = false) {pc : Nat} {Ls : Array Slot} {z : Int32} {rest : List Value} (hret : meth.sig.returnType = some .int)
    (hd : decode c.code pc = .ok (.ireturn, 1)) (hQ : Q (some (.int z)) T.heap locs) (hk : cells ≤ k) (hn : slots ≤ n) : @Home p e below s Q k n T (mkF m pc Ls (.int z :: rest)) :=
  Home.ret X hx hlk hret rfl (Or.inl ⟨rfl, Or.inl rfl, z, rfl⟩) hd hQ hk hn
theorem Home.retJ (X : Stand p l e R s m args below meth c T locs cells slots) (hx : p.tables.exec = Jvm.exec) (hlk : meth.locks = false) {pc : Nat} {Ls : Array Slot} {z : Int64} {rest : List Value} (hret : meth.sig.returnType = some .long)
    (hd : decode c.code pc = .ok (.lreturn, 1)) (hQ : Q (some (.long z)) T.heap locs) (hk : cells ≤ k) (hn : slots ≤ n) : @Home p e below s Q k n T (mkF m pc Ls (.long z :: rest)) :=
  Home.ret X hx hlk hret rfl (Or.inr (Or.inl ⟨rfl, rfl, z, rfl⟩)) hd hQ hk hn
theorem narrow_ref {t : FieldType} {w : Value} (hw : w.isRef = true) : narrow t w = w := by
  rcases ref_cases hw with rfl | ⟨a, rfl⟩ <;> cases t <;> rfl
theorem Home.retR (X : Stand p l e R s m args below meth c T locs cells slots) (hx : p.tables.exec = Jvm.exec) (hlk : meth.locks = false) {pc : Nat} {Ls : Array Slot} {w : Value} {t : FieldType} {rest : List Value} (hret : meth.sig.returnType = some t) (ht : t.isReference = true) (hw : w.isRef = true)
    (hd : decode c.code pc = .ok (.areturn, 1)) (hQ : Q (some w) T.heap locs) (hk : cells ≤ k) (hn : slots ≤ n) : @Home p e below s Q k n T (mkF m pc Ls (w :: rest)) :=
  Home.ret X hx hlk hret (narrow_ref hw) (Or.inr (Or.inr (Or.inr (Or.inr ⟨rfl, ht, hw⟩)))) hd hQ hk hn
theorem Home.ret0 (X : Stand p l e R s m args below meth c T locs cells slots) (hx : p.tables.exec = Jvm.exec) (hlk : meth.locks = false) {pc : Nat} {Ls : Array Slot} (hret : meth.sig.returnType = none)
    (hd : decode c.code pc = .ok (.return_, 1)) (hQ : Q none T.heap locs) (hk : cells ≤ k) (hn : slots ≤ n) : @Home p e below s Q k n T (mkF m pc Ls []) := by
  obtain ⟨fs, hr, hrun, hended, hW, hsame⟩ := X.leave (v := none) (fun _ => rfl) hlk
  exact ⟨_, _, X.returnOut hx hret hd hr, hrun, hended, _, _, rfl, hQ, ⟨_, rfl⟩, hW, hsame.mono hk hn⟩
end Walk
section Run
variable {p : Program} {l : Launch} {e : Env} {R : Room} {s : State} {m : MethodId} {args : Array Value} {below : List Frame} {meth : Method} {c : Code} {T : State} {locs : List Loc} {cells slots : Nat} {target : State}
def un32 (f : Int32 → Value) (S : List Value) : Option (List Value) := match S with | .int x :: r => some (f x :: r) | _ => none
def un64 (f : Int64 → Value) (S : List Value) : Option (List Value) := match S with | .long x :: r => some (f x :: r) | _ => none
def bi32 (f : Int32 → Int32 → Int32) (S : List Value) : Option (List Value) := match S with | .int y :: .int x :: r => some (.int (f x y) :: r) | _ => none
def bi64 (f : Int64 → Int64 → Value) (S : List Value) : Option (List Value) := match S with | .long y :: .long x :: r => some (f x y :: r) | _ => none
def sh64 (f : Int64 → Int32 → Int64) (S : List Value) : Option (List Value) := match S with | .int y :: .long x :: r => some (.long (f x y) :: r) | _ => none
/-- the stack behind an instruction that reads and writes the stack alone -/
def stk (i : Instr) (S : List Value) : Option (List Value) := match i with
  | .iconst k => some (.int (Int32.ofInt k) :: S)
  | .bipush k => some (.int (Int8.ofInt k).toInt32 :: S)
  | .sipush k => some (.int (Int16.ofInt k).toInt32 :: S)
  | .lconst k => some (.long (Int64.ofNat k) :: S)
  | .aconst_null => some (.null :: S)
  | .iadd => bi32 (· + ·) S
  | .isub => bi32 (· - ·) S
  | .imul => bi32 (· * ·) S
  | .iand => bi32 (· &&& ·) S
  | .ior => bi32 (· ||| ·) S
  | .ixor => bi32 (· ^^^ ·) S
  | .ishl => bi32 (fun x y => x <<< (y &&& 31)) S
  | .ishr => bi32 (fun x y => x >>> (y &&& 31)) S
  | .iushr => bi32 (fun x y => (x.toUInt32 >>> (y &&& 31).toUInt32).toInt32) S
  | .ladd => bi64 (fun x y => .long (x + y)) S
  | .lsub => bi64 (fun x y => .long (x - y)) S
  | .lmul => bi64 (fun x y => .long (x * y)) S
  | .land => bi64 (fun x y => .long (x &&& y)) S
  | .lor => bi64 (fun x y => .long (x ||| y)) S
  | .lxor => bi64 (fun x y => .long (x ^^^ y)) S
  | .lcmp => bi64 (fun x y => .int (if x > y then 1 else if x = y then 0 else -1)) S
  | .lshl => sh64 (fun x y => x <<< (y &&& 0x3f).toInt64) S
  | .lshr => sh64 (fun x y => x >>> (y &&& 0x3f).toInt64) S
  | .lushr => sh64 (fun x y => (x.toUInt64 >>> (y &&& 0x3f).toInt64.toUInt64).toInt64) S
  | .ineg => un32 (fun x => .int (-x)) S
  | .lneg => un64 (fun x => .long (-x)) S
  | .i2l => un32 (fun x => .long x.toInt64) S
  | .l2i => un64 (fun x => .int x.toInt32) S
  | .i2b => un32 (fun x => .int x.toInt8.toInt32) S
  | .i2c => un32 (fun x => .int x.toUInt32.toUInt16.toUInt32.toInt32) S
  | .i2s => un32 (fun x => .int x.toInt16.toInt32) S
  | .dup => match S with | x :: r => if x.category = 1 then some (x :: x :: r) else none | _ => none
  | .pop => match S with | x :: r => if x.category = 1 then some r else none | _ => none
  | .dup_x1 => match S with | x :: y :: r => if x.category = 1 ∧ y.category = 1 then some (x :: y :: x :: r) else none | _ => none
  | _ => none
theorem un32_s {f : Int32 → Value} {S S' : List Value} (h : un32 f S = some S') : ∃ x r, S = .int x :: r ∧ S' = f x :: r := by
  unfold un32 at h; split at h
  · cases h; exact ⟨_, _, rfl, rfl⟩
  · cases h
theorem un64_s {f : Int64 → Value} {S S' : List Value} (h : un64 f S = some S') : ∃ x r, S = .long x :: r ∧ S' = f x :: r := by
  unfold un64 at h; split at h
  · cases h; exact ⟨_, _, rfl, rfl⟩
  · cases h
theorem bi32_s {f : Int32 → Int32 → Int32} {S S' : List Value} (h : bi32 f S = some S') : ∃ x y r, S = .int y :: .int x :: r ∧ S' = .int (f x y) :: r := by
  unfold bi32 at h; split at h
  · cases h; exact ⟨_, _, _, rfl, rfl⟩
  · cases h
theorem bi64_s {f : Int64 → Int64 → Value} {S S' : List Value} (h : bi64 f S = some S') : ∃ x y r, S = .long y :: .long x :: r ∧ S' = f x y :: r := by
  unfold bi64 at h; split at h
  · cases h; exact ⟨_, _, _, rfl, rfl⟩
  · cases h
theorem sh64_s {f : Int64 → Int32 → Int64} {S S' : List Value} (h : sh64 f S = some S') : ∃ x y r, S = .int y :: .long x :: r ∧ S' = .long (f x y) :: r := by
  unfold sh64 at h; split at h
  · cases h; exact ⟨_, _, _, rfl, rfl⟩
  · cases h
def len1 (i : Instr) : Nat := match i with | .bipush _ => 2 | .sipush _ => 3 | _ => 1
theorem stk_s (X : Stand p l e R s m args below meth c T locs cells slots) (hx : p.tables.exec = Jvm.exec) {i : Instr} {n pc : Nat} {L : Array Slot} {S S' : List Value} (hd : decode c.code pc = .ok (i, n)) (hn : n = len1 i) (h : stk i S = some S')
    (H : Steps p.tables e below (T.setTop (mkF m (pc + n) L S')) target) : Steps p.tables e below (T.setTop (mkF m pc L S)) target := by
  subst hn
  unfold stk at h
  split at h <;> first
    | (cases h; first | exact XS.iconst X.here hx rfl hd H | exact XS.bipush X.here hx rfl hd H | exact XS.sipush X.here hx rfl hd H | exact XS.lconst X.here hx rfl hd H | exact XS.aconstNull X.here hx rfl hd H)
    | (obtain ⟨x, y, r, rfl, rfl⟩ := bi32_s h; first | exact XS.iadd X.here hx rfl hd rfl H | exact XS.isub X.here hx rfl hd rfl H | exact XS.imul X.here hx rfl hd rfl H | exact XS.iand X.here hx rfl hd rfl H | exact XS.ior X.here hx rfl hd rfl H | exact XS.ixor X.here hx rfl hd rfl H | exact XS.ishl X.here hx rfl hd rfl H | exact XS.ishr X.here hx rfl hd rfl H | exact XS.iushr X.here hx rfl hd rfl H)
    | (obtain ⟨x, y, r, rfl, rfl⟩ := bi64_s h; first | exact XS.ladd X.here hx rfl hd rfl H | exact XS.lsub X.here hx rfl hd rfl H | exact XS.lmul X.here hx rfl hd rfl H | exact XS.land X.here hx rfl hd rfl H | exact XS.lor X.here hx rfl hd rfl H | exact XS.lxor X.here hx rfl hd rfl H | exact XS.lcmp X.here hx rfl hd rfl H)
    | (obtain ⟨x, y, r, rfl, rfl⟩ := sh64_s h; first | exact XS.lshl X.here hx rfl hd rfl H | exact XS.lshr X.here hx rfl hd rfl H | exact XS.lushr X.here hx rfl hd rfl H)
    | (obtain ⟨x, r, rfl, rfl⟩ := un32_s h; first | exact XS.ineg X.here hx rfl hd rfl H | exact XS.i2l X.here hx rfl hd rfl H | exact XS.i2b X.here hx rfl hd rfl H | exact XS.i2c X.here hx rfl hd rfl H | exact XS.i2s X.here hx rfl hd rfl H)
    | (obtain ⟨x, r, rfl, rfl⟩ := un64_s h; first | exact XS.lneg X.here hx rfl hd rfl H | exact XS.l2i X.here hx rfl hd rfl H)
    | (split at h <;> (try split at h) <;> first | (cases h; done) | (rename_i q; cases h; first | exact XS.dup X.here hx rfl hd rfl q H | exact XS.pop X.here hx rfl hd rfl q H | exact XS.dupX1 X.here hx rfl hd rfl q.1 q.2 H))
    | cases h
def ldI (L : Array Slot) (S : List Value) (k : Nat) : Option (Array Slot × List Value) := match L[k]? with | some (.val (.int v)) => some (L, .int v :: S) | _ => none
def ldJ (L : Array Slot) (S : List Value) (k : Nat) : Option (Array Slot × List Value) := match L[k]? with | some (.val (.long v)) => some (L, .long v :: S) | _ => none
def ldA (L : Array Slot) (S : List Value) (k : Nat) : Option (Array Slot × List Value) := match L[k]? with | some (.val v) => if v.isRef = true then some (L, v :: S) else none | _ => none
def stI1 (L : Array Slot) (S : List Value) (k : Nat) : Option (Array Slot × List Value) := match S with | .int x :: r => (storeLocals L k (.int x)).map fun l' => (l', r) | _ => none
def stJ1 (L : Array Slot) (S : List Value) (k : Nat) : Option (Array Slot × List Value) := match S with | .long x :: r => (storeLocals L k (.long x)).map fun l' => (l', r) | _ => none
def stA1 (L : Array Slot) (S : List Value) (k : Nat) : Option (Array Slot × List Value) := match S with | x :: r => if x.isRef = true then (storeLocals L k x).map fun l' => (l', r) else none | _ => none
/-- what an instruction does to pc, locals and stack; nothing else is touched -/
def run1 (i : Instr) (n pc : Nat) (L : Array Slot) (S : List Value) : Option (Nat × Array Slot × List Value) := match i with
  | .iload_n k => if n = 1 then (ldI L S k.val).map (pc + n, ·) else none
  | .iload k => if n = 2 then (ldI L S k).map (pc + n, ·) else none
  | .lload_n k => if n = 1 then (ldJ L S k.val).map (pc + n, ·) else none
  | .lload k => if n = 2 then (ldJ L S k).map (pc + n, ·) else none
  | .aload_n k => if n = 1 then (ldA L S k.val).map (pc + n, ·) else none
  | .aload k => if n = 2 then (ldA L S k).map (pc + n, ·) else none
  | .istore_n k => if n = 1 then (stI1 L S k.val).map (pc + n, ·) else none
  | .istore k => if n = 2 then (stI1 L S k).map (pc + n, ·) else none
  | .lstore_n k => if n = 1 then (stJ1 L S k.val).map (pc + n, ·) else none
  | .lstore k => if n = 2 then (stJ1 L S k).map (pc + n, ·) else none
  | .astore_n k => if n = 1 then (stA1 L S k.val).map (pc + n, ·) else none
  | .astore k => if n = 2 then (stA1 L S k).map (pc + n, ·) else none
  | .iinc k cst => if n = 3 then (match L[k]? with | some (.val (.int x)) => (storeLocals L k (.int (x + Int32.ofInt cst))).map fun l' => (pc + n, l', S) | _ => none) else none
  | .goto o => if n = 3 then (if 0 ≤ (pc : Int) + o then some (((pc : Int) + o).toNat, L, S) else none) else none
  | i => if n = len1 i then (stk i S).map fun S' => (pc + n, L, S') else none
theorem ldI_s {L L' : Array Slot} {S S' : List Value} {k : Nat} (h : ldI L S k = some (L', S')) : ∃ v, L[k]? = some (.val (.int v)) ∧ L' = L ∧ S' = .int v :: S := by
  unfold ldI at h; split at h
  · cases h; exact ⟨_, by assumption, rfl, rfl⟩
  · cases h
theorem ldJ_s {L L' : Array Slot} {S S' : List Value} {k : Nat} (h : ldJ L S k = some (L', S')) : ∃ v, L[k]? = some (.val (.long v)) ∧ L' = L ∧ S' = .long v :: S := by
  unfold ldJ at h; split at h
  · cases h; exact ⟨_, by assumption, rfl, rfl⟩
  · cases h
theorem ldA_s {L L' : Array Slot} {S S' : List Value} {k : Nat} (h : ldA L S k = some (L', S')) : ∃ v, L[k]? = some (.val v) ∧ v.isRef = true ∧ L' = L ∧ S' = v :: S := by
  unfold ldA at h; split at h
  · split at h
    · cases h; exact ⟨_, by assumption, by assumption, rfl, rfl⟩
    · cases h
  · cases h
theorem stI1_s {L L' : Array Slot} {S S' : List Value} {k : Nat} (h : stI1 L S k = some (L', S')) : ∃ x, S = .int x :: S' ∧ storeLocals L k (.int x) = some L' := by
  unfold stI1 at h; split at h
  · rw [Option.map_eq_some_iff] at h; obtain ⟨l', h1, h2⟩ := h; cases h2; exact ⟨_, rfl, h1⟩
  · cases h
theorem stJ1_s {L L' : Array Slot} {S S' : List Value} {k : Nat} (h : stJ1 L S k = some (L', S')) : ∃ x, S = .long x :: S' ∧ storeLocals L k (.long x) = some L' := by
  unfold stJ1 at h; split at h
  · rw [Option.map_eq_some_iff] at h; obtain ⟨l', h1, h2⟩ := h; cases h2; exact ⟨_, rfl, h1⟩
  · cases h
theorem stA1_s {L L' : Array Slot} {S S' : List Value} {k : Nat} (h : stA1 L S k = some (L', S')) : ∃ x, S = x :: S' ∧ x.isRef = true ∧ storeLocals L k x = some L' := by
  unfold stA1 at h; split at h
  · split at h
    · rw [Option.map_eq_some_iff] at h; obtain ⟨l', h1, h2⟩ := h; cases h2; exact ⟨_, rfl, by assumption, h1⟩
    · cases h
  · cases h
theorem map_s {α β : Type} {o : Option α} {f : α → β} {y : β} (h : o.map f = some y) : ∃ x, o = some x ∧ f x = y := Option.map_eq_some_iff.mp h
theorem run1_s (X : Stand p l e R s m args below meth c T locs cells slots) (hx : p.tables.exec = Jvm.exec) {i : Instr} {n pc pc' : Nat} {L L' : Array Slot} {S S' : List Value} (hd : decode c.code pc = .ok (i, n)) (h : run1 i n pc L S = some (pc', L', S'))
    (H : Steps p.tables e below (T.setTop (mkF m pc' L' S')) target) : Steps p.tables e below (T.setTop (mkF m pc L S)) target := by
  unfold run1 at h
  split at h <;> split at h <;> first
    | (cases h; done)
    | (rename_i hn; subst hn; obtain ⟨⟨L1, S1⟩, h1, h2⟩ := map_s h; cases h2; first
        | (obtain ⟨v, q1, rfl, rfl⟩ := ldI_s h1; first | exact XS.iloadN X.here hx rfl hd q1 H | exact XS.iload X.here hx rfl hd q1 H)
        | (obtain ⟨v, q1, rfl, rfl⟩ := ldJ_s h1; first | exact XS.lloadN X.here hx rfl hd q1 H | exact XS.lload X.here hx rfl hd q1 H)
        | (obtain ⟨v, q1, q2, rfl, rfl⟩ := ldA_s h1; first | exact XS.aloadN X.here hx rfl hd q1 q2 H | exact XS.aload X.here hx rfl hd q1 q2 H)
        | (obtain ⟨x, rfl, q⟩ := stI1_s h1; first | exact XS.istoreN X.here hx rfl hd rfl q H | exact XS.istore X.here hx rfl hd rfl q H)
        | (obtain ⟨x, rfl, q⟩ := stJ1_s h1; first | exact XS.lstoreN X.here hx rfl hd rfl q H | exact XS.lstore X.here hx rfl hd rfl q H)
        | (obtain ⟨x, rfl, q1, q⟩ := stA1_s h1; first | exact XS.astoreN X.here hx rfl hd rfl q1 q H | exact XS.astore X.here hx rfl hd rfl q1 q H))
    | (rename_i hn; subst hn; split at h <;> first
        | (cases h; done)
        | (rename_i q; obtain ⟨l', h1, h2⟩ := map_s h; cases h2; exact XS.iinc X.here hx rfl hd q h1 H)
        | (rename_i q; cases h; exact XS.goto X.here hx rfl (pc0 := pc) rfl hd q rfl H))
    | (rename_i hn; obtain ⟨S1, h1, h2⟩ := map_s h; cases h2; exact stk_s X hx hd hn h1 H)
def runs : List (Nat × Instr × Nat) → Nat → Array Slot → List Value → Option (Nat × Array Slot × List Value)
  | [], pc, L, S => some (pc, L, S)
  | (q, i, n) :: is, pc, L, S => if q = pc then (match run1 i n pc L S with | some (pc', L', S') => runs is pc' L' S' | none => none) else none
def decs (code : ByteArray) : List (Nat × Instr × Nat) → Prop
  | [] => True
  | (q, i, n) :: is => decode code q = .ok (i, n) ∧ decs code is
theorem runs_s (X : Stand p l e R s m args below meth c T locs cells slots) (hx : p.tables.exec = Jvm.exec) {pc' : Nat} {L' : Array Slot} {S' : List Value} (H : Steps p.tables e below (T.setTop (mkF m pc' L' S')) target) :
    ∀ (is : List (Nat × Instr × Nat)) (pc : Nat) (L : Array Slot) (S : List Value), decs c.code is → runs is pc L S = some (pc', L', S') → Steps p.tables e below (T.setTop (mkF m pc L S)) target
  | [], pc, L, S, _, h => by cases h; exact H
  | (q, i, n) :: is, pc, L, S, hd, h => by
    unfold runs at h
    split at h
    · rename_i e1; subst e1
      split at h
      · rename_i pc1 L1 S1 h1
        exact run1_s X hx hd.1 h1 (runs_s X hx H is pc1 L1 S1 hd.2 h)
      · cases h
    · cases h
variable {Q : Option Value → Heap → List Loc → Prop} {k n : Nat}
theorem Home.run (X : Stand p l e R s m args below meth c T locs cells slots) (hx : p.tables.exec = Jvm.exec) {bytes : ByteArray} (hby : c.code = bytes) {is : List (Nat × Instr × Nat)} (hd : decs bytes is) {pc pc' : Nat} {L L' : Array Slot} {S S' : List Value} (h : runs is pc L S = some (pc', L', S'))
    (H : @Home p e below s Q k n T (mkF m pc' L' S')) : @Home p e below s Q k n T (mkF m pc L S) :=
  Home.go (fun _ kt => runs_s X hx kt is pc L S (by rw [hby]; exact hd) h) H
end Run
section Calls
variable {p : Program} {l : Launch} {e : Env} {R : Room} {s : State} {m : MethodId} {args : Array Value} {below : List Frame} {meth : Method} {c : Code} {T : State} {locs : List Loc} {cells slots : Nat} {Z : State} {a0 : Array Value} {h : Heap} {y z : MethodName} {bytes : ByteArray} {maxL : Nat} {ret : Option FieldType} {rm : Room} {W : Nat} {as' : Array Value} {Q : Option Value → Heap → List Loc → Prop} {own C : String} {index : Nat}
/-- a body's contract, at one heap and one list of arguments -/
abbrev Con (l : Launch) (Z : State) (y : MethodName) (bytes : ByteArray) (maxL : Nat) (ret : Option FieldType) (ws : List Jvm.Cond) (rm : Room) (as' : Array Value) (h : Heap) (Q : Option Value → Heap → List Loc → Prop) : Prop :=
  MetFree l y (head1 (Jvm.Cond.code y bytes maxL ret :: ws) rm) (fun a U => a = as' ∧ Z.Warmed39 U.vm ∧ U.heap = h) (fun _ _ _ _ _ => True) (fun _ U o U' => ∃ v L, o = .returned v ∧ Q v U'.heap L ∧ FrameEnd U o U' L rm.cells rm.slots)
/-- it leaves the heap as it was -/
abbrev Pur (w : Option Value) (h0 : Heap) : Option Value → Heap → List Loc → Prop := fun v h L => v = w ∧ L = [] ∧ h = h0
/-- from a walk that comes home to the contract -/
theorem own_body {ws : List Jvm.Cond} {L0 : Array Slot} (pn : plainFor y = true) (ef : ∀ m, entryFrame m as' maxL = mkF m 0 L0 [])
    (body : ∀ (p : Program) (e : Env) (s : State) (m : MethodId) (below : List Frame) (meth : Method) (c : Code) (s₁ : State), p.tables.exec = Jvm.exec → c.code = bytes → meth.locks = false → c.maxLocals = maxL → meth.sig.returnType = ret → Z.Warmed39 s.vm → s.vm.findClass y.cls = some m.cls → meth.name = y.name →
      Stand p l e rm s m as' below meth c s₁ [] 0 0 → s₁.heap = h → @Home p e below s Q rm.cells rm.slots s₁ (mkF m 0 L0 [])) : Con l Z y bytes maxL ret ws rm as' h Q := by
  refine MetFree.of_bodySF pn hisR ?_
  intro p e s m args below meth c s₁ Bd hml0 hP hK
  obtain ⟨rfl, hZ, hh⟩ := hP
  refine Home.enter (Q := Q) (k := rm.cells) (n := rm.slots) (ef m) ?_
  exact body p e s m below meth c s₁ Bd.exec Bd.bytes (BodyLoose.notSynchronized Bd) hml0 Bd.returns hZ (findClass_of_methodNamed Bd.named) (name_of_methodNamed Bd.named Bd.method).1 (Stand.of_body Bd) (by rw [← hh, Bd.state]; rfl)
theorem own_static (X : Stand p l e R s m args below meth c T locs cells slots) (hx : p.tables.exec = Jvm.exec) (hZ : Z.Warmed39 s.vm) (hown : s.vm.findClass own = some m.cls)
    (w1 : (Cond.methodLink own index y).before a0 Z = true) (w2 : (Cond.static y).before a0 Z = true) (w3 : (Cond.initialized y.cls).before a0 Z = true) (w4 : (Cond.code y bytes maxL ret).before a0 Z = true)
    (hy : y.cls ≠ "java/lang/invoke/MethodHandle" ∧ y.cls ≠ "java/lang/invoke/VarHandle") (hM : Con l Z y bytes maxL ret [] rm as' h Q) (eT : T.heap = h)
    {g : JFrame} (hg : g.method = m) (hsize : g.locals.size = c.maxLocals) {argsL rest : List Value} (hlen : ∀ sig, parseMethodDescriptor y.desc = some sig → argsL.length = sig.parameters.length) (hstack : g.stack = argsL.reverse ++ rest) (ha : argsL.toArray = as')
    (hW : 2 * g.monitorRoom + (rest.map fun v => v.category).sum ≤ W) (hf : rm.frames + 1 ≤ R.frames) (hl : W + (maxL + 11) + rm.locals ≤ R.locals)
    (hdg : decode c.code g.pc = .ok (.invokestatic index, 3)) (hc : cells + rm.cells ≤ R.cells) (hs : slots + rm.slots ≤ R.slots) :
    ∃ v T' L, Stand p l e R s m args below meth c T' (locs ++ L) (cells + rm.cells) (slots + rm.slots) ∧ Q v T'.heap L ∧
      ∀ t, Steps p.tables e below (T'.setTop { g with pc := g.pc + 3, stack := v.toList ++ rest }) t → Steps p.tables e below (T.setTop g) t := by
  obtain ⟨v, _, ⟨T', L', k', n'⟩, -, X', ⟨L, hQ, l', y', z'⟩, st⟩ := Jvm.LawKit.callS X hx (y := y) hown (mvT hZ w1) (mvT hZ w2) (mvT hZ w3) (mvT hZ w4) hy (backOf (W := W) hM hZ w4 w3 hf hl) hg hsize hlen hstack hW hdg (fun _ _ => ⟨ha, eT, hc, hs⟩)
  dsimp only [Pt.U, Pt.locs, Pt.cells, Pt.slots] at X' l' y' z' st hQ
  subst l' y' z'
  exact ⟨v, T', L, X', hQ, st⟩
theorem own_special (X : Stand p l e R s m args below meth c T locs cells slots) (hx : p.tables.exec = Jvm.exec) (hZ : Z.Warmed39 s.vm) (hown : s.vm.findClass own = some m.cls) (hy1 : y.name = "<init>")
    (w1 : (Cond.methodLink own index y).before a0 Z = true) (w2 : (Cond.instanceMethod y).before a0 Z = true) (w3 : (Cond.initialized y.cls).before a0 Z = true) (w4 : (Cond.code y bytes maxL none).before a0 Z = true)
    (hy : y.cls ≠ "java/lang/invoke/MethodHandle" ∧ y.cls ≠ "java/lang/invoke/VarHandle") (hM : Con l Z y bytes maxL none [] rm as' h Q) (eT : T.heap = h)
    {g : JFrame} (hg : g.method = m) (hsize : g.locals.size = c.maxLocals) {a : Addr} {argsL rest : List Value} (hlen : ∀ sig, parseMethodDescriptor y.desc = some sig → argsL.length = sig.parameters.length) (hstack : g.stack = argsL.reverse ++ .ref a :: rest) (ha : (.ref a :: argsL).toArray = as')
    (hW : 2 * g.monitorRoom + (rest.map fun v => v.category).sum ≤ W) (hf : rm.frames + 1 ≤ R.frames) (hl : W + (maxL + 11) + rm.locals ≤ R.locals)
    (hdg : decode c.code g.pc = .ok (.invokespecial index, 3)) (hc : cells + rm.cells ≤ R.cells) (hs : slots + rm.slots ≤ R.slots) :
    ∃ v T' L, Stand p l e R s m args below meth c T' (locs ++ L) (cells + rm.cells) (slots + rm.slots) ∧ Q v T'.heap L ∧
      ∀ t, Steps p.tables e below (T'.setTop { g with pc := g.pc + 3, stack := v.toList ++ rest }) t → Steps p.tables e below (T.setTop g) t := by
  obtain ⟨v, _, ⟨T', L', k', n'⟩, -, X', ⟨L, hQ, l', y', z'⟩, st⟩ := X.specialBack hx (y := y) hy1 hown (mvT hZ w1) (mvT hZ w2) (mvT hZ w4) hy (backOf (W := W) hM hZ w4 w3 hf hl) hg hsize (Steps.refl _) (a := a) hlen hstack hW hdg (fun _ _ => ⟨ha, eT, hc, hs⟩)
  dsimp only [Pt.U, Pt.locs, Pt.cells, Pt.slots] at X' l' y' z' st hQ
  subst l' y' z'
  exact ⟨v, T', L, X', hQ, fun t k => st.trans k⟩
theorem own_virtual (X : Stand p l e R s m args below meth c T locs cells slots) (hx : p.tables.exec = Jvm.exec) (hZ : Z.Warmed39 s.vm) (hown : s.vm.findClass own = some m.cls)
    (w1 : (Cond.methodLink own index y).before a0 Z = true) (w2 : (Cond.declares y).before a0 Z = true) (hnf : NotFace s y) (w3 : (Cond.selects C y z).before a0 Z = true) (w4 : (Cond.instanceMethod z).before a0 Z = true) (w5 : (Cond.initialized z.cls).before a0 Z = true) (w6 : (Cond.code z bytes maxL ret).before a0 Z = true)
    (hy : y.cls ≠ "java/lang/invoke/MethodHandle" ∧ y.cls ≠ "java/lang/invoke/VarHandle") (hM : Con l Z z bytes maxL ret [] rm as' h Q) (eT : T.heap = h) {a : Addr} (E : Exa Z h a C)
    {g : JFrame} (hg : g.method = m) (hsize : g.locals.size = c.maxLocals) {argsL rest : List Value} (hlen : ∀ sig, parseMethodDescriptor y.desc = some sig → argsL.length = sig.parameters.length) (hstack : g.stack = argsL.reverse ++ .ref a :: rest) (ha : (.ref a :: argsL).toArray = as')
    (hW : 2 * g.monitorRoom + (rest.map fun v => v.category).sum ≤ W) (hf : rm.frames + 1 ≤ R.frames) (hl : W + (maxL + 11) + rm.locals ≤ R.locals)
    (hdg : decode c.code g.pc = .ok (.invokevirtual index, 3)) (hc : cells + rm.cells ≤ R.cells) (hs : slots + rm.slots ≤ R.slots) :
    ∃ v T' L, Stand p l e R s m args below meth c T' (locs ++ L) (cells + rm.cells) (slots + rm.slots) ∧ Q v T'.heap L ∧
      ∀ t, Steps p.tables e below (T'.setTop { g with pc := g.pc + 3, stack := v.toList ++ rest }) t → Steps p.tables e below (T.setTop g) t := by
  obtain ⟨cB, kB, q1, q2, q3⟩ := isOf hZ eT E
  obtain ⟨v, _, ⟨T', L', k', n'⟩, -, X', ⟨L, hQ, l', y', z'⟩, st⟩ := X.virtualBack hx (y := y) (z := z) hown (mvT hZ w1) (mvT hZ w2) hnf (mvT hZ w3) (mvT hZ w4) hy (backOf (W := W) hM hZ w6 w5 hf hl) q1 q3 hg hsize (Steps.refl _) hlen hstack hW hdg (fun _ _ => ⟨ha, eT, hc, hs⟩)
  dsimp only [Pt.U, Pt.locs, Pt.cells, Pt.slots] at X' l' y' z' st hQ
  subst l' y' z'
  exact ⟨v, T', L, X', hQ, fun t k => st.trans k⟩
theorem own_face (X : Stand p l e R s m args below meth c T locs cells slots) (hx : p.tables.exec = Jvm.exec) (hZ : Z.Warmed39 s.vm) (hown : s.vm.findClass own = some m.cls) {count : Nat}
    (w1 : (Cond.methodLink own index y).before a0 Z = true) (w2 : (Cond.declares y).before a0 Z = true) (w3 : (Cond.interfaceMethod y.cls y.cls y.name y.desc).before args s = true) (w4 : (Cond.selects C y z).before a0 Z = true) (w5 : (Cond.instanceMethod z).before a0 Z = true)
    (w6 : (Cond.publicMethod z).before a0 Z = true) (w7 : (Cond.unhidden C y.name y.desc).before a0 Z = true) (w8 : (Cond.castable C y.cls).before a0 Z = true) (w9 : (Cond.initialized z.cls).before a0 Z = true) (w10 : (Cond.code z bytes maxL ret).before a0 Z = true)
    (hy : y.cls ≠ "java/lang/invoke/MethodHandle" ∧ y.cls ≠ "java/lang/invoke/VarHandle") (hM : Con l Z z bytes maxL ret [] rm as' h Q) (eT : T.heap = h) {a : Addr} (E : Exa Z h a C)
    {g : JFrame} (hg : g.method = m) (hsize : g.locals.size = c.maxLocals) {argsL rest : List Value} (hlen : ∀ sig, parseMethodDescriptor y.desc = some sig → argsL.length = sig.parameters.length) (hstack : g.stack = argsL.reverse ++ .ref a :: rest) (ha : (.ref a :: argsL).toArray = as')
    (hW : 2 * g.monitorRoom + (rest.map fun v => v.category).sum ≤ W) (hf : rm.frames + 1 ≤ R.frames) (hl : W + (maxL + 11) + rm.locals ≤ R.locals)
    (hdg : decode c.code g.pc = .ok (.invokeinterface index count, 5)) (hc : cells + rm.cells ≤ R.cells) (hs : slots + rm.slots ≤ R.slots) :
    ∃ v T' L, Stand p l e R s m args below meth c T' (locs ++ L) (cells + rm.cells) (slots + rm.slots) ∧ Q v T'.heap L ∧
      ∀ t, Steps p.tables e below (T'.setTop { g with pc := g.pc + 5, stack := v.toList ++ rest }) t → Steps p.tables e below (T.setTop g) t := by
  obtain ⟨cB, kB, q1, q2, q3⟩ := isOf hZ eT E
  obtain ⟨v, _, ⟨T', L', k', n'⟩, -, X', ⟨L, hQ, l', y', z'⟩, st⟩ := X.interfaceBack hx (xi := y) (y := z) hown (mvT hZ w1) (mvT hZ w2) w3 (mvT hZ w4) (mvT hZ w5) (mvT hZ w6) (mvT hZ w7) (mvT hZ w8) hy (backOf (W := W) hM hZ w10 w9 hf hl) q1 q2 q3 hg hsize (Steps.refl _) hlen hstack hW hdg (fun _ _ => ⟨ha, eT, hc, hs⟩)
  dsimp only [Pt.U, Pt.locs, Pt.cells, Pt.slots] at X' l' y' z' st hQ
  subst l' y' z'
  exact ⟨v, T', L, X', hQ, fun t k => st.trans k⟩
theorem own_private (X : Stand p l e R s m args below meth c T locs cells slots) (hx : p.tables.exec = Jvm.exec) (hZ : Z.Warmed39 s.vm) (hown : s.vm.findClass own = some m.cls)
    (w1 : (Cond.methodLink own index y).before a0 Z = true) (w2 : (Cond.instanceMethod y).before a0 Z = true) (w3 : (Cond.selects y.cls y y).before a0 Z = true) (hp : s.PrivateAt y) (w5 : (Cond.initialized y.cls).before a0 Z = true) (w6 : (Cond.code y bytes maxL ret).before a0 Z = true)
    (hy : y.cls ≠ "java/lang/invoke/MethodHandle" ∧ y.cls ≠ "java/lang/invoke/VarHandle") (hM : Con l Z y bytes maxL ret [] rm as' h Q) (eT : T.heap = h) {a : Addr} (E : Exa Z h a C)
    {g : JFrame} (hg : g.method = m) (hsize : g.locals.size = c.maxLocals) {argsL rest : List Value} (hlen : ∀ sig, parseMethodDescriptor y.desc = some sig → argsL.length = sig.parameters.length) (hstack : g.stack = argsL.reverse ++ .ref a :: rest) (ha : (.ref a :: argsL).toArray = as')
    (hW : 2 * g.monitorRoom + (rest.map fun v => v.category).sum ≤ W) (hf : rm.frames + 1 ≤ R.frames) (hl : W + (maxL + 11) + rm.locals ≤ R.locals)
    (hdg : decode c.code g.pc = .ok (.invokevirtual index, 3)) (hc : cells + rm.cells ≤ R.cells) (hs : slots + rm.slots ≤ R.slots) :
    ∃ v T' L, Stand p l e R s m args below meth c T' (locs ++ L) (cells + rm.cells) (slots + rm.slots) ∧ Q v T'.heap L ∧
      ∀ t, Steps p.tables e below (T'.setTop { g with pc := g.pc + 3, stack := v.toList ++ rest }) t → Steps p.tables e below (T.setTop g) t := by
  obtain ⟨cq, q1, q2⟩ := E.cell
  obtain ⟨v, _, ⟨T', L', k', n'⟩, -, X', ⟨L, hQ, l', y', z'⟩, st⟩ := X.privateBack hx (y := y) hown (mvT hZ w1) (mvT hZ w2) (mvT hZ w3) hp (mvT hZ w6) hy (backOf (W := W) hM hZ w6 w5 hf hl) hg hsize (Steps.refl _) (a := a) (by rw [eT]; exact q1) q2 hlen hstack hW hdg (fun _ _ => ⟨ha, eT, hc, hs⟩)
  dsimp only [Pt.U, Pt.locs, Pt.cells, Pt.slots] at X' l' y' z' st hQ
  subst l' y' z'
  exact ⟨v, T', L, X', hQ, fun t k => st.trans k⟩
/-- a call that left the heap as it was -/
theorem own_pure {w : Option Value} {g : JFrame} {g' : Option Value → JFrame} (q : ∃ v T' L, Stand p l e R s m args below meth c T' (locs ++ L) (cells + rm.cells) (slots + rm.slots) ∧ Pur w h v T'.heap L ∧ ∀ t, Steps p.tables e below (T'.setTop (g' v)) t → Steps p.tables e below (T.setTop g) t)
    (hc : rm.cells = 0 := by rfl) (hs : rm.slots = 0 := by rfl) : ∃ T', Stand p l e R s m args below meth c T' locs cells slots ∧ T'.heap = h ∧ ∀ t, Steps p.tables e below (T'.setTop (g' w)) t → Steps p.tables e below (T.setTop g) t := by
  obtain ⟨v, T', L, X', ⟨rfl, rfl, hh⟩, st⟩ := q
  rw [List.append_nil, hc, hs] at X'
  exact ⟨T', X', hh, st⟩
end Calls
section Facts
variable {Z : State} {h h' : Heap} {a b : Addr} {C n d : String} {v : Value} {n0 : Nat}
theorem Old.le (O : Old Z n0 h) : n0 ≤ h.size := O.1 ▸ O.2.1
end Facts
end Jvm.OwnKit
namespace Jvm.OwnKit
open Jvm Jvm.ClassFile Sem Op Lib Jvm.Free Jvm.Stand Jvm.LawKit Jvm.RoadKit
section Arrays
variable {p : Program} {l : Launch} {e : Env} {R : Room} {s : State} {m : MethodId} {args : Array Value} {below : List Frame} {meth : Method} {c : Code} {T : State} {locs : List Loc} {cells slots : Nat} {Z : State} {h : Heap}
theorem own_alen (X : Stand p l e R s m args below meth c T locs cells slots) (hx : p.tables.exec = Jvm.exec) (hZ : Z.Warmed39 s.vm) (eT : T.heap = h) {a : Addr} {cl : Cell} {ty : FieldType} {z : Int32} (A : Arr Z h a cl ty) (S : cl.slots.size = z.toNatClampNeg) (M : ¬ z < 0)
    {g : JFrame} (hg : g.method = m) {rest : List Value} (hs : g.stack = .ref a :: rest) (hd : decode c.code g.pc = .ok (.arraylength, 1)) :
    ∀ t, Steps p.tables e below (T.setTop { g with pc := g.pc + 1, stack := .int z :: rest }) t → Steps p.tables e below (T.setTop g) t := fun t k =>
  X.arraylength hx (by rw [eT]; exact A.1) (State.isArrayOf_alike hZ.alike A.2.1) hg hs hd _ (by rw [len_of S M]; exact k)
end Arrays
end Jvm.OwnKit
namespace Jvm.OwnKit
open Jvm Jvm.ClassFile Sem Op Lib Jvm.Free Jvm.Stand Jvm.LawKit Jvm.RoadKit
theorem Ins.keep {Z : State} {h h' : Heap} {a : Addr} {C : String} {b : Bool} {ws : List Addr} (F : Ins Z h a C b) (K : Keep h h' ws) : Ins Z h' a C b := by
  obtain ⟨cell, cT, h1, h2, h3⟩ := F
  obtain ⟨c', e1, e2, e3, -⟩ := K.2.2 _ _ h1
  exact ⟨c', cT, e1, h2, by rw [e2, e3]; exact h3⟩
theorem cat1_of {v : Value} (h : v.isRef = true) : v.category = 1 := by
  rcases ref_cases h with rfl | ⟨a, rfl⟩ <;> rfl
theorem fits_refv {t : FieldType} {v : Value} (h : v.isRef = true) (ht : t.isReference = true) : fits t v = true := by
  rcases ref_cases h with rfl | ⟨a, rfl⟩ <;> cases t <;> first | rfl | cases ht
section Bounds
variable {x y a b c d : Int32}
theorem bnd_and (x m : Int32) (h : 0 ≤ m.toInt) : ¬ (x &&& m) < (0 : Int32) ∧ ¬ m < (x &&& m) := by
  have q := c_and x m h
  have e : (0 : Int32).toInt = 0 := rfl
  rw [Int32.lt_iff_toInt_lt, Int32.lt_iff_toInt_lt, e]; omega
theorem bnd_and' (x m : Int32) (h : 0 ≤ m.toInt) : ¬ (m &&& x) < (0 : Int32) ∧ ¬ m < (m &&& x) := by
  have q := c_and' m x h
  have e : (0 : Int32).toInt = 0 := rfl
  rw [Int32.lt_iff_toInt_lt, Int32.lt_iff_toInt_lt, e]; omega
theorem bnd_mono (h : ¬ x < a ∧ ¬ b < x) (h1 : c.toInt ≤ a.toInt) (h2 : b.toInt ≤ d.toInt) : ¬ x < c ∧ ¬ d < x := by
  simp only [Int32.lt_iff_toInt_lt] at *; omega
theorem bnd_lt (h : ¬ x < a ∧ ¬ b < x) (k : ¬ y < c ∧ ¬ d < y) (q : b.toInt < c.toInt) : x < y := by
  simp only [Int32.lt_iff_toInt_lt] at *; omega
theorem bnd_nlt (h : ¬ x < a ∧ ¬ b < x) (k : ¬ y < c ∧ ¬ d < y) (q : d.toInt ≤ a.toInt) : ¬ x < y := by
  simp only [Int32.lt_iff_toInt_lt] at *; omega
theorem bnd_ne (h : ¬ x < a ∧ ¬ b < x) (k : ¬ y < c ∧ ¬ d < y) (q : b.toInt < c.toInt ∨ d.toInt < a.toInt) : ¬ x = y := by
  intro e; subst e
  simp only [Int32.lt_iff_toInt_lt] at *; omega
theorem bnd_rem (h : ¬ x < a ∧ ¬ b < x) (h1 : 0 ≤ a.toInt) (h2 : 0 < y.toInt) : ¬ (x % y) < (0 : Int32) ∧ ¬ (y - 1) < (x % y) := by
  have q := (c_iremV x y).1
  have e : (0 : Int32).toInt = 0 := rfl
  have e1 := c_isub y 1
  have e2 : (1 : Int32).toInt = 1 := rfl
  have r := rng32 y
  have r2 := rng32 (y - 1)
  simp only [Int32.lt_iff_toInt_lt, e] at *
  have h0 : 0 ≤ x.toInt := by omega
  have q := q h0 h2
  omega
theorem bnd_add {lo hi : Int32} (h : ¬ x < a ∧ ¬ b < x) (k : ¬ y < c ∧ ¬ d < y) (q1 : lo.toInt = a.toInt + c.toInt) (q2 : hi.toInt = b.toInt + d.toInt) (q3 : -2147483648 ≤ a.toInt + c.toInt) (q4 : b.toInt + d.toInt < 2147483648) : ¬ (x + y) < lo ∧ ¬ hi < (x + y) := by
  have e := c_iadd x y
  have r := rng32 (x + y)
  simp only [Int32.lt_iff_toInt_lt] at *
  omega
theorem bnd_sub {lo hi : Int32} (h : ¬ x < a ∧ ¬ b < x) (k : ¬ y < c ∧ ¬ d < y) (q1 : lo.toInt = a.toInt - d.toInt) (q2 : hi.toInt = b.toInt - c.toInt) (q3 : -2147483648 ≤ a.toInt - d.toInt) (q4 : b.toInt - c.toInt < 2147483648) : ¬ (x - y) < lo ∧ ¬ hi < (x - y) := by
  have e := c_isub x y
  have r := rng32 (x - y)
  simp only [Int32.lt_iff_toInt_lt] at *
  omega
theorem bnd_ushr (x : Int32) {q hi : Int32} {k : Nat} (hk : q.toBitVec.toNat % 32 = k ∧ 0 < k) (hh : hi.toInt = 4294967296 / (2 ^ k : Nat) - 1) : ¬ ((x.toUInt32 >>> (q &&& 31).toUInt32).toInt32) < (0 : Int32) ∧ ¬ hi < ((x.toUInt32 >>> (q &&& 31).toUInt32).toInt32) := by
  have e := c_iushr x q k hk.1 hk.2
  have e0 : (0 : Int32).toInt = 0 := rfl
  simp only [Int32.lt_iff_toInt_lt, e, hh, e0]
  have p : (0 : Int) < (2 ^ k : Nat) := by exact_mod_cast Nat.two_pow_pos k
  have m0 := Int.emod_nonneg x.toInt (show (4294967296 : Int) ≠ 0 by decide)
  have m1 := Int.emod_lt_of_pos x.toInt (show (0 : Int) < 4294967296 by decide)
  have d0 := Int.ediv_nonneg m0 (Int.le_of_lt p)
  have hk32 : k < 32 := by rw [← hk.1]; exact Nat.mod_lt _ (by decide)
  have dd : (4294967296 : Int) = (2 ^ (32 - k) : Nat) * (2 ^ k : Nat) := by
    rw [← Int.natCast_mul, ← Nat.pow_add, Nat.sub_add_cancel (Nat.le_of_lt hk32)]; rfl
  have d1 : x.toInt % 4294967296 / (2 ^ k : Nat) < (2 ^ (32 - k) : Nat) := by
    apply Int.ediv_lt_of_lt_mul p; rw [← dd]; exact m1
  have d2 : (4294967296 : Int) / (2 ^ k : Nat) = (2 ^ (32 - k) : Nat) := by
    rw [dd]; exact Int.mul_ediv_cancel _ (by omega)
  omega
theorem bnd_i2c (x : Int32) : ¬ (x.toUInt32.toUInt16.toUInt32.toInt32) < (0 : Int32) ∧ ¬ (65535 : Int32) < (x.toUInt32.toUInt16.toUInt32.toInt32) := by
  have q := c_i2c x
  have e : (0 : Int32).toInt = 0 := rfl
  have e1 : (65535 : Int32).toInt = 65535 := rfl
  simp only [Int32.lt_iff_toInt_lt, e, e1]; omega
theorem bnd_i2b (x : Int32) : ¬ (x.toInt8.toInt32) < (-128 : Int32) ∧ ¬ (127 : Int32) < (x.toInt8.toInt32) := by
  have q := c_i2b x
  have e : (-128 : Int32).toInt = -128 := rfl
  have e1 : (127 : Int32).toInt = 127 := rfl
  simp only [Int32.lt_iff_toInt_lt, e, e1]; omega
theorem i2c_id (h : ¬ x < a ∧ ¬ b < x) (h1 : 0 ≤ a.toInt) (h2 : b.toInt ≤ 65535) : x.toUInt32.toUInt16.toUInt32.toInt32 = x := by
  have q := c_i2c x
  simp only [Int32.lt_iff_toInt_lt] at h
  apply Int32.toInt_inj.mp; omega
theorem i2b_id (h : ¬ x < a ∧ ¬ b < x) (h1 : -128 ≤ a.toInt) (h2 : b.toInt ≤ 127) : x.toInt8.toInt32 = x := by
  have q := c_i2b x
  simp only [Int32.lt_iff_toInt_lt] at h
  apply Int32.toInt_inj.mp; omega
theorem bnd_lit (k : Int32) : ¬ k < k ∧ ¬ k < k := by
  simp only [Int32.lt_iff_toInt_lt]; omega
theorem bnd_all (x : Int32) : ¬ x < (-2147483648 : Int32) ∧ ¬ (2147483647 : Int32) < x := by
  have r := rng32 x
  have e1 : (-2147483648 : Int32).toInt = -2147483648 := rfl
  have e2 : (2147483647 : Int32).toInt = 2147483647 := rfl
  simp only [Int32.lt_iff_toInt_lt, e1, e2]; omega
theorem bnd_up (h : c < x) (q : d.toInt = c.toInt + 1) : ¬ x < d := by
  simp only [Int32.lt_iff_toInt_lt] at *; omega
theorem bnd_dn (h : x < c) (q : d.toInt = c.toInt - 1) : ¬ d < x := by
  simp only [Int32.lt_iff_toInt_lt] at *; omega
theorem bnd_eql (h : x = c) : ¬ x < c := by
  subst h; simp only [Int32.lt_iff_toInt_lt]; omega
theorem bnd_eqr (h : x = c) : ¬ c < x := by
  subst h; simp only [Int32.lt_iff_toInt_lt]; omega
theorem bnd_nel (h : ¬ x < c) (k : ¬ x = c) (q : d.toInt = c.toInt + 1) : ¬ x < d := by
  rw [← Int32.toInt_inj] at k; simp only [Int32.lt_iff_toInt_lt] at *; omega
theorem bnd_ner (h : ¬ c < x) (k : ¬ x = c) (q : d.toInt = c.toInt - 1) : ¬ d < x := by
  rw [← Int32.toInt_inj] at k; simp only [Int32.lt_iff_toInt_lt] at *; omega
theorem bnd_fix (h : ¬ x < c ∧ ¬ c < x) : x = c := by
  rw [← Int32.toInt_inj]; simp only [Int32.lt_iff_toInt_lt] at *; omega
theorem nar_char_id (h : ¬ x < a ∧ ¬ b < x) (h1 : 0 ≤ a.toInt) (h2 : b.toInt ≤ 65535) : nar .char x = x := i2c_id h h1 h2
theorem nar_byte_id (h : ¬ x < a ∧ ¬ b < x) (h1 : -128 ≤ a.toInt) (h2 : b.toInt ≤ 127) : nar .byte x = x := i2b_id h h1 h2
theorem nar_i2c (x : Int32) : nar .char (x.toUInt32.toUInt16.toUInt32.toInt32) = x.toUInt32.toUInt16.toUInt32.toInt32 := nar_char_id (bnd_i2c x) (by decide) (by decide)
theorem nar_i2b (x : Int32) : nar .byte (x.toInt8.toInt32) = x.toInt8.toInt32 := nar_byte_id (bnd_i2b x) (by decide) (by decide)
theorem nar_bool_id (h : ¬ x < a ∧ ¬ b < x) (h1 : 0 ≤ a.toInt) (h2 : b.toInt ≤ 1) : nar .boolean x = x := by
  simp only [Int32.lt_iff_toInt_lt] at h
  have hx : x.toInt = 0 ∨ x.toInt = 1 := by omega
  rcases hx with q | q
  · have : x = 0 := Int32.toInt_inj.mp q
    subst this; rfl
  · have : x = 1 := Int32.toInt_inj.mp q
    subst this; rfl
end Bounds
theorem Wr.to {h h' : Heap} {a : Addr} {sl : Nat} {v w : Value} (W : Wr h h' a sl v) (q : v = w) : Wr h h' a sl w := q ▸ W
theorem fits_char_b {x a b : Int32} (h : ¬ x < a ∧ ¬ b < x) (h1 : 0 ≤ a.toInt) (h2 : b.toInt ≤ 65535) : fits .char (.int x) = true := by
  have q := fits_nar_char x
  rw [nar_char_id h h1 h2] at q; exact q
theorem fits_byte_b {x a b : Int32} (h : ¬ x < a ∧ ¬ b < x) (h1 : -128 ≤ a.toInt) (h2 : b.toInt ≤ 127) : fits .byte (.int x) = true := by
  have q := fits_nar_byte x
  rw [i2b_id h h1 h2] at q; exact q
/-- null, or an object of exactly that class -/
def Nul (Z : State) (h : Heap) (x : Value) (C : String) : Prop := x = .null ∨ ∃ a, x = .ref a ∧ Exa Z h a C
section Nulls
variable {Z : State} {h h' : Heap} {x : Value} {C : String}
theorem Nul.null (Z : State) (h : Heap) (C : String) : Nul Z h .null C := Or.inl rfl
theorem Nul.of {a : Addr} (E : Exa Z h a C) : Nul Z h (.ref a) C := Or.inr ⟨a, rfl, E⟩
theorem Nul.ext (N : Nul Z h x C) (E : Ext h h') : Nul Z h' x C := N.imp id fun ⟨a, e, F⟩ => ⟨a, e, F.ext E⟩
theorem Nul.wr {a : Addr} {sl : Nat} {v : Value} (N : Nul Z h x C) (W : Wr h h' a sl v) : Nul Z h' x C := N.imp id fun ⟨a, e, F⟩ => ⟨a, e, F.wr W⟩
theorem Nul.keep {ws : List Addr} (N : Nul Z h x C) (K : Keep h h' ws) : Nul Z h' x C := N.imp id fun ⟨a, e, F⟩ => ⟨a, e, F.keep K⟩
theorem Nul.isRef (N : Nul Z h x C) : x.isRef = true := by rcases N with rfl | ⟨a, rfl, -⟩ <;> rfl
theorem Sto.ofN {a : Addr} {c : Cell} {ty : FieldType} {k : ClassId} {K : String} (A : Arr Z h a c ty) (q : c.cls = k) (O : Ovr Z k K) (N : Nul Z h x C) (f : ∀ {y : Addr}, Exa Z h y C → Ins Z h y K true) : Sto Z h a x := by
  rcases N with rfl | ⟨y, rfl, E⟩
  · exact Or.inl rfl
  · exact Sto.ofV A q O (f E)
end Nulls
section NotSub
variable {Z : State} {a0 : Array Value} {C S O K : String} {nn : Nat}
theorem own_ns_root (w : (Jvm.Cond.noSuperclass O).before a0 Z = true) (wk : (Jvm.Cond.instantiable K nn).before a0 Z = true) (hn : O ≠ K) : NS Z O K := by
  obtain ⟨c, k, h1, h2, h3, -, -⟩ := Cond.noSuperclass_spec w
  obtain ⟨t, kt, g1, -⟩ := Cond.instantiable_spec wk
  have ne := ids_ne h1 g1 hn
  refine ⟨c, t, h1, g1, fun fuel => ?_⟩
  cases fuel with
  | zero => rfl
  | succ f => simp [Vm.isSubclassAux, ne, h2, h3]
theorem own_ns_no (w : (Jvm.Cond.superclass C S).before a0 Z = true) (wk : (Jvm.Cond.instantiable K nn).before a0 Z = true) (n : NS Z C K) (hn : C ≠ K) : ∃ c t, Z.vm.findClass C = some c ∧ Z.vm.findClass K = some t ∧ Z.vm.assignable c t = false := by
  obtain ⟨c, t, h0, g0, n3⟩ := n
  obtain ⟨p, k, kp, h1, h2, h3, h4, h5, -, h7⟩ := Cond.superclass_spec h0 w
  obtain ⟨t', kt, g1, g2, g3, g4, -⟩ := Cond.instantiable_spec wk
  cases g0.symm.trans g1
  have ne := ids_ne h0 g0 hn
  have g5 : kt.isInterface = false := by simp only [Bool.or_eq_false_iff] at g4; exact g4.1
  refine ⟨c, t, h0, g0, ?_⟩
  show Z.vm.assignableAux (255 + 1) c t = false
  simp [Vm.assignableAux, ne, h2, g2, h5, g3, g5, Vm.isSubclass, n3]
end NotSub
theorem Fld.to {Z : State} {h : Heap} {a : Addr} {C n d : String} {v w : Value} (F : Fld Z h a C n d v) (q : v = w) : Fld Z h a C n d w := q ▸ F
end Jvm.OwnKit
namespace Jvm.Pilot.@@N@@
open Jvm Jvm.ClassFile Sem Op Lib Jvm.Free Jvm.Stand Jvm.LawKit Jvm.RoadKit Jvm.OwnKit Bundle Jvm.Pilot.@@N@@.Jvm.D

theorem own_fld_int {Z : State} {args : Array Value} {t : Term} {a : Addr} {C f d : String} {k : Int32} (ev : t.eval args Z none [] Z = some (.ref a)) (h : (Jvm.Cond.eq (Jvm.Term.field t C f d) (Jvm.Term.int k)).value args Z none Z [] = some true) : Fld Z Z.heap a C f d (.int k) := by
  obtain ⟨x, y, h1, h2, h3, -⟩ := cmp_v (Or.inl h)
  have hk := Term.int_eval (args := args) (first := Z) (o := none) (idx := []) (s := Z) k
  rw [hk] at h2
  cases h2
  have e1 := fld_at (s := Z) (args := args) (first := Z) (o := none) (idx := []) (C := C) (n := f) (dd := d) ev
  cases x with
  | int z =>
    have hz : z = k := by
      have q : (Jvm.Cond.eq (Jvm.Term.field t C f d) (Jvm.Term.int k)).value args Z none Z [] = some (decide (z = k)) := by simp [Cond.value, h1, hk]
      exact gotT q h
    subst hz
    exact Fld.start (e1.symm.trans h1)
  | _ => simp [Kin, Value.isRef] at h3
theorem own_ne_ref {Z : State} {args : Array Value} {t u : Term} {a : Addr} (e1 : t.eval args Z none [] Z = some (.ref a)) (e2 : u.eval args Z none [] Z = some (.ref a)) (h : (Jvm.Cond.not (Jvm.Cond.eq t u)).value args Z none Z [] = some true) : False := by
  have q := not_v h
  have r := eq_R e1 e2 rfl rfl
  simp [r] at q
theorem d1_0 : decode prog_38_method_2_code 0 = .ok (.iload_n 0, 1) := by decide +kernel
theorem sg1_0_1 : decs prog_38_method_2_code [(0, .iload_n 0, 1)] := ⟨d1_0, trivial⟩
theorem d1_1 : decode prog_38_method_2_code 1 = .ok (.ifCond .eq 9, 3) := by decide +kernel
theorem d1_4 : decode prog_38_method_2_code 4 = .ok (.getstatic 13, 3) := by decide +kernel
theorem own_w6 {Z : State} {a0 : Array Value} (hw : ∀ d ∈ tables_1, d.before a0 Z = true) : (Jvm.Cond.fieldLink "com/example/invocant/invocant/JsonValue$BooleanValue" (13 : Nat) "com/example/invocant/invocant/JsonValue$BooleanValue" "TRUE" "Lcom/example/invocant/invocant/JsonValue$BooleanValue;").before a0 Z = true := hw _ (List.mem_of_getElem? (i := 6) rfl)
theorem d1_7 : decode prog_38_method_2_code 7 = .ok (.goto 6, 3) := by decide +kernel
theorem sg1_7_1 : decs prog_38_method_2_code [(7, .goto 6, 3)] := ⟨d1_7, trivial⟩
theorem d1_13 : decode prog_38_method_2_code 13 = .ok (.areturn, 1) := by decide +kernel
theorem ef_rm1t (m : MethodId) (x0 : Int32) : entryFrame m #[(.int x0)] 1 = mkF m 0 #[.val (.int x0)] [] := by first | (simp [entryFrame, mkF, argsToLocals, Value.category]; done) | rfl
theorem own_pn0 : plainName "com/example/invocant/invocant/JsonValue$BooleanValue" = true := by first | (simp [plainName, overriddenIn]; done) | decide +kernel
theorem d1_10 : decode prog_38_method_2_code 10 = .ok (.getstatic 17, 3) := by decide +kernel
theorem own_w4 {Z : State} {a0 : Array Value} (hw : ∀ d ∈ tables_1, d.before a0 Z = true) : (Jvm.Cond.fieldLink "com/example/invocant/invocant/JsonValue$BooleanValue" (17 : Nat) "com/example/invocant/invocant/JsonValue$BooleanValue" "FALSE" "Lcom/example/invocant/invocant/JsonValue$BooleanValue;").before a0 Z = true := hw _ (List.mem_of_getElem? (i := 4) rfl)
theorem ef_rm1f (m : MethodId) (x0 : Int32) : entryFrame m #[(.int x0)] 1 = mkF m 0 #[.val (.int x0)] [] := by first | (simp [entryFrame, mkF, argsToLocals, Value.category]; done) | rfl
theorem d2_0 : decode prog_38_method_7_code 0 = .ok (.aload_n 0, 1) := by decide +kernel
theorem sg2_0_1 : decs prog_38_method_7_code [(0, .aload_n 0, 1)] := ⟨d2_0, trivial⟩
theorem d2_1 : decode prog_38_method_7_code 1 = .ok (.getfield 7, 3) := by decide +kernel
theorem own_w13 {Z : State} {a0 : Array Value} (hw : ∀ d ∈ tables_1, d.before a0 Z = true) : (Jvm.Cond.fieldLink "com/example/invocant/invocant/JsonValue$BooleanValue" (7 : Nat) "com/example/invocant/invocant/JsonValue$BooleanValue" "value" "Z").before a0 Z = true := hw _ (List.mem_of_getElem? (i := 13) rfl)
theorem d2_4 : decode prog_38_method_7_code 4 = .ok (.ireturn, 1) := by decide +kernel
theorem ef_rm2 (m : MethodId) (x0 : Addr) : entryFrame m #[(.ref x0)] 1 = mkF m 0 #[.val (.ref x0)] [] := by first | (simp [entryFrame, mkF, argsToLocals, Value.category]; done) | rfl
theorem sg0_0_3 : decs code [(0, .iload_n 0, 1), (1, .iconst 1, 1), (2, .iand, 1)] := ⟨at_0, at_1, at_2, trivial⟩
theorem sg0_10_3 : decs code [(10, .iconst 0, 1), (11, .istore_n 1, 1), (12, .iload_n 1, 1)] := ⟨at_10, at_11, at_12, trivial⟩
theorem own_w0 {Z : State} {a0 : Array Value} (hw : ∀ d ∈ tables_1, d.before a0 Z = true) : (Jvm.Cond.methodLink "com/example/invocant/invocant/BooleanValueOfPinLaw" (7 : Nat) ({ cls := "com/example/invocant/invocant/JsonValue$BooleanValue", name := "of", desc := "(Z)Lcom/example/invocant/invocant/JsonValue$BooleanValue;" } : Jvm.MethodName)).before a0 Z = true := hw _ (List.mem_of_getElem? (i := 0) rfl)
theorem own_w3 {Z : State} {a0 : Array Value} (hw : ∀ d ∈ tables_1, d.before a0 Z = true) : (Jvm.Cond.code ({ cls := "com/example/invocant/invocant/JsonValue$BooleanValue", name := "of", desc := "(Z)Lcom/example/invocant/invocant/JsonValue$BooleanValue;" } : Jvm.MethodName) prog_38_method_2_code (1 : Nat) (Option.some (Jvm.ClassFile.FieldType.object "com/example/invocant/invocant/JsonValue$BooleanValue"))).before a0 Z = true := hw _ (List.mem_of_getElem? (i := 3) rfl)
theorem own_w2 {Z : State} {a0 : Array Value} (hw : ∀ d ∈ tables_1, d.before a0 Z = true) : (Jvm.Cond.initialized "com/example/invocant/invocant/JsonValue$BooleanValue").before a0 Z = true := hw _ (List.mem_of_getElem? (i := 2) rfl)
theorem own_pd0 : parseMethodDescriptor "(Z)Lcom/example/invocant/invocant/JsonValue$BooleanValue;" = some ⟨[.boolean], some (.object "com/example/invocant/invocant/JsonValue$BooleanValue")⟩ := by decide +kernel
theorem own_w1 {Z : State} {a0 : Array Value} (hw : ∀ d ∈ tables_1, d.before a0 Z = true) : (Jvm.Cond.static ({ cls := "com/example/invocant/invocant/JsonValue$BooleanValue", name := "of", desc := "(Z)Lcom/example/invocant/invocant/JsonValue$BooleanValue;" } : Jvm.MethodName)).before a0 Z = true := hw _ (List.mem_of_getElem? (i := 1) rfl)
theorem sg0_16_2 : decs code [(16, .astore_n 2, 1), (17, .iload_n 1, 1)] := ⟨at_16, at_17, trivial⟩
theorem sg0_21_2 : decs code [(21, .astore_n 3, 1), (22, .iload_n 1, 1)] := ⟨at_21, at_22, trivial⟩
theorem sg0_26_2 : decs code [(26, .iconst 1, 1), (27, .goto 4, 3)] := ⟨at_26, at_27, trivial⟩
theorem sg0_34_2 : decs code [(34, .astore 4, 2), (36, .aload_n 2, 1)] := ⟨at_34, at_36, trivial⟩
theorem sg0_40_1 : decs code [(40, .aload_n 3, 1)] := ⟨at_40, trivial⟩
theorem sg0_44_1 : decs code [(44, .aload 4, 2)] := ⟨at_44, trivial⟩
theorem sg0_51_1 : decs code [(51, .aload_n 2, 1)] := ⟨at_51, trivial⟩
theorem own_w8 {Z : State} {a0 : Array Value} (hw : ∀ d ∈ tables_1, d.before a0 Z = true) : (Jvm.Cond.methodLink "com/example/invocant/invocant/BooleanValueOfPinLaw" (13 : Nat) ({ cls := "com/example/invocant/invocant/JsonValue$BooleanValue", name := "value", desc := "()Z" } : Jvm.MethodName)).before a0 Z = true := hw _ (List.mem_of_getElem? (i := 8) rfl)
theorem own_w12 {Z : State} {a0 : Array Value} (hw : ∀ d ∈ tables_1, d.before a0 Z = true) : (Jvm.Cond.code ({ cls := "com/example/invocant/invocant/JsonValue$BooleanValue", name := "value", desc := "()Z" } : Jvm.MethodName) prog_38_method_7_code (1 : Nat) (Option.some Jvm.ClassFile.FieldType.boolean)).before a0 Z = true := hw _ (List.mem_of_getElem? (i := 12) rfl)
theorem own_pd1 : parseMethodDescriptor "()Z" = some ⟨[], some .boolean⟩ := by decide +kernel
theorem own_w11 {Z : State} {a0 : Array Value} (hw : ∀ d ∈ tables_1, d.before a0 Z = true) : (Jvm.Cond.selects "com/example/invocant/invocant/JsonValue$BooleanValue" ({ cls := "com/example/invocant/invocant/JsonValue$BooleanValue", name := "value", desc := "()Z" } : Jvm.MethodName) ({ cls := "com/example/invocant/invocant/JsonValue$BooleanValue", name := "value", desc := "()Z" } : Jvm.MethodName)).before a0 Z = true := hw _ (List.mem_of_getElem? (i := 11) rfl)
theorem own_w9 {Z : State} {a0 : Array Value} (hw : ∀ d ∈ tables_1, d.before a0 Z = true) : (Jvm.Cond.declares ({ cls := "com/example/invocant/invocant/JsonValue$BooleanValue", name := "value", desc := "()Z" } : Jvm.MethodName)).before a0 Z = true := hw _ (List.mem_of_getElem? (i := 9) rfl)
theorem own_w10 {Z : State} {a0 : Array Value} (hw : ∀ d ∈ tables_1, d.before a0 Z = true) : (Jvm.Cond.instanceMethod ({ cls := "com/example/invocant/invocant/JsonValue$BooleanValue", name := "value", desc := "()Z" } : Jvm.MethodName)).before a0 Z = true := hw _ (List.mem_of_getElem? (i := 10) rfl)
theorem sg0_55_1 : decs code [(55, .iload_n 1, 1)] := ⟨at_55, trivial⟩
theorem sg0_59_2 : decs code [(59, .aload_n 2, 1), (60, .aload_n 3, 1)] := ⟨at_59, at_60, trivial⟩
theorem sg0_64_1 : decs code [(64, .aload 4, 2)] := ⟨at_64, trivial⟩
theorem sg0_69_1 : decs code [(69, .iload_n 1, 1)] := ⟨at_69, trivial⟩
theorem sg0_73_2 : decs code [(73, .iconst 1, 1), (74, .goto 4, 3)] := ⟨at_73, at_74, trivial⟩
theorem sg0_81_2 : decs code [(81, .aload_n 2, 1), (82, .aload 4, 2)] := ⟨at_81, at_82, trivial⟩
theorem sg0_87_2 : decs code [(87, .iconst 1, 1), (88, .goto 4, 3)] := ⟨at_87, at_88, trivial⟩
theorem sg0_6_4 : decs code [(6, .iconst 1, 1), (7, .goto 4, 3), (11, .istore_n 1, 1), (12, .iload_n 1, 1)] := ⟨at_6, at_7, at_11, at_12, trivial⟩
theorem sg0_30_1 : decs code [(30, .iconst 0, 1)] := ⟨at_30, trivial⟩
theorem sg0_77_1 : decs code [(77, .iconst 0, 1)] := ⟨at_77, trivial⟩
theorem ef_rm0 (m : MethodId) (x0 : Int32) : entryFrame m #[(.int x0)] maxLocals = mkF m 0 #[.val (.int x0), .unset, .unset, .unset, .unset] [] := by first | (simp [entryFrame, mkF, argsToLocals, Value.category, maxLocals]; done) | rfl
theorem own_pn1 : plainName "com/example/invocant/invocant/BooleanValueOfPinLaw" = true := by first | (simp [plainName, overriddenIn]; done) | decide +kernel
theorem own_w5 {Z : State} {a0 : Array Value} (hw : ∀ d ∈ tables_1, d.before a0 Z = true) : (Jvm.Cond.laysStatic "com/example/invocant/invocant/JsonValue$BooleanValue" "FALSE" "Lcom/example/invocant/invocant/JsonValue$BooleanValue;").before a0 Z = true := hw _ (List.mem_of_getElem? (i := 5) rfl)
theorem own_w7 {Z : State} {a0 : Array Value} (hw : ∀ d ∈ tables_1, d.before a0 Z = true) : (Jvm.Cond.laysStatic "com/example/invocant/invocant/JsonValue$BooleanValue" "TRUE" "Lcom/example/invocant/invocant/JsonValue$BooleanValue;").before a0 Z = true := hw _ (List.mem_of_getElem? (i := 7) rfl)
set_option maxRecDepth 65536 in
set_option maxHeartbeats 40000000 in
theorem rm1t (l : Launch) (Z : State) (a0 : Array Value) (hw : ∀ d ∈ tables_1, d.before a0 Z = true) (ws : List Jvm.Cond) (sv_TRUE : Addr) (h0 : Heap) (n0 : Nat) (O0 : Old Z n0 h0) (S_TRUE : Sta Z Z.heap "com/example/invocant/invocant/JsonValue$BooleanValue" "TRUE" "Lcom/example/invocant/invocant/JsonValue$BooleanValue;" (.ref sv_TRUE)) :
    Con l Z (⟨"com/example/invocant/invocant/JsonValue$BooleanValue", "of", "(Z)Lcom/example/invocant/invocant/JsonValue$BooleanValue;"⟩ : MethodName) prog_38_method_2_code 1 (some (.object "com/example/invocant/invocant/JsonValue$BooleanValue")) ws ({ frames := 0, cells := 0, slots := 0, locals := 0 } : Room) #[(.int (1 : Int32))] h0 (Pur (some (.ref sv_TRUE)) h0) := by
  refine own_body (plainFor_of_name own_pn0) (fun m => ef_rm1t m (1 : Int32)) ?_
  intro p e s m below meth c s₁ hx hby hlk hml hret hZ hown hnm X0 e0
  have N0 := Fr.nil n0
  refine Home.run X0 hx hby sg1_0_1 (pc' := 1) (L' := #[.val (.int (1 : Int32))]) (S' := [(.int (1 : Int32))]) rfl ?_
  refine Home.go (fun _ => XS.ifNo X0.here hx rfl (hb hby d1_1) rfl ((if0 _ _).trans (feq (by decide)).1)) ?_
  refine Home.st (getS2 X0 hx hZ hown (host := "") (Or.inl (own_w6 hw)) Via.refl e0 (S_TRUE.ext O0.2) rfl (hb hby d1_4)) fun T1 X1 e1 => ?_
  refine Home.run X1 hx hby sg1_7_1 (pc' := 13) (L' := #[.val (.int (1 : Int32))]) (S' := [(.ref sv_TRUE)]) rfl ?_
  exact Home.retR X1 hx hlk hret rfl rfl (hb hby d1_13) ⟨rfl, rfl, e1⟩ (by decide) (by decide)
set_option maxRecDepth 65536 in
set_option maxHeartbeats 40000000 in
theorem rm1f (l : Launch) (Z : State) (a0 : Array Value) (hw : ∀ d ∈ tables_1, d.before a0 Z = true) (ws : List Jvm.Cond) (sv_FALSE : Addr) (h0 : Heap) (n0 : Nat) (O0 : Old Z n0 h0) (S_FALSE : Sta Z Z.heap "com/example/invocant/invocant/JsonValue$BooleanValue" "FALSE" "Lcom/example/invocant/invocant/JsonValue$BooleanValue;" (.ref sv_FALSE)) :
    Con l Z (⟨"com/example/invocant/invocant/JsonValue$BooleanValue", "of", "(Z)Lcom/example/invocant/invocant/JsonValue$BooleanValue;"⟩ : MethodName) prog_38_method_2_code 1 (some (.object "com/example/invocant/invocant/JsonValue$BooleanValue")) ws ({ frames := 0, cells := 0, slots := 0, locals := 0 } : Room) #[(.int (0 : Int32))] h0 (Pur (some (.ref sv_FALSE)) h0) := by
  refine own_body (plainFor_of_name own_pn0) (fun m => ef_rm1f m (0 : Int32)) ?_
  intro p e s m below meth c s₁ hx hby hlk hml hret hZ hown hnm X0 e0
  have N0 := Fr.nil n0
  refine Home.run X0 hx hby sg1_0_1 (pc' := 1) (L' := #[.val (.int (0 : Int32))]) (S' := [(.int (0 : Int32))]) rfl ?_
  refine Home.go (fun _ => XS.ifYes X0.here hx rfl (pc0 := 1) (pc' := 10) rfl (hb hby d1_1) rfl ((if0 _ _).trans (teq (by decide)).1) (by decide) (by decide)) ?_
  refine Home.st (getS2 X0 hx hZ hown (host := "") (Or.inl (own_w4 hw)) Via.refl e0 (S_FALSE.ext O0.2) rfl (hb hby d1_10)) fun T1 X1 e1 => ?_
  exact Home.retR X1 hx hlk hret rfl rfl (hb hby d1_13) ⟨rfl, rfl, e1⟩ (by decide) (by decide)
set_option maxRecDepth 65536 in
set_option maxHeartbeats 40000000 in
theorem rm2 (l : Launch) (Z : State) (a0 : Array Value) (hw : ∀ d ∈ tables_1, d.before a0 Z = true) (ws : List Jvm.Cond) (o0 : Addr) (w_value_o0 : Int32) (h0 : Heap) (n0 : Nat) (O0 : Old Z n0 h0) (F_value_o0 : Fld Z h0 o0 "com/example/invocant/invocant/JsonValue$BooleanValue" "value" "Z" (.int w_value_o0)) :
    Con l Z (⟨"com/example/invocant/invocant/JsonValue$BooleanValue", "value", "()Z"⟩ : MethodName) prog_38_method_7_code 1 (some .boolean) ws ({ frames := 0, cells := 0, slots := 0, locals := 0 } : Room) #[(.ref o0)] h0 (Pur (some (.int (nar .boolean w_value_o0))) h0) := by
  refine own_body (plainFor_of_name own_pn0) (fun m => ef_rm2 m o0) ?_
  intro p e s m below meth c s₁ hx hby hlk hml hret hZ hown hnm X0 e0
  have N0 := Fr.nil n0
  refine Home.run X0 hx hby sg2_0_1 (pc' := 1) (L' := #[.val (.ref o0)]) (S' := [(.ref o0)]) rfl ?_
  refine Home.st (getF X0 hx hZ hown (host := "") (Or.inl (own_w13 hw)) Via.refl e0 F_value_o0 rfl rfl (hb hby d2_1)) fun T1 X1 e1 => ?_
  exact Home.retN X1 hx hlk (t := .boolean) hret (by simp) (hb hby d2_4) ⟨rfl, rfl, e1⟩ (by decide) (by decide)
set_option maxRecDepth 65536 in
set_option maxHeartbeats 40000000 in
theorem rm0 (l : Launch) (Z : State) (a0 : Array Value) (hw : ∀ d ∈ tables_1, d.before a0 Z = true) (ws : List Jvm.Cond) (i0 : Int32) (sv_TRUE : Addr) (sv_FALSE : Addr) (h0 : Heap) (n0 : Nat) (O0 : Old Z n0 h0) (S_TRUE : Sta Z Z.heap "com/example/invocant/invocant/JsonValue$BooleanValue" "TRUE" "Lcom/example/invocant/invocant/JsonValue$BooleanValue;" (.ref sv_TRUE)) (E_TRUE : Exa Z Z.heap sv_TRUE "com/example/invocant/invocant/JsonValue$BooleanValue") (F_TRUE : Fld Z Z.heap sv_TRUE "com/example/invocant/invocant/JsonValue$BooleanValue" "value" "Z" (.int (1 : Int32))) (S_FALSE : Sta Z Z.heap "com/example/invocant/invocant/JsonValue$BooleanValue" "FALSE" "Lcom/example/invocant/invocant/JsonValue$BooleanValue;" (.ref sv_FALSE)) (E_FALSE : Exa Z Z.heap sv_FALSE "com/example/invocant/invocant/JsonValue$BooleanValue") (F_FALSE : Fld Z Z.heap sv_FALSE "com/example/invocant/invocant/JsonValue$BooleanValue" "value" "Z" (.int (0 : Int32))) (hne : sv_FALSE ≠ sv_TRUE) :
    Con l Z x code maxLocals ret ws room_1 #[(.int i0)] h0 (fun v h L => v = some (.int (1 : Int32)) ∧ Fr n0 L) := by
  refine own_body (plainFor_of_name own_pn1) (fun m => ef_rm0 m i0) ?_
  intro p e s m below meth c s₁ hx hby hlk hml hret hZ hown hnm X0 e0
  have N0 := Fr.nil n0
  refine Home.run X0 hx hby sg0_0_3 (pc' := 3) (L' := #[.val (.int i0), .unset, .unset, .unset, .unset]) (S' := [(.int (i0 &&& (1 : Int32)))]) rfl ?_
  by_cases c1 : (i0 &&& (1 : Int32)) = (0 : Int32)
  · skip
    refine Home.go (fun _ => XS.ifYes X0.here hx rfl (pc0 := 3) (pc' := 10) rfl (hb hby at_3) rfl ((if0 _ _).trans (teq c1).1) (by decide) (by decide)) ?_
    have bd2 : ¬ (i0 &&& (1 : Int32)) < (0 : Int32) ∧ ¬ (0 : Int32) < (i0 &&& (1 : Int32)) := ⟨(bnd_eql c1), (bnd_eqr c1)⟩
    refine Home.run X0 hx hby sg0_10_3 (pc' := 13) (L' := #[.val (.int i0), .val (.int (0 : Int32)), .unset, .unset, .unset]) (S' := [(.int (0 : Int32))]) rfl ?_
    refine Home.st (own_pure (own_static X0 hx hZ hown (own_w0 hw) (own_w1 hw) (own_w2 hw) (own_w3 hw) (by decide) (rm1f l Z a0 hw [] sv_FALSE h0 n0 O0 S_FALSE) e0 rfl (by rw [hml]; rfl) (argsL := [(.int (0 : Int32))]) (rest := []) (lenOf own_pd0 rfl) rfl rfl (W := 0) (by show 2 * 0 + _ ≤ _; exact Nat.le_of_eq rfl) (by decide) (by decide) (hb hby at_13) (by decide) (by decide))) fun T4 X4 e4 => ?_
    refine Home.run X4 hx hby sg0_16_2 (pc' := 18) (L' := #[.val (.int i0), .val (.int (0 : Int32)), .val (.ref sv_FALSE), .unset, .unset]) (S' := [(.int (0 : Int32))]) rfl ?_
    refine Home.st (own_pure (own_static X4 hx hZ hown (own_w0 hw) (own_w1 hw) (own_w2 hw) (own_w3 hw) (by decide) (rm1f l Z a0 hw [] sv_FALSE h0 n0 O0 S_FALSE) e4 rfl (by rw [hml]; rfl) (argsL := [(.int (0 : Int32))]) (rest := []) (lenOf own_pd0 rfl) rfl rfl (W := 0) (by show 2 * 0 + _ ≤ _; exact Nat.le_of_eq rfl) (by decide) (by decide) (hb hby at_18) (by decide) (by decide))) fun T5 X5 e5 => ?_
    refine Home.run X5 hx hby sg0_21_2 (pc' := 23) (L' := #[.val (.int i0), .val (.int (0 : Int32)), .val (.ref sv_FALSE), .val (.ref sv_FALSE), .unset]) (S' := [(.int (0 : Int32))]) rfl ?_
    refine Home.go (fun _ => XS.ifNo X5.here hx rfl (hb hby at_23) rfl ((if0 _ _).trans (teq (by decide)).2)) ?_
    refine Home.run X5 hx hby sg0_26_2 (pc' := 31) (L' := #[.val (.int i0), .val (.int (0 : Int32)), .val (.ref sv_FALSE), .val (.ref sv_FALSE), .unset]) (S' := [(.int (1 : Int32))]) rfl ?_
    refine Home.st (own_pure (own_static X5 hx hZ hown (own_w0 hw) (own_w1 hw) (own_w2 hw) (own_w3 hw) (by decide) (rm1t l Z a0 hw [] sv_TRUE h0 n0 O0 S_TRUE) e5 rfl (by rw [hml]; rfl) (argsL := [(.int (1 : Int32))]) (rest := []) (lenOf own_pd0 rfl) rfl rfl (W := 0) (by show 2 * 0 + _ ≤ _; exact Nat.le_of_eq rfl) (by decide) (by decide) (hb hby at_31) (by decide) (by decide))) fun T6 X6 e6 => ?_
    show Home T6 (mkF m 34 #[.val (.int i0), .val (.int (0 : Int32)), .val (.ref sv_FALSE), .val (.ref sv_FALSE), .unset] [(.ref sv_TRUE)])
    refine Home.run X6 hx hby sg0_34_2 (pc' := 37) (L' := #[.val (.int i0), .val (.int (0 : Int32)), .val (.ref sv_FALSE), .val (.ref sv_FALSE), .val (.ref sv_TRUE)]) (S' := [(.ref sv_FALSE)]) rfl ?_
    refine Home.go (fun _ => XS.ifnullNo X6.here hx rfl (hb hby at_37) rfl) ?_
    show Home T6 (mkF m 40 #[.val (.int i0), .val (.int (0 : Int32)), .val (.ref sv_FALSE), .val (.ref sv_FALSE), .val (.ref sv_TRUE)] [])
    refine Home.run X6 hx hby sg0_40_1 (pc' := 41) (L' := #[.val (.int i0), .val (.int (0 : Int32)), .val (.ref sv_FALSE), .val (.ref sv_FALSE), .val (.ref sv_TRUE)]) (S' := [(.ref sv_FALSE)]) rfl ?_
    refine Home.go (fun _ => XS.ifnullNo X6.here hx rfl (hb hby at_41) rfl) ?_
    show Home T6 (mkF m 44 #[.val (.int i0), .val (.int (0 : Int32)), .val (.ref sv_FALSE), .val (.ref sv_FALSE), .val (.ref sv_TRUE)] [])
    refine Home.run X6 hx hby sg0_44_1 (pc' := 46) (L' := #[.val (.int i0), .val (.int (0 : Int32)), .val (.ref sv_FALSE), .val (.ref sv_FALSE), .val (.ref sv_TRUE)]) (S' := [(.ref sv_TRUE)]) rfl ?_
    refine Home.go (fun _ => XS.ifnonnullYes X6.here hx rfl (pc0 := 46) (pc' := 51) rfl (hb hby at_46) rfl (by decide) (by decide)) ?_
    show Home T6 (mkF m 51 #[.val (.int i0), .val (.int (0 : Int32)), .val (.ref sv_FALSE), .val (.ref sv_FALSE), .val (.ref sv_TRUE)] [])
    refine Home.run X6 hx hby sg0_51_1 (pc' := 52) (L' := #[.val (.int i0), .val (.int (0 : Int32)), .val (.ref sv_FALSE), .val (.ref sv_FALSE), .val (.ref sv_TRUE)]) (S' := [(.ref sv_FALSE)]) rfl ?_
    refine Home.st (own_pure (own_virtual X6 hx hZ hown (own_w8 hw) (own_w9 hw) (notFace_of_selects (args := #[]) (mvT hZ (own_w11 hw))) (own_w11 hw) (own_w10 hw) (own_w2 hw) (own_w12 hw) (by decide) (rm2 l Z a0 hw [] sv_FALSE (0 : Int32) h0 n0 O0 (F_FALSE.ext O0.2)) e6 (E_FALSE.ext O0.2) rfl (by rw [hml]; rfl) (argsL := []) (rest := []) (lenOf own_pd1 rfl) rfl rfl (W := 0) (by show 2 * 0 + _ ≤ _; exact Nat.le_of_eq rfl) (by decide) (by decide) (hb hby at_52) (by decide) (by decide))) fun T7 X7 e7 => ?_
    refine Home.run X7 hx hby sg0_55_1 (pc' := 56) (L' := #[.val (.int i0), .val (.int (0 : Int32)), .val (.ref sv_FALSE), .val (.ref sv_FALSE), .val (.ref sv_TRUE)]) (S' := [(.int (0 : Int32)), (.int (0 : Int32))]) rfl ?_
    refine Home.go (fun _ => XS.icmpNo X7.here hx rfl (hb hby at_56) rfl (teq (by decide)).2) ?_
    refine Home.run X7 hx hby sg0_59_2 (pc' := 61) (L' := #[.val (.int i0), .val (.int (0 : Int32)), .val (.ref sv_FALSE), .val (.ref sv_FALSE), .val (.ref sv_TRUE)]) (S' := [(.ref sv_FALSE), (.ref sv_FALSE)]) rfl ?_
    refine Home.go (fun _ => Jvm.RoadKit.acmp X7 hx rfl rfl rfl (pc0 := 61) (pc' := 64) (same := true) rfl (hb hby at_61) rfl (decide_eq_true rfl) (by decide) (by decide)) ?_
    show Home T7 (mkF m 64 #[.val (.int i0), .val (.int (0 : Int32)), .val (.ref sv_FALSE), .val (.ref sv_FALSE), .val (.ref sv_TRUE)] [])
    refine Home.run X7 hx hby sg0_64_1 (pc' := 66) (L' := #[.val (.int i0), .val (.int (0 : Int32)), .val (.ref sv_FALSE), .val (.ref sv_FALSE), .val (.ref sv_TRUE)]) (S' := [(.ref sv_TRUE)]) rfl ?_
    refine Home.st (own_pure (own_virtual X7 hx hZ hown (own_w8 hw) (own_w9 hw) (notFace_of_selects (args := #[]) (mvT hZ (own_w11 hw))) (own_w11 hw) (own_w10 hw) (own_w2 hw) (own_w12 hw) (by decide) (rm2 l Z a0 hw [] sv_TRUE (1 : Int32) h0 n0 O0 (F_TRUE.ext O0.2)) e7 (E_TRUE.ext O0.2) rfl (by rw [hml]; rfl) (argsL := []) (rest := []) (lenOf own_pd1 rfl) rfl rfl (W := 0) (by show 2 * 0 + _ ≤ _; exact Nat.le_of_eq rfl) (by decide) (by decide) (hb hby at_66) (by decide) (by decide))) fun T8 X8 e8 => ?_
    refine Home.run X8 hx hby sg0_69_1 (pc' := 70) (L' := #[.val (.int i0), .val (.int (0 : Int32)), .val (.ref sv_FALSE), .val (.ref sv_FALSE), .val (.ref sv_TRUE)]) (S' := [(.int (0 : Int32)), (.int (1 : Int32))]) rfl ?_
    refine Home.go (fun _ => XS.ifNo X8.here hx rfl (hb hby at_70) rfl ((if0 _ _).trans (teq (by decide)).2)) ?_
    refine Home.run X8 hx hby sg0_73_2 (pc' := 78) (L' := #[.val (.int i0), .val (.int (0 : Int32)), .val (.ref sv_FALSE), .val (.ref sv_FALSE), .val (.ref sv_TRUE)]) (S' := [(.int (1 : Int32)), (.int (1 : Int32))]) rfl ?_
    refine Home.go (fun _ => XS.icmpNo X8.here hx rfl (hb hby at_78) rfl (teq (by decide)).2) ?_
    refine Home.run X8 hx hby sg0_81_2 (pc' := 84) (L' := #[.val (.int i0), .val (.int (0 : Int32)), .val (.ref sv_FALSE), .val (.ref sv_FALSE), .val (.ref sv_TRUE)]) (S' := [(.ref sv_TRUE), (.ref sv_FALSE)]) rfl ?_
    refine Home.go (fun _ => Jvm.RoadKit.acmp X8 hx rfl rfl rfl (pc0 := 84) (pc' := 87) (same := false) rfl (hb hby at_84) rfl (decide_eq_false fun q => hne (Value.ref.inj q)) (by decide) (by decide)) ?_
    show Home T8 (mkF m 87 #[.val (.int i0), .val (.int (0 : Int32)), .val (.ref sv_FALSE), .val (.ref sv_FALSE), .val (.ref sv_TRUE)] [])
    refine Home.run X8 hx hby sg0_87_2 (pc' := 92) (L' := #[.val (.int i0), .val (.int (0 : Int32)), .val (.ref sv_FALSE), .val (.ref sv_FALSE), .val (.ref sv_TRUE)]) (S' := [(.int (1 : Int32))]) rfl ?_
    exact Home.retN X8 hx hlk (t := .boolean) hret (by simp) (hb hby at_92) ⟨rfl, N0⟩ (by decide) (by decide)
  · skip
    refine Home.go (fun _ => XS.ifNo X0.here hx rfl (hb hby at_3) rfl ((if0 _ _).trans (feq c1).1)) ?_
    have bd3 : ¬ (i0 &&& (1 : Int32)) < (1 : Int32) ∧ ¬ (1 : Int32) < (i0 &&& (1 : Int32)) := ⟨(bnd_nel (bnd_and i0 (1 : Int32) (by decide)).1 c1 (by decide +kernel)), (bnd_and i0 (1 : Int32) (by decide)).2⟩
    refine Home.run X0 hx hby sg0_6_4 (pc' := 13) (L' := #[.val (.int i0), .val (.int (1 : Int32)), .unset, .unset, .unset]) (S' := [(.int (1 : Int32))]) rfl ?_
    refine Home.st (own_pure (own_static X0 hx hZ hown (own_w0 hw) (own_w1 hw) (own_w2 hw) (own_w3 hw) (by decide) (rm1t l Z a0 hw [] sv_TRUE h0 n0 O0 S_TRUE) e0 rfl (by rw [hml]; rfl) (argsL := [(.int (1 : Int32))]) (rest := []) (lenOf own_pd0 rfl) rfl rfl (W := 0) (by show 2 * 0 + _ ≤ _; exact Nat.le_of_eq rfl) (by decide) (by decide) (hb hby at_13) (by decide) (by decide))) fun T9 X9 e9 => ?_
    refine Home.run X9 hx hby sg0_16_2 (pc' := 18) (L' := #[.val (.int i0), .val (.int (1 : Int32)), .val (.ref sv_TRUE), .unset, .unset]) (S' := [(.int (1 : Int32))]) rfl ?_
    refine Home.st (own_pure (own_static X9 hx hZ hown (own_w0 hw) (own_w1 hw) (own_w2 hw) (own_w3 hw) (by decide) (rm1t l Z a0 hw [] sv_TRUE h0 n0 O0 S_TRUE) e9 rfl (by rw [hml]; rfl) (argsL := [(.int (1 : Int32))]) (rest := []) (lenOf own_pd0 rfl) rfl rfl (W := 0) (by show 2 * 0 + _ ≤ _; exact Nat.le_of_eq rfl) (by decide) (by decide) (hb hby at_18) (by decide) (by decide))) fun T10 X10 e10 => ?_
    refine Home.run X10 hx hby sg0_21_2 (pc' := 23) (L' := #[.val (.int i0), .val (.int (1 : Int32)), .val (.ref sv_TRUE), .val (.ref sv_TRUE), .unset]) (S' := [(.int (1 : Int32))]) rfl ?_
    refine Home.go (fun _ => XS.ifYes X10.here hx rfl (pc0 := 23) (pc' := 30) rfl (hb hby at_23) rfl ((if0 _ _).trans (feq (by decide)).2) (by decide) (by decide)) ?_
    refine Home.run X10 hx hby sg0_30_1 (pc' := 31) (L' := #[.val (.int i0), .val (.int (1 : Int32)), .val (.ref sv_TRUE), .val (.ref sv_TRUE), .unset]) (S' := [(.int (0 : Int32))]) rfl ?_
    refine Home.st (own_pure (own_static X10 hx hZ hown (own_w0 hw) (own_w1 hw) (own_w2 hw) (own_w3 hw) (by decide) (rm1f l Z a0 hw [] sv_FALSE h0 n0 O0 S_FALSE) e10 rfl (by rw [hml]; rfl) (argsL := [(.int (0 : Int32))]) (rest := []) (lenOf own_pd0 rfl) rfl rfl (W := 0) (by show 2 * 0 + _ ≤ _; exact Nat.le_of_eq rfl) (by decide) (by decide) (hb hby at_31) (by decide) (by decide))) fun T11 X11 e11 => ?_
    show Home T11 (mkF m 34 #[.val (.int i0), .val (.int (1 : Int32)), .val (.ref sv_TRUE), .val (.ref sv_TRUE), .unset] [(.ref sv_FALSE)])
    refine Home.run X11 hx hby sg0_34_2 (pc' := 37) (L' := #[.val (.int i0), .val (.int (1 : Int32)), .val (.ref sv_TRUE), .val (.ref sv_TRUE), .val (.ref sv_FALSE)]) (S' := [(.ref sv_TRUE)]) rfl ?_
    refine Home.go (fun _ => XS.ifnullNo X11.here hx rfl (hb hby at_37) rfl) ?_
    show Home T11 (mkF m 40 #[.val (.int i0), .val (.int (1 : Int32)), .val (.ref sv_TRUE), .val (.ref sv_TRUE), .val (.ref sv_FALSE)] [])
    refine Home.run X11 hx hby sg0_40_1 (pc' := 41) (L' := #[.val (.int i0), .val (.int (1 : Int32)), .val (.ref sv_TRUE), .val (.ref sv_TRUE), .val (.ref sv_FALSE)]) (S' := [(.ref sv_TRUE)]) rfl ?_
    refine Home.go (fun _ => XS.ifnullNo X11.here hx rfl (hb hby at_41) rfl) ?_
    show Home T11 (mkF m 44 #[.val (.int i0), .val (.int (1 : Int32)), .val (.ref sv_TRUE), .val (.ref sv_TRUE), .val (.ref sv_FALSE)] [])
    refine Home.run X11 hx hby sg0_44_1 (pc' := 46) (L' := #[.val (.int i0), .val (.int (1 : Int32)), .val (.ref sv_TRUE), .val (.ref sv_TRUE), .val (.ref sv_FALSE)]) (S' := [(.ref sv_FALSE)]) rfl ?_
    refine Home.go (fun _ => XS.ifnonnullYes X11.here hx rfl (pc0 := 46) (pc' := 51) rfl (hb hby at_46) rfl (by decide) (by decide)) ?_
    show Home T11 (mkF m 51 #[.val (.int i0), .val (.int (1 : Int32)), .val (.ref sv_TRUE), .val (.ref sv_TRUE), .val (.ref sv_FALSE)] [])
    refine Home.run X11 hx hby sg0_51_1 (pc' := 52) (L' := #[.val (.int i0), .val (.int (1 : Int32)), .val (.ref sv_TRUE), .val (.ref sv_TRUE), .val (.ref sv_FALSE)]) (S' := [(.ref sv_TRUE)]) rfl ?_
    refine Home.st (own_pure (own_virtual X11 hx hZ hown (own_w8 hw) (own_w9 hw) (notFace_of_selects (args := #[]) (mvT hZ (own_w11 hw))) (own_w11 hw) (own_w10 hw) (own_w2 hw) (own_w12 hw) (by decide) (rm2 l Z a0 hw [] sv_TRUE (1 : Int32) h0 n0 O0 (F_TRUE.ext O0.2)) e11 (E_TRUE.ext O0.2) rfl (by rw [hml]; rfl) (argsL := []) (rest := []) (lenOf own_pd1 rfl) rfl rfl (W := 0) (by show 2 * 0 + _ ≤ _; exact Nat.le_of_eq rfl) (by decide) (by decide) (hb hby at_52) (by decide) (by decide))) fun T12 X12 e12 => ?_
    refine Home.run X12 hx hby sg0_55_1 (pc' := 56) (L' := #[.val (.int i0), .val (.int (1 : Int32)), .val (.ref sv_TRUE), .val (.ref sv_TRUE), .val (.ref sv_FALSE)]) (S' := [(.int (1 : Int32)), (.int (1 : Int32))]) rfl ?_
    refine Home.go (fun _ => XS.icmpNo X12.here hx rfl (hb hby at_56) rfl (teq (by decide)).2) ?_
    refine Home.run X12 hx hby sg0_59_2 (pc' := 61) (L' := #[.val (.int i0), .val (.int (1 : Int32)), .val (.ref sv_TRUE), .val (.ref sv_TRUE), .val (.ref sv_FALSE)]) (S' := [(.ref sv_TRUE), (.ref sv_TRUE)]) rfl ?_
    refine Home.go (fun _ => Jvm.RoadKit.acmp X12 hx rfl rfl rfl (pc0 := 61) (pc' := 64) (same := true) rfl (hb hby at_61) rfl (decide_eq_true rfl) (by decide) (by decide)) ?_
    show Home T12 (mkF m 64 #[.val (.int i0), .val (.int (1 : Int32)), .val (.ref sv_TRUE), .val (.ref sv_TRUE), .val (.ref sv_FALSE)] [])
    refine Home.run X12 hx hby sg0_64_1 (pc' := 66) (L' := #[.val (.int i0), .val (.int (1 : Int32)), .val (.ref sv_TRUE), .val (.ref sv_TRUE), .val (.ref sv_FALSE)]) (S' := [(.ref sv_FALSE)]) rfl ?_
    refine Home.st (own_pure (own_virtual X12 hx hZ hown (own_w8 hw) (own_w9 hw) (notFace_of_selects (args := #[]) (mvT hZ (own_w11 hw))) (own_w11 hw) (own_w10 hw) (own_w2 hw) (own_w12 hw) (by decide) (rm2 l Z a0 hw [] sv_FALSE (0 : Int32) h0 n0 O0 (F_FALSE.ext O0.2)) e12 (E_FALSE.ext O0.2) rfl (by rw [hml]; rfl) (argsL := []) (rest := []) (lenOf own_pd1 rfl) rfl rfl (W := 0) (by show 2 * 0 + _ ≤ _; exact Nat.le_of_eq rfl) (by decide) (by decide) (hb hby at_66) (by decide) (by decide))) fun T13 X13 e13 => ?_
    refine Home.run X13 hx hby sg0_69_1 (pc' := 70) (L' := #[.val (.int i0), .val (.int (1 : Int32)), .val (.ref sv_TRUE), .val (.ref sv_TRUE), .val (.ref sv_FALSE)]) (S' := [(.int (1 : Int32)), (.int (0 : Int32))]) rfl ?_
    refine Home.go (fun _ => XS.ifYes X13.here hx rfl (pc0 := 70) (pc' := 77) rfl (hb hby at_70) rfl ((if0 _ _).trans (feq (by decide)).2) (by decide) (by decide)) ?_
    refine Home.run X13 hx hby sg0_77_1 (pc' := 78) (L' := #[.val (.int i0), .val (.int (1 : Int32)), .val (.ref sv_TRUE), .val (.ref sv_TRUE), .val (.ref sv_FALSE)]) (S' := [(.int (0 : Int32)), (.int (0 : Int32))]) rfl ?_
    refine Home.go (fun _ => XS.icmpNo X13.here hx rfl (hb hby at_78) rfl (teq (by decide)).2) ?_
    refine Home.run X13 hx hby sg0_81_2 (pc' := 84) (L' := #[.val (.int i0), .val (.int (1 : Int32)), .val (.ref sv_TRUE), .val (.ref sv_TRUE), .val (.ref sv_FALSE)]) (S' := [(.ref sv_FALSE), (.ref sv_TRUE)]) rfl ?_
    have ne14 : sv_TRUE ≠ sv_FALSE := (Ne.symm hne)
    refine Home.go (fun _ => Jvm.RoadKit.acmp X13 hx rfl rfl rfl (pc0 := 84) (pc' := 87) (same := false) rfl (hb hby at_84) rfl (decide_eq_false fun q => ne14 (Value.ref.inj q)) (by decide) (by decide)) ?_
    show Home T13 (mkF m 87 #[.val (.int i0), .val (.int (1 : Int32)), .val (.ref sv_TRUE), .val (.ref sv_TRUE), .val (.ref sv_FALSE)] [])
    refine Home.run X13 hx hby sg0_87_2 (pc' := 92) (L' := #[.val (.int i0), .val (.int (1 : Int32)), .val (.ref sv_TRUE), .val (.ref sv_TRUE), .val (.ref sv_FALSE)]) (S' := [(.int (1 : Int32))]) rfl ?_
    exact Home.retN X13 hx hlk (t := .boolean) hret (by simp) (hb hby at_92) ⟨rfl, N0⟩ (by decide) (by decide)
set_option maxRecDepth 65536 in
set_option maxHeartbeats 40000000 in
theorem comes_1 {Post : Tables → Env → Array Value → State → Outcome → State → Prop} (hpost : ∀ tb e args s v u, (limb_1_1.after args s (.returned v) u = true ∧ limb_1_2.after args s (.returned v) u = true ∧ True) → FrameEnd s (.returned v) u (Jvm.fieldLocs frame_1_writes args s ++ Jvm.arrayLocs frame_1_arrays args s ++ Jvm.staticLocs frame_1_statics s) 0 0 → Post tb e args s (.returned v) u) :
    ArmFor flags0 classFile x code maxLocals ret World_1 tables_1 room_1 Calls_1 rest_1 Pre_1 Post := by
  intro l hfl _ _ p e ha hc hk s m args below hf hA hF happ hP
  obtain ⟨hcalls, hrest, hpre⟩ := hP
  obtain ⟨-, -, -, hnamed, -, -, -, hat⟩ := (Spec.applies_iff hf).mp happ
  obtain ⟨hg, hn⟩ := and_e (Cond.before_iff.mp (show (Jvm.Cond.and given_1 narrow_1).before args s = true from hpre))
  obtain ⟨gg1, gg2⟩ := and_e hg
  obtain ⟨w0, rfl⟩ : ∃ w0 : Value, args = #[w0] := by
    have hs : args.size = 1 := by simpa [Cond.value, given_1] using gg1
    obtain ⟨L⟩ := args
    match L, hs with
    | [w0], _ => exact ⟨w0, rfl⟩
  have hw := fun d (hd : d ∈ tables_1) => atoms_spec (ws := Jvm.Cond.code x code maxLocals ret :: tables_1) hat d (List.mem_cons_of_mem _ hd)
  have hfit : Fit s := fun {y c} hc i hi => by
    obtain ⟨ha, rfl⟩ := Array.getElem?_eq_some_iff.mp hc
    have q := List.all_eq_true.mp ((Array.all_eq_true_iff_forall_mem.mp hF) _ (Array.getElem_mem ha)) i (List.mem_range.mpr hi)
    simpa [Array.getElem?_eq_getElem hi] using q
  obtain ⟨i0, ei0⟩ := is_v gg2
  obtain rfl : w0 = (.int i0) := Option.some.inj ei0
  obtain ⟨n1, hn⟩ := and_e hn
  obtain ⟨n2, hn⟩ := and_e hn
  obtain ⟨n3, hn⟩ := and_e hn
  obtain ⟨n4, n5⟩ := and_e hn
  obtain ⟨aF, vF⟩ := exa_v n1
  obtain ⟨aT, vT⟩ := exa_v n2
  have S_FALSE := Sta.start vF (Or.inr ⟨own_w2 hw, own_w5 hw⟩)
  have S_TRUE := Sta.start vT (Or.inr ⟨own_w2 hw, own_w7 hw⟩)
  have E_FALSE := Exa.start vF n1
  have E_TRUE := Exa.start vT n2
  have F_FALSE := own_fld_int vF n3
  have F_TRUE := own_fld_int vT n4
  have hne : aF ≠ aT := fun q => by subst q; exact own_ne_ref vF vT n5
  obtain ⟨n, o, h1, h2, h3, _, L, rfl, ⟨rfl, N⟩, hq⟩ := rm0 l s _ hw tables_1 i0 aT aF s.heap s.heap.size (Old.start s) S_TRUE E_TRUE F_TRUE S_FALSE E_FALSE F_FALSE hne p e ha hc hk s m _ below hf ((Spec.applies_iff_loose hf).mp happ).1 ⟨rfl, State.Warmed39.refl s, rfl⟩ trivial
  refine ⟨n, _, h1, h2, h3, hpost _ _ _ _ _ _ ⟨Cond.after_iff.mpr rfl, Cond.after_iff.mpr (eq_i res_at (Term.int_eval (1)) rfl), trivial⟩ ⟨hq.1, hq.2.1, (hq.2.2.sift fun y hy => Or.inr (N y hy)).mono (by decide) (by decide)⟩⟩
theorem main_1_1 : Claimed_1_1 := comes_1 fun _ _ _ _ _ _ h hF => ⟨h.1, hF⟩
theorem main_1_2 : Claimed_1_2 := comes_1 fun _ _ _ _ _ _ h hF => ⟨h.2.1, hF⟩
end Jvm.Pilot.@@N@@
namespace Jvm.Pilot.@@N@@
open Jvm Jvm.ClassFile Sem Op Lib Jvm.Free Jvm.Stand Jvm.Pilot.@@N@@.Jvm.D
/-! MADE BY PROGRAM (witnessworld.py) out of the Statement's table words and the real class files: 11 classes; the members and pool entries that the words name. The judged class is class 1, her method 1. -/
namespace start1
open Jvm.ClassFile
def u (s : String) : CpInfo := .utf8 (stringToUtf16 s)
/-- a pool by its gaps: so many unusable entries, then the entry; so many at the end -/
def gap : Nat → List CpInfo → List CpInfo
  | 0, r => r
  | n + 1, r => .unusable :: gap n r
def poolList (es : List (Nat × CpInfo)) (last : Nat) : List CpInfo := es.foldr (fun e r => gap e.1 (e.2 :: r)) (gap last [])
def pool (es : List (Nat × CpInfo)) (last : Nat) : Array CpInfo := ⟨poolList es last⟩
def fileOf (pool : Array CpInfo) (this : Nat) (attrs : Array Attribute := #[]) (ms : Array MethodInfo := #[]) (fl : Nat := 33) (sup : Nat := 0) (ifs : Array Nat := #[]) (fds : Array FieldInfo := #[]) : ClassFile where
  minorVersion := 0
  majorVersion := 65
  constantPool := pool
  accessFlags := fl
  thisClass := this
  superClass := sup
  interfaces := ifs
  fields := fds
  methods := ms
  attributes := attrs
def plain (name : String) (sup : Option ClassId) : Class where
  name := name
  kind := .ordinary
  loader := none
  accessFlags := 33
  super := sup
  interfaces := #[]
  cf := none
  fields := #[]
  methods := #[]
  instanceTypes := #[]
  staticTypes := #[]
  resolved := #[]
  callSites := []
  init := .initialized
  statics := none
  mirror := none

def pool0 : Array CpInfo := pool [(5, u "<init>"), (0, u "()V"), (1, .class_ 10), (1, u "java/lang/Object")] 113

def k0m0 : Method := { name := "<init>", desc := "()V", sig := { parameters := [], returnType := none }, accessFlags := 1, code := none }
/-- java/lang/Object -/
def k0 : Class := { plain "java/lang/Object" none with
  accessFlags := 33
  interfaces := #[]
  cf := some (fileOf pool0 8 #[] #[{ accessFlags := 1, nameIndex := 5, descriptorIndex := 6, attributes := #[] }] 33 0 #[] #[])
  fields := #[]
  methods := #[k0m0]
  instanceTypes := #[]
  staticTypes := #[]
  resolved := Array.replicate 124 none
  statics := none }

def pool1 : Array CpInfo := pool [(2, .class_ 4), (1, u "java/lang/Object"), (0, u "<init>"), (0, u "()V"), (0, .methodref 8 9), (0, .class_ 10), (0, .nameAndType 11 12), (0, u "com/example/invocant/invocant/JsonValue$BooleanValue"), (0, u "of"), (0, u "(Z)Lcom/example/invocant/invocant/JsonValue$BooleanValue;"), (0, .methodref 8 14), (0, .nameAndType 15 16), (0, u "value"), (0, u "()Z"), (0, .class_ 18), (0, u "com/example/invocant/invocant/BooleanValueOfPinLaw"), (2, u "law"), (0, u "(I)Z")] 7

def k1m0 : Method := { name := "<init>", desc := "()V", sig := { parameters := [], returnType := none }, accessFlags := 2, code := none }
def k1c1 : Code := { maxStack := 2, maxLocals := 5, code := code, exceptionTable := #[], attributes := #[] }
def k1m1 : Method := { name := "law", desc := "(I)Z", sig := { parameters := [.int], returnType := some .boolean }, accessFlags := 9, code := some k1c1 }
/-- com/example/invocant/invocant/BooleanValueOfPinLaw -/
def k1 : Class := { plain "com/example/invocant/invocant/BooleanValueOfPinLaw" (some 0) with
  accessFlags := 49
  interfaces := #[]
  cf := some (fileOf pool1 17 #[] #[{ accessFlags := 2, nameIndex := 5, descriptorIndex := 6, attributes := #[] }, { accessFlags := 9, nameIndex := 21, descriptorIndex := 22, attributes := #[] }] 49 2 #[] #[])
  fields := #[]
  methods := #[k1m0, k1m1]
  instanceTypes := #[]
  staticTypes := #[]
  resolved := Array.replicate 30 none
  statics := none }

def pool2 : Array CpInfo := pool [(2, .class_ 4), (1, u "java/lang/Object"), (0, u "<init>"), (0, u "()V"), (0, .class_ 8), (0, u "java/lang/Record")] 13

def k2m0 : Method := { name := "<init>", desc := "()V", sig := { parameters := [], returnType := none }, accessFlags := 4, code := none }
/-- java/lang/Record -/
def k2 : Class := { plain "java/lang/Record" (some 0) with
  accessFlags := 1057
  interfaces := #[]
  cf := some (fileOf pool2 7 #[] #[{ accessFlags := 4, nameIndex := 5, descriptorIndex := 6, attributes := #[] }] 1057 2 #[] #[])
  fields := #[]
  methods := #[k2m0]
  instanceTypes := #[]
  staticTypes := #[]
  resolved := Array.replicate 22 none
  statics := none }

def pool3 : Array CpInfo := pool [(1, .class_ 2), (0, u "com/example/invocant/invocant/JsonValue"), (0, .class_ 4), (0, u "java/lang/Object"), (5, .class_ 11), (0, u "com/example/invocant/invocant/JsonValue$NullValue"), (0, .class_ 13), (0, u "com/example/invocant/invocant/JsonValue$BooleanValue"), (0, .class_ 15), (0, u "com/example/invocant/invocant/JsonValue$NumberValue"), (0, .class_ 17), (0, u "com/example/invocant/invocant/JsonValue$StringValue"), (0, .class_ 19), (0, u "com/example/invocant/invocant/JsonValue$ArrayValue"), (0, .class_ 21), (0, u "com/example/invocant/invocant/JsonValue$ObjectValue")] 8

/-- com/example/invocant/invocant/JsonValue -/
def k3 : Class := { plain "com/example/invocant/invocant/JsonValue" (some 0) with
  accessFlags := 1536
  interfaces := #[]
  cf := some (fileOf pool3 1 #[.nestMembers #[10, 12, 14, 16, 18, 20]] #[] 1536 3 #[] #[])
  fields := #[]
  methods := #[]
  instanceTypes := #[]
  staticTypes := #[]
  resolved := Array.replicate 30 none
  statics := none }

def pool4 : Array CpInfo := pool [(2, .class_ 4), (1, u "java/lang/Record"), (2, .fieldref 8 9), (0, .class_ 10), (0, .nameAndType 11 12), (0, u "com/example/invocant/invocant/JsonValue$BooleanValue"), (0, u "value"), (0, u "Z"), (0, .fieldref 8 14), (0, .nameAndType 15 16), (0, u "TRUE"), (0, u "Lcom/example/invocant/invocant/JsonValue$BooleanValue;"), (0, .fieldref 8 18), (0, .nameAndType 19 16), (0, u "FALSE"), (17, .class_ 38), (0, u "com/example/invocant/invocant/JsonValue"), (3, u "of"), (0, u "(Z)Lcom/example/invocant/invocant/JsonValue$BooleanValue;"), (5, u "()Z")] 22

def k4c0 : Code := { maxStack := 1, maxLocals := 1, code := prog_38_method_2_code, exceptionTable := #[], attributes := #[] }
def k4m0 : Method := { name := "of", desc := "(Z)Lcom/example/invocant/invocant/JsonValue$BooleanValue;", sig := { parameters := [.boolean], returnType := some (.object "com/example/invocant/invocant/JsonValue$BooleanValue") }, accessFlags := 8, code := some k4c0 }
def k4c1 : Code := { maxStack := 1, maxLocals := 1, code := prog_38_method_7_code, exceptionTable := #[], attributes := #[] }
def k4m1 : Method := { name := "value", desc := "()Z", sig := { parameters := [], returnType := some .boolean }, accessFlags := 1, code := some k4c1 }
/-- com/example/invocant/invocant/JsonValue$BooleanValue -/
def k4 : Class := { plain "com/example/invocant/invocant/JsonValue$BooleanValue" (some 2) with
  accessFlags := 49
  interfaces := #[3]
  cf := some (fileOf pool4 8 #[.nestHost 37] #[{ accessFlags := 8, nameIndex := 42, descriptorIndex := 43, attributes := #[] }, { accessFlags := 1, nameIndex := 11, descriptorIndex := 49, attributes := #[] }] 49 2 #[37] #[{ accessFlags := 18, nameIndex := 11, descriptorIndex := 12, attributes := #[] }, { accessFlags := 24, nameIndex := 15, descriptorIndex := 16, attributes := #[] }, { accessFlags := 24, nameIndex := 19, descriptorIndex := 16, attributes := #[] }])
  fields := #[{ name := "value", type := .boolean, accessFlags := 18, slot := 0, constantValue := 0 }, { name := "TRUE", type := (.object "com/example/invocant/invocant/JsonValue$BooleanValue"), accessFlags := 24, slot := 0, constantValue := 0 }, { name := "FALSE", type := (.object "com/example/invocant/invocant/JsonValue$BooleanValue"), accessFlags := 24, slot := 1, constantValue := 0 }]
  methods := #[k4m0, k4m1]
  instanceTypes := #[.boolean]
  staticTypes := #[(.object "com/example/invocant/invocant/JsonValue$BooleanValue"), (.object "com/example/invocant/invocant/JsonValue$BooleanValue")]
  resolved := Array.replicate 72 none
  statics := some 0 }

def pool5 : Array CpInfo := pool [(1, u "java/lang/Cloneable"), (0, .class_ 1), (0, u "java/lang/Object"), (0, .class_ 3)] 3

/-- java/lang/Cloneable -/
def k5 : Class := { plain "java/lang/Cloneable" (some 0) with
  accessFlags := 1537
  interfaces := #[]
  cf := some (fileOf pool5 2 #[] #[] 1537 4 #[] #[])
  fields := #[]
  methods := #[]
  instanceTypes := #[]
  staticTypes := #[]
  resolved := Array.replicate 8 none
  statics := none }

def pool6 : Array CpInfo := pool [(1, u "java/io/Serializable"), (0, .class_ 1), (0, u "java/lang/Object"), (0, .class_ 3)] 3

/-- java/io/Serializable -/
def k6 : Class := { plain "java/io/Serializable" (some 0) with
  accessFlags := 1537
  interfaces := #[]
  cf := some (fileOf pool6 2 #[] #[] 1537 4 #[] #[])
  fields := #[]
  methods := #[]
  instanceTypes := #[]
  staticTypes := #[]
  resolved := Array.replicate 8 none
  statics := none }

/-- the primitive byte -/
def k7 : Class := { plain "byte" none with kind := .primitive 'B', accessFlags := 0x411 }
/-- [B -/
def k8 : Class := { plain "[B" (some 0) with kind := .array 7 .byte, interfaces := #[5, 6], accessFlags := 1041 }

/-- the primitive int -/
def k9 : Class := { plain "int" none with kind := .primitive 'I', accessFlags := 0x411 }
/-- [I -/
def k10 : Class := { plain "[I" (some 0) with kind := .array 9 .int, interfaces := #[5, 6], accessFlags := 1041 }

def heap : Heap := #[{ cls := 4, slots := #[.ref 2, .ref 1], vm := .statics 4 },
  { cls := 4, slots := #[.int 0], vm := .none },
  { cls := 4, slots := #[.int 1], vm := .none }]
def classes : Array Class := #[k0, k1, k2, k3, k4, k5, k6, k7, k8, k9, k10]
def interned : List (Array UInt16 × Addr) := []
def slotsUsed : Nat := 4
def theMethod : MethodId := ⟨1, 1⟩
def args0 : Array Value := #[.int 5]
def aboutOver (below : List Frame) : State where
  vm := { classes := classes, interned := interned.toArray }
  heap := heap
  slotsUsed := slotsUsed
  threads := #[{ frames := .invoking theMethod args0 :: below }]
def below0 : List Frame := [.native { method := ⟨0, 0⟩, args := #[] }]
def about1 : State := aboutOver below0
def p0 : Program := .bare "" "" ""
def e0 : Env := launch0.env 0 0 0
theorem w_frames : about1.frames = Frame.invoking theMethod args0 :: below0 := rfl
set_option maxRecDepth 65536 in
theorem w_args : argsFit about1.vm theMethod args0 = true := by decide +kernel
set_option maxRecDepth 65536 in
theorem w_heap : heapFits about1 = true := by decide +kernel
set_option maxRecDepth 65536 in
theorem w_runnable : about1.curStatus? = some .runnable := by decide +kernel
set_option maxRecDepth 65536 in
theorem w_alone : about1.alone = true := by decide +kernel
set_option maxRecDepth 65536 in
theorem w_named : about1.methodNamed? x = some theMethod := by decide +kernel
set_option maxRecDepth 65536 in
theorem w_hears : about1.hears theMethod below0 = true := by decide +kernel
set_option maxRecDepth 65536 in
theorem w_ripe : about1.ripe theMethod args0 below0 = true := by decide +kernel
theorem w_running : about1.status = .running := rfl
set_option maxRecDepth 65536 in
theorem w_room : about1.hasRoom e0.platform room_1 = true :=
  launch0.hasRoom_least _ room_1 (by decide +kernel) (by decide +kernel) (by decide +kernel) (by decide +kernel) (by decide +kernel) (by decide +kernel)
theorem allAtoms_all (ts : List Jvm.Cond) (a : Array Jvm.Value) (st : Jvm.State) : (allAtoms ts).before a st = ts.all (fun c => c.before a st) := by
  induction ts with
  | nil => rfl
  | cons c t ih =>
    show (Jvm.Cond.and c (allAtoms t)).before a st = _
    rw [Jvm.Cond.before_and, ih, List.all_cons]
def words1 : List Jvm.Cond := Jvm.Cond.code x code maxLocals ret :: tables_1
/-- a 'code' word, met by the world's own term for the bytes: nothing is compared byte by byte -/
theorem code_word {y : MethodName} {bytes : ByteArray} {mx : Nat} {rt : Option FieldType} {a : Array Value} {s : State} {m : MethodId} {meth : Method} {c : Code} (h1 : s.methodNamed? y = some m) (h2 : s.vm.method? m = some meth) (h3 : meth.code = some c) (h4 : c.code = bytes)
    (h5 : (c.maxLocals == mx && c.exceptionTable.isEmpty && decide (c.maxStack ≤ mostOperands) && decide (meth.sig.returnType = rt) && !meth.locks && decide (parseMethodDescriptor y.desc = some meth.sig)) = true) : (Jvm.Cond.code y bytes mx rt).before a s = true := by
  simp only [Bool.and_eq_true, beq_iff_eq, Bool.not_eq_true', decide_eq_true_eq] at h5
  obtain ⟨⟨⟨⟨⟨g1, g2⟩, g3⟩, g4⟩, g5⟩, g6⟩ := h5
  simp [Cond.before, Cond.holds, Cond.value, h1, h2, h3, h4, g1, g2, g3, g4, g5, g6]
def isCode : Jvm.Cond → Bool
  | .code _ _ _ _ => true
  | _ => false
theorem all_split {L : List Jvm.Cond} {P : Jvm.Cond → Bool} (h1 : L.all (fun c => isCode c || P c) = true) (h2 : ∀ c ∈ L.filter isCode, P c = true) : L.all P = true := by
  refine List.all_eq_true.mpr fun c hc => ?_
  have h := List.all_eq_true.mp h1 c hc
  rcases Bool.eq_false_or_eq_true (isCode c) with hi | hi
  · exact h2 c (List.mem_filter.mpr ⟨hc, hi⟩)
  · simpa [hi] using h
set_option maxRecDepth 65536 in
theorem w_c0 : (Jvm.Cond.code x code maxLocals ret).before args0 about1 = true := code_word (m := ⟨1, 1⟩) (meth := k1m1) (c := k1c1) (by decide +kernel) rfl rfl rfl (by decide +kernel)
set_option maxRecDepth 65536 in
theorem w_c1 : (Jvm.Cond.code ({ cls := "com/example/invocant/invocant/JsonValue$BooleanValue", name := "of", desc := "(Z)Lcom/example/invocant/invocant/JsonValue$BooleanValue;" } : Jvm.MethodName) prog_38_method_2_code (1 : Nat) (Option.some (Jvm.ClassFile.FieldType.object "com/example/invocant/invocant/JsonValue$BooleanValue"))).before args0 about1 = true := code_word (m := ⟨4, 0⟩) (meth := k4m0) (c := k4c0) (by decide +kernel) rfl rfl rfl (by decide +kernel)
set_option maxRecDepth 65536 in
theorem w_c2 : (Jvm.Cond.code ({ cls := "com/example/invocant/invocant/JsonValue$BooleanValue", name := "value", desc := "()Z" } : Jvm.MethodName) prog_38_method_7_code (1 : Nat) (Option.some Jvm.ClassFile.FieldType.boolean)).before args0 about1 = true := code_word (m := ⟨4, 1⟩) (meth := k4m1) (c := k4c1) (by decide +kernel) rfl rfl rfl (by decide +kernel)
def codes1 : List Jvm.Cond := [Jvm.Cond.code x code maxLocals ret, Jvm.Cond.code ({ cls := "com/example/invocant/invocant/JsonValue$BooleanValue", name := "of", desc := "(Z)Lcom/example/invocant/invocant/JsonValue$BooleanValue;" } : Jvm.MethodName) prog_38_method_2_code (1 : Nat) (Option.some (Jvm.ClassFile.FieldType.object "com/example/invocant/invocant/JsonValue$BooleanValue")), Jvm.Cond.code ({ cls := "com/example/invocant/invocant/JsonValue$BooleanValue", name := "value", desc := "()Z" } : Jvm.MethodName) prog_38_method_7_code (1 : Nat) (Option.some Jvm.ClassFile.FieldType.boolean)]
set_option maxRecDepth 65536 in
theorem codes_eq : words1.filter isCode = codes1 := rfl
theorem w_codes : ∀ c ∈ words1.filter isCode, c.before args0 about1 = true := by
  rw [codes_eq]
  intro c hc
  simp only [codes1, List.mem_cons, List.not_mem_nil, or_false] at hc
  rcases hc with rfl | rfl | rfl
  · exact w_c0
  · exact w_c1
  · exact w_c2
set_option maxRecDepth 65536 in
theorem w_t1 : words1.all (fun c => isCode c || c.before args0 about1) = true := by decide +kernel
theorem w_tables : (allAtoms (Jvm.Cond.code x code maxLocals ret :: tables_1)).before args0 about1 = true := by
  rw [allAtoms_all]
  show words1.all (fun c => c.before args0 about1) = true
  refine all_split ?_ w_codes
  rw [w_t1]
set_option maxRecDepth 65536 in
theorem w_case : (Jvm.Cond.and given_1 narrow_1).before args0 about1 = true := by decide +kernel
theorem w_applies : (headSpec (Jvm.Cond.code x code maxLocals ret :: tables_1) room_1).applies x e0.platform about1 = true :=
  (Spec.applies_iff w_frames).mpr ⟨w_running, w_runnable, w_alone, w_named, w_hears, w_ripe, w_room, w_tables⟩
theorem atStart : AtStart classFile x code maxLocals ret World_1 tables_1 room_1 Calls_1 rest_1 Pre_1 launch0 p0 e0 about1 theMethod args0 below0 :=
  ⟨lists_1, trivial, launch0.admits_env _ _ _, launch0.least_env, fairChoices_fair.cas, fairChoices_fair.clock, w_frames, w_args, w_heap, w_applies, trivial, trivial, w_case⟩
end start1
theorem witness_1 : WitnessClaimed_1 := ⟨start1.p0, start1.e0, start1.about1, start1.theMethod, start1.args0, start1.below0, start1.atStart⟩
end Jvm.Pilot.@@N@@
