import JvmDerived
import JvmDerived.Pilot.@@N@@Statement
import JvmDerived.Pilot.@@N@@Code
set_option linter.unusedVariables false
set_option linter.unusedSimpArgs false
namespace Jvm.OwnKit
open Jvm Jvm.ClassFile Sem Op Lib Jvm.Free Jvm.Stand Jvm.LawKit Jvm.RoadKit
section Walk
variable {p : Program} {l : Launch} {e : Env} {R : Room} {s : State} {m : MethodId} {args : Array Value} {below : List Frame} {meth : Method} {c : Code} {T T' : State} {locs : List Loc} {cells slots k n : Nat} {Q : Option Value → Heap → List Loc → Prop} {g g' : JFrame}
/-- from T with the frame g on top the run comes home: it returns, and Q says of what it returned, the heap and the places written -/
def Home {p : Program} {e : Env} {below : List Frame} {s : State} {Q : Option Value → Heap → List Loc → Prop} {k n : Nat} (T : State) (g : JFrame) : Prop :=
  ∃ U o, Steps p.tables e below (T.setTop g) U ∧ U.status = .running ∧ Ended U below o ∧ ∃ v L, o = .returned v ∧ Q v U.heap L ∧ FrameEnd s o U L k n
theorem Home.go (st : ∀ t, Steps p.tables e below (T'.setTop g') t → Steps p.tables e below (T.setTop g) t) (H : @Home p e below s Q k n T' g') : @Home p e below s Q k n T g := by
  obtain ⟨U, o, h1, h2⟩ := H
  exact ⟨U, o, st _ h1, h2⟩
section Cps
variable {S : State → Prop} {S2 : State → Heap → Prop} {W E A D M : Heap → Prop} {A2 : Heap → ClassId → Prop} {O : ClassId → Prop} {h : Heap}
theorem Home.st (q : ∃ T', S T' ∧ T'.heap = h ∧ ∀ t, Steps p.tables e below (T'.setTop g') t → Steps p.tables e below (T.setTop g) t) (H : ∀ T', S T' → T'.heap = h → @Home p e below s Q k n T' g') : @Home p e below s Q k n T g := by
  obtain ⟨T', x, y, st⟩ := q
  exact Home.go st (H T' x y)
theorem Home.wr (q : ∃ T' h', S T' ∧ T'.heap = h' ∧ W h' ∧ ∀ t, Steps p.tables e below (T'.setTop g') t → Steps p.tables e below (T.setTop g) t) (H : ∀ T' h', S T' → T'.heap = h' → W h' → @Home p e below s Q k n T' g') : @Home p e below s Q k n T g := by
  obtain ⟨T', h', x, y, z, st⟩ := q
  exact Home.go st (H T' h' x y z)
theorem Home.nw (q : ∃ T' h', S T' ∧ T'.heap = h' ∧ E h' ∧ A h' ∧ D h' ∧ M h' ∧ ∀ t, Steps p.tables e below (T'.setTop g') t → Steps p.tables e below (T.setTop g) t) (H : ∀ T' h', S T' → T'.heap = h' → E h' → A h' → D h' → M h' → @Home p e below s Q k n T' g') : @Home p e below s Q k n T g := by
  obtain ⟨T', h', x, y, z, u, v, w, st⟩ := q
  exact Home.go st (H T' h' x y z u v w)
theorem Home.na (q : ∃ T' h' c', S T' ∧ T'.heap = h' ∧ E h' ∧ A2 h' c' ∧ ∀ t, Steps p.tables e below (T'.setTop g') t → Steps p.tables e below (T.setTop g) t) (H : ∀ T' h' c', S T' → T'.heap = h' → E h' → A2 h' c' → @Home p e below s Q k n T' g') : @Home p e below s Q k n T g := by
  obtain ⟨T', h', c', x, y, z, u, st⟩ := q
  exact Home.go st (H T' h' c' x y z u)
theorem Home.nr (q : ∃ T' h' c', S T' ∧ T'.heap = h' ∧ E h' ∧ A2 h' c' ∧ O c' ∧ ∀ t, Steps p.tables e below (T'.setTop g') t → Steps p.tables e below (T.setTop g) t) (H : ∀ T' h' c', S T' → T'.heap = h' → E h' → A2 h' c' → O c' → @Home p e below s Q k n T' g') : @Home p e below s Q k n T g := by
  obtain ⟨T', h', c', x, y, z, u, v, st⟩ := q
  exact Home.go st (H T' h' c' x y z u v)
theorem Home.call {S3 : State → List Loc → Prop} {Q3 : Option Value → State → List Loc → Prop} {gv : Option Value → JFrame} (q : ∃ v T' L, S3 T' L ∧ Q3 v T' L ∧ ∀ t, Steps p.tables e below (T'.setTop (gv v)) t → Steps p.tables e below (T.setTop g) t) (H : ∀ v T' L, S3 T' L → Q3 v T' L → @Home p e below s Q k n T' (gv v)) : @Home p e below s Q k n T g := by
  obtain ⟨v, T', L, x, y, st⟩ := q
  exact Home.go st (H v T' L x y)
end Cps
theorem Home.enter (q : g = g') (H : @Home p e below s Q k n T g') : @Home p e below s Q k n T g := by
  subst q; exact H
theorem Home.retN (X : Stand p l e R s m args below meth c T locs cells slots) (hx : p.tables.exec = Jvm.exec) (hlk : meth.locks = false) {pc : Nat} {Ls : Array Slot} {z : Int32} {t : FieldType} {rest : List Value} (hret : meth.sig.returnType = some t) (ht : t = .boolean ∨ t = .byte ∨ t = .char ∨ t = .short)
    (hd : decode c.code pc = .ok (.ireturn, 1)) (hQ : Q (some (.int (nar t z))) T.heap locs) (hk : cells ≤ k) (hn : slots ≤ n) : @Home p e below s Q k n T (mkF m pc Ls (.int z :: rest)) := by
  obtain ⟨fs, hr, hrun, hended, hW, hsame⟩ := X.leave (v := some (.int (nar t z))) (fun h => by rw [hret] at h; cases h) hlk
  exact ⟨_, _, Jvm.RoadKit.retN X hx hret ht hd hr, hrun, hended, _, _, rfl, hQ, ⟨_, rfl⟩, hW, hsame.mono hk hn⟩
theorem Home.ret (X : Stand p l e R s m args below meth c T locs cells slots) (hx : p.tables.exec = Jvm.exec) (hlk : meth.locks = false) {pc : Nat} {Ls : Array Slot} {w : Value} {t : FieldType} {i : Instr} {rest : List Value} (hret : meth.sig.returnType = some t) (hnn : narrow t w = w)
    (hi : (i = .ireturn ∧ (t = .int ∨ t = .boolean ∨ t = .byte ∨ t = .char ∨ t = .short) ∧ ∃ z, w = .int z) ∨ (i = .lreturn ∧ t = .long ∧ ∃ z, w = .long z) ∨ (i = .dreturn ∧ t = .double ∧ ∃ z, w = .double z) ∨ (i = .freturn ∧ t = .float ∧ ∃ z, w = .float z) ∨ (i = .areturn ∧ t.isReference = true ∧ w.isRef = true))
    (hd : decode c.code pc = .ok (i, 1)) (hQ : Q (some w) T.heap locs) (hk : cells ≤ k) (hn : slots ≤ n) : @Home p e below s Q k n T (mkF m pc Ls (w :: rest)) := by
  obtain ⟨fs, hr, hrun, hended, hW, hsame⟩ := X.leave (v := some w) (fun h => by rw [hret] at h; cases h) hlk
  exact ⟨_, _, retOut X hx hret hnn hi hd hr, hrun, hended, _, _, rfl, hQ, ⟨_, rfl⟩, hW, hsame.mono hk hn⟩
theorem Home.retI (X : Stand p l e R s m args below meth c T locs cells slots) (hx : p.tables.exec = Jvm.exec) (hlk : meth.locks = false) {pc : Nat} {Ls : Array Slot} {z : Int32} {rest : List Value} (hret : meth.sig.returnType = some .int)
    (hd : decode c.code pc = .ok (.ireturn, 1)) (hQ : Q (some (.int z)) T.heap locs) (hk : cells ≤ k) (hn : slots ≤ n) : @Home p e below s Q k n T (mkF m pc Ls (.int z :: rest)) :=
  Home.ret X hx hlk hret rfl (Or.inl ⟨rfl, Or.inl rfl, z, rfl⟩) hd hQ hk hn
theorem Home.retJ (X : Stand p l e R s m args below meth c T locs cells slots) (hx : p.tables.exec = Jvm.exec) (hlk : meth.locks = false) {pc : Nat} {Ls : Array Slot} {z : Int64} {rest : List Value} (hret : meth.sig.returnType = some .long)
    (hd : decode c.code pc = .ok (.lreturn, 1)) (hQ : Q (some (.long z)) T.heap locs) (hk : cells ≤ k) (hn : slots ≤ n) : @Home p e below s Q k n T (mkF m pc Ls (.long z :: rest)) :=
  Home.ret X hx hlk hret rfl (Or.inr (Or.inl ⟨rfl, rfl, z, rfl⟩)) hd hQ hk hn
theorem narrow_ref {t : FieldType} {w : Value} (hw : w.isRef = true) : narrow t w = w := by
  rcases ref_cases hw with rfl | ⟨a, rfl⟩ <;> cases t <;> rfl
theorem Home.retR (X : Stand p l e R s m args below meth c T locs cells slots) (hx : p.tables.exec = Jvm.exec) (hlk : meth.locks = false) {pc : Nat} {Ls : Array Slot} {w : Value} {t : FieldType} {rest : List Value} (hret : meth.sig.returnType = some t) (ht : t.isReference = true) (hw : w.isRef = true)
    (hd : decode c.code pc = .ok (.areturn, 1)) (hQ : Q (some w) T.heap locs) (hk : cells ≤ k) (hn : slots ≤ n) : @Home p e below s Q k n T (mkF m pc Ls (w :: rest)) :=
  Home.ret X hx hlk hret (narrow_ref hw) (Or.inr (Or.inr (Or.inr (Or.inr ⟨rfl, ht, hw⟩)))) hd hQ hk hn
theorem Home.ret0 (X : Stand p l e R s m args below meth c T locs cells slots) (hx : p.tables.exec = Jvm.exec) (hlk : meth.locks = false) {pc : Nat} {Ls : Array Slot} (hret : meth.sig.returnType = none)
    (hd : decode c.code pc = .ok (.return_, 1)) (hQ : Q none T.heap locs) (hk : cells ≤ k) (hn : slots ≤ n) : @Home p e below s Q k n T (mkF m pc Ls []) := by
  obtain ⟨fs, hr, hrun, hended, hW, hsame⟩ := X.leave (v := none) (fun _ => rfl) hlk
  exact ⟨_, _, X.returnOut hx hret hd hr, hrun, hended, _, _, rfl, hQ, ⟨_, rfl⟩, hW, hsame.mono hk hn⟩
end Walk
section Run
variable {p : Program} {l : Launch} {e : Env} {R : Room} {s : State} {m : MethodId} {args : Array Value} {below : List Frame} {meth : Method} {c : Code} {T : State} {locs : List Loc} {cells slots : Nat} {target : State}
def un32 (f : Int32 → Value) (S : List Value) : Option (List Value) := match S with | .int x :: r => some (f x :: r) | _ => none
def un64 (f : Int64 → Value) (S : List Value) : Option (List Value) := match S with | .long x :: r => some (f x :: r) | _ => none
def bi32 (f : Int32 → Int32 → Int32) (S : List Value) : Option (List Value) := match S with | .int y :: .int x :: r => some (.int (f x y) :: r) | _ => none
def bi64 (f : Int64 → Int64 → Value) (S : List Value) : Option (List Value) := match S with | .long y :: .long x :: r => some (f x y :: r) | _ => none
def sh64 (f : Int64 → Int32 → Int64) (S : List Value) : Option (List Value) := match S with | .int y :: .long x :: r => some (.long (f x y) :: r) | _ => none
/-- the stack behind an instruction that reads and writes the stack alone -/
def stk (i : Instr) (S : List Value) : Option (List Value) := match i with
  | .iconst k => some (.int (Int32.ofInt k) :: S)
  | .bipush k => some (.int (Int8.ofInt k).toInt32 :: S)
  | .sipush k => some (.int (Int16.ofInt k).toInt32 :: S)
  | .lconst k => some (.long (Int64.ofNat k) :: S)
  | .aconst_null => some (.null :: S)
  | .iadd => bi32 (· + ·) S
  | .isub => bi32 (· - ·) S
  | .imul => bi32 (· * ·) S
  | .iand => bi32 (· &&& ·) S
  | .ior => bi32 (· ||| ·) S
  | .ixor => bi32 (· ^^^ ·) S
  | .ishl => bi32 (fun x y => x <<< (y &&& 31)) S
  | .ishr => bi32 (fun x y => x >>> (y &&& 31)) S
  | .iushr => bi32 (fun x y => (x.toUInt32 >>> (y &&& 31).toUInt32).toInt32) S
  | .ladd => bi64 (fun x y => .long (x + y)) S
  | .lsub => bi64 (fun x y => .long (x - y)) S
  | .lmul => bi64 (fun x y => .long (x * y)) S
  | .land => bi64 (fun x y => .long (x &&& y)) S
  | .lor => bi64 (fun x y => .long (x ||| y)) S
  | .lxor => bi64 (fun x y => .long (x ^^^ y)) S
  | .lcmp => bi64 (fun x y => .int (if x > y then 1 else if x = y then 0 else -1)) S
  | .lshl => sh64 (fun x y => x <<< (y &&& 0x3f).toInt64) S
  | .lshr => sh64 (fun x y => x >>> (y &&& 0x3f).toInt64) S
  | .lushr => sh64 (fun x y => (x.toUInt64 >>> (y &&& 0x3f).toInt64.toUInt64).toInt64) S
  | .ineg => un32 (fun x => .int (-x)) S
  | .lneg => un64 (fun x => .long (-x)) S
  | .i2l => un32 (fun x => .long x.toInt64) S
  | .l2i => un64 (fun x => .int x.toInt32) S
  | .i2b => un32 (fun x => .int x.toInt8.toInt32) S
  | .i2c => un32 (fun x => .int x.toUInt32.toUInt16.toUInt32.toInt32) S
  | .i2s => un32 (fun x => .int x.toInt16.toInt32) S
  | .dup => match S with | x :: r => if x.category = 1 then some (x :: x :: r) else none | _ => none
  | .pop => match S with | x :: r => if x.category = 1 then some r else none | _ => none
  | .dup_x1 => match S with | x :: y :: r => if x.category = 1 ∧ y.category = 1 then some (x :: y :: x :: r) else none | _ => none
  | _ => none
theorem un32_s {f : Int32 → Value} {S S' : List Value} (h : un32 f S = some S') : ∃ x r, S = .int x :: r ∧ S' = f x :: r := by
  unfold un32 at h; split at h
  · cases h; exact ⟨_, _, rfl, rfl⟩
  · cases h
theorem un64_s {f : Int64 → Value} {S S' : List Value} (h : un64 f S = some S') : ∃ x r, S = .long x :: r ∧ S' = f x :: r := by
  unfold un64 at h; split at h
  · cases h; exact ⟨_, _, rfl, rfl⟩
  · cases h
theorem bi32_s {f : Int32 → Int32 → Int32} {S S' : List Value} (h : bi32 f S = some S') : ∃ x y r, S = .int y :: .int x :: r ∧ S' = .int (f x y) :: r := by
  unfold bi32 at h; split at h
  · cases h; exact ⟨_, _, _, rfl, rfl⟩
  · cases h
theorem bi64_s {f : Int64 → Int64 → Value} {S S' : List Value} (h : bi64 f S = some S') : ∃ x y r, S = .long y :: .long x :: r ∧ S' = f x y :: r := by
  unfold bi64 at h; split at h
  · cases h; exact ⟨_, _, _, rfl, rfl⟩
  · cases h
theorem sh64_s {f : Int64 → Int32 → Int64} {S S' : List Value} (h : sh64 f S = some S') : ∃ x y r, S = .int y :: .long x :: r ∧ S' = .long (f x y) :: r := by
  unfold sh64 at h; split at h
  · cases h; exact ⟨_, _, _, rfl, rfl⟩
  · cases h
def len1 (i : Instr) : Nat := match i with | .bipush _ => 2 | .sipush _ => 3 | _ => 1
theorem stk_s (X : Stand p l e R s m args below meth c T locs cells slots) (hx : p.tables.exec = Jvm.exec) {i : Instr} {n pc : Nat} {L : Array Slot} {S S' : List Value} (hd : decode c.code pc = .ok (i, n)) (hn : n = len1 i) (h : stk i S = some S')
    (H : Steps p.tables e below (T.setTop (mkF m (pc + n) L S')) target) : Steps p.tables e below (T.setTop (mkF m pc L S)) target := by
  subst hn
  unfold stk at h
  split at h <;> first
    | (cases h; first | exact XS.iconst X.here hx rfl hd H | exact XS.bipush X.here hx rfl hd H | exact XS.sipush X.here hx rfl hd H | exact XS.lconst X.here hx rfl hd H | exact XS.aconstNull X.here hx rfl hd H)
    | (obtain ⟨x, y, r, rfl, rfl⟩ := bi32_s h; first | exact XS.iadd X.here hx rfl hd rfl H | exact XS.isub X.here hx rfl hd rfl H | exact XS.imul X.here hx rfl hd rfl H | exact XS.iand X.here hx rfl hd rfl H | exact XS.ior X.here hx rfl hd rfl H | exact XS.ixor X.here hx rfl hd rfl H | exact XS.ishl X.here hx rfl hd rfl H | exact XS.ishr X.here hx rfl hd rfl H | exact XS.iushr X.here hx rfl hd rfl H)
    | (obtain ⟨x, y, r, rfl, rfl⟩ := bi64_s h; first | exact XS.ladd X.here hx rfl hd rfl H | exact XS.lsub X.here hx rfl hd rfl H | exact XS.lmul X.here hx rfl hd rfl H | exact XS.land X.here hx rfl hd rfl H | exact XS.lor X.here hx rfl hd rfl H | exact XS.lxor X.here hx rfl hd rfl H | exact XS.lcmp X.here hx rfl hd rfl H)
    | (obtain ⟨x, y, r, rfl, rfl⟩ := sh64_s h; first | exact XS.lshl X.here hx rfl hd rfl H | exact XS.lshr X.here hx rfl hd rfl H | exact XS.lushr X.here hx rfl hd rfl H)
    | (obtain ⟨x, r, rfl, rfl⟩ := un32_s h; first | exact XS.ineg X.here hx rfl hd rfl H | exact XS.i2l X.here hx rfl hd rfl H | exact XS.i2b X.here hx rfl hd rfl H | exact XS.i2c X.here hx rfl hd rfl H | exact XS.i2s X.here hx rfl hd rfl H)
    | (obtain ⟨x, r, rfl, rfl⟩ := un64_s h; first | exact XS.lneg X.here hx rfl hd rfl H | exact XS.l2i X.here hx rfl hd rfl H)
    | (split at h <;> (try split at h) <;> first | (cases h; done) | (rename_i q; cases h; first | exact XS.dup X.here hx rfl hd rfl q H | exact XS.pop X.here hx rfl hd rfl q H | exact XS.dupX1 X.here hx rfl hd rfl q.1 q.2 H))
    | cases h
def ldI (L : Array Slot) (S : List Value) (k : Nat) : Option (Array Slot × List Value) := match L[k]? with | some (.val (.int v)) => some (L, .int v :: S) | _ => none
def ldJ (L : Array Slot) (S : List Value) (k : Nat) : Option (Array Slot × List Value) := match L[k]? with | some (.val (.long v)) => some (L, .long v :: S) | _ => none
def ldA (L : Array Slot) (S : List Value) (k : Nat) : Option (Array Slot × List Value) := match L[k]? with | some (.val v) => if v.isRef = true then some (L, v :: S) else none | _ => none
def stI1 (L : Array Slot) (S : List Value) (k : Nat) : Option (Array Slot × List Value) := match S with | .int x :: r => (storeLocals L k (.int x)).map fun l' => (l', r) | _ => none
def stJ1 (L : Array Slot) (S : List Value) (k : Nat) : Option (Array Slot × List Value) := match S with | .long x :: r => (storeLocals L k (.long x)).map fun l' => (l', r) | _ => none
def stA1 (L : Array Slot) (S : List Value) (k : Nat) : Option (Array Slot × List Value) := match S with | x :: r => if x.isRef = true then (storeLocals L k x).map fun l' => (l', r) else none | _ => none
/-- what an instruction does to pc, locals and stack; nothing else is touched -/
def run1 (i : Instr) (n pc : Nat) (L : Array Slot) (S : List Value) : Option (Nat × Array Slot × List Value) := match i with
  | .iload_n k => if n = 1 then (ldI L S k.val).map (pc + n, ·) else none
  | .iload k => if n = 2 then (ldI L S k).map (pc + n, ·) else none
  | .lload_n k => if n = 1 then (ldJ L S k.val).map (pc + n, ·) else none
  | .lload k => if n = 2 then (ldJ L S k).map (pc + n, ·) else none
  | .aload_n k => if n = 1 then (ldA L S k.val).map (pc + n, ·) else none
  | .aload k => if n = 2 then (ldA L S k).map (pc + n, ·) else none
  | .istore_n k => if n = 1 then (stI1 L S k.val).map (pc + n, ·) else none
  | .istore k => if n = 2 then (stI1 L S k).map (pc + n, ·) else none
  | .lstore_n k => if n = 1 then (stJ1 L S k.val).map (pc + n, ·) else none
  | .lstore k => if n = 2 then (stJ1 L S k).map (pc + n, ·) else none
  | .astore_n k => if n = 1 then (stA1 L S k.val).map (pc + n, ·) else none
  | .astore k => if n = 2 then (stA1 L S k).map (pc + n, ·) else none
  | .iinc k cst => if n = 3 then (match L[k]? with | some (.val (.int x)) => (storeLocals L k (.int (x + Int32.ofInt cst))).map fun l' => (pc + n, l', S) | _ => none) else none
  | .goto o => if n = 3 then (if 0 ≤ (pc : Int) + o then some (((pc : Int) + o).toNat, L, S) else none) else none
  | i => if n = len1 i then (stk i S).map fun S' => (pc + n, L, S') else none
theorem ldI_s {L L' : Array Slot} {S S' : List Value} {k : Nat} (h : ldI L S k = some (L', S')) : ∃ v, L[k]? = some (.val (.int v)) ∧ L' = L ∧ S' = .int v :: S := by
  unfold ldI at h; split at h
  · cases h; exact ⟨_, by assumption, rfl, rfl⟩
  · cases h
theorem ldJ_s {L L' : Array Slot} {S S' : List Value} {k : Nat} (h : ldJ L S k = some (L', S')) : ∃ v, L[k]? = some (.val (.long v)) ∧ L' = L ∧ S' = .long v :: S := by
  unfold ldJ at h; split at h
  · cases h; exact ⟨_, by assumption, rfl, rfl⟩
  · cases h
theorem ldA_s {L L' : Array Slot} {S S' : List Value} {k : Nat} (h : ldA L S k = some (L', S')) : ∃ v, L[k]? = some (.val v) ∧ v.isRef = true ∧ L' = L ∧ S' = v :: S := by
  unfold ldA at h; split at h
  · split at h
    · cases h; exact ⟨_, by assumption, by assumption, rfl, rfl⟩
    · cases h
  · cases h
theorem stI1_s {L L' : Array Slot} {S S' : List Value} {k : Nat} (h : stI1 L S k = some (L', S')) : ∃ x, S = .int x :: S' ∧ storeLocals L k (.int x) = some L' := by
  unfold stI1 at h; split at h
  · rw [Option.map_eq_some_iff] at h; obtain ⟨l', h1, h2⟩ := h; cases h2; exact ⟨_, rfl, h1⟩
  · cases h
theorem stJ1_s {L L' : Array Slot} {S S' : List Value} {k : Nat} (h : stJ1 L S k = some (L', S')) : ∃ x, S = .long x :: S' ∧ storeLocals L k (.long x) = some L' := by
  unfold stJ1 at h; split at h
  · rw [Option.map_eq_some_iff] at h; obtain ⟨l', h1, h2⟩ := h; cases h2; exact ⟨_, rfl, h1⟩
  · cases h
theorem stA1_s {L L' : Array Slot} {S S' : List Value} {k : Nat} (h : stA1 L S k = some (L', S')) : ∃ x, S = x :: S' ∧ x.isRef = true ∧ storeLocals L k x = some L' := by
  unfold stA1 at h; split at h
  · split at h
    · rw [Option.map_eq_some_iff] at h; obtain ⟨l', h1, h2⟩ := h; cases h2; exact ⟨_, rfl, by assumption, h1⟩
    · cases h
  · cases h
theorem map_s {α β : Type} {o : Option α} {f : α → β} {y : β} (h : o.map f = some y) : ∃ x, o = some x ∧ f x = y := Option.map_eq_some_iff.mp h
theorem run1_s (X : Stand p l e R s m args below meth c T locs cells slots) (hx : p.tables.exec = Jvm.exec) {i : Instr} {n pc pc' : Nat} {L L' : Array Slot} {S S' : List Value} (hd : decode c.code pc = .ok (i, n)) (h : run1 i n pc L S = some (pc', L', S'))
    (H : Steps p.tables e below (T.setTop (mkF m pc' L' S')) target) : Steps p.tables e below (T.setTop (mkF m pc L S)) target := by
  unfold run1 at h
  split at h <;> split at h <;> first
    | (cases h; done)
    | (rename_i hn; subst hn; obtain ⟨⟨L1, S1⟩, h1, h2⟩ := map_s h; cases h2; first
        | (obtain ⟨v, q1, rfl, rfl⟩ := ldI_s h1; first | exact XS.iloadN X.here hx rfl hd q1 H | exact XS.iload X.here hx rfl hd q1 H)
        | (obtain ⟨v, q1, rfl, rfl⟩ := ldJ_s h1; first | exact XS.lloadN X.here hx rfl hd q1 H | exact XS.lload X.here hx rfl hd q1 H)
        | (obtain ⟨v, q1, q2, rfl, rfl⟩ := ldA_s h1; first | exact XS.aloadN X.here hx rfl hd q1 q2 H | exact XS.aload X.here hx rfl hd q1 q2 H)
        | (obtain ⟨x, rfl, q⟩ := stI1_s h1; first | exact XS.istoreN X.here hx rfl hd rfl q H | exact XS.istore X.here hx rfl hd rfl q H)
        | (obtain ⟨x, rfl, q⟩ := stJ1_s h1; first | exact XS.lstoreN X.here hx rfl hd rfl q H | exact XS.lstore X.here hx rfl hd rfl q H)
        | (obtain ⟨x, rfl, q1, q⟩ := stA1_s h1; first | exact XS.astoreN X.here hx rfl hd rfl q1 q H | exact XS.astore X.here hx rfl hd rfl q1 q H))
    | (rename_i hn; subst hn; split at h <;> first
        | (cases h; done)
        | (rename_i q; obtain ⟨l', h1, h2⟩ := map_s h; cases h2; exact XS.iinc X.here hx rfl hd q h1 H)
        | (rename_i q; cases h; exact XS.goto X.here hx rfl (pc0 := pc) rfl hd q rfl H))
    | (rename_i hn; obtain ⟨S1, h1, h2⟩ := map_s h; cases h2; exact stk_s X hx hd hn h1 H)
def runs : List (Nat × Instr × Nat) → Nat → Array Slot → List Value → Option (Nat × Array Slot × List Value)
  | [], pc, L, S => some (pc, L, S)
  | (q, i, n) :: is, pc, L, S => if q = pc then (match run1 i n pc L S with | some (pc', L', S') => runs is pc' L' S' | none => none) else none
def decs (code : ByteArray) : List (Nat × Instr × Nat) → Prop
  | [] => True
  | (q, i, n) :: is => decode code q = .ok (i, n) ∧ decs code is
theorem runs_s (X : Stand p l e R s m args below meth c T locs cells slots) (hx : p.tables.exec = Jvm.exec) {pc' : Nat} {L' : Array Slot} {S' : List Value} (H : Steps p.tables e below (T.setTop (mkF m pc' L' S')) target) :
    ∀ (is : List (Nat × Instr × Nat)) (pc : Nat) (L : Array Slot) (S : List Value), decs c.code is → runs is pc L S = some (pc', L', S') → Steps p.tables e below (T.setTop (mkF m pc L S)) target
  | [], pc, L, S, _, h => by cases h; exact H
  | (q, i, n) :: is, pc, L, S, hd, h => by
    unfold runs at h
    split at h
    · rename_i e1; subst e1
      split at h
      · rename_i pc1 L1 S1 h1
        exact run1_s X hx hd.1 h1 (runs_s X hx H is pc1 L1 S1 hd.2 h)
      · cases h
    · cases h
variable {Q : Option Value → Heap → List Loc → Prop} {k n : Nat}
theorem Home.run (X : Stand p l e R s m args below meth c T locs cells slots) (hx : p.tables.exec = Jvm.exec) {bytes : ByteArray} (hby : c.code = bytes) {is : List (Nat × Instr × Nat)} (hd : decs bytes is) {pc pc' : Nat} {L L' : Array Slot} {S S' : List Value} (h : runs is pc L S = some (pc', L', S'))
    (H : @Home p e below s Q k n T (mkF m pc' L' S')) : @Home p e below s Q k n T (mkF m pc L S) :=
  Home.go (fun _ kt => runs_s X hx kt is pc L S (by rw [hby]; exact hd) h) H
end Run
section Calls
variable {p : Program} {l : Launch} {e : Env} {R : Room} {s : State} {m : MethodId} {args : Array Value} {below : List Frame} {meth : Method} {c : Code} {T : State} {locs : List Loc} {cells slots : Nat} {Z : State} {a0 : Array Value} {h : Heap} {y z : MethodName} {bytes : ByteArray} {maxL : Nat} {ret : Option FieldType} {rm : Room} {W : Nat} {as' : Array Value} {Q : Option Value → Heap → List Loc → Prop} {own C : String} {index : Nat}
/-- a body's contract, at one heap and one list of arguments -/
abbrev Con (l : Launch) (Z : State) (y : MethodName) (bytes : ByteArray) (maxL : Nat) (ret : Option FieldType) (ws : List Jvm.Cond) (rm : Room) (as' : Array Value) (h : Heap) (Q : Option Value → Heap → List Loc → Prop) : Prop :=
  MetFree l y (head1 (Jvm.Cond.code y bytes maxL ret :: ws) rm) (fun a U => a = as' ∧ Z.Warmed39 U.vm ∧ U.heap = h) (fun _ _ _ _ _ => True) (fun _ U o U' => ∃ v L, o = .returned v ∧ Q v U'.heap L ∧ FrameEnd U o U' L rm.cells rm.slots)
/-- it leaves the heap as it was -/
abbrev Pur (w : Option Value) (h0 : Heap) : Option Value → Heap → List Loc → Prop := fun v h L => v = w ∧ L = [] ∧ h = h0
/-- from a walk that comes home to the contract -/
theorem own_body {ws : List Jvm.Cond} {L0 : Array Slot} (pn : plainFor y = true) (ef : ∀ m, entryFrame m as' maxL = mkF m 0 L0 [])
    (body : ∀ (p : Program) (e : Env) (s : State) (m : MethodId) (below : List Frame) (meth : Method) (c : Code) (s₁ : State), p.tables.exec = Jvm.exec → c.code = bytes → meth.locks = false → c.maxLocals = maxL → meth.sig.returnType = ret → Z.Warmed39 s.vm → s.vm.findClass y.cls = some m.cls → meth.name = y.name →
      Stand p l e rm s m as' below meth c s₁ [] 0 0 → s₁.heap = h → @Home p e below s Q rm.cells rm.slots s₁ (mkF m 0 L0 [])) : Con l Z y bytes maxL ret ws rm as' h Q := by
  refine MetFree.of_bodySF pn hisR ?_
  intro p e s m args below meth c s₁ Bd hml0 hP hK
  obtain ⟨rfl, hZ, hh⟩ := hP
  refine Home.enter (Q := Q) (k := rm.cells) (n := rm.slots) (ef m) ?_
  exact body p e s m below meth c s₁ Bd.exec Bd.bytes (BodyLoose.notSynchronized Bd) hml0 Bd.returns hZ (findClass_of_methodNamed Bd.named) (name_of_methodNamed Bd.named Bd.method).1 (Stand.of_body Bd) (by rw [← hh, Bd.state]; rfl)
theorem own_static (X : Stand p l e R s m args below meth c T locs cells slots) (hx : p.tables.exec = Jvm.exec) (hZ : Z.Warmed39 s.vm) (hown : s.vm.findClass own = some m.cls)
    (w1 : (Cond.methodLink own index y).before a0 Z = true) (w2 : (Cond.static y).before a0 Z = true) (w3 : (Cond.initialized y.cls).before a0 Z = true) (w4 : (Cond.code y bytes maxL ret).before a0 Z = true)
    (hy : y.cls ≠ "java/lang/invoke/MethodHandle" ∧ y.cls ≠ "java/lang/invoke/VarHandle") (hM : Con l Z y bytes maxL ret [] rm as' h Q) (eT : T.heap = h)
    {g : JFrame} (hg : g.method = m) (hsize : g.locals.size = c.maxLocals) {argsL rest : List Value} (hlen : ∀ sig, parseMethodDescriptor y.desc = some sig → argsL.length = sig.parameters.length) (hstack : g.stack = argsL.reverse ++ rest) (ha : argsL.toArray = as')
    (hW : 2 * g.monitorRoom + (rest.map fun v => v.category).sum ≤ W) (hf : rm.frames + 1 ≤ R.frames) (hl : W + (maxL + 11) + rm.locals ≤ R.locals)
    (hdg : decode c.code g.pc = .ok (.invokestatic index, 3)) (hc : cells + rm.cells ≤ R.cells) (hs : slots + rm.slots ≤ R.slots) :
    ∃ v T' L, Stand p l e R s m args below meth c T' (locs ++ L) (cells + rm.cells) (slots + rm.slots) ∧ Q v T'.heap L ∧
      ∀ t, Steps p.tables e below (T'.setTop { g with pc := g.pc + 3, stack := v.toList ++ rest }) t → Steps p.tables e below (T.setTop g) t := by
  obtain ⟨v, _, ⟨T', L', k', n'⟩, -, X', ⟨L, hQ, l', y', z'⟩, st⟩ := Jvm.LawKit.callS X hx (y := y) hown (mvT hZ w1) (mvT hZ w2) (mvT hZ w3) (mvT hZ w4) hy (backOf (W := W) hM hZ w4 w3 hf hl) hg hsize hlen hstack hW hdg (fun _ _ => ⟨ha, eT, hc, hs⟩)
  dsimp only [Pt.U, Pt.locs, Pt.cells, Pt.slots] at X' l' y' z' st hQ
  subst l' y' z'
  exact ⟨v, T', L, X', hQ, st⟩
theorem own_special (X : Stand p l e R s m args below meth c T locs cells slots) (hx : p.tables.exec = Jvm.exec) (hZ : Z.Warmed39 s.vm) (hown : s.vm.findClass own = some m.cls) (hy1 : y.name = "<init>")
    (w1 : (Cond.methodLink own index y).before a0 Z = true) (w2 : (Cond.instanceMethod y).before a0 Z = true) (w3 : (Cond.initialized y.cls).before a0 Z = true) (w4 : (Cond.code y bytes maxL none).before a0 Z = true)
    (hy : y.cls ≠ "java/lang/invoke/MethodHandle" ∧ y.cls ≠ "java/lang/invoke/VarHandle") (hM : Con l Z y bytes maxL none [] rm as' h Q) (eT : T.heap = h)
    {g : JFrame} (hg : g.method = m) (hsize : g.locals.size = c.maxLocals) {a : Addr} {argsL rest : List Value} (hlen : ∀ sig, parseMethodDescriptor y.desc = some sig → argsL.length = sig.parameters.length) (hstack : g.stack = argsL.reverse ++ .ref a :: rest) (ha : (.ref a :: argsL).toArray = as')
    (hW : 2 * g.monitorRoom + (rest.map fun v => v.category).sum ≤ W) (hf : rm.frames + 1 ≤ R.frames) (hl : W + (maxL + 11) + rm.locals ≤ R.locals)
    (hdg : decode c.code g.pc = .ok (.invokespecial index, 3)) (hc : cells + rm.cells ≤ R.cells) (hs : slots + rm.slots ≤ R.slots) :
    ∃ v T' L, Stand p l e R s m args below meth c T' (locs ++ L) (cells + rm.cells) (slots + rm.slots) ∧ Q v T'.heap L ∧
      ∀ t, Steps p.tables e below (T'.setTop { g with pc := g.pc + 3, stack := v.toList ++ rest }) t → Steps p.tables e below (T.setTop g) t := by
  obtain ⟨v, _, ⟨T', L', k', n'⟩, -, X', ⟨L, hQ, l', y', z'⟩, st⟩ := X.specialBack hx (y := y) hy1 hown (mvT hZ w1) (mvT hZ w2) (mvT hZ w4) hy (backOf (W := W) hM hZ w4 w3 hf hl) hg hsize (Steps.refl _) (a := a) hlen hstack hW hdg (fun _ _ => ⟨ha, eT, hc, hs⟩)
  dsimp only [Pt.U, Pt.locs, Pt.cells, Pt.slots] at X' l' y' z' st hQ
  subst l' y' z'
  exact ⟨v, T', L, X', hQ, fun t k => st.trans k⟩
theorem own_virtual (X : Stand p l e R s m args below meth c T locs cells slots) (hx : p.tables.exec = Jvm.exec) (hZ : Z.Warmed39 s.vm) (hown : s.vm.findClass own = some m.cls)
    (w1 : (Cond.methodLink own index y).before a0 Z = true) (w2 : (Cond.declares y).before a0 Z = true) (hnf : NotFace s y) (w3 : (Cond.selects C y z).before a0 Z = true) (w4 : (Cond.instanceMethod z).before a0 Z = true) (w5 : (Cond.initialized z.cls).before a0 Z = true) (w6 : (Cond.code z bytes maxL ret).before a0 Z = true)
    (hy : y.cls ≠ "java/lang/invoke/MethodHandle" ∧ y.cls ≠ "java/lang/invoke/VarHandle") (hM : Con l Z z bytes maxL ret [] rm as' h Q) (eT : T.heap = h) {a : Addr} (E : Exa Z h a C)
    {g : JFrame} (hg : g.method = m) (hsize : g.locals.size = c.maxLocals) {argsL rest : List Value} (hlen : ∀ sig, parseMethodDescriptor y.desc = some sig → argsL.length = sig.parameters.length) (hstack : g.stack = argsL.reverse ++ .ref a :: rest) (ha : (.ref a :: argsL).toArray = as')
    (hW : 2 * g.monitorRoom + (rest.map fun v => v.category).sum ≤ W) (hf : rm.frames + 1 ≤ R.frames) (hl : W + (maxL + 11) + rm.locals ≤ R.locals)
    (hdg : decode c.code g.pc = .ok (.invokevirtual index, 3)) (hc : cells + rm.cells ≤ R.cells) (hs : slots + rm.slots ≤ R.slots) :
    ∃ v T' L, Stand p l e R s m args below meth c T' (locs ++ L) (cells + rm.cells) (slots + rm.slots) ∧ Q v T'.heap L ∧
      ∀ t, Steps p.tables e below (T'.setTop { g with pc := g.pc + 3, stack := v.toList ++ rest }) t → Steps p.tables e below (T.setTop g) t := by
  obtain ⟨cB, kB, q1, q2, q3⟩ := isOf hZ eT E
  obtain ⟨v, _, ⟨T', L', k', n'⟩, -, X', ⟨L, hQ, l', y', z'⟩, st⟩ := X.virtualBack hx (y := y) (z := z) hown (mvT hZ w1) (mvT hZ w2) hnf (mvT hZ w3) (mvT hZ w4) hy (backOf (W := W) hM hZ w6 w5 hf hl) q1 q3 hg hsize (Steps.refl _) hlen hstack hW hdg (fun _ _ => ⟨ha, eT, hc, hs⟩)
  dsimp only [Pt.U, Pt.locs, Pt.cells, Pt.slots] at X' l' y' z' st hQ
  subst l' y' z'
  exact ⟨v, T', L, X', hQ, fun t k => st.trans k⟩
theorem own_face (X : Stand p l e R s m args below meth c T locs cells slots) (hx : p.tables.exec = Jvm.exec) (hZ : Z.Warmed39 s.vm) (hown : s.vm.findClass own = some m.cls) {count : Nat}
    (w1 : (Cond.methodLink own index y).before a0 Z = true) (w2 : (Cond.declares y).before a0 Z = true) (w3 : (Cond.interfaceMethod y.cls y.cls y.name y.desc).before args s = true) (w4 : (Cond.selects C y z).before a0 Z = true) (w5 : (Cond.instanceMethod z).before a0 Z = true)
    (w6 : (Cond.publicMethod z).before a0 Z = true) (w7 : (Cond.unhidden C y.name y.desc).before a0 Z = true) (w8 : (Cond.castable C y.cls).before a0 Z = true) (w9 : (Cond.initialized z.cls).before a0 Z = true) (w10 : (Cond.code z bytes maxL ret).before a0 Z = true)
    (hy : y.cls ≠ "java/lang/invoke/MethodHandle" ∧ y.cls ≠ "java/lang/invoke/VarHandle") (hM : Con l Z z bytes maxL ret [] rm as' h Q) (eT : T.heap = h) {a : Addr} (E : Exa Z h a C)
    {g : JFrame} (hg : g.method = m) (hsize : g.locals.size = c.maxLocals) {argsL rest : List Value} (hlen : ∀ sig, parseMethodDescriptor y.desc = some sig → argsL.length = sig.parameters.length) (hstack : g.stack = argsL.reverse ++ .ref a :: rest) (ha : (.ref a :: argsL).toArray = as')
    (hW : 2 * g.monitorRoom + (rest.map fun v => v.category).sum ≤ W) (hf : rm.frames + 1 ≤ R.frames) (hl : W + (maxL + 11) + rm.locals ≤ R.locals)
    (hdg : decode c.code g.pc = .ok (.invokeinterface index count, 5)) (hc : cells + rm.cells ≤ R.cells) (hs : slots + rm.slots ≤ R.slots) :
    ∃ v T' L, Stand p l e R s m args below meth c T' (locs ++ L) (cells + rm.cells) (slots + rm.slots) ∧ Q v T'.heap L ∧
      ∀ t, Steps p.tables e below (T'.setTop { g with pc := g.pc + 5, stack := v.toList ++ rest }) t → Steps p.tables e below (T.setTop g) t := by
  obtain ⟨cB, kB, q1, q2, q3⟩ := isOf hZ eT E
  obtain ⟨v, _, ⟨T', L', k', n'⟩, -, X', ⟨L, hQ, l', y', z'⟩, st⟩ := X.interfaceBack hx (xi := y) (y := z) hown (mvT hZ w1) (mvT hZ w2) w3 (mvT hZ w4) (mvT hZ w5) (mvT hZ w6) (mvT hZ w7) (mvT hZ w8) hy (backOf (W := W) hM hZ w10 w9 hf hl) q1 q2 q3 hg hsize (Steps.refl _) hlen hstack hW hdg (fun _ _ => ⟨ha, eT, hc, hs⟩)
  dsimp only [Pt.U, Pt.locs, Pt.cells, Pt.slots] at X' l' y' z' st hQ
  subst l' y' z'
  exact ⟨v, T', L, X', hQ, fun t k => st.trans k⟩
theorem own_private (X : Stand p l e R s m args below meth c T locs cells slots) (hx : p.tables.exec = Jvm.exec) (hZ : Z.Warmed39 s.vm) (hown : s.vm.findClass own = some m.cls)
    (w1 : (Cond.methodLink own index y).before a0 Z = true) (w2 : (Cond.instanceMethod y).before a0 Z = true) (w3 : (Cond.selects y.cls y y).before a0 Z = true) (hp : s.PrivateAt y) (w5 : (Cond.initialized y.cls).before a0 Z = true) (w6 : (Cond.code y bytes maxL ret).before a0 Z = true)
    (hy : y.cls ≠ "java/lang/invoke/MethodHandle" ∧ y.cls ≠ "java/lang/invoke/VarHandle") (hM : Con l Z y bytes maxL ret [] rm as' h Q) (eT : T.heap = h) {a : Addr} (E : Exa Z h a C)
    {g : JFrame} (hg : g.method = m) (hsize : g.locals.size = c.maxLocals) {argsL rest : List Value} (hlen : ∀ sig, parseMethodDescriptor y.desc = some sig → argsL.length = sig.parameters.length) (hstack : g.stack = argsL.reverse ++ .ref a :: rest) (ha : (.ref a :: argsL).toArray = as')
    (hW : 2 * g.monitorRoom + (rest.map fun v => v.category).sum ≤ W) (hf : rm.frames + 1 ≤ R.frames) (hl : W + (maxL + 11) + rm.locals ≤ R.locals)
    (hdg : decode c.code g.pc = .ok (.invokevirtual index, 3)) (hc : cells + rm.cells ≤ R.cells) (hs : slots + rm.slots ≤ R.slots) :
    ∃ v T' L, Stand p l e R s m args below meth c T' (locs ++ L) (cells + rm.cells) (slots + rm.slots) ∧ Q v T'.heap L ∧
      ∀ t, Steps p.tables e below (T'.setTop { g with pc := g.pc + 3, stack := v.toList ++ rest }) t → Steps p.tables e below (T.setTop g) t := by
  obtain ⟨cq, q1, q2⟩ := E.cell
  obtain ⟨v, _, ⟨T', L', k', n'⟩, -, X', ⟨L, hQ, l', y', z'⟩, st⟩ := X.privateBack hx (y := y) hown (mvT hZ w1) (mvT hZ w2) (mvT hZ w3) hp (mvT hZ w6) hy (backOf (W := W) hM hZ w6 w5 hf hl) hg hsize (Steps.refl _) (a := a) (by rw [eT]; exact q1) q2 hlen hstack hW hdg (fun _ _ => ⟨ha, eT, hc, hs⟩)
  dsimp only [Pt.U, Pt.locs, Pt.cells, Pt.slots] at X' l' y' z' st hQ
  subst l' y' z'
  exact ⟨v, T', L, X', hQ, fun t k => st.trans k⟩
/-- a call that left the heap as it was -/
theorem own_pure {w : Option Value} {g : JFrame} {g' : Option Value → JFrame} (q : ∃ v T' L, Stand p l e R s m args below meth c T' (locs ++ L) (cells + rm.cells) (slots + rm.slots) ∧ Pur w h v T'.heap L ∧ ∀ t, Steps p.tables e below (T'.setTop (g' v)) t → Steps p.tables e below (T.setTop g) t)
    (hc : rm.cells = 0 := by rfl) (hs : rm.slots = 0 := by rfl) : ∃ T', Stand p l e R s m args below meth c T' locs cells slots ∧ T'.heap = h ∧ ∀ t, Steps p.tables e below (T'.setTop (g' w)) t → Steps p.tables e below (T.setTop g) t := by
  obtain ⟨v, T', L, X', ⟨rfl, rfl, hh⟩, st⟩ := q
  rw [List.append_nil, hc, hs] at X'
  exact ⟨T', X', hh, st⟩
end Calls
section Facts
variable {Z : State} {h h' : Heap} {a b : Addr} {C n d : String} {v : Value} {n0 : Nat}
theorem Old.le (O : Old Z n0 h) : n0 ≤ h.size := O.1 ▸ O.2.1
end Facts
end Jvm.OwnKit
namespace Jvm.OwnKit
open Jvm Jvm.ClassFile Sem Op Lib Jvm.Free Jvm.Stand Jvm.LawKit Jvm.RoadKit
section Arrays
variable {p : Program} {l : Launch} {e : Env} {R : Room} {s : State} {m : MethodId} {args : Array Value} {below : List Frame} {meth : Method} {c : Code} {T : State} {locs : List Loc} {cells slots : Nat} {Z : State} {h : Heap}
theorem own_alen (X : Stand p l e R s m args below meth c T locs cells slots) (hx : p.tables.exec = Jvm.exec) (hZ : Z.Warmed39 s.vm) (eT : T.heap = h) {a : Addr} {cl : Cell} {ty : FieldType} {z : Int32} (A : Arr Z h a cl ty) (S : cl.slots.size = z.toNatClampNeg) (M : ¬ z < 0)
    {g : JFrame} (hg : g.method = m) {rest : List Value} (hs : g.stack = .ref a :: rest) (hd : decode c.code g.pc = .ok (.arraylength, 1)) :
    ∀ t, Steps p.tables e below (T.setTop { g with pc := g.pc + 1, stack := .int z :: rest }) t → Steps p.tables e below (T.setTop g) t := fun t k =>
  X.arraylength hx (by rw [eT]; exact A.1) (State.isArrayOf_alike hZ.alike A.2.1) hg hs hd _ (by rw [len_of S M]; exact k)
end Arrays
end Jvm.OwnKit
namespace Jvm.OwnKit
open Jvm Jvm.ClassFile Sem Op Lib Jvm.Free Jvm.Stand Jvm.LawKit Jvm.RoadKit
theorem Ins.keep {Z : State} {h h' : Heap} {a : Addr} {C : String} {b : Bool} {ws : List Addr} (F : Ins Z h a C b) (K : Keep h h' ws) : Ins Z h' a C b := by
  obtain ⟨cell, cT, h1, h2, h3⟩ := F
  obtain ⟨c', e1, e2, e3, -⟩ := K.2.2 _ _ h1
  exact ⟨c', cT, e1, h2, by rw [e2, e3]; exact h3⟩
theorem cat1_of {v : Value} (h : v.isRef = true) : v.category = 1 := by
  rcases ref_cases h with rfl | ⟨a, rfl⟩ <;> rfl
theorem fits_refv {t : FieldType} {v : Value} (h : v.isRef = true) (ht : t.isReference = true) : fits t v = true := by
  rcases ref_cases h with rfl | ⟨a, rfl⟩ <;> cases t <;> first | rfl | cases ht
section Bounds
variable {x y a b c d : Int32}
theorem bnd_and (x m : Int32) (h : 0 ≤ m.toInt) : ¬ (x &&& m) < (0 : Int32) ∧ ¬ m < (x &&& m) := by
  have q := c_and x m h
  have e : (0 : Int32).toInt = 0 := rfl
  rw [Int32.lt_iff_toInt_lt, Int32.lt_iff_toInt_lt, e]; omega
theorem bnd_and' (x m : Int32) (h : 0 ≤ m.toInt) : ¬ (m &&& x) < (0 : Int32) ∧ ¬ m < (m &&& x) := by
  have q := c_and' m x h
  have e : (0 : Int32).toInt = 0 := rfl
  rw [Int32.lt_iff_toInt_lt, Int32.lt_iff_toInt_lt, e]; omega
theorem bnd_mono (h : ¬ x < a ∧ ¬ b < x) (h1 : c.toInt ≤ a.toInt) (h2 : b.toInt ≤ d.toInt) : ¬ x < c ∧ ¬ d < x := by
  simp only [Int32.lt_iff_toInt_lt] at *; omega
theorem bnd_lt (h : ¬ x < a ∧ ¬ b < x) (k : ¬ y < c ∧ ¬ d < y) (q : b.toInt < c.toInt) : x < y := by
  simp only [Int32.lt_iff_toInt_lt] at *; omega
theorem bnd_nlt (h : ¬ x < a ∧ ¬ b < x) (k : ¬ y < c ∧ ¬ d < y) (q : d.toInt ≤ a.toInt) : ¬ x < y := by
  simp only [Int32.lt_iff_toInt_lt] at *; omega
theorem bnd_ne (h : ¬ x < a ∧ ¬ b < x) (k : ¬ y < c ∧ ¬ d < y) (q : b.toInt < c.toInt ∨ d.toInt < a.toInt) : ¬ x = y := by
  intro e; subst e
  simp only [Int32.lt_iff_toInt_lt] at *; omega
theorem bnd_rem (h : ¬ x < a ∧ ¬ b < x) (h1 : 0 ≤ a.toInt) (h2 : 0 < y.toInt) : ¬ (x % y) < (0 : Int32) ∧ ¬ (y - 1) < (x % y) := by
  have q := (c_iremV x y).1
  have e : (0 : Int32).toInt = 0 := rfl
  have e1 := c_isub y 1
  have e2 : (1 : Int32).toInt = 1 := rfl
  have r := rng32 y
  have r2 := rng32 (y - 1)
  simp only [Int32.lt_iff_toInt_lt, e] at *
  have h0 : 0 ≤ x.toInt := by omega
  have q := q h0 h2
  omega
theorem bnd_add {lo hi : Int32} (h : ¬ x < a ∧ ¬ b < x) (k : ¬ y < c ∧ ¬ d < y) (q1 : lo.toInt = a.toInt + c.toInt) (q2 : hi.toInt = b.toInt + d.toInt) (q3 : -2147483648 ≤ a.toInt + c.toInt) (q4 : b.toInt + d.toInt < 2147483648) : ¬ (x + y) < lo ∧ ¬ hi < (x + y) := by
  have e := c_iadd x y
  have r := rng32 (x + y)
  simp only [Int32.lt_iff_toInt_lt] at *
  omega
theorem bnd_sub {lo hi : Int32} (h : ¬ x < a ∧ ¬ b < x) (k : ¬ y < c ∧ ¬ d < y) (q1 : lo.toInt = a.toInt - d.toInt) (q2 : hi.toInt = b.toInt - c.toInt) (q3 : -2147483648 ≤ a.toInt - d.toInt) (q4 : b.toInt - c.toInt < 2147483648) : ¬ (x - y) < lo ∧ ¬ hi < (x - y) := by
  have e := c_isub x y
  have r := rng32 (x - y)
  simp only [Int32.lt_iff_toInt_lt] at *
  omega
theorem bnd_ushr (x : Int32) {q hi : Int32} {k : Nat} (hk : q.toBitVec.toNat % 32 = k ∧ 0 < k) (hh : hi.toInt = 4294967296 / (2 ^ k : Nat) - 1) : ¬ ((x.toUInt32 >>> (q &&& 31).toUInt32).toInt32) < (0 : Int32) ∧ ¬ hi < ((x.toUInt32 >>> (q &&& 31).toUInt32).toInt32) := by
  have e := c_iushr x q k hk.1 hk.2
  have e0 : (0 : Int32).toInt = 0 := rfl
  simp only [Int32.lt_iff_toInt_lt, e, hh, e0]
  have p : (0 : Int) < (2 ^ k : Nat) := by exact_mod_cast Nat.two_pow_pos k
  have m0 := Int.emod_nonneg x.toInt (show (4294967296 : Int) ≠ 0 by decide)
  have m1 := Int.emod_lt_of_pos x.toInt (show (0 : Int) < 4294967296 by decide)
  have d0 := Int.ediv_nonneg m0 (Int.le_of_lt p)
  have hk32 : k < 32 := by rw [← hk.1]; exact Nat.mod_lt _ (by decide)
  have dd : (4294967296 : Int) = (2 ^ (32 - k) : Nat) * (2 ^ k : Nat) := by
    rw [← Int.natCast_mul, ← Nat.pow_add, Nat.sub_add_cancel (Nat.le_of_lt hk32)]; rfl
  have d1 : x.toInt % 4294967296 / (2 ^ k : Nat) < (2 ^ (32 - k) : Nat) := by
    apply Int.ediv_lt_of_lt_mul p; rw [← dd]; exact m1
  have d2 : (4294967296 : Int) / (2 ^ k : Nat) = (2 ^ (32 - k) : Nat) := by
    rw [dd]; exact Int.mul_ediv_cancel _ (by omega)
  omega
theorem bnd_i2c (x : Int32) : ¬ (x.toUInt32.toUInt16.toUInt32.toInt32) < (0 : Int32) ∧ ¬ (65535 : Int32) < (x.toUInt32.toUInt16.toUInt32.toInt32) := by
  have q := c_i2c x
  have e : (0 : Int32).toInt = 0 := rfl
  have e1 : (65535 : Int32).toInt = 65535 := rfl
  simp only [Int32.lt_iff_toInt_lt, e, e1]; omega
theorem bnd_i2b (x : Int32) : ¬ (x.toInt8.toInt32) < (-128 : Int32) ∧ ¬ (127 : Int32) < (x.toInt8.toInt32) := by
  have q := c_i2b x
  have e : (-128 : Int32).toInt = -128 := rfl
  have e1 : (127 : Int32).toInt = 127 := rfl
  simp only [Int32.lt_iff_toInt_lt, e, e1]; omega
theorem i2c_id (h : ¬ x < a ∧ ¬ b < x) (h1 : 0 ≤ a.toInt) (h2 : b.toInt ≤ 65535) : x.toUInt32.toUInt16.toUInt32.toInt32 = x := by
  have q := c_i2c x
  simp only [Int32.lt_iff_toInt_lt] at h
  apply Int32.toInt_inj.mp; omega
theorem i2b_id (h : ¬ x < a ∧ ¬ b < x) (h1 : -128 ≤ a.toInt) (h2 : b.toInt ≤ 127) : x.toInt8.toInt32 = x := by
  have q := c_i2b x
  simp only [Int32.lt_iff_toInt_lt] at h
  apply Int32.toInt_inj.mp; omega
theorem bnd_lit (k : Int32) : ¬ k < k ∧ ¬ k < k := by
  simp only [Int32.lt_iff_toInt_lt]; omega
theorem bnd_all (x : Int32) : ¬ x < (-2147483648 : Int32) ∧ ¬ (2147483647 : Int32) < x := by
  have r := rng32 x
  have e1 : (-2147483648 : Int32).toInt = -2147483648 := rfl
  have e2 : (2147483647 : Int32).toInt = 2147483647 := rfl
  simp only [Int32.lt_iff_toInt_lt, e1, e2]; omega
theorem bnd_up (h : c < x) (q : d.toInt = c.toInt + 1) : ¬ x < d := by
  simp only [Int32.lt_iff_toInt_lt] at *; omega
theorem bnd_dn (h : x < c) (q : d.toInt = c.toInt - 1) : ¬ d < x := by
  simp only [Int32.lt_iff_toInt_lt] at *; omega
theorem bnd_eql (h : x = c) : ¬ x < c := by
  subst h; simp only [Int32.lt_iff_toInt_lt]; omega
theorem bnd_eqr (h : x = c) : ¬ c < x := by
  subst h; simp only [Int32.lt_iff_toInt_lt]; omega
theorem bnd_nel (h : ¬ x < c) (k : ¬ x = c) (q : d.toInt = c.toInt + 1) : ¬ x < d := by
  rw [← Int32.toInt_inj] at k; simp only [Int32.lt_iff_toInt_lt] at *; omega
theorem bnd_ner (h : ¬ c < x) (k : ¬ x = c) (q : d.toInt = c.toInt - 1) : ¬ d < x := by
  rw [← Int32.toInt_inj] at k; simp only [Int32.lt_iff_toInt_lt] at *; omega
theorem bnd_fix (h : ¬ x < c ∧ ¬ c < x) : x = c := by
  rw [← Int32.toInt_inj]; simp only [Int32.lt_iff_toInt_lt] at *; omega
theorem nar_char_id (h : ¬ x < a ∧ ¬ b < x) (h1 : 0 ≤ a.toInt) (h2 : b.toInt ≤ 65535) : nar .char x = x := i2c_id h h1 h2
theorem nar_byte_id (h : ¬ x < a ∧ ¬ b < x) (h1 : -128 ≤ a.toInt) (h2 : b.toInt ≤ 127) : nar .byte x = x := i2b_id h h1 h2
theorem nar_i2c (x : Int32) : nar .char (x.toUInt32.toUInt16.toUInt32.toInt32) = x.toUInt32.toUInt16.toUInt32.toInt32 := nar_char_id (bnd_i2c x) (by decide) (by decide)
theorem nar_i2b (x : Int32) : nar .byte (x.toInt8.toInt32) = x.toInt8.toInt32 := nar_byte_id (bnd_i2b x) (by decide) (by decide)
theorem nar_bool_id (h : ¬ x < a ∧ ¬ b < x) (h1 : 0 ≤ a.toInt) (h2 : b.toInt ≤ 1) : nar .boolean x = x := by
  simp only [Int32.lt_iff_toInt_lt] at h
  have hx : x.toInt = 0 ∨ x.toInt = 1 := by omega
  rcases hx with q | q
  · have : x = 0 := Int32.toInt_inj.mp q
    subst this; rfl
  · have : x = 1 := Int32.toInt_inj.mp q
    subst this; rfl
end Bounds
theorem Wr.to {h h' : Heap} {a : Addr} {sl : Nat} {v w : Value} (W : Wr h h' a sl v) (q : v = w) : Wr h h' a sl w := q ▸ W
theorem fits_char_b {x a b : Int32} (h : ¬ x < a ∧ ¬ b < x) (h1 : 0 ≤ a.toInt) (h2 : b.toInt ≤ 65535) : fits .char (.int x) = true := by
  have q := fits_nar_char x
  rw [nar_char_id h h1 h2] at q; exact q
theorem fits_byte_b {x a b : Int32} (h : ¬ x < a ∧ ¬ b < x) (h1 : -128 ≤ a.toInt) (h2 : b.toInt ≤ 127) : fits .byte (.int x) = true := by
  have q := fits_nar_byte x
  rw [i2b_id h h1 h2] at q; exact q
/-- null, or an object of exactly that class -/
def Nul (Z : State) (h : Heap) (x : Value) (C : String) : Prop := x = .null ∨ ∃ a, x = .ref a ∧ Exa Z h a C
section Nulls
variable {Z : State} {h h' : Heap} {x : Value} {C : String}
theorem Nul.null (Z : State) (h : Heap) (C : String) : Nul Z h .null C := Or.inl rfl
theorem Nul.of {a : Addr} (E : Exa Z h a C) : Nul Z h (.ref a) C := Or.inr ⟨a, rfl, E⟩
theorem Nul.ext (N : Nul Z h x C) (E : Ext h h') : Nul Z h' x C := N.imp id fun ⟨a, e, F⟩ => ⟨a, e, F.ext E⟩
theorem Nul.wr {a : Addr} {sl : Nat} {v : Value} (N : Nul Z h x C) (W : Wr h h' a sl v) : Nul Z h' x C := N.imp id fun ⟨a, e, F⟩ => ⟨a, e, F.wr W⟩
theorem Nul.keep {ws : List Addr} (N : Nul Z h x C) (K : Keep h h' ws) : Nul Z h' x C := N.imp id fun ⟨a, e, F⟩ => ⟨a, e, F.keep K⟩
theorem Nul.isRef (N : Nul Z h x C) : x.isRef = true := by rcases N with rfl | ⟨a, rfl, -⟩ <;> rfl
theorem Sto.ofN {a : Addr} {c : Cell} {ty : FieldType} {k : ClassId} {K : String} (A : Arr Z h a c ty) (q : c.cls = k) (O : Ovr Z k K) (N : Nul Z h x C) (f : ∀ {y : Addr}, Exa Z h y C → Ins Z h y K true) : Sto Z h a x := by
  rcases N with rfl | ⟨y, rfl, E⟩
  · exact Or.inl rfl
  · exact Sto.ofV A q O (f E)
end Nulls
section NotSub
variable {Z : State} {a0 : Array Value} {C S O K : String} {nn : Nat}
theorem own_ns_root (w : (Jvm.Cond.noSuperclass O).before a0 Z = true) (wk : (Jvm.Cond.instantiable K nn).before a0 Z = true) (hn : O ≠ K) : NS Z O K := by
  obtain ⟨c, k, h1, h2, h3, -, -⟩ := Cond.noSuperclass_spec w
  obtain ⟨t, kt, g1, -⟩ := Cond.instantiable_spec wk
  have ne := ids_ne h1 g1 hn
  refine ⟨c, t, h1, g1, fun fuel => ?_⟩
  cases fuel with
  | zero => rfl
  | succ f => simp [Vm.isSubclassAux, ne, h2, h3]
theorem own_ns_no (w : (Jvm.Cond.superclass C S).before a0 Z = true) (wk : (Jvm.Cond.instantiable K nn).before a0 Z = true) (n : NS Z C K) (hn : C ≠ K) : ∃ c t, Z.vm.findClass C = some c ∧ Z.vm.findClass K = some t ∧ Z.vm.assignable c t = false := by
  obtain ⟨c, t, h0, g0, n3⟩ := n
  obtain ⟨p, k, kp, h1, h2, h3, h4, h5, -, h7⟩ := Cond.superclass_spec h0 w
  obtain ⟨t', kt, g1, g2, g3, g4, -⟩ := Cond.instantiable_spec wk
  cases g0.symm.trans g1
  have ne := ids_ne h0 g0 hn
  have g5 : kt.isInterface = false := by simp only [Bool.or_eq_false_iff] at g4; exact g4.1
  refine ⟨c, t, h0, g0, ?_⟩
  show Z.vm.assignableAux (255 + 1) c t = false
  simp [Vm.assignableAux, ne, h2, g2, h5, g3, g5, Vm.isSubclass, n3]
end NotSub
theorem Fld.to {Z : State} {h : Heap} {a : Addr} {C n d : String} {v w : Value} (F : Fld Z h a C n d v) (q : v = w) : Fld Z h a C n d w := q ▸ F
end Jvm.OwnKit
namespace Jvm.Pilot.@@N@@
open Jvm Jvm.ClassFile Sem Op Lib Jvm.Free Jvm.Stand Jvm.LawKit Jvm.RoadKit Jvm.OwnKit Bundle Jvm.Pilot.@@N@@.Jvm.D
theorem own_box_in {n : Nat} {i : Int32} (S : n = (256 : Int32).toNatClampNeg) (h1 : ¬ i < (-128 : Int32)) (h2 : ¬ (127 : Int32) < i) : ¬ (i + (128 : Int32) < 0 ∨ n ≤ (i + (128 : Int32)).toNatClampNeg) := by
  have r := rng32 i
  have e := c_iadd i (128 : Int32)
  have e1 : (-128 : Int32).toInt = -128 := rfl
  have e2 : (127 : Int32).toInt = 127 := rfl
  have e3 : (128 : Int32).toInt = 128 := rfl
  have r2 := rng32 (i + (128 : Int32))
  rw [Int32.lt_iff_toInt_lt, e1] at h1
  rw [Int32.lt_iff_toInt_lt, e2] at h2
  rw [e3] at e
  have e4 : (256 : Int32).toNatClampNeg = 256 := rfl
  rw [e4] at S
  have e5 : (0 : Int32).toInt = 0 := rfl
  intro h
  rcases h with h | h
  · rw [Int32.lt_iff_toInt_lt, e5] at h; omega
  · have q : (i + (128 : Int32)).toNatClampNeg = (i + (128 : Int32)).toInt.toNat := rfl
    rw [q] at h; omega
theorem own_len256 {Z : State} {args : Array Value} {t : Term} {a : Addr} {c : Cell} {ty : FieldType} {k : Int32} (ev : t.eval args Z none [] Z = some (.ref a)) (A : Arr Z Z.heap a c ty) (h : (Jvm.Cond.eq (Jvm.Term.length t) (Jvm.Term.int k)).value args Z none Z [] = some true) : c.slots.size < 2 ^ 31 ∧ c.slots.size.toInt32 = k := by
  have e := eqv_i (Term.int_eval k) h
  obtain ⟨x, _, e1, -⟩ := Term.length_spec e
  have ha := A.fin (U := Z) (Vm.Alike.refl _)
  by_cases q : c.slots.size < 2 ^ 31
  · have e2 := len_f (first := Z) (o := none) (idx := []) (args := args) ev ha q
    rw [e] at e2
    exact ⟨q, by injection e2 with e3; injection e3 with e4; exact e4.symm⟩
  · exfalso
    simp [Term.eval, ev, ha, q] at e
theorem own_static_idx {Z : State} {args : Array Value} {C n d : String} {v : Value} (h : (Jvm.Term.static C n d).eval args Z none [] Z = some v) (idx : List Nat) : (Jvm.Term.static C n d).eval args Z none idx Z = some v := by
  rw [← h]; rfl
theorem own_sub_idx {Z : State} {args : Array Value} {j : Int32} (hj : ¬ j < 0) : (Jvm.Term.sub (Jvm.Term.index 0) (Jvm.Term.int (128 : Int32))).eval args Z none [j.toNatClampNeg] Z = some (.int (j - (128 : Int32))) := by
  have h := idx_at (args := args) (s := Z) (first := Z) (o := none) hj
  have h2 := Term.int_eval (args := args) (first := Z) (o := none) (idx := [j.toNatClampNeg]) (s := Z) (128 : Int32)
  simp [Jvm.Term.eval, h, h2] at *
  simp [h]
theorem d6_0 : decode jdk_18_method_1_code 0 = .ok (.aload_n 0, 1) := by decide +kernel
theorem sg6_0_1 : decs jdk_18_method_1_code [(0, .aload_n 0, 1)] := ⟨d6_0, trivial⟩
theorem d6_1 : decode jdk_18_method_1_code 1 = .ok (.invokespecial 1, 3) := by decide +kernel
theorem own_w42 {Z : State} {a0 : Array Value} (hw : ∀ d ∈ tables_1, d.before a0 Z = true) : (Jvm.Cond.methodLink "java/lang/Number" (1 : Nat) ({ cls := "java/lang/Object", name := "<init>", desc := "()V" } : Jvm.MethodName)).before a0 Z = true := hw _ (List.mem_of_getElem? (i := 42) rfl)
theorem own_w8 {Z : State} {a0 : Array Value} (hw : ∀ d ∈ tables_1, d.before a0 Z = true) : (Jvm.Cond.code ({ cls := "java/lang/Object", name := "<init>", desc := "()V" } : Jvm.MethodName) object_method_1_code (1 : Nat) (Option.none : Option Jvm.ClassFile.FieldType)).before a0 Z = true := hw _ (List.mem_of_getElem? (i := 8) rfl)
theorem own_w7 {Z : State} {a0 : Array Value} (hw : ∀ d ∈ tables_1, d.before a0 Z = true) : (Jvm.Cond.instanceMethod ({ cls := "java/lang/Object", name := "<init>", desc := "()V" } : Jvm.MethodName)).before a0 Z = true := hw _ (List.mem_of_getElem? (i := 7) rfl)
theorem d6_4 : decode jdk_18_method_1_code 4 = .ok (.return_, 1) := by decide +kernel
theorem ef_rm6 (m : MethodId) (x0 : Addr) : entryFrame m #[(.ref x0)] 1 = mkF m 0 #[.val (.ref x0)] [] := by first | (simp [entryFrame, mkF, argsToLocals, Value.category]; done) | rfl
theorem own_pn0 : plainName "java/lang/Number" = true := by first | (simp [plainName, overriddenIn]; done) | decide +kernel
theorem d5_0 : decode jdk_33_method_23_code 0 = .ok (.aload_n 0, 1) := by decide +kernel
theorem sg5_0_1 : decs jdk_33_method_23_code [(0, .aload_n 0, 1)] := ⟨d5_0, trivial⟩
theorem d5_1 : decode jdk_33_method_23_code 1 = .ok (.invokespecial 202, 3) := by decide +kernel
theorem own_w36 {Z : State} {a0 : Array Value} (hw : ∀ d ∈ tables_1, d.before a0 Z = true) : (Jvm.Cond.methodLink "java/lang/Integer" (202 : Nat) ({ cls := "java/lang/Number", name := "<init>", desc := "()V" } : Jvm.MethodName)).before a0 Z = true := hw _ (List.mem_of_getElem? (i := 36) rfl)
theorem own_w41 {Z : State} {a0 : Array Value} (hw : ∀ d ∈ tables_1, d.before a0 Z = true) : (Jvm.Cond.code ({ cls := "java/lang/Number", name := "<init>", desc := "()V" } : Jvm.MethodName) jdk_18_method_1_code (1 : Nat) (Option.none : Option Jvm.ClassFile.FieldType)).before a0 Z = true := hw _ (List.mem_of_getElem? (i := 41) rfl)
theorem own_w40 {Z : State} {a0 : Array Value} (hw : ∀ d ∈ tables_1, d.before a0 Z = true) : (Jvm.Cond.initialized "java/lang/Number").before a0 Z = true := hw _ (List.mem_of_getElem? (i := 40) rfl)
theorem own_pd0 : parseMethodDescriptor "()V" = some ⟨[], none⟩ := by decide +kernel
theorem own_w37 {Z : State} {a0 : Array Value} (hw : ∀ d ∈ tables_1, d.before a0 Z = true) : (Jvm.Cond.instanceMethod ({ cls := "java/lang/Number", name := "<init>", desc := "()V" } : Jvm.MethodName)).before a0 Z = true := hw _ (List.mem_of_getElem? (i := 37) rfl)
theorem d5_4 : decode jdk_33_method_23_code 4 = .ok (.aload_n 0, 1) := by decide +kernel
theorem d5_5 : decode jdk_33_method_23_code 5 = .ok (.iload_n 1, 1) := by decide +kernel
theorem sg5_4_2 : decs jdk_33_method_23_code [(4, .aload_n 0, 1), (5, .iload_n 1, 1)] := ⟨d5_4, d5_5, trivial⟩
theorem d5_6 : decode jdk_33_method_23_code 6 = .ok (.putfield 205, 3) := by decide +kernel
theorem own_w43 {Z : State} {a0 : Array Value} (hw : ∀ d ∈ tables_1, d.before a0 Z = true) : (Jvm.Cond.fieldLink "java/lang/Integer" (205 : Nat) "java/lang/Integer" "value" "I").before a0 Z = true := hw _ (List.mem_of_getElem? (i := 43) rfl)
theorem own_w44 {Z : State} {a0 : Array Value} (hw : ∀ d ∈ tables_1, d.before a0 Z = true) : (Jvm.Cond.laysFinal "java/lang/Integer" "java/lang/Integer" "value" "I").before a0 Z = true := hw _ (List.mem_of_getElem? (i := 44) rfl)
theorem own_w31 {Z : State} {a0 : Array Value} (hw : ∀ d ∈ tables_1, d.before a0 Z = true) : (Jvm.Cond.instantiable "java/lang/Integer" (1 : Nat)).before a0 Z = true := hw _ (List.mem_of_getElem? (i := 31) rfl)
theorem d5_9 : decode jdk_33_method_23_code 9 = .ok (.return_, 1) := by decide +kernel
theorem ef_rm5 (m : MethodId) (x0 : Addr) (x1 : Int32) : entryFrame m #[(.ref x0), (.int x1)] 2 = mkF m 0 #[.val (.ref x0), .val (.int x1)] [] := by first | (simp [entryFrame, mkF, argsToLocals, Value.category]; done) | rfl
theorem own_pn1 : plainName "java/lang/Integer" = true := by first | (simp [plainName, overriddenIn]; done) | decide +kernel
theorem d1_0 : decode prog_28_method_1_code 0 = .ok (.aload_n 0, 1) := by decide +kernel
theorem sg1_0_1 : decs prog_28_method_1_code [(0, .aload_n 0, 1)] := ⟨d1_0, trivial⟩
theorem d1_1 : decode prog_28_method_1_code 1 = .ok (.invokespecial 1, 3) := by decide +kernel
theorem own_w6 {Z : State} {a0 : Array Value} (hw : ∀ d ∈ tables_1, d.before a0 Z = true) : (Jvm.Cond.methodLink "com/example/token_relay/tokenrelay/SnapshotId" (1 : Nat) ({ cls := "java/lang/Object", name := "<init>", desc := "()V" } : Jvm.MethodName)).before a0 Z = true := hw _ (List.mem_of_getElem? (i := 6) rfl)
theorem d1_4 : decode prog_28_method_1_code 4 = .ok (.aload_n 0, 1) := by decide +kernel
theorem d1_5 : decode prog_28_method_1_code 5 = .ok (.iload_n 1, 1) := by decide +kernel
theorem sg1_4_2 : decs prog_28_method_1_code [(4, .aload_n 0, 1), (5, .iload_n 1, 1)] := ⟨d1_4, d1_5, trivial⟩
theorem d1_6 : decode prog_28_method_1_code 6 = .ok (.putfield 7, 3) := by decide +kernel
theorem own_w9 {Z : State} {a0 : Array Value} (hw : ∀ d ∈ tables_1, d.before a0 Z = true) : (Jvm.Cond.fieldLink "com/example/token_relay/tokenrelay/SnapshotId" (7 : Nat) "com/example/token_relay/tokenrelay/SnapshotId" "initiator" "I").before a0 Z = true := hw _ (List.mem_of_getElem? (i := 9) rfl)
theorem own_w10 {Z : State} {a0 : Array Value} (hw : ∀ d ∈ tables_1, d.before a0 Z = true) : (Jvm.Cond.laysFinal "com/example/token_relay/tokenrelay/SnapshotId" "com/example/token_relay/tokenrelay/SnapshotId" "initiator" "I").before a0 Z = true := hw _ (List.mem_of_getElem? (i := 10) rfl)
theorem own_w1 {Z : State} {a0 : Array Value} (hw : ∀ d ∈ tables_1, d.before a0 Z = true) : (Jvm.Cond.instantiable "com/example/token_relay/tokenrelay/SnapshotId" (2 : Nat)).before a0 Z = true := hw _ (List.mem_of_getElem? (i := 1) rfl)
theorem d1_9 : decode prog_28_method_1_code 9 = .ok (.aload_n 0, 1) := by decide +kernel
theorem d1_10 : decode prog_28_method_1_code 10 = .ok (.lload_n 2, 1) := by decide +kernel
theorem sg1_9_2 : decs prog_28_method_1_code [(9, .aload_n 0, 1), (10, .lload_n 2, 1)] := ⟨d1_9, d1_10, trivial⟩
theorem d1_11 : decode prog_28_method_1_code 11 = .ok (.putfield 13, 3) := by decide +kernel
theorem own_w11 {Z : State} {a0 : Array Value} (hw : ∀ d ∈ tables_1, d.before a0 Z = true) : (Jvm.Cond.fieldLink "com/example/token_relay/tokenrelay/SnapshotId" (13 : Nat) "com/example/token_relay/tokenrelay/SnapshotId" "number" "J").before a0 Z = true := hw _ (List.mem_of_getElem? (i := 11) rfl)
theorem own_w12 {Z : State} {a0 : Array Value} (hw : ∀ d ∈ tables_1, d.before a0 Z = true) : (Jvm.Cond.laysFinal "com/example/token_relay/tokenrelay/SnapshotId" "com/example/token_relay/tokenrelay/SnapshotId" "number" "J").before a0 Z = true := hw _ (List.mem_of_getElem? (i := 12) rfl)
theorem d1_14 : decode prog_28_method_1_code 14 = .ok (.return_, 1) := by decide +kernel
theorem ef_rm1 (m : MethodId) (x0 : Addr) (x1 : Int32) (x2 : Int64) : entryFrame m #[(.ref x0), (.int x1), (.long x2)] 4 = mkF m 0 #[.val (.ref x0), .val (.int x1), .val (.long x2), .second] [] := by first | (simp [entryFrame, mkF, argsToLocals, Value.category]; done) | rfl
theorem own_pn2 : plainName "com/example/token_relay/tokenrelay/SnapshotId" = true := by first | (simp [plainName, overriddenIn]; done) | decide +kernel
theorem d3_0 : decode jdk_33_method_22_code 0 = .ok (.iload_n 0, 1) := by decide +kernel
theorem d3_1 : decode jdk_33_method_22_code 1 = .ok (.bipush (-128), 2) := by decide +kernel
theorem sg3_0_2 : decs jdk_33_method_22_code [(0, .iload_n 0, 1), (1, .bipush (-128), 2)] := ⟨d3_0, d3_1, trivial⟩
theorem d3_3 : decode jdk_33_method_22_code 3 = .ok (.if_icmp .lt 20, 3) := by decide +kernel
theorem d3_23 : decode jdk_33_method_22_code 23 = .ok (.new 1, 3) := by decide +kernel
theorem own_w30 {Z : State} {a0 : Array Value} (hw : ∀ d ∈ tables_1, d.before a0 Z = true) : (Jvm.Cond.classLink "java/lang/Integer" (1 : Nat) "java/lang/Integer").before a0 Z = true := hw _ (List.mem_of_getElem? (i := 30) rfl)
theorem own_w15 {Z : State} {a0 : Array Value} (hw : ∀ d ∈ tables_1, d.before a0 Z = true) : (Jvm.Cond.initialized "java/lang/Integer").before a0 Z = true := hw _ (List.mem_of_getElem? (i := 15) rfl)
theorem d3_26 : decode jdk_33_method_22_code 26 = .ok (.dup, 1) := by decide +kernel
theorem d3_27 : decode jdk_33_method_22_code 27 = .ok (.iload_n 0, 1) := by decide +kernel
theorem sg3_26_2 : decs jdk_33_method_22_code [(26, .dup, 1), (27, .iload_n 0, 1)] := ⟨d3_26, d3_27, trivial⟩
theorem d3_28 : decode jdk_33_method_22_code 28 = .ok (.invokespecial 199, 3) := by decide +kernel
theorem own_w32 {Z : State} {a0 : Array Value} (hw : ∀ d ∈ tables_1, d.before a0 Z = true) : (Jvm.Cond.methodLink "java/lang/Integer" (199 : Nat) ({ cls := "java/lang/Integer", name := "<init>", desc := "(I)V" } : Jvm.MethodName)).before a0 Z = true := hw _ (List.mem_of_getElem? (i := 32) rfl)
theorem own_w35 {Z : State} {a0 : Array Value} (hw : ∀ d ∈ tables_1, d.before a0 Z = true) : (Jvm.Cond.code ({ cls := "java/lang/Integer", name := "<init>", desc := "(I)V" } : Jvm.MethodName) jdk_33_method_23_code (2 : Nat) (Option.none : Option Jvm.ClassFile.FieldType)).before a0 Z = true := hw _ (List.mem_of_getElem? (i := 35) rfl)
theorem own_pd1 : parseMethodDescriptor "(I)V" = some ⟨[.int], none⟩ := by decide +kernel
theorem own_w33 {Z : State} {a0 : Array Value} (hw : ∀ d ∈ tables_1, d.before a0 Z = true) : (Jvm.Cond.instanceMethod ({ cls := "java/lang/Integer", name := "<init>", desc := "(I)V" } : Jvm.MethodName)).before a0 Z = true := hw _ (List.mem_of_getElem? (i := 33) rfl)
theorem d3_31 : decode jdk_33_method_22_code 31 = .ok (.areturn, 1) := by decide +kernel
theorem d3_6 : decode jdk_33_method_22_code 6 = .ok (.iload_n 0, 1) := by decide +kernel
theorem sg3_6_1 : decs jdk_33_method_22_code [(6, .iload_n 0, 1)] := ⟨d3_6, trivial⟩
theorem d3_7 : decode jdk_33_method_22_code 7 = .ok (.getstatic 191, 3) := by decide +kernel
theorem own_w17 {Z : State} {a0 : Array Value} (hw : ∀ d ∈ tables_1, d.before a0 Z = true) : (Jvm.Cond.fieldLink "java/lang/Integer" (191 : Nat) "java/lang/Integer$IntegerCache" "high" "I").before a0 Z = true := hw _ (List.mem_of_getElem? (i := 17) rfl)
theorem d3_10 : decode jdk_33_method_22_code 10 = .ok (.if_icmp .gt 13, 3) := by decide +kernel
theorem d3_13 : decode jdk_33_method_22_code 13 = .ok (.getstatic 195, 3) := by decide +kernel
theorem own_w19 {Z : State} {a0 : Array Value} (hw : ∀ d ∈ tables_1, d.before a0 Z = true) : (Jvm.Cond.fieldLink "java/lang/Integer" (195 : Nat) "java/lang/Integer$IntegerCache" "cache" "[Ljava/lang/Integer;").before a0 Z = true := hw _ (List.mem_of_getElem? (i := 19) rfl)
theorem d3_16 : decode jdk_33_method_22_code 16 = .ok (.iload_n 0, 1) := by decide +kernel
theorem d3_17 : decode jdk_33_method_22_code 17 = .ok (.sipush 128, 3) := by decide +kernel
theorem d3_20 : decode jdk_33_method_22_code 20 = .ok (.iadd, 1) := by decide +kernel
theorem sg3_16_3 : decs jdk_33_method_22_code [(16, .iload_n 0, 1), (17, .sipush 128, 3), (20, .iadd, 1)] := ⟨d3_16, d3_17, d3_20, trivial⟩
theorem d3_21 : decode jdk_33_method_22_code 21 = .ok (.aaload, 1) := by decide +kernel
theorem d3_22 : decode jdk_33_method_22_code 22 = .ok (.areturn, 1) := by decide +kernel
theorem ef_rm3 (m : MethodId) (x0 : Int32) : entryFrame m #[(.int x0)] 1 = mkF m 0 #[.val (.int x0)] [] := by first | (simp [entryFrame, mkF, argsToLocals, Value.category]; done) | rfl
theorem d4_0 : decode prog_28_method_4_code 0 = .ok (.aload_n 0, 1) := by decide +kernel
theorem d4_1 : decode prog_28_method_4_code 1 = .ok (.aload_n 1, 1) := by decide +kernel
theorem sg4_0_2 : decs prog_28_method_4_code [(0, .aload_n 0, 1), (1, .aload_n 1, 1)] := ⟨d4_0, d4_1, trivial⟩
theorem d4_2 : decode prog_28_method_4_code 2 = .ok (.if_acmp .ne 5, 3) := by decide +kernel
theorem d4_5 : decode prog_28_method_4_code 5 = .ok (.iconst 1, 1) := by decide +kernel
theorem sg4_5_1 : decs prog_28_method_4_code [(5, .iconst 1, 1)] := ⟨d4_5, trivial⟩
theorem d4_6 : decode prog_28_method_4_code 6 = .ok (.ireturn, 1) := by decide +kernel
def own_eqs  : Int32 := (1 : Int32)
theorem ef_rmEs (m : MethodId) (x0 : Addr) : entryFrame m #[(.ref x0), (.ref x0)] 3 = mkF m 0 #[.val (.ref x0), .val (.ref x0), .unset] [] := by first | (simp [entryFrame, mkF, argsToLocals, Value.category]; done) | rfl
theorem d4_7 : decode prog_28_method_4_code 7 = .ok (.aload_n 1, 1) := by decide +kernel
theorem sg4_7_1 : decs prog_28_method_4_code [(7, .aload_n 1, 1)] := ⟨d4_7, trivial⟩
theorem d4_8 : decode prog_28_method_4_code 8 = .ok (.instanceof 8, 3) := by decide +kernel
theorem own_w25 {Z : State} {a0 : Array Value} (hw : ∀ d ∈ tables_1, d.before a0 Z = true) : (Jvm.Cond.classLink "com/example/token_relay/tokenrelay/SnapshotId" (8 : Nat) "com/example/token_relay/tokenrelay/SnapshotId").before a0 Z = true := hw _ (List.mem_of_getElem? (i := 25) rfl)
theorem d4_11 : decode prog_28_method_4_code 11 = .ok (.ifCond .ne 5, 3) := by decide +kernel
theorem d4_14 : decode prog_28_method_4_code 14 = .ok (.iconst 0, 1) := by decide +kernel
theorem sg4_14_1 : decs prog_28_method_4_code [(14, .iconst 0, 1)] := ⟨d4_14, trivial⟩
theorem d4_15 : decode prog_28_method_4_code 15 = .ok (.ireturn, 1) := by decide +kernel
def own_eqn  : Int32 := (0 : Int32)
theorem ef_rmEn (m : MethodId) (x0 : Addr) : entryFrame m #[(.ref x0), .null] 3 = mkF m 0 #[.val (.ref x0), .val .null, .unset] [] := by first | (simp [entryFrame, mkF, argsToLocals, Value.category]; done) | rfl
theorem d4_16 : decode prog_28_method_4_code 16 = .ok (.aload_n 1, 1) := by decide +kernel
theorem sg4_16_1 : decs prog_28_method_4_code [(16, .aload_n 1, 1)] := ⟨d4_16, trivial⟩
theorem d4_17 : decode prog_28_method_4_code 17 = .ok (.checkcast 8, 3) := by decide +kernel
theorem d4_20 : decode prog_28_method_4_code 20 = .ok (.astore_n 2, 1) := by decide +kernel
theorem d4_21 : decode prog_28_method_4_code 21 = .ok (.aload_n 0, 1) := by decide +kernel
theorem sg4_20_2 : decs prog_28_method_4_code [(20, .astore_n 2, 1), (21, .aload_n 0, 1)] := ⟨d4_20, d4_21, trivial⟩
theorem d4_22 : decode prog_28_method_4_code 22 = .ok (.getfield 7, 3) := by decide +kernel
theorem d4_25 : decode prog_28_method_4_code 25 = .ok (.aload_n 2, 1) := by decide +kernel
theorem sg4_25_1 : decs prog_28_method_4_code [(25, .aload_n 2, 1)] := ⟨d4_25, trivial⟩
theorem d4_26 : decode prog_28_method_4_code 26 = .ok (.getfield 7, 3) := by decide +kernel
theorem d4_29 : decode prog_28_method_4_code 29 = .ok (.if_icmp .ne 19, 3) := by decide +kernel
theorem d4_32 : decode prog_28_method_4_code 32 = .ok (.aload_n 0, 1) := by decide +kernel
theorem sg4_32_1 : decs prog_28_method_4_code [(32, .aload_n 0, 1)] := ⟨d4_32, trivial⟩
theorem d4_33 : decode prog_28_method_4_code 33 = .ok (.getfield 13, 3) := by decide +kernel
theorem d4_36 : decode prog_28_method_4_code 36 = .ok (.aload_n 2, 1) := by decide +kernel
theorem sg4_36_1 : decs prog_28_method_4_code [(36, .aload_n 2, 1)] := ⟨d4_36, trivial⟩
theorem d4_37 : decode prog_28_method_4_code 37 = .ok (.getfield 13, 3) := by decide +kernel
theorem d4_40 : decode prog_28_method_4_code 40 = .ok (.lcmp, 1) := by decide +kernel
theorem sg4_40_1 : decs prog_28_method_4_code [(40, .lcmp, 1)] := ⟨d4_40, trivial⟩
theorem d4_41 : decode prog_28_method_4_code 41 = .ok (.ifCond .ne 7, 3) := by decide +kernel
theorem d4_44 : decode prog_28_method_4_code 44 = .ok (.iconst 1, 1) := by decide +kernel
theorem d4_45 : decode prog_28_method_4_code 45 = .ok (.goto 4, 3) := by decide +kernel
theorem sg4_44_2 : decs prog_28_method_4_code [(44, .iconst 1, 1), (45, .goto 4, 3)] := ⟨d4_44, d4_45, trivial⟩
theorem d4_48 : decode prog_28_method_4_code 48 = .ok (.iconst 0, 1) := by decide +kernel
theorem sg4_48_1 : decs prog_28_method_4_code [(48, .iconst 0, 1)] := ⟨d4_48, trivial⟩
theorem d4_49 : decode prog_28_method_4_code 49 = .ok (.ireturn, 1) := by decide +kernel
def own_eqo (w_initiator_o0 : Int32) (w_initiator_o1 : Int32) (w_number_o0 : Int64) (w_number_o1 : Int64) : Int32 := (nar .boolean (if w_initiator_o0 = w_initiator_o1 then (if w_number_o0 = w_number_o1 then (1 : Int32) else (0 : Int32)) else (0 : Int32)))
theorem ef_rmEo (m : MethodId) (x0 : Addr) (x1 : Addr) : entryFrame m #[(.ref x0), (.ref x1)] 3 = mkF m 0 #[.val (.ref x0), .val (.ref x1), .unset] [] := by first | (simp [entryFrame, mkF, argsToLocals, Value.category]; done) | rfl
theorem own_w26 {Z : State} {a0 : Array Value} (hw : ∀ d ∈ tables_1, d.before a0 Z = true) : (Jvm.Cond.superclass "java/lang/Integer" "java/lang/Number").before a0 Z = true := hw _ (List.mem_of_getElem? (i := 26) rfl)
theorem own_w27 {Z : State} {a0 : Array Value} (hw : ∀ d ∈ tables_1, d.before a0 Z = true) : (Jvm.Cond.superclass "java/lang/Number" "java/lang/Object").before a0 Z = true := hw _ (List.mem_of_getElem? (i := 27) rfl)
theorem own_w28 {Z : State} {a0 : Array Value} (hw : ∀ d ∈ tables_1, d.before a0 Z = true) : (Jvm.Cond.noSuperclass "java/lang/Object").before a0 Z = true := hw _ (List.mem_of_getElem? (i := 28) rfl)
def own_eqi  : Int32 := (0 : Int32)
theorem ef_rmEi (m : MethodId) (x0 : Addr) (x1 : Addr) : entryFrame m #[(.ref x0), (.ref x1)] 3 = mkF m 0 #[.val (.ref x0), .val (.ref x1), .unset] [] := by first | (simp [entryFrame, mkF, argsToLocals, Value.category]; done) | rfl
theorem own_w18 {Z : State} {a0 : Array Value} (hw : ∀ d ∈ tables_1, d.before a0 Z = true) : (Jvm.Cond.initialized "java/lang/Integer$IntegerCache").before a0 Z = true := hw _ (List.mem_of_getElem? (i := 18) rfl)
theorem own_w0 {Z : State} {a0 : Array Value} (hw : ∀ d ∈ tables_1, d.before a0 Z = true) : (Jvm.Cond.classLink "com/example/token_relay/tokenrelay/SnapshotIdEqualsPinLaw" (7 : Nat) "com/example/token_relay/tokenrelay/SnapshotId").before a0 Z = true := hw _ (List.mem_of_getElem? (i := 0) rfl)
theorem own_w2 {Z : State} {a0 : Array Value} (hw : ∀ d ∈ tables_1, d.before a0 Z = true) : (Jvm.Cond.initialized "com/example/token_relay/tokenrelay/SnapshotId").before a0 Z = true := hw _ (List.mem_of_getElem? (i := 2) rfl)
theorem sg0_3_3 : decs code [(3, .dup, 1), (4, .iload_n 0, 1), (5, .lload_n 1, 1)] := ⟨at_3, at_4, at_5, trivial⟩
theorem own_w3 {Z : State} {a0 : Array Value} (hw : ∀ d ∈ tables_1, d.before a0 Z = true) : (Jvm.Cond.methodLink "com/example/token_relay/tokenrelay/SnapshotIdEqualsPinLaw" (9 : Nat) ({ cls := "com/example/token_relay/tokenrelay/SnapshotId", name := "<init>", desc := "(IJ)V" } : Jvm.MethodName)).before a0 Z = true := hw _ (List.mem_of_getElem? (i := 3) rfl)
theorem own_w5 {Z : State} {a0 : Array Value} (hw : ∀ d ∈ tables_1, d.before a0 Z = true) : (Jvm.Cond.code ({ cls := "com/example/token_relay/tokenrelay/SnapshotId", name := "<init>", desc := "(IJ)V" } : Jvm.MethodName) prog_28_method_1_code (4 : Nat) (Option.none : Option Jvm.ClassFile.FieldType)).before a0 Z = true := hw _ (List.mem_of_getElem? (i := 5) rfl)
theorem own_pd2 : parseMethodDescriptor "(IJ)V" = some ⟨[.int, .long], none⟩ := by decide +kernel
theorem own_w4 {Z : State} {a0 : Array Value} (hw : ∀ d ∈ tables_1, d.before a0 Z = true) : (Jvm.Cond.instanceMethod ({ cls := "com/example/token_relay/tokenrelay/SnapshotId", name := "<init>", desc := "(IJ)V" } : Jvm.MethodName)).before a0 Z = true := hw _ (List.mem_of_getElem? (i := 4) rfl)
theorem sg0_9_4 : decs code [(9, .astore 7, 2), (11, .iload 6, 2), (13, .iconst 4, 1), (14, .iand, 1)] := ⟨at_9, at_11, at_13, at_14, trivial⟩
theorem sg0_22_1 : decs code [(22, .iload_n 3, 1)] := ⟨at_22, trivial⟩
theorem sg0_18_2 : decs code [(18, .iload_n 0, 1), (19, .goto 4, 3)] := ⟨at_18, at_19, trivial⟩
theorem sg0_23_4 : decs code [(23, .istore 8, 2), (25, .iload 6, 2), (27, .bipush 8, 2), (29, .iand, 1)] := ⟨at_23, at_25, at_27, at_29, trivial⟩
theorem sg0_37_1 : decs code [(37, .lload 4, 2)] := ⟨at_37, trivial⟩
theorem sg0_33_2 : decs code [(33, .lload_n 1, 1), (34, .goto 5, 3)] := ⟨at_33, at_34, trivial⟩
theorem sg0_39_1 : decs code [(39, .lstore 9, 2)] := ⟨at_39, trivial⟩
theorem sg0_44_3 : decs code [(44, .dup, 1), (45, .iload 8, 2), (47, .lload 9, 2)] := ⟨at_44, at_45, at_47, trivial⟩
theorem sg0_52_5 : decs code [(52, .astore 11, 2), (54, .iload 6, 2), (56, .iconst 3, 1), (57, .iand, 1), (58, .istore 12, 2)] := ⟨at_52, at_54, at_56, at_57, at_58, trivial⟩
theorem sg0_60_1 : decs code [(60, .iload 12, 2)] := ⟨at_60, trivial⟩
theorem sg0_65_5 : decs code [(65, .aload 7, 2), (67, .astore 13, 2), (69, .iconst 1, 1), (70, .istore 14, 2), (72, .goto 60, 3)] := ⟨at_65, at_67, at_69, at_70, at_72, trivial⟩
theorem sg0_75_2 : decs code [(75, .iload 12, 2), (77, .iconst 1, 1)] := ⟨at_75, at_77, trivial⟩
theorem sg0_81_4 : decs code [(81, .aload 11, 2), (83, .astore 13, 2), (85, .iload_n 0, 1), (86, .iload 8, 2)] := ⟨at_81, at_83, at_85, at_86, trivial⟩
theorem sg0_91_3 : decs code [(91, .lload_n 1, 1), (92, .lload 9, 2), (94, .lcmp, 1)] := ⟨at_91, at_92, at_94, trivial⟩
theorem sg0_98_2 : decs code [(98, .iconst 1, 1), (99, .goto 4, 3)] := ⟨at_98, at_99, trivial⟩
theorem sg0_102_1 : decs code [(102, .iconst 0, 1)] := ⟨at_102, trivial⟩
theorem sg0_103_2 : decs code [(103, .istore 14, 2), (105, .goto 27, 3)] := ⟨at_103, at_105, trivial⟩
theorem sg0_108_2 : decs code [(108, .iload 12, 2), (110, .iconst 2, 1)] := ⟨at_108, at_110, trivial⟩
theorem sg0_114_1 : decs code [(114, .iload_n 0, 1)] := ⟨at_114, trivial⟩
theorem own_w13 {Z : State} {a0 : Array Value} (hw : ∀ d ∈ tables_1, d.before a0 Z = true) : (Jvm.Cond.methodLink "com/example/token_relay/tokenrelay/SnapshotIdEqualsPinLaw" (12 : Nat) ({ cls := "java/lang/Integer", name := "valueOf", desc := "(I)Ljava/lang/Integer;" } : Jvm.MethodName)).before a0 Z = true := hw _ (List.mem_of_getElem? (i := 13) rfl)
theorem own_w16 {Z : State} {a0 : Array Value} (hw : ∀ d ∈ tables_1, d.before a0 Z = true) : (Jvm.Cond.code ({ cls := "java/lang/Integer", name := "valueOf", desc := "(I)Ljava/lang/Integer;" } : Jvm.MethodName) jdk_33_method_22_code (1 : Nat) (Option.some (Jvm.ClassFile.FieldType.object "java/lang/Integer"))).before a0 Z = true := hw _ (List.mem_of_getElem? (i := 16) rfl)
theorem own_pd3 : parseMethodDescriptor "(I)Ljava/lang/Integer;" = some ⟨[.int], some (.object "java/lang/Integer")⟩ := by decide +kernel
theorem own_w14 {Z : State} {a0 : Array Value} (hw : ∀ d ∈ tables_1, d.before a0 Z = true) : (Jvm.Cond.static ({ cls := "java/lang/Integer", name := "valueOf", desc := "(I)Ljava/lang/Integer;" } : Jvm.MethodName)).before a0 Z = true := hw _ (List.mem_of_getElem? (i := 14) rfl)
theorem sg0_118_4 : decs code [(118, .astore 13, 2), (120, .iconst 0, 1), (121, .istore 14, 2), (123, .goto 9, 3)] := ⟨at_118, at_120, at_121, at_123, trivial⟩
theorem sg0_126_4 : decs code [(126, .aconst_null, 1), (127, .astore 13, 2), (129, .iconst 0, 1), (130, .istore 14, 2)] := ⟨at_126, at_127, at_129, at_130, trivial⟩
theorem sg0_65_7 : decs code [(65, .aload 7, 2), (67, .astore 13, 2), (69, .iconst 1, 1), (70, .istore 14, 2), (72, .goto 60, 3), (132, .aload 7, 2), (134, .aload 13, 2)] := ⟨at_65, at_67, at_69, at_70, at_72, at_132, at_134, trivial⟩
theorem own_w20 {Z : State} {a0 : Array Value} (hw : ∀ d ∈ tables_1, d.before a0 Z = true) : (Jvm.Cond.methodLink "com/example/token_relay/tokenrelay/SnapshotIdEqualsPinLaw" (18 : Nat) ({ cls := "com/example/token_relay/tokenrelay/SnapshotId", name := "equals", desc := "(Ljava/lang/Object;)Z" } : Jvm.MethodName)).before a0 Z = true := hw _ (List.mem_of_getElem? (i := 20) rfl)
theorem own_w24 {Z : State} {a0 : Array Value} (hw : ∀ d ∈ tables_1, d.before a0 Z = true) : (Jvm.Cond.code ({ cls := "com/example/token_relay/tokenrelay/SnapshotId", name := "equals", desc := "(Ljava/lang/Object;)Z" } : Jvm.MethodName) prog_28_method_4_code (3 : Nat) (Option.some Jvm.ClassFile.FieldType.boolean)).before a0 Z = true := hw _ (List.mem_of_getElem? (i := 24) rfl)
theorem own_pd4 : parseMethodDescriptor "(Ljava/lang/Object;)Z" = some ⟨[(.object "java/lang/Object")], some .boolean⟩ := by decide +kernel
theorem own_w23 {Z : State} {a0 : Array Value} (hw : ∀ d ∈ tables_1, d.before a0 Z = true) : (Jvm.Cond.selects "com/example/token_relay/tokenrelay/SnapshotId" ({ cls := "com/example/token_relay/tokenrelay/SnapshotId", name := "equals", desc := "(Ljava/lang/Object;)Z" } : Jvm.MethodName) ({ cls := "com/example/token_relay/tokenrelay/SnapshotId", name := "equals", desc := "(Ljava/lang/Object;)Z" } : Jvm.MethodName)).before a0 Z = true := hw _ (List.mem_of_getElem? (i := 23) rfl)
theorem own_w21 {Z : State} {a0 : Array Value} (hw : ∀ d ∈ tables_1, d.before a0 Z = true) : (Jvm.Cond.declares ({ cls := "com/example/token_relay/tokenrelay/SnapshotId", name := "equals", desc := "(Ljava/lang/Object;)Z" } : Jvm.MethodName)).before a0 Z = true := hw _ (List.mem_of_getElem? (i := 21) rfl)
theorem own_w22 {Z : State} {a0 : Array Value} (hw : ∀ d ∈ tables_1, d.before a0 Z = true) : (Jvm.Cond.instanceMethod ({ cls := "com/example/token_relay/tokenrelay/SnapshotId", name := "equals", desc := "(Ljava/lang/Object;)Z" } : Jvm.MethodName)).before a0 Z = true := hw _ (List.mem_of_getElem? (i := 22) rfl)
theorem sg0_139_1 : decs code [(139, .iload 14, 2)] := ⟨at_139, trivial⟩
theorem sg0_144_2 : decs code [(144, .iconst 1, 1), (145, .goto 4, 3)] := ⟨at_144, at_145, trivial⟩
theorem sg0_148_1 : decs code [(148, .iconst 0, 1)] := ⟨at_148, trivial⟩
theorem sg0_103_4 : decs code [(103, .istore 14, 2), (105, .goto 27, 3), (132, .aload 7, 2), (134, .aload 13, 2)] := ⟨at_103, at_105, at_132, at_134, trivial⟩
theorem sg0_118_6 : decs code [(118, .astore 13, 2), (120, .iconst 0, 1), (121, .istore 14, 2), (123, .goto 9, 3), (132, .aload 7, 2), (134, .aload 13, 2)] := ⟨at_118, at_120, at_121, at_123, at_132, at_134, trivial⟩
theorem sg0_126_6 : decs code [(126, .aconst_null, 1), (127, .astore 13, 2), (129, .iconst 0, 1), (130, .istore 14, 2), (132, .aload 7, 2), (134, .aload 13, 2)] := ⟨at_126, at_127, at_129, at_130, at_132, at_134, trivial⟩
theorem ef_rm0 (m : MethodId) (x0 : Int32) (x1 : Int64) (x2 : Int32) (x3 : Int64) (x4 : Int32) : entryFrame m #[(.int x0), (.long x1), (.int x2), (.long x3), (.int x4)] maxLocals = mkF m 0 #[.val (.int x0), .val (.long x1), .second, .val (.int x2), .val (.long x3), .second, .val (.int x4), .unset, .unset, .unset, .unset, .unset, .unset, .unset, .unset] [] := by first | (simp [entryFrame, mkF, argsToLocals, Value.category, maxLocals]; done) | rfl
theorem own_pn3 : plainName "com/example/token_relay/tokenrelay/SnapshotIdEqualsPinLaw" = true := by first | (simp [plainName, overriddenIn]; done) | decide +kernel
set_option maxRecDepth 65536 in
set_option maxHeartbeats 40000000 in
theorem rm6 (l : Launch) (Z : State) (a0 : Array Value) (hw : ∀ d ∈ tables_1, d.before a0 Z = true) (ws : List Jvm.Cond) (o0 : Addr) (h0 : Heap) (n0 : Nat) (O0 : Old Z n0 h0) :
    Con l Z (⟨"java/lang/Number", "<init>", "()V"⟩ : MethodName) jdk_18_method_1_code 1 none ws ({ frames := 1, cells := 0, slots := 0, locals := 12 } : Room) #[(.ref o0)] h0 (Pur none h0) := by
  refine own_body (plainFor_of_name own_pn0) (fun m => ef_rm6 m o0) ?_
  intro p e s m below meth c s₁ hx hby hlk hml hret hZ hown hnm X0 e0
  have N0 := Fr.nil n0
  refine Home.run X0 hx hby sg6_0_1 (pc' := 1) (L' := #[.val (.ref o0)]) (S' := [(.ref o0)]) rfl ?_
  refine Home.st (initO X0 hx hZ hown (own_w42 hw) (own_w7 hw) (own_w8 hw) e0 rfl (by rw [hml]; rfl) rfl (hb hby d6_1) (by decide) (W := 0) (by show 2 * 0 + _ ≤ _; exact Nat.le_of_eq rfl) (by decide)) fun T1 X1 e1 => ?_
  exact Home.ret0 X1 hx hlk hret (hb hby d6_4) ⟨rfl, rfl, e1⟩ (by decide) (by decide)
set_option maxRecDepth 65536 in
set_option maxHeartbeats 40000000 in
theorem rm5 (l : Launch) (Z : State) (a0 : Array Value) (hw : ∀ d ∈ tables_1, d.before a0 Z = true) (ws : List Jvm.Cond) (o0 : Addr) (i1 : Int32) (u_value_o0 : Int32) (h0 : Heap) (n0 : Nat) (O0 : Old Z n0 h0) (E_o0 : Exa Z h0 o0 "java/lang/Integer") (F_value_o0 : Fld Z h0 o0 "java/lang/Integer" "value" "I" (.int u_value_o0)) (g_o0 : n0 ≤ o0) :
    Con l Z (⟨"java/lang/Integer", "<init>", "(I)V"⟩ : MethodName) jdk_33_method_23_code 2 none ws ({ frames := 2, cells := 0, slots := 0, locals := 24 } : Room) #[(.ref o0), (.int i1)] h0 (fun v h L => v = none ∧ Fr n0 L ∧ Keep h0 h [o0] ∧ Exa Z h o0 "java/lang/Integer" ∧ Fld Z h o0 "java/lang/Integer" "value" "I" (.int i1)) := by
  refine own_body (plainFor_of_name own_pn1) (fun m => ef_rm5 m o0 i1) ?_
  intro p e s m below meth c s₁ hx hby hlk hml hret hZ hown hnm X0 e0
  have N0 := Fr.nil n0
  refine Home.run X0 hx hby sg5_0_1 (pc' := 1) (L' := #[.val (.ref o0), .val (.int i1)]) (S' := [(.ref o0)]) rfl ?_
  refine Home.st (own_pure (own_special X0 hx hZ hown rfl (own_w36 hw) (own_w37 hw) (own_w40 hw) (own_w41 hw) (by decide) (rm6 l Z a0 hw [] o0 h0 n0 O0) e0 rfl (by rw [hml]; rfl) (a := o0) (argsL := []) (rest := []) (lenOf own_pd0 rfl) rfl rfl (W := 0) (by show 2 * 0 + _ ≤ _; exact Nat.le_of_eq rfl) (by decide) (by decide) (hb hby d5_1) (by decide) (by decide))) fun T1 X1 e1 => ?_
  refine Home.run X1 hx hby sg5_4_2 (pc' := 6) (L' := #[.val (.ref o0), .val (.int i1)]) (S' := [(.int i1), (.ref o0)]) rfl ?_
  refine Home.wr (putF X1 hx hZ hown (host := "") (Or.inl (own_w43 hw)) Via.refl e1 F_value_o0 E_o0 (Or.inr ⟨(own_w44 hw), rfl, hnm⟩) (own_w31 hw) (ty := .int) (by decide) rfl rfl rfl rfl (hb hby d5_6)) fun T2 h2 X2 e2 W2 => ?_
  have Fw2 := F_value_o0.same W2
  have O2 := O0.wr W2 g_o0
  have K2 : Keep h0 h2 ([o0] : List Addr) := Keep.wr (Keep.refl h0 ([o0] : List Addr)) W2 (Or.inl (List.mem_of_getElem? (i := 0) rfl))
  have N2 := Fr.snoc X2 N0 g_o0
  show Home T2 (mkF m 9 #[.val (.ref o0), .val (.int i1)] [])
  have q3 := (E_o0.wr W2)
  exact Home.ret0 X2 hx hlk hret (hb hby d5_9) (by show _ ; rw [show T2.heap = h2 from e2]; exact ⟨rfl, N2, K2, q3, Fw2⟩) (by decide) (by decide)
set_option maxRecDepth 65536 in
set_option maxHeartbeats 40000000 in
theorem rm1 (l : Launch) (Z : State) (a0 : Array Value) (hw : ∀ d ∈ tables_1, d.before a0 Z = true) (ws : List Jvm.Cond) (o0 : Addr) (i1 : Int32) (j2 : Int64) (u_initiator_o0 : Int32) (u_number_o0 : Int64) (h0 : Heap) (n0 : Nat) (O0 : Old Z n0 h0) (E_o0 : Exa Z h0 o0 "com/example/token_relay/tokenrelay/SnapshotId") (F_initiator_o0 : Fld Z h0 o0 "com/example/token_relay/tokenrelay/SnapshotId" "initiator" "I" (.int u_initiator_o0)) (F_number_o0 : Fld Z h0 o0 "com/example/token_relay/tokenrelay/SnapshotId" "number" "J" (.long u_number_o0)) (g_o0 : n0 ≤ o0) :
    Con l Z (⟨"com/example/token_relay/tokenrelay/SnapshotId", "<init>", "(IJ)V"⟩ : MethodName) prog_28_method_1_code 4 none ws ({ frames := 1, cells := 0, slots := 0, locals := 12 } : Room) #[(.ref o0), (.int i1), (.long j2)] h0 (fun v h L => v = none ∧ Fr n0 L ∧ Keep h0 h [o0] ∧ Exa Z h o0 "com/example/token_relay/tokenrelay/SnapshotId" ∧ Fld Z h o0 "com/example/token_relay/tokenrelay/SnapshotId" "initiator" "I" (.int i1) ∧ Fld Z h o0 "com/example/token_relay/tokenrelay/SnapshotId" "number" "J" (.long j2)) := by
  refine own_body (plainFor_of_name own_pn2) (fun m => ef_rm1 m o0 i1 j2) ?_
  intro p e s m below meth c s₁ hx hby hlk hml hret hZ hown hnm X0 e0
  have N0 := Fr.nil n0
  refine Home.run X0 hx hby sg1_0_1 (pc' := 1) (L' := #[.val (.ref o0), .val (.int i1), .val (.long j2), .second]) (S' := [(.ref o0)]) rfl ?_
  refine Home.st (initO X0 hx hZ hown (own_w6 hw) (own_w7 hw) (own_w8 hw) e0 rfl (by rw [hml]; rfl) rfl (hb hby d1_1) (by decide) (W := 0) (by show 2 * 0 + _ ≤ _; exact Nat.le_of_eq rfl) (by decide)) fun T1 X1 e1 => ?_
  refine Home.run X1 hx hby sg1_4_2 (pc' := 6) (L' := #[.val (.ref o0), .val (.int i1), .val (.long j2), .second]) (S' := [(.int i1), (.ref o0)]) rfl ?_
  refine Home.wr (putF X1 hx hZ hown (host := "") (Or.inl (own_w9 hw)) Via.refl e1 F_initiator_o0 E_o0 (Or.inr ⟨(own_w10 hw), rfl, hnm⟩) (own_w1 hw) (ty := .int) (by decide) rfl rfl rfl rfl (hb hby d1_6)) fun T2 h2 X2 e2 W2 => ?_
  have Fw2 := F_initiator_o0.same W2
  have O2 := O0.wr W2 g_o0
  have K2 : Keep h0 h2 ([o0] : List Addr) := Keep.wr (Keep.refl h0 ([o0] : List Addr)) W2 (Or.inl (List.mem_of_getElem? (i := 0) rfl))
  have N2 := Fr.snoc X2 N0 g_o0
  show Home T2 (mkF m 9 #[.val (.ref o0), .val (.int i1), .val (.long j2), .second] [])
  refine Home.run X2 hx hby sg1_9_2 (pc' := 11) (L' := #[.val (.ref o0), .val (.int i1), .val (.long j2), .second]) (S' := [(.long j2), (.ref o0)]) rfl ?_
  have q3 := (E_o0.wr W2)
  have q4 := (F_number_o0.other W2 (Or.inr (slot_ne (Or.inr (own_w12 hw)) (Or.inr (own_w10 hw)) (by decide) (t := .long) (t' := .int) (by decide) (by decide))))
  refine Home.wr (putF X2 hx hZ hown (host := "") (Or.inl (own_w11 hw)) Via.refl e2 q4 q3 (Or.inr ⟨(own_w12 hw), rfl, hnm⟩) (own_w1 hw) (ty := .long) (by decide) rfl rfl rfl rfl (hb hby d1_11)) fun T5 h5 X5 e5 W5 => ?_
  have Fw5 := q4.same W5
  have O5 := O2.wr W5 g_o0
  have K5 : Keep h0 h5 ([o0] : List Addr) := Keep.wr K2 W5 (Or.inl (List.mem_of_getElem? (i := 0) rfl))
  have N5 := Fr.snoc X5 N2 g_o0
  show Home T5 (mkF m 14 #[.val (.ref o0), .val (.int i1), .val (.long j2), .second] [])
  have q6 := (q3.wr W5)
  have q7 := (Fw2.other W5 (Or.inr (slot_ne (Or.inr (own_w10 hw)) (Or.inr (own_w12 hw)) (by decide) (t := .int) (t' := .long) (by decide) (by decide))))
  exact Home.ret0 X5 hx hlk hret (hb hby d1_14) (by show _ ; rw [show T5.heap = h5 from e5]; exact ⟨rfl, N5, K5, q6, q7, Fw5⟩) (by decide) (by decide)
set_option maxRecDepth 65536 in
set_option maxHeartbeats 40000000 in
theorem rm3 (l : Launch) (Z : State) (a0 : Array Value) (hw : ∀ d ∈ tables_1, d.before a0 Z = true) (ws : List Jvm.Cond) (i0 : Int32) (sv_cache : Addr) (cbx : Cell) (h0 : Heap) (n0 : Nat) (O0 : Old Z n0 h0) (S_high : Sta Z Z.heap "java/lang/Integer$IntegerCache" "high" "I" (.int (127 : Int32))) (S_cache : Sta Z Z.heap "java/lang/Integer$IntegerCache" "cache" "[Ljava/lang/Integer;" (.ref sv_cache)) (BX : Bxs Z sv_cache cbx "java/lang/Integer" "I" (256 : Int32) (fun j => .int (j - (128 : Int32)))) :
    Con l Z (⟨"java/lang/Integer", "valueOf", "(I)Ljava/lang/Integer;"⟩ : MethodName) jdk_33_method_22_code 1 (some (.object "java/lang/Integer")) ws ({ frames := 3, cells := 1, slots := 1, locals := 38 } : Room) #[(.int i0)] h0 (fun v h L => ∃ (bxr : Jvm.Addr), v = some (.ref bxr) ∧ Fr n0 L ∧ Keep h0 h [] ∧ Exa Z h bxr "java/lang/Integer") := by
  refine own_body (plainFor_of_name own_pn1) (fun m => ef_rm3 m i0) ?_
  intro p e s m below meth c s₁ hx hby hlk hml hret hZ hown hnm X0 e0
  have N0 := Fr.nil n0
  refine Home.run X0 hx hby sg3_0_2 (pc' := 3) (L' := #[.val (.int i0)]) (S' := [(.int (-128 : Int32)), (.int i0)]) rfl ?_
  by_cases c1 : i0 < (-128 : Int32)
  · skip
    refine Home.go (fun _ => XS.icmpYes X0.here hx rfl (pc0 := 3) (pc' := 23) rfl (hb hby d3_3) rfl (tlt c1).1 (by decide) (by decide)) ?_
    have bd2 : ¬ i0 < (-2147483648 : Int32) ∧ ¬ (-129 : Int32) < i0 := ⟨(bnd_all i0).1, (bnd_dn c1 (by decide +kernel))⟩
    refine Home.nw (newO X0 hx hZ hown (own_w30 hw) (own_w31 hw) (own_w15 hw) e0 rfl (hb hby d3_23) (by decide) (by decide)) fun T4 h4 X4 e4 E4 A4 D4 _ => ?_
    obtain ⟨b4, g4⟩ : ∃ z, z = h0.size := ⟨_, rfl⟩
    rw [← g4] at A4 D4 ⊢
    have g_b4 : n0 ≤ b4 := Nat.le_trans (Old.le O0) (Nat.le_of_eq g4.symm)
    have F_value_b4 : Fld Z h4 b4 "java/lang/Integer" "value" "I" (.int (0 : Int32)) := D4 (Or.inr (own_w44 hw)) (ty := .int) (by decide)
    have O4 := O0.ext E4
    have K4 : Keep h0 h4 ([] : List Addr) := Keep.ext (Keep.refl h0 ([] : List Addr)) E4
    refine Home.run X4 hx hby sg3_26_2 (pc' := 28) (L' := #[.val (.int i0)]) (S' := [(.int i0), (.ref b4), (.ref b4)]) rfl ?_
    refine Home.call (own_special X4 hx hZ hown rfl (own_w32 hw) (own_w33 hw) (own_w15 hw) (own_w35 hw) (by decide) (rm5 l Z a0 hw [] b4 i0 (0 : Int32) h4 n0 O4 A4 F_value_b4 g_b4) e4 rfl (by rw [hml]; rfl) (a := b4) (argsL := [(.int i0)]) (rest := [(.ref b4)]) (lenOf own_pd1 rfl) rfl rfl (W := 1) (by show 2 * 0 + _ ≤ _; exact Nat.le_of_eq rfl) (by decide) (by decide) (hb hby d3_28) (by decide) (by decide)) ?_
    rintro _ T5 L5 X5 ⟨rfl, N5q, K5q, P5_0, P5_1⟩
    have O5 := Old.keep O4 K5q (allS g_b4 all0)
    have K5 : Keep h0 T5.heap ([] : List Addr) := Keep.trans K4 K5q (allS (Or.inr (Nat.le_trans (Nat.le_refl _) (Nat.le_of_eq g4.symm))) all0)
    have N5 := Fr.app N0 N5q
    show Home T5 (mkF m 31 #[.val (.int i0)] [(.ref b4)])
    exact Home.retR X5 hx hlk hret rfl rfl (hb hby d3_31) ⟨b4, rfl, N5, K5, P5_0⟩ (by decide) (by decide)
  · skip
    refine Home.go (fun _ => XS.icmpNo X0.here hx rfl (hb hby d3_3) rfl (flt c1).1) ?_
    have bd3 : ¬ i0 < (-128 : Int32) ∧ ¬ (2147483647 : Int32) < i0 := ⟨c1, (bnd_all i0).2⟩
    refine Home.run X0 hx hby sg3_6_1 (pc' := 7) (L' := #[.val (.int i0)]) (S' := [(.int i0)]) rfl ?_
    refine Home.st (getS2 X0 hx hZ hown (host := "") (Or.inl (own_w17 hw)) Via.refl e0 (S_high.ext O0.2) rfl (hb hby d3_7)) fun T6 X6 e6 => ?_
    by_cases c7 : (127 : Int32) < i0
    · skip
      refine Home.go (fun _ => XS.icmpYes X6.here hx rfl (pc0 := 10) (pc' := 23) rfl (hb hby d3_10) rfl (tlt c7).2.2.1 (by decide) (by decide)) ?_
      have bd8 : ¬ i0 < (128 : Int32) ∧ ¬ (2147483647 : Int32) < i0 := ⟨(bnd_up c7 (by decide +kernel)), bd3.2⟩
      refine Home.nw (newO X6 hx hZ hown (own_w30 hw) (own_w31 hw) (own_w15 hw) e6 rfl (hb hby d3_23) (by decide) (by decide)) fun T10 h10 X10 e10 E10 A10 D10 _ => ?_
      obtain ⟨b10, g10⟩ : ∃ z, z = h0.size := ⟨_, rfl⟩
      rw [← g10] at A10 D10 ⊢
      have g_b10 : n0 ≤ b10 := Nat.le_trans (Old.le O0) (Nat.le_of_eq g10.symm)
      have F_value_b10 : Fld Z h10 b10 "java/lang/Integer" "value" "I" (.int (0 : Int32)) := D10 (Or.inr (own_w44 hw)) (ty := .int) (by decide)
      have O10 := O0.ext E10
      have K10 : Keep h0 h10 ([] : List Addr) := Keep.ext (Keep.refl h0 ([] : List Addr)) E10
      refine Home.run X10 hx hby sg3_26_2 (pc' := 28) (L' := #[.val (.int i0)]) (S' := [(.int i0), (.ref b10), (.ref b10)]) rfl ?_
      refine Home.call (own_special X10 hx hZ hown rfl (own_w32 hw) (own_w33 hw) (own_w15 hw) (own_w35 hw) (by decide) (rm5 l Z a0 hw [] b10 i0 (0 : Int32) h10 n0 O10 A10 F_value_b10 g_b10) e10 rfl (by rw [hml]; rfl) (a := b10) (argsL := [(.int i0)]) (rest := [(.ref b10)]) (lenOf own_pd1 rfl) rfl rfl (W := 1) (by show 2 * 0 + _ ≤ _; exact Nat.le_of_eq rfl) (by decide) (by decide) (hb hby d3_28) (by decide) (by decide)) ?_
      rintro _ T11 L11 X11 ⟨rfl, N11q, K11q, P11_0, P11_1⟩
      have O11 := Old.keep O10 K11q (allS g_b10 all0)
      have K11 : Keep h0 T11.heap ([] : List Addr) := Keep.trans K10 K11q (allS (Or.inr (Nat.le_trans (Nat.le_refl _) (Nat.le_of_eq g10.symm))) all0)
      have N11 := Fr.app N0 N11q
      show Home T11 (mkF m 31 #[.val (.int i0)] [(.ref b10)])
      exact Home.retR X11 hx hlk hret rfl rfl (hb hby d3_31) ⟨b10, rfl, N11, K11, P11_0⟩ (by decide) (by decide)
    · skip
      refine Home.go (fun _ => XS.icmpNo X6.here hx rfl (hb hby d3_10) rfl (flt c7).2.2.1) ?_
      have bd9 : ¬ i0 < (-128 : Int32) ∧ ¬ (127 : Int32) < i0 := ⟨bd3.1, c7⟩
      refine Home.st (getS2 X6 hx hZ hown (host := "") (Or.inl (own_w19 hw)) Via.refl e6 (S_cache.ext O0.2) rfl (hb hby d3_13)) fun T12 X12 e12 => ?_
      refine Home.run X12 hx hby sg3_16_3 (pc' := 21) (L' := #[.val (.int i0)]) (S' := [(.int (i0 + (128 : Int32))), (.ref sv_cache)]) rfl ?_
      have hin : ¬ ((i0 + (128 : Int32)) < 0 ∨ cbx.slots.size ≤ ((i0 + (128 : Int32))).toNatClampNeg) := own_box_in BX.2.1 c1 c7
      obtain ⟨bx, bx1, bx2, bx3⟩ := BX.2.2.2 (i0 + (128 : Int32)) hin
      refine Home.go (X12.aaload hx (j := (i0 + (128 : Int32))) (v := .ref bx) (by rw [e12]; exact (BX.ext O0.2).1.1) (State.isArrayOf_alike hZ.alike BX.1.2.1) rfl BX.1.2.2 hin bx1 rfl rfl (hb hby d3_21)) ?_
      show Home T12 (mkF m 22 #[.val (.int i0)] [(.ref bx)])
      exact Home.retR X12 hx hlk hret rfl rfl (hb hby d3_22) (by show _ ; rw [show T12.heap = h0 from e12]; exact ⟨bx, rfl, N0, (Keep.refl h0 ([] : List Addr)), (bx2.ext O0.2)⟩) (by decide) (by decide)
set_option maxRecDepth 65536 in
set_option maxHeartbeats 40000000 in
theorem rmEs (l : Launch) (Z : State) (a0 : Array Value) (hw : ∀ d ∈ tables_1, d.before a0 Z = true) (ws : List Jvm.Cond) (o0 : Addr) (h0 : Heap) (n0 : Nat) (O0 : Old Z n0 h0) :
    Con l Z (⟨"com/example/token_relay/tokenrelay/SnapshotId", "equals", "(Ljava/lang/Object;)Z"⟩ : MethodName) prog_28_method_4_code 3 (some .boolean) ws ({ frames := 0, cells := 0, slots := 0, locals := 0 } : Room) #[(.ref o0), (.ref o0)] h0 (Pur (some (.int own_eqs)) h0) := by
  refine own_body (plainFor_of_name own_pn2) (fun m => ef_rmEs m o0) ?_
  intro p e s m below meth c s₁ hx hby hlk hml hret hZ hown hnm X0 e0
  have N0 := Fr.nil n0
  refine Home.run X0 hx hby sg4_0_2 (pc' := 2) (L' := #[.val (.ref o0), .val (.ref o0), .unset]) (S' := [(.ref o0), (.ref o0)]) rfl ?_
  refine Home.go (fun _ => Jvm.RoadKit.acmp X0 hx rfl rfl rfl (pc0 := 2) (pc' := 5) (same := true) rfl (hb hby d4_2) rfl (decide_eq_true rfl) (by decide) (by decide)) ?_
  show Home s₁ (mkF m 5 #[.val (.ref o0), .val (.ref o0), .unset] [])
  refine Home.run X0 hx hby sg4_5_1 (pc' := 6) (L' := #[.val (.ref o0), .val (.ref o0), .unset]) (S' := [(.int (1 : Int32))]) rfl ?_
  exact Home.retN X0 hx hlk (t := .boolean) hret (by simp) (hb hby d4_6) ⟨congrArg some (congrArg Value.int (by first | rfl | (simp only [own_eqs, nar_i2c, nar_i2b]; done) | (simp only [own_eqs, nar_i2c, nar_i2b]; rfl) | (simp [own_eqs]; done))), rfl, e0⟩ (by decide) (by decide)
set_option maxRecDepth 65536 in
set_option maxHeartbeats 40000000 in
theorem rmEn (l : Launch) (Z : State) (a0 : Array Value) (hw : ∀ d ∈ tables_1, d.before a0 Z = true) (ws : List Jvm.Cond) (o0 : Addr) (h0 : Heap) (n0 : Nat) (O0 : Old Z n0 h0) :
    Con l Z (⟨"com/example/token_relay/tokenrelay/SnapshotId", "equals", "(Ljava/lang/Object;)Z"⟩ : MethodName) prog_28_method_4_code 3 (some .boolean) ws ({ frames := 0, cells := 0, slots := 0, locals := 0 } : Room) #[(.ref o0), .null] h0 (Pur (some (.int own_eqn)) h0) := by
  refine own_body (plainFor_of_name own_pn2) (fun m => ef_rmEn m o0) ?_
  intro p e s m below meth c s₁ hx hby hlk hml hret hZ hown hnm X0 e0
  have N0 := Fr.nil n0
  refine Home.run X0 hx hby sg4_0_2 (pc' := 2) (L' := #[.val (.ref o0), .val .null, .unset]) (S' := [.null, (.ref o0)]) rfl ?_
  refine Home.go (fun _ => Jvm.RoadKit.acmp X0 hx rfl rfl rfl (pc0 := 2) (pc' := 7) (same := false) rfl (hb hby d4_2) rfl (decide_eq_false nofun) (by decide) (by decide)) ?_
  show Home s₁ (mkF m 7 #[.val (.ref o0), .val .null, .unset] [])
  refine Home.run X0 hx hby sg4_7_1 (pc' := 8) (L' := #[.val (.ref o0), .val .null, .unset]) (S' := [.null]) rfl ?_
  refine Home.go (X0.instanceofNull hx rfl rfl (hb hby d4_8)) ?_
  refine Home.go (fun _ => XS.ifNo X0.here hx rfl (hb hby d4_11) rfl ((if0 _ _).trans (teq (by decide)).2)) ?_
  refine Home.run X0 hx hby sg4_14_1 (pc' := 15) (L' := #[.val (.ref o0), .val .null, .unset]) (S' := [(.int (0 : Int32))]) rfl ?_
  exact Home.retN X0 hx hlk (t := .boolean) hret (by simp) (hb hby d4_15) ⟨congrArg some (congrArg Value.int (by first | rfl | (simp only [own_eqn, nar_i2c, nar_i2b]; done) | (simp only [own_eqn, nar_i2c, nar_i2b]; rfl) | (simp [own_eqn]; done))), rfl, e0⟩ (by decide) (by decide)
set_option maxRecDepth 65536 in
set_option maxHeartbeats 40000000 in
theorem rmEo (l : Launch) (Z : State) (a0 : Array Value) (hw : ∀ d ∈ tables_1, d.before a0 Z = true) (ws : List Jvm.Cond) (o0 : Addr) (o1 : Addr) (w_initiator_o0 : Int32) (w_initiator_o1 : Int32) (w_number_o0 : Int64) (w_number_o1 : Int64) (h0 : Heap) (n0 : Nat) (O0 : Old Z n0 h0) (E_o1 : Exa Z h0 o1 "com/example/token_relay/tokenrelay/SnapshotId") (ne_o0_o1 : o0 ≠ o1) (F_initiator_o0 : Fld Z h0 o0 "com/example/token_relay/tokenrelay/SnapshotId" "initiator" "I" (.int w_initiator_o0)) (F_initiator_o1 : Fld Z h0 o1 "com/example/token_relay/tokenrelay/SnapshotId" "initiator" "I" (.int w_initiator_o1)) (F_number_o0 : Fld Z h0 o0 "com/example/token_relay/tokenrelay/SnapshotId" "number" "J" (.long w_number_o0)) (F_number_o1 : Fld Z h0 o1 "com/example/token_relay/tokenrelay/SnapshotId" "number" "J" (.long w_number_o1)) :
    Con l Z (⟨"com/example/token_relay/tokenrelay/SnapshotId", "equals", "(Ljava/lang/Object;)Z"⟩ : MethodName) prog_28_method_4_code 3 (some .boolean) ws ({ frames := 0, cells := 0, slots := 0, locals := 0 } : Room) #[(.ref o0), (.ref o1)] h0 (Pur (some (.int (own_eqo w_initiator_o0 w_initiator_o1 w_number_o0 w_number_o1))) h0) := by
  refine own_body (plainFor_of_name own_pn2) (fun m => ef_rmEo m o0 o1) ?_
  intro p e s m below meth c s₁ hx hby hlk hml hret hZ hown hnm X0 e0
  have N0 := Fr.nil n0
  refine Home.run X0 hx hby sg4_0_2 (pc' := 2) (L' := #[.val (.ref o0), .val (.ref o1), .unset]) (S' := [(.ref o1), (.ref o0)]) rfl ?_
  refine Home.go (fun _ => Jvm.RoadKit.acmp X0 hx rfl rfl rfl (pc0 := 2) (pc' := 7) (same := false) rfl (hb hby d4_2) rfl (decide_eq_false fun q => ne_o0_o1 (Value.ref.inj q)) (by decide) (by decide)) ?_
  show Home s₁ (mkF m 7 #[.val (.ref o0), .val (.ref o1), .unset] [])
  refine Home.run X0 hx hby sg4_7_1 (pc' := 8) (L' := #[.val (.ref o0), .val (.ref o1), .unset]) (S' := [(.ref o1)]) rfl ?_
  refine Home.st (instY X0 hx hZ hown (own_w25 hw) e0 (Ins.self E_o1) rfl rfl (hb hby d4_8)) fun T1 X1 e1 => ?_
  refine Home.go (fun _ => XS.ifYes X1.here hx rfl (pc0 := 11) (pc' := 16) rfl (hb hby d4_11) rfl ((if0 _ _).trans (feq (by decide)).2) (by decide) (by decide)) ?_
  refine Home.run X1 hx hby sg4_16_1 (pc' := 17) (L' := #[.val (.ref o0), .val (.ref o1), .unset]) (S' := [(.ref o1)]) rfl ?_
  refine Home.st (castY X1 hx hZ hown (own_w25 hw) e1 (Ins.self E_o1) rfl rfl (hb hby d4_17)) fun T2 X2 e2 => ?_
  refine Home.run X2 hx hby sg4_20_2 (pc' := 22) (L' := #[.val (.ref o0), .val (.ref o1), .val (.ref o1)]) (S' := [(.ref o0)]) rfl ?_
  refine Home.st (getF X2 hx hZ hown (host := "") (Or.inl (own_w9 hw)) Via.refl e2 F_initiator_o0 rfl rfl (hb hby d4_22)) fun T3 X3 e3 => ?_
  refine Home.run X3 hx hby sg4_25_1 (pc' := 26) (L' := #[.val (.ref o0), .val (.ref o1), .val (.ref o1)]) (S' := [(.ref o1), (.int w_initiator_o0)]) rfl ?_
  refine Home.st (getF X3 hx hZ hown (host := "") (Or.inl (own_w9 hw)) Via.refl e3 F_initiator_o1 rfl rfl (hb hby d4_26)) fun T4 X4 e4 => ?_
  show Home T4 (mkF m 29 #[.val (.ref o0), .val (.ref o1), .val (.ref o1)] [(.int w_initiator_o1), (.int w_initiator_o0)])
  suffices J9 : ∀ {T : State} (X : Stand p l e ({ frames := 0, cells := 0, slots := 0, locals := 0 } : Room) s m #[(.ref o0), (.ref o1)] below meth c T [] 0 0) (eT : T.heap = h0) (v10 : Int32) (hv10 : v10 = (if w_initiator_o0 = w_initiator_o1 then (if w_number_o0 = w_number_o1 then (1 : Int32) else (0 : Int32)) else (0 : Int32))), @Home p e below s _ _ _ T (mkF m 49 #[.val (.ref o0), .val (.ref o1), .val (.ref o1)] [(.int v10)]) by
    by_cases c5 : w_initiator_o0 = w_initiator_o1
    · skip
      refine Home.go (fun _ => XS.icmpNo X4.here hx rfl (hb hby d4_29) rfl (teq c5).2) ?_
      refine Home.run X4 hx hby sg4_32_1 (pc' := 33) (L' := #[.val (.ref o0), .val (.ref o1), .val (.ref o1)]) (S' := [(.ref o0)]) rfl ?_
      refine Home.st (getF X4 hx hZ hown (host := "") (Or.inl (own_w11 hw)) Via.refl e4 F_number_o0 rfl rfl (hb hby d4_33)) fun T6 X6 e6 => ?_
      refine Home.run X6 hx hby sg4_36_1 (pc' := 37) (L' := #[.val (.ref o0), .val (.ref o1), .val (.ref o1)]) (S' := [(.ref o1), (.long w_number_o0)]) rfl ?_
      refine Home.st (getF X6 hx hZ hown (host := "") (Or.inl (own_w11 hw)) Via.refl e6 F_number_o1 rfl rfl (hb hby d4_37)) fun T7 X7 e7 => ?_
      refine Home.run X7 hx hby sg4_40_1 (pc' := 41) (L' := #[.val (.ref o0), .val (.ref o1), .val (.ref o1)]) (S' := [(.int (lcmpW w_number_o0 w_number_o1))]) rfl ?_
      by_cases c8 : w_number_o0 = w_number_o1
      · skip
        refine Home.go (fun _ => XS.ifNo X7.here hx rfl (hb hby d4_41) rfl ((if0 _ _).trans (teq ((lw_eq _ _).mpr c8)).2)) ?_
        refine Home.run X7 hx hby sg4_44_2 (pc' := 49) (L' := #[.val (.ref o0), .val (.ref o1), .val (.ref o1)]) (S' := [(.int (1 : Int32))]) rfl ?_
        exact J9 X7 e7 _ (by simp only [if_pos c5, if_pos c8])
      · skip
        refine Home.go (fun _ => XS.ifYes X7.here hx rfl (pc0 := 41) (pc' := 48) rfl (hb hby d4_41) rfl ((if0 _ _).trans (feq (mt (lw_eq _ _).mp c8)).2) (by decide) (by decide)) ?_
        refine Home.run X7 hx hby sg4_48_1 (pc' := 49) (L' := #[.val (.ref o0), .val (.ref o1), .val (.ref o1)]) (S' := [(.int (0 : Int32))]) rfl ?_
        exact J9 X7 e7 _ (by simp only [if_pos c5, if_neg c8])
    · skip
      refine Home.go (fun _ => XS.icmpYes X4.here hx rfl (pc0 := 29) (pc' := 48) rfl (hb hby d4_29) rfl (feq c5).2 (by decide) (by decide)) ?_
      refine Home.run X4 hx hby sg4_48_1 (pc' := 49) (L' := #[.val (.ref o0), .val (.ref o1), .val (.ref o1)]) (S' := [(.int (0 : Int32))]) rfl ?_
      exact J9 X4 e4 _ (by simp only [if_neg c5])
  intro TJ9 XJ9 eJ9 v10 hv10
  have bv10 : ¬ v10 < (0 : Int32) ∧ ¬ (1 : Int32) < v10 := by rw [hv10]; (repeat' split) <;> first | exact bnd_mono (bnd_lit (1 : Int32)) (by decide +kernel) (by decide +kernel) | exact bnd_mono (bnd_lit (0 : Int32)) (by decide +kernel) (by decide +kernel)
  show Home TJ9 (mkF m 49 #[.val (.ref o0), .val (.ref o1), .val (.ref o1)] [(.int v10)])
  exact Home.retN XJ9 hx hlk (t := .boolean) hret (by simp) (hb hby d4_49) ⟨congrArg some (congrArg Value.int (by subst hv10; first | rfl | (simp only [own_eqo, nar_i2c, nar_i2b]; done) | (simp only [own_eqo, nar_i2c, nar_i2b]; rfl) | (simp [own_eqo]; done))), rfl, eJ9⟩ (by decide) (by decide)
set_option maxRecDepth 65536 in
set_option maxHeartbeats 40000000 in
theorem rmEi (l : Launch) (Z : State) (a0 : Array Value) (hw : ∀ d ∈ tables_1, d.before a0 Z = true) (ws : List Jvm.Cond) (o0 : Addr) (o1 : Addr) (h0 : Heap) (n0 : Nat) (O0 : Old Z n0 h0) (E_o0 : Exa Z h0 o0 "com/example/token_relay/tokenrelay/SnapshotId") (E_o1 : Exa Z h0 o1 "java/lang/Integer") :
    Con l Z (⟨"com/example/token_relay/tokenrelay/SnapshotId", "equals", "(Ljava/lang/Object;)Z"⟩ : MethodName) prog_28_method_4_code 3 (some .boolean) ws ({ frames := 0, cells := 0, slots := 0, locals := 0 } : Room) #[(.ref o0), (.ref o1)] h0 (Pur (some (.int own_eqi)) h0) := by
  refine own_body (plainFor_of_name own_pn2) (fun m => ef_rmEi m o0 o1) ?_
  intro p e s m below meth c s₁ hx hby hlk hml hret hZ hown hnm X0 e0
  have N0 := Fr.nil n0
  refine Home.run X0 hx hby sg4_0_2 (pc' := 2) (L' := #[.val (.ref o0), .val (.ref o1), .unset]) (S' := [(.ref o1), (.ref o0)]) rfl ?_
  have ne1 : o0 ≠ o1 := (ne_exa E_o0 E_o1 (by decide))
  refine Home.go (fun _ => Jvm.RoadKit.acmp X0 hx rfl rfl rfl (pc0 := 2) (pc' := 7) (same := false) rfl (hb hby d4_2) rfl (decide_eq_false fun q => ne1 (Value.ref.inj q)) (by decide) (by decide)) ?_
  show Home s₁ (mkF m 7 #[.val (.ref o0), .val (.ref o1), .unset] [])
  refine Home.run X0 hx hby sg4_7_1 (pc' := 8) (L' := #[.val (.ref o0), .val (.ref o1), .unset]) (S' := [(.ref o1)]) rfl ?_
  refine Home.st (instNo X0 hx hZ hown (own_w25 hw) e0 E_o1 (own_ns_no (own_w26 hw) (own_w1 hw) (NS.step (own_w26 hw) (NS.step (own_w27 hw) (own_ns_root (own_w28 hw) (own_w1 hw) (by decide)) (by decide)) (by decide)) (by decide)) rfl rfl (hb hby d4_8)) fun T2 X2 e2 => ?_
  refine Home.go (fun _ => XS.ifNo X2.here hx rfl (hb hby d4_11) rfl ((if0 _ _).trans (teq (by decide)).2)) ?_
  refine Home.run X2 hx hby sg4_14_1 (pc' := 15) (L' := #[.val (.ref o0), .val (.ref o1), .unset]) (S' := [(.int (0 : Int32))]) rfl ?_
  exact Home.retN X2 hx hlk (t := .boolean) hret (by simp) (hb hby d4_15) ⟨congrArg some (congrArg Value.int (by first | rfl | (simp only [own_eqi, nar_i2c, nar_i2b]; done) | (simp only [own_eqi, nar_i2c, nar_i2b]; rfl) | (simp [own_eqi]; done))), rfl, e2⟩ (by decide) (by decide)
theorem own_end0 (i0 : Int32) (j1 : Int64) (i2 : Int32) (j3 : Int64) (i4 : Int32) (v7 : Int32) (hv7 : v7 = (if (i4 &&& (4 : Int32)) = (0 : Int32) then i2 else i0)) (v12 : Int64) (hv12 : v12 = (if (i4 &&& (8 : Int32)) = (0 : Int32) then j3 else j1)) (v16 : Int32) (hv16 : v16 = (i4 &&& (3 : Int32))) (v26 : Int32) (hv26 : v26 = (if own_eqs = (1 : Int32) then (1 : Int32) else (0 : Int32))) (c17 : v16 = (0 : Int32)) : nar .boolean v26 = (1 : Int32) := by
  subst hv26; decide
theorem own_end1 (i0 : Int32) (j1 : Int64) (i2 : Int32) (j3 : Int64) (i4 : Int32) (v7 : Int32) (hv7 : v7 = (if (i4 &&& (4 : Int32)) = (0 : Int32) then i2 else i0)) (v12 : Int64) (hv12 : v12 = (if (i4 &&& (8 : Int32)) = (0 : Int32) then j3 else j1)) (v16 : Int32) (hv16 : v16 = (i4 &&& (3 : Int32))) (v34 : Int32) (hv34 : v34 = (if i0 = v7 then (if j1 = v12 then (1 : Int32) else (0 : Int32)) else (0 : Int32))) (r40 : Int32) (hr40 : r40 = (own_eqo i0 v7 j1 v12)) (v43 : Int32) (hv43 : v43 = (if r40 = v34 then (1 : Int32) else (0 : Int32))) (c17 : ¬ (v16 = (0 : Int32))) (c27 : v16 = (1 : Int32)) : nar .boolean v43 = (1 : Int32) := by
  subst hr40 hv34 hv43
  have q : own_eqo i0 v7 j1 v12 = (if i0 = v7 then (if j1 = v12 then (1 : Int32) else (0 : Int32)) else (0 : Int32)) := by
    show nar .boolean _ = _
    by_cases h1 : i0 = v7
    · by_cases h2 : j1 = v12
      · simp only [if_pos h1, if_pos h2]; rfl
      · simp only [if_pos h1, if_neg h2]; rfl
    · simp only [if_neg h1]; rfl
  rw [q, if_pos rfl]; rfl
theorem own_end2 (i0 : Int32) (j1 : Int64) (i2 : Int32) (j3 : Int64) (i4 : Int32) (v7 : Int32) (hv7 : v7 = (if (i4 &&& (4 : Int32)) = (0 : Int32) then i2 else i0)) (v12 : Int64) (hv12 : v12 = (if (i4 &&& (8 : Int32)) = (0 : Int32) then j3 else j1)) (v16 : Int32) (hv16 : v16 = (i4 &&& (3 : Int32))) (v55 : Int32) (hv55 : v55 = (if own_eqi = (0 : Int32) then (1 : Int32) else (0 : Int32))) (c17 : ¬ (v16 = (0 : Int32))) (c27 : ¬ (v16 = (1 : Int32))) (c44 : v16 = (2 : Int32)) : nar .boolean v55 = (1 : Int32) := by
  subst hv55; decide
theorem own_end3 (i0 : Int32) (j1 : Int64) (i2 : Int32) (j3 : Int64) (i4 : Int32) (v7 : Int32) (hv7 : v7 = (if (i4 &&& (4 : Int32)) = (0 : Int32) then i2 else i0)) (v12 : Int64) (hv12 : v12 = (if (i4 &&& (8 : Int32)) = (0 : Int32) then j3 else j1)) (v16 : Int32) (hv16 : v16 = (i4 &&& (3 : Int32))) (v61 : Int32) (hv61 : v61 = (if own_eqn = (0 : Int32) then (1 : Int32) else (0 : Int32))) (c17 : ¬ (v16 = (0 : Int32))) (c27 : ¬ (v16 = (1 : Int32))) (c44 : ¬ (v16 = (2 : Int32))) : nar .boolean v61 = (1 : Int32) := by
  subst hv61; decide
set_option maxRecDepth 65536 in
set_option maxHeartbeats 40000000 in
theorem rm0 (l : Launch) (Z : State) (a0 : Array Value) (hw : ∀ d ∈ tables_1, d.before a0 Z = true) (ws : List Jvm.Cond) (i0 : Int32) (j1 : Int64) (i2 : Int32) (j3 : Int64) (i4 : Int32) (sv_cache : Addr) (cbx : Cell) (h0 : Heap) (n0 : Nat) (O0 : Old Z n0 h0) (S_high : Sta Z Z.heap "java/lang/Integer$IntegerCache" "high" "I" (.int (127 : Int32))) (S_cache : Sta Z Z.heap "java/lang/Integer$IntegerCache" "cache" "[Ljava/lang/Integer;" (.ref sv_cache)) (BX : Bxs Z sv_cache cbx "java/lang/Integer" "I" (256 : Int32) (fun j => .int (j - (128 : Int32)))) :
    Con l Z x code maxLocals ret ws room_1 #[(.int i0), (.long j1), (.int i2), (.long j3), (.int i4)] h0 (fun v h L => v = some (.int (1 : Int32)) ∧ Fr n0 L) := by
  refine own_body (plainFor_of_name own_pn3) (fun m => ef_rm0 m i0 j1 i2 j3 i4) ?_
  intro p e s m below meth c s₁ hx hby hlk hml hret hZ hown hnm X0 e0
  have N0 := Fr.nil n0
  refine Home.nw (newO X0 hx hZ hown (own_w0 hw) (own_w1 hw) (own_w2 hw) e0 rfl (hb hby at_0) (by decide) (by decide)) fun T1 h1 X1 e1 E1 A1 D1 _ => ?_
  obtain ⟨b1, g1⟩ : ∃ z, z = h0.size := ⟨_, rfl⟩
  rw [← g1] at A1 D1 ⊢
  have g_b1 : n0 ≤ b1 := Nat.le_trans (Old.le O0) (Nat.le_of_eq g1.symm)
  have F_initiator_b1 : Fld Z h1 b1 "com/example/token_relay/tokenrelay/SnapshotId" "initiator" "I" (.int (0 : Int32)) := D1 (Or.inr (own_w10 hw)) (ty := .int) (by decide)
  have F_number_b1 : Fld Z h1 b1 "com/example/token_relay/tokenrelay/SnapshotId" "number" "J" (.long (0 : Int64)) := D1 (Or.inr (own_w12 hw)) (ty := .long) (by decide)
  have O1 := O0.ext E1
  have K1 : Keep h0 h1 ([] : List Addr) := Keep.ext (Keep.refl h0 ([] : List Addr)) E1
  show Home T1 (mkF m 3 #[.val (.int i0), .val (.long j1), .second, .val (.int i2), .val (.long j3), .second, .val (.int i4), .unset, .unset, .unset, .unset, .unset, .unset, .unset, .unset] [(.ref b1)])
  refine Home.run X1 hx hby sg0_3_3 (pc' := 6) (L' := #[.val (.int i0), .val (.long j1), .second, .val (.int i2), .val (.long j3), .second, .val (.int i4), .unset, .unset, .unset, .unset, .unset, .unset, .unset, .unset]) (S' := [(.long j1), (.int i0), (.ref b1), (.ref b1)]) rfl ?_
  refine Home.call (own_special X1 hx hZ hown rfl (own_w3 hw) (own_w4 hw) (own_w2 hw) (own_w5 hw) (by decide) (rm1 l Z a0 hw [] b1 i0 j1 (0 : Int32) (0 : Int64) h1 n0 O1 A1 F_initiator_b1 F_number_b1 g_b1) e1 rfl (by rw [hml]; rfl) (a := b1) (argsL := [(.int i0), (.long j1)]) (rest := [(.ref b1)]) (lenOf own_pd2 rfl) rfl rfl (W := 1) (by show 2 * 0 + _ ≤ _; exact Nat.le_of_eq rfl) (by decide) (by decide) (hb hby at_6) (by decide) (by decide)) ?_
  rintro _ T2 L2 X2 ⟨rfl, N2q, K2q, P2_0, P2_1, P2_2⟩
  have O2 := Old.keep O1 K2q (allS g_b1 all0)
  have K2 : Keep h0 T2.heap ([] : List Addr) := Keep.trans K1 K2q (allS (Or.inr (Nat.le_trans (Nat.le_refl _) (Nat.le_of_eq g1.symm))) all0)
  have N2 := Fr.app N0 N2q
  refine Home.run X2 hx hby sg0_9_4 (pc' := 15) (L' := #[.val (.int i0), .val (.long j1), .second, .val (.int i2), .val (.long j3), .second, .val (.int i4), .val (.ref b1), .unset, .unset, .unset, .unset, .unset, .unset, .unset]) (S' := [(.int (i4 &&& (4 : Int32)))]) rfl ?_
  suffices J6 : ∀ {T : State} {lc : List Loc} (X : Stand p l e room_1 s m #[(.int i0), (.long j1), (.int i2), (.long j3), (.int i4)] below meth c T lc 1 2) (N : Fr n0 lc) (eT : T.heap = T2.heap) (v7 : Int32) (hv7 : v7 = (if (i4 &&& (4 : Int32)) = (0 : Int32) then i2 else i0)), @Home p e below s _ _ _ T (mkF m 23 #[.val (.int i0), .val (.long j1), .second, .val (.int i2), .val (.long j3), .second, .val (.int i4), .val (.ref b1), .unset, .unset, .unset, .unset, .unset, .unset, .unset] [(.int v7)]) by
    by_cases c3 : (i4 &&& (4 : Int32)) = (0 : Int32)
    · skip
      refine Home.go (fun _ => XS.ifYes X2.here hx rfl (pc0 := 15) (pc' := 22) rfl (hb hby at_15) rfl ((if0 _ _).trans (teq c3).1) (by decide) (by decide)) ?_
      have bd4 : ¬ (i4 &&& (4 : Int32)) < (0 : Int32) ∧ ¬ (0 : Int32) < (i4 &&& (4 : Int32)) := ⟨(bnd_eql c3), (bnd_eqr c3)⟩
      refine Home.run X2 hx hby sg0_22_1 (pc' := 23) (L' := #[.val (.int i0), .val (.long j1), .second, .val (.int i2), .val (.long j3), .second, .val (.int i4), .val (.ref b1), .unset, .unset, .unset, .unset, .unset, .unset, .unset]) (S' := [(.int i2)]) rfl ?_
      exact J6 X2 N2 rfl _ (by simp only [if_pos c3])
    · skip
      refine Home.go (fun _ => XS.ifNo X2.here hx rfl (hb hby at_15) rfl ((if0 _ _).trans (feq c3).1)) ?_
      have bd5 : ¬ (i4 &&& (4 : Int32)) < (1 : Int32) ∧ ¬ (4 : Int32) < (i4 &&& (4 : Int32)) := ⟨(bnd_nel (bnd_and i4 (4 : Int32) (by decide)).1 c3 (by decide +kernel)), (bnd_and i4 (4 : Int32) (by decide)).2⟩
      refine Home.run X2 hx hby sg0_18_2 (pc' := 23) (L' := #[.val (.int i0), .val (.long j1), .second, .val (.int i2), .val (.long j3), .second, .val (.int i4), .val (.ref b1), .unset, .unset, .unset, .unset, .unset, .unset, .unset]) (S' := [(.int i0)]) rfl ?_
      exact J6 X2 N2 rfl _ (by simp only [if_neg c3])
  intro TJ6 lcJ6 XJ6 NJ6 eJ6 v7 hv7
  show Home TJ6 (mkF m 23 #[.val (.int i0), .val (.long j1), .second, .val (.int i2), .val (.long j3), .second, .val (.int i4), .val (.ref b1), .unset, .unset, .unset, .unset, .unset, .unset, .unset] [(.int v7)])
  refine Home.run XJ6 hx hby sg0_23_4 (pc' := 30) (L' := #[.val (.int i0), .val (.long j1), .second, .val (.int i2), .val (.long j3), .second, .val (.int i4), .val (.ref b1), .val (.int v7), .unset, .unset, .unset, .unset, .unset, .unset]) (S' := [(.int (i4 &&& (8 : Int32)))]) rfl ?_
  suffices J11 : ∀ {T : State} {lc : List Loc} (X : Stand p l e room_1 s m #[(.int i0), (.long j1), (.int i2), (.long j3), (.int i4)] below meth c T lc 1 2) (N : Fr n0 lc) (eT : T.heap = T2.heap) (v12 : Int64) (hv12 : v12 = (if (i4 &&& (8 : Int32)) = (0 : Int32) then j3 else j1)), @Home p e below s _ _ _ T (mkF m 39 #[.val (.int i0), .val (.long j1), .second, .val (.int i2), .val (.long j3), .second, .val (.int i4), .val (.ref b1), .val (.int v7), .unset, .unset, .unset, .unset, .unset, .unset] [(.long v12)]) by
    by_cases c8 : (i4 &&& (8 : Int32)) = (0 : Int32)
    · skip
      refine Home.go (fun _ => XS.ifYes XJ6.here hx rfl (pc0 := 30) (pc' := 37) rfl (hb hby at_30) rfl ((if0 _ _).trans (teq c8).1) (by decide) (by decide)) ?_
      have bd9 : ¬ (i4 &&& (8 : Int32)) < (0 : Int32) ∧ ¬ (0 : Int32) < (i4 &&& (8 : Int32)) := ⟨(bnd_eql c8), (bnd_eqr c8)⟩
      refine Home.run XJ6 hx hby sg0_37_1 (pc' := 39) (L' := #[.val (.int i0), .val (.long j1), .second, .val (.int i2), .val (.long j3), .second, .val (.int i4), .val (.ref b1), .val (.int v7), .unset, .unset, .unset, .unset, .unset, .unset]) (S' := [(.long j3)]) rfl ?_
      exact J11 XJ6 NJ6 eJ6 _ (by simp only [if_pos c8])
    · skip
      refine Home.go (fun _ => XS.ifNo XJ6.here hx rfl (hb hby at_30) rfl ((if0 _ _).trans (feq c8).1)) ?_
      have bd10 : ¬ (i4 &&& (8 : Int32)) < (1 : Int32) ∧ ¬ (8 : Int32) < (i4 &&& (8 : Int32)) := ⟨(bnd_nel (bnd_and i4 (8 : Int32) (by decide)).1 c8 (by decide +kernel)), (bnd_and i4 (8 : Int32) (by decide)).2⟩
      refine Home.run XJ6 hx hby sg0_33_2 (pc' := 39) (L' := #[.val (.int i0), .val (.long j1), .second, .val (.int i2), .val (.long j3), .second, .val (.int i4), .val (.ref b1), .val (.int v7), .unset, .unset, .unset, .unset, .unset, .unset]) (S' := [(.long j1)]) rfl ?_
      exact J11 XJ6 NJ6 eJ6 _ (by simp only [if_neg c8])
  intro TJ11 lcJ11 XJ11 NJ11 eJ11 v12 hv12
  show Home TJ11 (mkF m 39 #[.val (.int i0), .val (.long j1), .second, .val (.int i2), .val (.long j3), .second, .val (.int i4), .val (.ref b1), .val (.int v7), .unset, .unset, .unset, .unset, .unset, .unset] [(.long v12)])
  refine Home.run XJ11 hx hby sg0_39_1 (pc' := 41) (L' := #[.val (.int i0), .val (.long j1), .second, .val (.int i2), .val (.long j3), .second, .val (.int i4), .val (.ref b1), .val (.int v7), .val (.long v12), .second, .unset, .unset, .unset, .unset]) (S' := []) rfl ?_
  refine Home.nw (newO XJ11 hx hZ hown (own_w0 hw) (own_w1 hw) (own_w2 hw) eJ11 rfl (hb hby at_41) (by decide) (by decide)) fun T13 h13 X13 e13 E13 A13 D13 _ => ?_
  obtain ⟨b13, g13⟩ : ∃ z, z = T2.heap.size := ⟨_, rfl⟩
  rw [← g13] at A13 D13 ⊢
  have g_b13 : n0 ≤ b13 := Nat.le_trans (Old.le O2) (Nat.le_of_eq g13.symm)
  have F_initiator_b13 : Fld Z h13 b13 "com/example/token_relay/tokenrelay/SnapshotId" "initiator" "I" (.int (0 : Int32)) := D13 (Or.inr (own_w10 hw)) (ty := .int) (by decide)
  have F_number_b13 : Fld Z h13 b13 "com/example/token_relay/tokenrelay/SnapshotId" "number" "J" (.long (0 : Int64)) := D13 (Or.inr (own_w12 hw)) (ty := .long) (by decide)
  have O13 := O2.ext E13
  have K13 : Keep h0 h13 ([] : List Addr) := Keep.ext K2 E13
  show Home T13 (mkF m 44 #[.val (.int i0), .val (.long j1), .second, .val (.int i2), .val (.long j3), .second, .val (.int i4), .val (.ref b1), .val (.int v7), .val (.long v12), .second, .unset, .unset, .unset, .unset] [(.ref b13)])
  refine Home.run X13 hx hby sg0_44_3 (pc' := 49) (L' := #[.val (.int i0), .val (.long j1), .second, .val (.int i2), .val (.long j3), .second, .val (.int i4), .val (.ref b1), .val (.int v7), .val (.long v12), .second, .unset, .unset, .unset, .unset]) (S' := [(.long v12), (.int v7), (.ref b13), (.ref b13)]) rfl ?_
  refine Home.call (own_special X13 hx hZ hown rfl (own_w3 hw) (own_w4 hw) (own_w2 hw) (own_w5 hw) (by decide) (rm1 l Z a0 hw [] b13 v7 v12 (0 : Int32) (0 : Int64) h13 n0 O13 A13 F_initiator_b13 F_number_b13 g_b13) e13 rfl (by rw [hml]; rfl) (a := b13) (argsL := [(.int v7), (.long v12)]) (rest := [(.ref b13)]) (lenOf own_pd2 rfl) rfl rfl (W := 1) (by show 2 * 0 + _ ≤ _; exact Nat.le_of_eq rfl) (by decide) (by decide) (hb hby at_49) (by decide) (by decide)) ?_
  rintro _ T14 L14 X14 ⟨rfl, N14q, K14q, P14_0, P14_1, P14_2⟩
  have le15 : h0.size ≤ T2.heap.size := Nat.le_trans E1.1 K2q.1
  have O14 := Old.keep O13 K14q (allS g_b13 all0)
  have K14 : Keep h0 T14.heap ([] : List Addr) := Keep.trans K13 K14q (allS (Or.inr (Nat.le_trans le15 (Nat.le_of_eq g13.symm))) all0)
  have N14 := Fr.app NJ11 N14q
  refine Home.run X14 hx hby sg0_52_5 (pc' := 60) (L' := #[.val (.int i0), .val (.long j1), .second, .val (.int i2), .val (.long j3), .second, .val (.int i4), .val (.ref b1), .val (.int v7), .val (.long v12), .second, .val (.ref b13), .val (.int (i4 &&& (3 : Int32))), .unset, .unset]) (S' := []) rfl ?_
  obtain ⟨v16, hv16⟩ : ∃ z, z = (i4 &&& (3 : Int32)) := ⟨_, rfl⟩
  rw [← hv16]
  have bv16 : ¬ v16 < (0 : Int32) ∧ ¬ (3 : Int32) < v16 := by rw [hv16]; exact (bnd_and i4 (3 : Int32) (by decide))
  refine Home.run X14 hx hby sg0_60_1 (pc' := 62) (L' := #[.val (.int i0), .val (.long j1), .second, .val (.int i2), .val (.long j3), .second, .val (.int i4), .val (.ref b1), .val (.int v7), .val (.long v12), .second, .val (.ref b13), .val (.int v16), .unset, .unset]) (S' := [(.int v16)]) rfl ?_
  by_cases c17 : v16 = (0 : Int32)
  · skip
    refine Home.go (fun _ => XS.ifNo X14.here hx rfl (hb hby at_62) rfl ((if0 _ _).trans (teq c17).2)) ?_
    have bd18 : ¬ v16 < (0 : Int32) ∧ ¬ (0 : Int32) < v16 := ⟨(bnd_eql c17), (bnd_eqr c17)⟩
    have fx19 : v16 = (0 : Int32) := bnd_fix bd18
    try rw [fx19]
    show Home T14 (mkF m 65 #[.val (.int i0), .val (.long j1), .second, .val (.int i2), .val (.long j3), .second, .val (.int i4), .val (.ref b1), .val (.int v7), .val (.long v12), .second, .val (.ref b13), .val (.int (0 : Int32)), .unset, .unset] [])
    refine Home.run X14 hx hby sg0_65_7 (pc' := 136) (L' := #[.val (.int i0), .val (.long j1), .second, .val (.int i2), .val (.long j3), .second, .val (.int i4), .val (.ref b1), .val (.int v7), .val (.long v12), .second, .val (.ref b13), .val (.int (0 : Int32)), .val (.ref b1), .val (.int (1 : Int32))]) (S' := [(.ref b1), (.ref b1)]) rfl ?_
    have q21 := ((P2_0.ext E13).keep K14q)
    refine Home.st (own_pure (own_virtual X14 hx hZ hown (own_w20 hw) (own_w21 hw) (notFace_of_selects (args := #[]) (mvT hZ (own_w23 hw))) (own_w23 hw) (own_w22 hw) (own_w2 hw) (own_w24 hw) (by decide) (rmEs l Z a0 hw [] b1 T14.heap n0 O14) rfl q21 rfl (by rw [hml]; rfl) (argsL := [(.ref b1)]) (rest := []) (lenOf own_pd4 rfl) rfl rfl (W := 0) (by show 2 * 0 + _ ≤ _; exact Nat.le_of_eq rfl) (by decide) (by decide) (hb hby at_136) (by decide) (by decide))) fun T22 X22 e22 => ?_
    refine Home.run X22 hx hby sg0_139_1 (pc' := 141) (L' := #[.val (.int i0), .val (.long j1), .second, .val (.int i2), .val (.long j3), .second, .val (.int i4), .val (.ref b1), .val (.int v7), .val (.long v12), .second, .val (.ref b13), .val (.int (0 : Int32)), .val (.ref b1), .val (.int (1 : Int32))]) (S' := [(.int (1 : Int32)), (.int own_eqs)]) rfl ?_
    suffices J25 : ∀ {T : State} {lc : List Loc} (X : Stand p l e room_1 s m #[(.int i0), (.long j1), (.int i2), (.long j3), (.int i4)] below meth c T lc 2 4) (N : Fr n0 lc) (eT : T.heap = T14.heap) (v26 : Int32) (hv26 : v26 = (if own_eqs = (1 : Int32) then (1 : Int32) else (0 : Int32))), @Home p e below s _ _ _ T (mkF m 149 #[.val (.int i0), .val (.long j1), .second, .val (.int i2), .val (.long j3), .second, .val (.int i4), .val (.ref b1), .val (.int v7), .val (.long v12), .second, .val (.ref b13), .val (.int (0 : Int32)), .val (.ref b1), .val (.int (1 : Int32))] [(.int v26)]) by
      by_cases c23 : own_eqs = (1 : Int32)
      · skip
        refine Home.go (fun _ => XS.icmpNo X22.here hx rfl (hb hby at_141) rfl (teq c23).2) ?_
        have bd24 : ¬ own_eqs < (1 : Int32) ∧ ¬ (1 : Int32) < own_eqs := ⟨(bnd_eql c23), (bnd_eqr c23)⟩
        refine Home.run X22 hx hby sg0_144_2 (pc' := 149) (L' := #[.val (.int i0), .val (.long j1), .second, .val (.int i2), .val (.long j3), .second, .val (.int i4), .val (.ref b1), .val (.int v7), .val (.long v12), .second, .val (.ref b13), .val (.int (0 : Int32)), .val (.ref b1), .val (.int (1 : Int32))]) (S' := [(.int (1 : Int32))]) rfl ?_
        exact J25 X22 N14 e22 _ (by simp only [if_pos c23])
      · skip
        refine Home.go (fun _ => XS.icmpYes X22.here hx rfl (pc0 := 141) (pc' := 148) rfl (hb hby at_141) rfl (feq c23).2 (by decide) (by decide)) ?_
        refine Home.run X22 hx hby sg0_148_1 (pc' := 149) (L' := #[.val (.int i0), .val (.long j1), .second, .val (.int i2), .val (.long j3), .second, .val (.int i4), .val (.ref b1), .val (.int v7), .val (.long v12), .second, .val (.ref b13), .val (.int (0 : Int32)), .val (.ref b1), .val (.int (1 : Int32))]) (S' := [(.int (0 : Int32))]) rfl ?_
        exact J25 X22 N14 e22 _ (by simp only [if_neg c23])
    intro TJ25 lcJ25 XJ25 NJ25 eJ25 v26 hv26
    have bv26 : ¬ v26 < (0 : Int32) ∧ ¬ (1 : Int32) < v26 := by rw [hv26]; (repeat' split) <;> first | exact bnd_mono (bnd_lit (1 : Int32)) (by decide +kernel) (by decide +kernel) | exact bnd_mono (bnd_lit (0 : Int32)) (by decide +kernel) (by decide +kernel)
    show Home TJ25 (mkF m 149 #[.val (.int i0), .val (.long j1), .second, .val (.int i2), .val (.long j3), .second, .val (.int i4), .val (.ref b1), .val (.int v7), .val (.long v12), .second, .val (.ref b13), .val (.int (0 : Int32)), .val (.ref b1), .val (.int (1 : Int32))] [(.int v26)])
    exact Home.retN XJ25 hx hlk (t := .boolean) hret (by simp) (hb hby at_149) ⟨congrArg some (congrArg Value.int (own_end0 i0 j1 i2 j3 i4 v7 hv7 v12 hv12 v16 hv16 v26 hv26 c17)), NJ25⟩ (by decide) (by decide)
  · skip
    refine Home.go (fun _ => XS.ifYes X14.here hx rfl (pc0 := 62) (pc' := 75) rfl (hb hby at_62) rfl ((if0 _ _).trans (feq c17).2) (by decide) (by decide)) ?_
    have bd20 : ¬ v16 < (1 : Int32) ∧ ¬ (3 : Int32) < v16 := ⟨(bnd_nel bv16.1 c17 (by decide +kernel)), bv16.2⟩
    refine Home.run X14 hx hby sg0_75_2 (pc' := 78) (L' := #[.val (.int i0), .val (.long j1), .second, .val (.int i2), .val (.long j3), .second, .val (.int i4), .val (.ref b1), .val (.int v7), .val (.long v12), .second, .val (.ref b13), .val (.int v16), .unset, .unset]) (S' := [(.int (1 : Int32)), (.int v16)]) rfl ?_
    by_cases c27 : v16 = (1 : Int32)
    · skip
      refine Home.go (fun _ => XS.icmpNo X14.here hx rfl (hb hby at_78) rfl (teq c27).2) ?_
      have bd28 : ¬ v16 < (1 : Int32) ∧ ¬ (1 : Int32) < v16 := ⟨(bnd_eql c27), (bnd_eqr c27)⟩
      have fx29 : v16 = (1 : Int32) := bnd_fix bd28
      try rw [fx29]
      show Home T14 (mkF m 81 #[.val (.int i0), .val (.long j1), .second, .val (.int i2), .val (.long j3), .second, .val (.int i4), .val (.ref b1), .val (.int v7), .val (.long v12), .second, .val (.ref b13), .val (.int (1 : Int32)), .unset, .unset] [])
      refine Home.run X14 hx hby sg0_81_4 (pc' := 88) (L' := #[.val (.int i0), .val (.long j1), .second, .val (.int i2), .val (.long j3), .second, .val (.int i4), .val (.ref b1), .val (.int v7), .val (.long v12), .second, .val (.ref b13), .val (.int (1 : Int32)), .val (.ref b13), .unset]) (S' := [(.int v7), (.int i0)]) rfl ?_
      suffices J33 : ∀ {T : State} {lc : List Loc} (X : Stand p l e room_1 s m #[(.int i0), (.long j1), (.int i2), (.long j3), (.int i4)] below meth c T lc 2 4) (N : Fr n0 lc) (eT : T.heap = T14.heap) (v34 : Int32) (hv34 : v34 = (if i0 = v7 then (if j1 = v12 then (1 : Int32) else (0 : Int32)) else (0 : Int32))), @Home p e below s _ _ _ T (mkF m 103 #[.val (.int i0), .val (.long j1), .second, .val (.int i2), .val (.long j3), .second, .val (.int i4), .val (.ref b1), .val (.int v7), .val (.long v12), .second, .val (.ref b13), .val (.int (1 : Int32)), .val (.ref b13), .unset] [(.int v34)]) by
        by_cases c31 : i0 = v7
        · skip
          refine Home.go (fun _ => XS.icmpNo X14.here hx rfl (hb hby at_88) rfl (teq c31).2) ?_
          refine Home.run X14 hx hby sg0_91_3 (pc' := 95) (L' := #[.val (.int i0), .val (.long j1), .second, .val (.int i2), .val (.long j3), .second, .val (.int i4), .val (.ref b1), .val (.int v7), .val (.long v12), .second, .val (.ref b13), .val (.int (1 : Int32)), .val (.ref b13), .unset]) (S' := [(.int (lcmpW j1 v12))]) rfl ?_
          by_cases c32 : j1 = v12
          · skip
            refine Home.go (fun _ => XS.ifNo X14.here hx rfl (hb hby at_95) rfl ((if0 _ _).trans (teq ((lw_eq _ _).mpr c32)).2)) ?_
            refine Home.run X14 hx hby sg0_98_2 (pc' := 103) (L' := #[.val (.int i0), .val (.long j1), .second, .val (.int i2), .val (.long j3), .second, .val (.int i4), .val (.ref b1), .val (.int v7), .val (.long v12), .second, .val (.ref b13), .val (.int (1 : Int32)), .val (.ref b13), .unset]) (S' := [(.int (1 : Int32))]) rfl ?_
            exact J33 X14 N14 rfl _ (by simp only [if_pos c31, if_pos c32])
          · skip
            refine Home.go (fun _ => XS.ifYes X14.here hx rfl (pc0 := 95) (pc' := 102) rfl (hb hby at_95) rfl ((if0 _ _).trans (feq (mt (lw_eq _ _).mp c32)).2) (by decide) (by decide)) ?_
            refine Home.run X14 hx hby sg0_102_1 (pc' := 103) (L' := #[.val (.int i0), .val (.long j1), .second, .val (.int i2), .val (.long j3), .second, .val (.int i4), .val (.ref b1), .val (.int v7), .val (.long v12), .second, .val (.ref b13), .val (.int (1 : Int32)), .val (.ref b13), .unset]) (S' := [(.int (0 : Int32))]) rfl ?_
            exact J33 X14 N14 rfl _ (by simp only [if_pos c31, if_neg c32])
        · skip
          refine Home.go (fun _ => XS.icmpYes X14.here hx rfl (pc0 := 88) (pc' := 102) rfl (hb hby at_88) rfl (feq c31).2 (by decide) (by decide)) ?_
          refine Home.run X14 hx hby sg0_102_1 (pc' := 103) (L' := #[.val (.int i0), .val (.long j1), .second, .val (.int i2), .val (.long j3), .second, .val (.int i4), .val (.ref b1), .val (.int v7), .val (.long v12), .second, .val (.ref b13), .val (.int (1 : Int32)), .val (.ref b13), .unset]) (S' := [(.int (0 : Int32))]) rfl ?_
          exact J33 X14 N14 rfl _ (by simp only [if_neg c31])
      intro TJ33 lcJ33 XJ33 NJ33 eJ33 v34 hv34
      have bv34 : ¬ v34 < (0 : Int32) ∧ ¬ (1 : Int32) < v34 := by rw [hv34]; (repeat' split) <;> first | exact bnd_mono (bnd_lit (1 : Int32)) (by decide +kernel) (by decide +kernel) | exact bnd_mono (bnd_lit (0 : Int32)) (by decide +kernel) (by decide +kernel)
      show Home TJ33 (mkF m 103 #[.val (.int i0), .val (.long j1), .second, .val (.int i2), .val (.long j3), .second, .val (.int i4), .val (.ref b1), .val (.int v7), .val (.long v12), .second, .val (.ref b13), .val (.int (1 : Int32)), .val (.ref b13), .unset] [(.int v34)])
      refine Home.run XJ33 hx hby sg0_103_4 (pc' := 136) (L' := #[.val (.int i0), .val (.long j1), .second, .val (.int i2), .val (.long j3), .second, .val (.int i4), .val (.ref b1), .val (.int v7), .val (.long v12), .second, .val (.ref b13), .val (.int (1 : Int32)), .val (.ref b13), .val (.int v34)]) (S' := [(.ref b13), (.ref b1)]) rfl ?_
      have q35 := ((P2_0.ext E13).keep K14q)
      have ne36 : b1 ≠ b13 := (Nat.ne_of_lt (Nat.lt_of_lt_of_le A1.lt (Nat.le_trans K2q.1 (Nat.le_of_eq g13.symm))))
      have q37 := ((P2_1.ext E13).keep K14q (ninS ne36 nin0))
      have q38 := ((P2_2.ext E13).keep K14q (ninS ne36 nin0))
      refine Home.st (own_pure (own_virtual XJ33 hx hZ hown (own_w20 hw) (own_w21 hw) (notFace_of_selects (args := #[]) (mvT hZ (own_w23 hw))) (own_w23 hw) (own_w22 hw) (own_w2 hw) (own_w24 hw) (by decide) (rmEo l Z a0 hw [] b1 b13 i0 v7 j1 v12 T14.heap n0 O14 P14_0 ne36 q37 P14_1 q38 P14_2) eJ33 q35 rfl (by rw [hml]; rfl) (argsL := [(.ref b13)]) (rest := []) (lenOf own_pd4 rfl) rfl rfl (W := 0) (by show 2 * 0 + _ ≤ _; exact Nat.le_of_eq rfl) (by decide) (by decide) (hb hby at_136) (by decide) (by decide))) fun T39 X39 e39 => ?_
      show Home T39 (mkF m 139 #[.val (.int i0), .val (.long j1), .second, .val (.int i2), .val (.long j3), .second, .val (.int i4), .val (.ref b1), .val (.int v7), .val (.long v12), .second, .val (.ref b13), .val (.int (1 : Int32)), .val (.ref b13), .val (.int v34)] [(.int (own_eqo i0 v7 j1 v12))])
      obtain ⟨r40, hr40⟩ : ∃ z, z = (own_eqo i0 v7 j1 v12) := ⟨_, rfl⟩
      rw [← hr40]
      refine Home.run X39 hx hby sg0_139_1 (pc' := 141) (L' := #[.val (.int i0), .val (.long j1), .second, .val (.int i2), .val (.long j3), .second, .val (.int i4), .val (.ref b1), .val (.int v7), .val (.long v12), .second, .val (.ref b13), .val (.int (1 : Int32)), .val (.ref b13), .val (.int v34)]) (S' := [(.int v34), (.int r40)]) rfl ?_
      suffices J42 : ∀ {T : State} {lc : List Loc} (X : Stand p l e room_1 s m #[(.int i0), (.long j1), (.int i2), (.long j3), (.int i4)] below meth c T lc 2 4) (N : Fr n0 lc) (eT : T.heap = T14.heap) (v43 : Int32) (hv43 : v43 = (if r40 = v34 then (1 : Int32) else (0 : Int32))), @Home p e below s _ _ _ T (mkF m 149 #[.val (.int i0), .val (.long j1), .second, .val (.int i2), .val (.long j3), .second, .val (.int i4), .val (.ref b1), .val (.int v7), .val (.long v12), .second, .val (.ref b13), .val (.int (1 : Int32)), .val (.ref b13), .val (.int v34)] [(.int v43)]) by
        by_cases c41 : r40 = v34
        · skip
          refine Home.go (fun _ => XS.icmpNo X39.here hx rfl (hb hby at_141) rfl (teq c41).2) ?_
          refine Home.run X39 hx hby sg0_144_2 (pc' := 149) (L' := #[.val (.int i0), .val (.long j1), .second, .val (.int i2), .val (.long j3), .second, .val (.int i4), .val (.ref b1), .val (.int v7), .val (.long v12), .second, .val (.ref b13), .val (.int (1 : Int32)), .val (.ref b13), .val (.int v34)]) (S' := [(.int (1 : Int32))]) rfl ?_
          exact J42 X39 NJ33 e39 _ (by simp only [if_pos c41])
        · skip
          refine Home.go (fun _ => XS.icmpYes X39.here hx rfl (pc0 := 141) (pc' := 148) rfl (hb hby at_141) rfl (feq c41).2 (by decide) (by decide)) ?_
          refine Home.run X39 hx hby sg0_148_1 (pc' := 149) (L' := #[.val (.int i0), .val (.long j1), .second, .val (.int i2), .val (.long j3), .second, .val (.int i4), .val (.ref b1), .val (.int v7), .val (.long v12), .second, .val (.ref b13), .val (.int (1 : Int32)), .val (.ref b13), .val (.int v34)]) (S' := [(.int (0 : Int32))]) rfl ?_
          exact J42 X39 NJ33 e39 _ (by simp only [if_neg c41])
      intro TJ42 lcJ42 XJ42 NJ42 eJ42 v43 hv43
      have bv43 : ¬ v43 < (0 : Int32) ∧ ¬ (1 : Int32) < v43 := by rw [hv43]; (repeat' split) <;> first | exact bnd_mono (bnd_lit (1 : Int32)) (by decide +kernel) (by decide +kernel) | exact bnd_mono (bnd_lit (0 : Int32)) (by decide +kernel) (by decide +kernel)
      show Home TJ42 (mkF m 149 #[.val (.int i0), .val (.long j1), .second, .val (.int i2), .val (.long j3), .second, .val (.int i4), .val (.ref b1), .val (.int v7), .val (.long v12), .second, .val (.ref b13), .val (.int (1 : Int32)), .val (.ref b13), .val (.int v34)] [(.int v43)])
      exact Home.retN XJ42 hx hlk (t := .boolean) hret (by simp) (hb hby at_149) ⟨congrArg some (congrArg Value.int (own_end1 i0 j1 i2 j3 i4 v7 hv7 v12 hv12 v16 hv16 v34 hv34 r40 hr40 v43 hv43 c17 c27)), NJ42⟩ (by decide) (by decide)
    · skip
      refine Home.go (fun _ => XS.icmpYes X14.here hx rfl (pc0 := 78) (pc' := 108) rfl (hb hby at_78) rfl (feq c27).2 (by decide) (by decide)) ?_
      have bd30 : ¬ v16 < (2 : Int32) ∧ ¬ (3 : Int32) < v16 := ⟨(bnd_nel bd20.1 c27 (by decide +kernel)), bd20.2⟩
      refine Home.run X14 hx hby sg0_108_2 (pc' := 111) (L' := #[.val (.int i0), .val (.long j1), .second, .val (.int i2), .val (.long j3), .second, .val (.int i4), .val (.ref b1), .val (.int v7), .val (.long v12), .second, .val (.ref b13), .val (.int v16), .unset, .unset]) (S' := [(.int (2 : Int32)), (.int v16)]) rfl ?_
      by_cases c44 : v16 = (2 : Int32)
      · skip
        refine Home.go (fun _ => XS.icmpNo X14.here hx rfl (hb hby at_111) rfl (teq c44).2) ?_
        have bd45 : ¬ v16 < (2 : Int32) ∧ ¬ (2 : Int32) < v16 := ⟨(bnd_eql c44), (bnd_eqr c44)⟩
        have fx46 : v16 = (2 : Int32) := bnd_fix bd45
        try rw [fx46]
        show Home T14 (mkF m 114 #[.val (.int i0), .val (.long j1), .second, .val (.int i2), .val (.long j3), .second, .val (.int i4), .val (.ref b1), .val (.int v7), .val (.long v12), .second, .val (.ref b13), .val (.int (2 : Int32)), .unset, .unset] [])
        refine Home.run X14 hx hby sg0_114_1 (pc' := 115) (L' := #[.val (.int i0), .val (.long j1), .second, .val (.int i2), .val (.long j3), .second, .val (.int i4), .val (.ref b1), .val (.int v7), .val (.long v12), .second, .val (.ref b13), .val (.int (2 : Int32)), .unset, .unset]) (S' := [(.int i0)]) rfl ?_
        refine Home.call (own_static X14 hx hZ hown (own_w13 hw) (own_w14 hw) (own_w15 hw) (own_w16 hw) (by decide) (rm3 l Z a0 hw [] i0 sv_cache cbx T14.heap n0 O14 S_high S_cache BX) rfl rfl (by rw [hml]; rfl) (argsL := [(.int i0)]) (rest := []) (lenOf own_pd3 rfl) rfl rfl (W := 0) (by show 2 * 0 + _ ≤ _; exact Nat.le_of_eq rfl) (by decide) (by decide) (hb hby at_115) (by decide) (by decide)) ?_
        rintro _ T49 L49 X49 ⟨bxr_49, rfl, N49q, K49q, P49_0⟩
        have O49 := Old.keep O14 K49q all0
        have K49 : Keep h0 T49.heap ([] : List Addr) := Keep.trans K14 K49q all0
        have N49 := Fr.app N14 N49q
        refine Home.run X49 hx hby sg0_118_6 (pc' := 136) (L' := #[.val (.int i0), .val (.long j1), .second, .val (.int i2), .val (.long j3), .second, .val (.int i4), .val (.ref b1), .val (.int v7), .val (.long v12), .second, .val (.ref b13), .val (.int (2 : Int32)), .val (.ref bxr_49), .val (.int (0 : Int32))]) (S' := [(.ref bxr_49), (.ref b1)]) rfl ?_
        have q50 := (((P2_0.ext E13).keep K14q).keep K49q)
        refine Home.st (own_pure (own_virtual X49 hx hZ hown (own_w20 hw) (own_w21 hw) (notFace_of_selects (args := #[]) (mvT hZ (own_w23 hw))) (own_w23 hw) (own_w22 hw) (own_w2 hw) (own_w24 hw) (by decide) (rmEi l Z a0 hw [] b1 bxr_49 T49.heap n0 O49 q50 P49_0) rfl q50 rfl (by rw [hml]; rfl) (argsL := [(.ref bxr_49)]) (rest := []) (lenOf own_pd4 rfl) rfl rfl (W := 0) (by show 2 * 0 + _ ≤ _; exact Nat.le_of_eq rfl) (by decide) (by decide) (hb hby at_136) (by decide) (by decide))) fun T51 X51 e51 => ?_
        show Home T51 (mkF m 139 #[.val (.int i0), .val (.long j1), .second, .val (.int i2), .val (.long j3), .second, .val (.int i4), .val (.ref b1), .val (.int v7), .val (.long v12), .second, .val (.ref b13), .val (.int (2 : Int32)), .val (.ref bxr_49), .val (.int (0 : Int32))] [(.int own_eqi)])
        refine Home.run X51 hx hby sg0_139_1 (pc' := 141) (L' := #[.val (.int i0), .val (.long j1), .second, .val (.int i2), .val (.long j3), .second, .val (.int i4), .val (.ref b1), .val (.int v7), .val (.long v12), .second, .val (.ref b13), .val (.int (2 : Int32)), .val (.ref bxr_49), .val (.int (0 : Int32))]) (S' := [(.int (0 : Int32)), (.int own_eqi)]) rfl ?_
        suffices J54 : ∀ {T : State} {lc : List Loc} (X : Stand p l e room_1 s m #[(.int i0), (.long j1), (.int i2), (.long j3), (.int i4)] below meth c T lc 3 5) (N : Fr n0 lc) (eT : T.heap = T49.heap) (v55 : Int32) (hv55 : v55 = (if own_eqi = (0 : Int32) then (1 : Int32) else (0 : Int32))), @Home p e below s _ _ _ T (mkF m 149 #[.val (.int i0), .val (.long j1), .second, .val (.int i2), .val (.long j3), .second, .val (.int i4), .val (.ref b1), .val (.int v7), .val (.long v12), .second, .val (.ref b13), .val (.int (2 : Int32)), .val (.ref bxr_49), .val (.int (0 : Int32))] [(.int v55)]) by
          by_cases c52 : own_eqi = (0 : Int32)
          · skip
            refine Home.go (fun _ => XS.icmpNo X51.here hx rfl (hb hby at_141) rfl (teq c52).2) ?_
            have bd53 : ¬ own_eqi < (0 : Int32) ∧ ¬ (0 : Int32) < own_eqi := ⟨(bnd_eql c52), (bnd_eqr c52)⟩
            refine Home.run X51 hx hby sg0_144_2 (pc' := 149) (L' := #[.val (.int i0), .val (.long j1), .second, .val (.int i2), .val (.long j3), .second, .val (.int i4), .val (.ref b1), .val (.int v7), .val (.long v12), .second, .val (.ref b13), .val (.int (2 : Int32)), .val (.ref bxr_49), .val (.int (0 : Int32))]) (S' := [(.int (1 : Int32))]) rfl ?_
            exact J54 X51 N49 e51 _ (by simp only [if_pos c52])
          · skip
            refine Home.go (fun _ => XS.icmpYes X51.here hx rfl (pc0 := 141) (pc' := 148) rfl (hb hby at_141) rfl (feq c52).2 (by decide) (by decide)) ?_
            refine Home.run X51 hx hby sg0_148_1 (pc' := 149) (L' := #[.val (.int i0), .val (.long j1), .second, .val (.int i2), .val (.long j3), .second, .val (.int i4), .val (.ref b1), .val (.int v7), .val (.long v12), .second, .val (.ref b13), .val (.int (2 : Int32)), .val (.ref bxr_49), .val (.int (0 : Int32))]) (S' := [(.int (0 : Int32))]) rfl ?_
            exact J54 X51 N49 e51 _ (by simp only [if_neg c52])
        intro TJ54 lcJ54 XJ54 NJ54 eJ54 v55 hv55
        have bv55 : ¬ v55 < (0 : Int32) ∧ ¬ (1 : Int32) < v55 := by rw [hv55]; (repeat' split) <;> first | exact bnd_mono (bnd_lit (1 : Int32)) (by decide +kernel) (by decide +kernel) | exact bnd_mono (bnd_lit (0 : Int32)) (by decide +kernel) (by decide +kernel)
        show Home TJ54 (mkF m 149 #[.val (.int i0), .val (.long j1), .second, .val (.int i2), .val (.long j3), .second, .val (.int i4), .val (.ref b1), .val (.int v7), .val (.long v12), .second, .val (.ref b13), .val (.int (2 : Int32)), .val (.ref bxr_49), .val (.int (0 : Int32))] [(.int v55)])
        exact Home.retN XJ54 hx hlk (t := .boolean) hret (by simp) (hb hby at_149) ⟨congrArg some (congrArg Value.int (own_end2 i0 j1 i2 j3 i4 v7 hv7 v12 hv12 v16 hv16 v55 hv55 c17 c27 c44)), NJ54⟩ (by decide) (by decide)
      · skip
        refine Home.go (fun _ => XS.icmpYes X14.here hx rfl (pc0 := 111) (pc' := 126) rfl (hb hby at_111) rfl (feq c44).2 (by decide) (by decide)) ?_
        have bd47 : ¬ v16 < (3 : Int32) ∧ ¬ (3 : Int32) < v16 := ⟨(bnd_nel bd30.1 c44 (by decide +kernel)), bd30.2⟩
        have fx48 : v16 = (3 : Int32) := bnd_fix bd47
        try rw [fx48]
        show Home T14 (mkF m 126 #[.val (.int i0), .val (.long j1), .second, .val (.int i2), .val (.long j3), .second, .val (.int i4), .val (.ref b1), .val (.int v7), .val (.long v12), .second, .val (.ref b13), .val (.int (3 : Int32)), .unset, .unset] [])
        refine Home.run X14 hx hby sg0_126_6 (pc' := 136) (L' := #[.val (.int i0), .val (.long j1), .second, .val (.int i2), .val (.long j3), .second, .val (.int i4), .val (.ref b1), .val (.int v7), .val (.long v12), .second, .val (.ref b13), .val (.int (3 : Int32)), .val .null, .val (.int (0 : Int32))]) (S' := [.null, (.ref b1)]) rfl ?_
        have q56 := ((P2_0.ext E13).keep K14q)
        refine Home.st (own_pure (own_virtual X14 hx hZ hown (own_w20 hw) (own_w21 hw) (notFace_of_selects (args := #[]) (mvT hZ (own_w23 hw))) (own_w23 hw) (own_w22 hw) (own_w2 hw) (own_w24 hw) (by decide) (rmEn l Z a0 hw [] b1 T14.heap n0 O14) rfl q56 rfl (by rw [hml]; rfl) (argsL := [.null]) (rest := []) (lenOf own_pd4 rfl) rfl rfl (W := 0) (by show 2 * 0 + _ ≤ _; exact Nat.le_of_eq rfl) (by decide) (by decide) (hb hby at_136) (by decide) (by decide))) fun T57 X57 e57 => ?_
        refine Home.run X57 hx hby sg0_139_1 (pc' := 141) (L' := #[.val (.int i0), .val (.long j1), .second, .val (.int i2), .val (.long j3), .second, .val (.int i4), .val (.ref b1), .val (.int v7), .val (.long v12), .second, .val (.ref b13), .val (.int (3 : Int32)), .val .null, .val (.int (0 : Int32))]) (S' := [(.int (0 : Int32)), (.int own_eqn)]) rfl ?_
        suffices J60 : ∀ {T : State} {lc : List Loc} (X : Stand p l e room_1 s m #[(.int i0), (.long j1), (.int i2), (.long j3), (.int i4)] below meth c T lc 2 4) (N : Fr n0 lc) (eT : T.heap = T14.heap) (v61 : Int32) (hv61 : v61 = (if own_eqn = (0 : Int32) then (1 : Int32) else (0 : Int32))), @Home p e below s _ _ _ T (mkF m 149 #[.val (.int i0), .val (.long j1), .second, .val (.int i2), .val (.long j3), .second, .val (.int i4), .val (.ref b1), .val (.int v7), .val (.long v12), .second, .val (.ref b13), .val (.int (3 : Int32)), .val .null, .val (.int (0 : Int32))] [(.int v61)]) by
          by_cases c58 : own_eqn = (0 : Int32)
          · skip
            refine Home.go (fun _ => XS.icmpNo X57.here hx rfl (hb hby at_141) rfl (teq c58).2) ?_
            have bd59 : ¬ own_eqn < (0 : Int32) ∧ ¬ (0 : Int32) < own_eqn := ⟨(bnd_eql c58), (bnd_eqr c58)⟩
            refine Home.run X57 hx hby sg0_144_2 (pc' := 149) (L' := #[.val (.int i0), .val (.long j1), .second, .val (.int i2), .val (.long j3), .second, .val (.int i4), .val (.ref b1), .val (.int v7), .val (.long v12), .second, .val (.ref b13), .val (.int (3 : Int32)), .val .null, .val (.int (0 : Int32))]) (S' := [(.int (1 : Int32))]) rfl ?_
            exact J60 X57 N14 e57 _ (by simp only [if_pos c58])
          · skip
            refine Home.go (fun _ => XS.icmpYes X57.here hx rfl (pc0 := 141) (pc' := 148) rfl (hb hby at_141) rfl (feq c58).2 (by decide) (by decide)) ?_
            refine Home.run X57 hx hby sg0_148_1 (pc' := 149) (L' := #[.val (.int i0), .val (.long j1), .second, .val (.int i2), .val (.long j3), .second, .val (.int i4), .val (.ref b1), .val (.int v7), .val (.long v12), .second, .val (.ref b13), .val (.int (3 : Int32)), .val .null, .val (.int (0 : Int32))]) (S' := [(.int (0 : Int32))]) rfl ?_
            exact J60 X57 N14 e57 _ (by simp only [if_neg c58])
        intro TJ60 lcJ60 XJ60 NJ60 eJ60 v61 hv61
        have bv61 : ¬ v61 < (0 : Int32) ∧ ¬ (1 : Int32) < v61 := by rw [hv61]; (repeat' split) <;> first | exact bnd_mono (bnd_lit (1 : Int32)) (by decide +kernel) (by decide +kernel) | exact bnd_mono (bnd_lit (0 : Int32)) (by decide +kernel) (by decide +kernel)
        show Home TJ60 (mkF m 149 #[.val (.int i0), .val (.long j1), .second, .val (.int i2), .val (.long j3), .second, .val (.int i4), .val (.ref b1), .val (.int v7), .val (.long v12), .second, .val (.ref b13), .val (.int (3 : Int32)), .val .null, .val (.int (0 : Int32))] [(.int v61)])
        exact Home.retN XJ60 hx hlk (t := .boolean) hret (by simp) (hb hby at_149) ⟨congrArg some (congrArg Value.int (own_end3 i0 j1 i2 j3 i4 v7 hv7 v12 hv12 v16 hv16 v61 hv61 c17 c27 c44)), NJ60⟩ (by decide) (by decide)
set_option maxRecDepth 65536 in
set_option maxHeartbeats 40000000 in
theorem comes_1 {Post : Tables → Env → Array Value → State → Outcome → State → Prop} (hpost : ∀ tb e args s v u, (limb_1_1.after args s (.returned v) u = true ∧ limb_1_2.after args s (.returned v) u = true ∧ True) → FrameEnd s (.returned v) u (Jvm.fieldLocs frame_1_writes args s ++ Jvm.arrayLocs frame_1_arrays args s ++ Jvm.staticLocs frame_1_statics s) 16 128 → Post tb e args s (.returned v) u) :
    ArmFor flags0 classFile x code maxLocals ret World_1 tables_1 room_1 Calls_1 rest_1 Pre_1 Post := by
  intro l hfl _ _ p e ha hc hk s m args below hf hA hF happ hP
  obtain ⟨hcalls, hrest, hpre⟩ := hP
  obtain ⟨-, -, -, hnamed, -, -, -, hat⟩ := (Spec.applies_iff hf).mp happ
  obtain ⟨hg, hn⟩ := and_e (Cond.before_iff.mp (show (Jvm.Cond.and given_1 narrow_1).before args s = true from hpre))
  obtain ⟨gg1, gg2⟩ := and_e hg
  obtain ⟨gg3, gg4⟩ := and_e gg2
  obtain ⟨gg5, gg6⟩ := and_e gg4
  obtain ⟨gg7, gg8⟩ := and_e gg6
  obtain ⟨gg9, gg10⟩ := and_e gg8
  obtain ⟨w0, w1, w2, w3, w4, rfl⟩ : ∃ w0 w1 w2 w3 w4 : Value, args = #[w0, w1, w2, w3, w4] := by
    have hs : args.size = 5 := by simpa [Cond.value, given_1] using gg1
    obtain ⟨L⟩ := args
    match L, hs with
    | [w0, w1, w2, w3, w4], _ => exact ⟨w0, w1, w2, w3, w4, rfl⟩
  have hw := fun d (hd : d ∈ tables_1) => atoms_spec (ws := Jvm.Cond.code x code maxLocals ret :: tables_1) hat d (List.mem_cons_of_mem _ hd)
  have hfit : Fit s := fun {y c} hc i hi => by
    obtain ⟨ha, rfl⟩ := Array.getElem?_eq_some_iff.mp hc
    have q := List.all_eq_true.mp ((Array.all_eq_true_iff_forall_mem.mp hF) _ (Array.getElem_mem ha)) i (List.mem_range.mpr hi)
    simpa [Array.getElem?_eq_getElem hi] using q
  obtain ⟨hsets, hown0⟩ := atoms_of _ (rest_1_c_eq ▸ (show rest_1_c.before _ s = true from hrest))
  have hr0 := Cond.before_iff.mp hown0
  obtain ⟨i0, ei0⟩ := is_v gg3
  obtain rfl : w0 = (.int i0) := Option.some.inj ei0
  obtain ⟨i1, ei1⟩ := isL_v gg5
  obtain rfl : w1 = (.long i1) := Option.some.inj ei1
  obtain ⟨i2, ei2⟩ := is_v gg7
  obtain rfl : w2 = (.int i2) := Option.some.inj ei2
  obtain ⟨i3, ei3⟩ := isL_v gg9
  obtain rfl : w3 = (.long i3) := Option.some.inj ei3
  obtain ⟨i4, ei4⟩ := is_v gg10
  obtain rfl : w4 = (.int i4) := Option.some.inj ei4
  have v_high := eqv_i (idx := []) (Term.int_eval (127)) (Cond.before_iff.mp (hsets _ (List.mem_of_getElem? (i := 3) rfl)))
  have S_high := Sta.start v_high (Or.inl (hsets _ (List.mem_of_getElem? (i := 1) rfl)))
  obtain ⟨sv_cache, v_cache⟩ := arr_v (Cond.before_iff.mp (hsets _ (List.mem_of_getElem? (i := 4) rfl)))
  have S_cache := Sta.start v_cache (Or.inr ⟨own_w18 hw, (hsets _ (List.mem_of_getElem? (i := 2) rfl))⟩)
  obtain ⟨cbx, A_cache⟩ := Arr.start v_cache (Cond.before_iff.mp (hsets _ (List.mem_of_getElem? (i := 4) rfl)))
  obtain ⟨cb1, cb2⟩ := own_len256 v_cache A_cache (Cond.before_iff.mp (hsets _ (List.mem_of_getElem? (i := 6) rfl)))
  have BX := Bxs.start (K := "java/lang/Integer") (d := "I") (z := 256) (val := fun j => .int (j - (128 : Int32))) (own_static_idx v_cache) A_cache cb1 cb2 (by decide) (Cond.before_iff.mp (hsets _ (List.mem_of_getElem? (i := 7) rfl))) (fun X j hj h => eqv_i (own_sub_idx hj) h)
  obtain ⟨n, o, h1, h2, h3, _, L, rfl, ⟨rfl, N⟩, hq⟩ := rm0 l s _ hw tables_1 i0 i1 i2 i3 i4 sv_cache cbx s.heap s.heap.size (Old.start s) S_high S_cache BX p e ha hc hk s m _ below hf ((Spec.applies_iff_loose hf).mp happ).1 ⟨rfl, State.Warmed39.refl s, rfl⟩ trivial
  refine ⟨n, _, h1, h2, h3, hpost _ _ _ _ _ _ ⟨Cond.after_iff.mpr rfl, Cond.after_iff.mpr (eq_i res_at (Term.int_eval (1)) rfl), trivial⟩ ⟨hq.1, hq.2.1, (hq.2.2.sift fun y hy => Or.inr (N y hy)).mono (by decide) (by decide)⟩⟩
theorem main_1_1 : Claimed_1_1 := comes_1 fun _ _ _ _ _ _ h hF => ⟨h.1, hF⟩
theorem main_1_2 : Claimed_1_2 := comes_1 fun _ _ _ _ _ _ h hF => ⟨h.2.1, hF⟩
end Jvm.Pilot.@@N@@
namespace Jvm.Pilot.@@N@@
open Jvm Jvm.ClassFile Sem Op Lib Jvm.Free Jvm.Stand Jvm.Pilot.@@N@@.Jvm.D
/-! MADE BY PROGRAM (witnessworld.py) out of the Statement's table words and the real class files: 16 classes; the members and pool entries that the words name. The judged class is class 1, her method 1. -/
namespace start1
open Jvm.ClassFile
def u (s : String) : CpInfo := .utf8 (stringToUtf16 s)
/-- a pool by its gaps: so many unusable entries, then the entry; so many at the end -/
def gap : Nat → List CpInfo → List CpInfo
  | 0, r => r
  | n + 1, r => .unusable :: gap n r
def poolList (es : List (Nat × CpInfo)) (last : Nat) : List CpInfo := es.foldr (fun e r => gap e.1 (e.2 :: r)) (gap last [])
def pool (es : List (Nat × CpInfo)) (last : Nat) : Array CpInfo := ⟨poolList es last⟩
def fileOf (pool : Array CpInfo) (this : Nat) (attrs : Array Attribute := #[]) (ms : Array MethodInfo := #[]) (fl : Nat := 33) (sup : Nat := 0) (ifs : Array Nat := #[]) (fds : Array FieldInfo := #[]) : ClassFile where
  minorVersion := 0
  majorVersion := 65
  constantPool := pool
  accessFlags := fl
  thisClass := this
  superClass := sup
  interfaces := ifs
  fields := fds
  methods := ms
  attributes := attrs
def plain (name : String) (sup : Option ClassId) : Class where
  name := name
  kind := .ordinary
  loader := none
  accessFlags := 33
  super := sup
  interfaces := #[]
  cf := none
  fields := #[]
  methods := #[]
  instanceTypes := #[]
  staticTypes := #[]
  resolved := #[]
  callSites := []
  init := .initialized
  statics := none
  mirror := none

def pool0 : Array CpInfo := pool [(5, u "<init>"), (0, u "()V"), (1, .class_ 10), (1, u "java/lang/Object")] 113

def k0c0 : Code := { maxStack := 0, maxLocals := 1, code := object_method_1_code, exceptionTable := #[], attributes := #[] }
def k0m0 : Method := { name := "<init>", desc := "()V", sig := { parameters := [], returnType := none }, accessFlags := 1, code := some k0c0 }
/-- java/lang/Object -/
def k0 : Class := { plain "java/lang/Object" none with
  accessFlags := 33
  interfaces := #[]
  cf := some (fileOf pool0 8 #[] #[{ accessFlags := 1, nameIndex := 5, descriptorIndex := 6, attributes := #[] }] 33 0 #[] #[])
  fields := #[]
  methods := #[k0m0]
  instanceTypes := #[]
  staticTypes := #[]
  resolved := Array.replicate 124 none
  statics := none }

def pool1 : Array CpInfo := pool [(2, .class_ 4), (1, u "java/lang/Object"), (0, u "<init>"), (0, u "()V"), (0, .class_ 8), (0, u "com/example/token_relay/tokenrelay/SnapshotId"), (0, .methodref 7 10), (0, .nameAndType 5 11), (0, u "(IJ)V"), (0, .methodref 13 14), (0, .class_ 15), (0, .nameAndType 16 17), (0, u "java/lang/Integer"), (0, u "valueOf"), (0, u "(I)Ljava/lang/Integer;"), (0, .methodref 7 19), (0, .nameAndType 20 21), (0, u "equals"), (0, u "(Ljava/lang/Object;)Z"), (0, .class_ 23), (0, u "com/example/token_relay/tokenrelay/SnapshotIdEqualsPinLaw"), (2, u "law"), (0, u "(IJIJI)Z")] 3

def k1m0 : Method := { name := "<init>", desc := "()V", sig := { parameters := [], returnType := none }, accessFlags := 1, code := none }
def k1c1 : Code := { maxStack := 5, maxLocals := 15, code := code, exceptionTable := #[], attributes := #[] }
def k1m1 : Method := { name := "law", desc := "(IJIJI)Z", sig := { parameters := [.int, .long, .int, .long, .int], returnType := some .boolean }, accessFlags := 9, code := some k1c1 }
/-- com/example/token_relay/tokenrelay/SnapshotIdEqualsPinLaw -/
def k1 : Class := { plain "com/example/token_relay/tokenrelay/SnapshotIdEqualsPinLaw" (some 0) with
  accessFlags := 49
  interfaces := #[]
  cf := some (fileOf pool1 22 #[] #[{ accessFlags := 1, nameIndex := 5, descriptorIndex := 6, attributes := #[] }, { accessFlags := 9, nameIndex := 26, descriptorIndex := 27, attributes := #[] }] 49 2 #[] #[])
  fields := #[]
  methods := #[k1m0, k1m1]
  instanceTypes := #[]
  staticTypes := #[]
  resolved := Array.replicate 31 none
  statics := none }

def pool2 : Array CpInfo := pool [(1, .methodref 2 3), (0, .class_ 4), (0, .nameAndType 5 6), (0, u "java/lang/Object"), (0, u "<init>"), (0, u "()V"), (0, .fieldref 8 9), (0, .class_ 10), (0, .nameAndType 11 12), (0, u "com/example/token_relay/tokenrelay/SnapshotId"), (0, u "initiator"), (0, u "I"), (0, .fieldref 8 14), (0, .nameAndType 15 16), (0, u "number"), (0, u "J"), (21, u "(IJ)V"), (6, u "equals"), (0, u "(Ljava/lang/Object;)Z")] 21

def k2c0 : Code := { maxStack := 3, maxLocals := 4, code := prog_28_method_1_code, exceptionTable := #[], attributes := #[] }
def k2m0 : Method := { name := "<init>", desc := "(IJ)V", sig := { parameters := [.int, .long], returnType := none }, accessFlags := 0, code := some k2c0 }
def k2c1 : Code := { maxStack := 4, maxLocals := 3, code := prog_28_method_4_code, exceptionTable := #[], attributes := #[] }
def k2m1 : Method := { name := "equals", desc := "(Ljava/lang/Object;)Z", sig := { parameters := [(.object "java/lang/Object")], returnType := some .boolean }, accessFlags := 1, code := some k2c1 }
/-- com/example/token_relay/tokenrelay/SnapshotId -/
def k2 : Class := { plain "com/example/token_relay/tokenrelay/SnapshotId" (some 0) with
  accessFlags := 32
  interfaces := #[]
  cf := some (fileOf pool2 8 #[] #[{ accessFlags := 0, nameIndex := 5, descriptorIndex := 38, attributes := #[] }, { accessFlags := 1, nameIndex := 45, descriptorIndex := 46, attributes := #[] }] 32 2 #[] #[{ accessFlags := 18, nameIndex := 11, descriptorIndex := 12, attributes := #[] }, { accessFlags := 18, nameIndex := 15, descriptorIndex := 16, attributes := #[] }])
  fields := #[{ name := "initiator", type := .int, accessFlags := 18, slot := 0, constantValue := 0 }, { name := "number", type := .long, accessFlags := 18, slot := 1, constantValue := 0 }]
  methods := #[k2m0, k2m1]
  instanceTypes := #[.int, .long]
  staticTypes := #[]
  resolved := Array.replicate 68 none
  statics := none }

def pool3 : Array CpInfo := pool [(1, .class_ 2), (0, u "java/io/Serializable"), (0, .class_ 4), (0, u "java/lang/Object")] 2

/-- java/io/Serializable -/
def k3 : Class := { plain "java/io/Serializable" (some 0) with
  accessFlags := 1537
  interfaces := #[]
  cf := some (fileOf pool3 1 #[] #[] 1537 3 #[] #[])
  fields := #[]
  methods := #[]
  instanceTypes := #[]
  staticTypes := #[]
  resolved := Array.replicate 7 none
  statics := none }

def pool4 : Array CpInfo := pool [(1, .methodref 2 3), (0, .class_ 4), (0, .nameAndType 5 6), (0, u "java/lang/Object"), (0, u "<init>"), (0, u "()V"), (1, .class_ 10), (1, u "java/lang/Number"), (2, .class_ 14), (0, u "java/io/Serializable"), (0, u "serialVersionUID"), (0, u "J")] 20

def k4c0 : Code := { maxStack := 1, maxLocals := 1, code := jdk_18_method_1_code, exceptionTable := #[], attributes := #[] }
def k4m0 : Method := { name := "<init>", desc := "()V", sig := { parameters := [], returnType := none }, accessFlags := 1, code := some k4c0 }
/-- java/lang/Number -/
def k4 : Class := { plain "java/lang/Number" (some 0) with
  accessFlags := 1057
  interfaces := #[3]
  cf := some (fileOf pool4 8 #[] #[{ accessFlags := 1, nameIndex := 5, descriptorIndex := 6, attributes := #[] }] 1057 2 #[13] #[{ accessFlags := 26, nameIndex := 15, descriptorIndex := 16, attributes := #[] }])
  fields := #[{ name := "serialVersionUID", type := .long, accessFlags := 26, slot := 0, constantValue := 0 }]
  methods := #[k4m0]
  instanceTypes := #[]
  staticTypes := #[.long]
  resolved := Array.replicate 37 none
  statics := none }

def pool5 : Array CpInfo := pool [(1, .class_ 2), (0, u "java/lang/Comparable"), (0, .class_ 4), (0, u "java/lang/Object")] 7

/-- java/lang/Comparable -/
def k5 : Class := { plain "java/lang/Comparable" (some 0) with
  accessFlags := 1537
  interfaces := #[]
  cf := some (fileOf pool5 1 #[] #[] 1537 3 #[] #[])
  fields := #[]
  methods := #[]
  instanceTypes := #[]
  staticTypes := #[]
  resolved := Array.replicate 12 none
  statics := none }

def pool6 : Array CpInfo := pool [(1, .class_ 2), (0, u "java/lang/constant/Constable"), (0, .class_ 4), (0, u "java/lang/Object")] 6

/-- java/lang/constant/Constable -/
def k6 : Class := { plain "java/lang/constant/Constable" (some 0) with
  accessFlags := 1537
  interfaces := #[]
  cf := some (fileOf pool6 1 #[] #[] 1537 3 #[] #[])
  fields := #[]
  methods := #[]
  instanceTypes := #[]
  staticTypes := #[]
  resolved := Array.replicate 11 none
  statics := none }

def pool7 : Array CpInfo := pool [(1, .class_ 2), (0, u "java/lang/constant/ConstantDesc"), (0, .class_ 4), (0, u "java/lang/Object")] 32

/-- java/lang/constant/ConstantDesc -/
def k7 : Class := { plain "java/lang/constant/ConstantDesc" (some 0) with
  accessFlags := 1537
  interfaces := #[]
  cf := some (fileOf pool7 1 #[] #[] 1537 3 #[] #[])
  fields := #[]
  methods := #[]
  instanceTypes := #[]
  staticTypes := #[]
  resolved := Array.replicate 37 none
  statics := none }

def pool8 : Array CpInfo := pool [(1, .class_ 2), (0, u "java/lang/Integer"), (16, u "digits"), (0, u "[C"), (46, u "<init>"), (17, u "DigitOnes"), (0, u "[B"), (2, u "DigitTens"), (10, .nameAndType 67 101), (0, u "()V"), (85, u "valueOf"), (0, u "(I)Ljava/lang/Integer;"), (0, .class_ 190), (0, u "java/lang/Integer$IntegerCache"), (0, .fieldref 189 192), (0, .nameAndType 193 194), (0, u "high"), (0, u "I"), (0, .fieldref 189 196), (0, .nameAndType 197 198), (0, u "cache"), (0, u "[Ljava/lang/Integer;"), (0, .methodref 1 200), (0, .nameAndType 67 201), (0, u "(I)V"), (0, .methodref 203 100), (0, .class_ 204), (0, u "java/lang/Number"), (0, .fieldref 1 206), (0, .nameAndType 207 194), (0, u "value"), (94, u "TYPE"), (0, u "Ljava/lang/Class;"), (0, .class_ 305), (0, u "java/lang/Comparable"), (0, .class_ 307), (0, u "java/lang/constant/Constable"), (0, .class_ 309), (0, u "java/lang/constant/ConstantDesc"), (0, u "MIN_VALUE"), (1, u "MAX_VALUE"), (3, u "SIZE"), (1, u "BYTES"), (1, u "serialVersionUID"), (0, u "J")] 131

def k8c0 : Code := { maxStack := 3, maxLocals := 1, code := jdk_33_method_22_code, exceptionTable := #[], attributes := #[] }
def k8m0 : Method := { name := "valueOf", desc := "(I)Ljava/lang/Integer;", sig := { parameters := [.int], returnType := some (.object "java/lang/Integer") }, accessFlags := 9, code := some k8c0 }
def k8c1 : Code := { maxStack := 2, maxLocals := 2, code := jdk_33_method_23_code, exceptionTable := #[], attributes := #[] }
def k8m1 : Method := { name := "<init>", desc := "(I)V", sig := { parameters := [.int], returnType := none }, accessFlags := 1, code := some k8c1 }
/-- java/lang/Integer -/
def k8 : Class := { plain "java/lang/Integer" (some 4) with
  accessFlags := 49
  interfaces := #[5, 6, 7]
  cf := some (fileOf pool8 1 #[.nestMembers #[189]] #[{ accessFlags := 9, nameIndex := 187, descriptorIndex := 188, attributes := #[] }, { accessFlags := 1, nameIndex := 67, descriptorIndex := 201, attributes := #[] }] 49 203 #[304, 306, 308] #[{ accessFlags := 25, nameIndex := 310, descriptorIndex := 194, attributes := #[] }, { accessFlags := 25, nameIndex := 312, descriptorIndex := 194, attributes := #[] }, { accessFlags := 25, nameIndex := 302, descriptorIndex := 303, attributes := #[] }, { accessFlags := 24, nameIndex := 19, descriptorIndex := 20, attributes := #[] }, { accessFlags := 24, nameIndex := 89, descriptorIndex := 86, attributes := #[] }, { accessFlags := 24, nameIndex := 85, descriptorIndex := 86, attributes := #[] }, { accessFlags := 18, nameIndex := 207, descriptorIndex := 194, attributes := #[] }, { accessFlags := 25, nameIndex := 316, descriptorIndex := 194, attributes := #[] }, { accessFlags := 25, nameIndex := 318, descriptorIndex := 194, attributes := #[] }, { accessFlags := 26, nameIndex := 320, descriptorIndex := 321, attributes := #[] }])
  fields := #[{ name := "MIN_VALUE", type := .int, accessFlags := 25, slot := 0, constantValue := 0 }, { name := "MAX_VALUE", type := .int, accessFlags := 25, slot := 1, constantValue := 0 }, { name := "TYPE", type := (.object "java/lang/Class"), accessFlags := 25, slot := 2, constantValue := 0 }, { name := "digits", type := (.array .char), accessFlags := 24, slot := 3, constantValue := 0 }, { name := "DigitTens", type := (.array .byte), accessFlags := 24, slot := 4, constantValue := 0 }, { name := "DigitOnes", type := (.array .byte), accessFlags := 24, slot := 5, constantValue := 0 }, { name := "value", type := .int, accessFlags := 18, slot := 0, constantValue := 0 }, { name := "SIZE", type := .int, accessFlags := 25, slot := 6, constantValue := 0 }, { name := "BYTES", type := .int, accessFlags := 25, slot := 7, constantValue := 0 }, { name := "serialVersionUID", type := .long, accessFlags := 26, slot := 8, constantValue := 0 }]
  methods := #[k8m0, k8m1]
  instanceTypes := #[.int]
  staticTypes := #[.int, .int, (.object "java/lang/Class"), (.array .char), (.array .byte), (.array .byte), .int, .int, .long]
  resolved := Array.replicate 453 none
  statics := none }

def pool9 : Array CpInfo := pool [(2, .class_ 4), (1, u "java/lang/Object"), (0, u "<init>"), (0, u "()V"), (0, .class_ 8), (0, u "java/lang/Integer"), (7, .class_ 18), (1, u "java/lang/Integer$IntegerCache"), (0, u "$assertionsDisabled"), (0, u "Z"), (26, u "high"), (0, u "I"), (8, u "archivedCache"), (0, u "[Ljava/lang/Integer;"), (12, u "cache"), (0, u "low")] 27

def k9m0 : Method := { name := "<init>", desc := "()V", sig := { parameters := [], returnType := none }, accessFlags := 2, code := none }
/-- java/lang/Integer$IntegerCache -/
def k9 : Class := { plain "java/lang/Integer$IntegerCache" (some 0) with
  accessFlags := 48
  interfaces := #[]
  cf := some (fileOf pool9 16 #[.nestHost 7] #[{ accessFlags := 2, nameIndex := 5, descriptorIndex := 6, attributes := #[] }] 48 2 #[] #[{ accessFlags := 24, nameIndex := 72, descriptorIndex := 48, attributes := #[] }, { accessFlags := 24, nameIndex := 47, descriptorIndex := 48, attributes := #[] }, { accessFlags := 24, nameIndex := 71, descriptorIndex := 58, attributes := #[] }, { accessFlags := 8, nameIndex := 57, descriptorIndex := 58, attributes := #[] }, { accessFlags := 4120, nameIndex := 19, descriptorIndex := 20, attributes := #[] }])
  fields := #[{ name := "low", type := .int, accessFlags := 24, slot := 0, constantValue := 0 }, { name := "high", type := .int, accessFlags := 24, slot := 1, constantValue := 0 }, { name := "cache", type := (.array (.object "java/lang/Integer")), accessFlags := 24, slot := 2, constantValue := 0 }, { name := "archivedCache", type := (.array (.object "java/lang/Integer")), accessFlags := 8, slot := 3, constantValue := 0 }, { name := "$assertionsDisabled", type := .boolean, accessFlags := 4120, slot := 4, constantValue := 0 }]
  methods := #[k9m0]
  instanceTypes := #[]
  staticTypes := #[.int, .int, (.array (.object "java/lang/Integer")), (.array (.object "java/lang/Integer")), .boolean]
  resolved := Array.replicate 100 none
  statics := some 0 }

def pool10 : Array CpInfo := pool [(1, u "java/lang/Cloneable"), (0, .class_ 1), (0, u "java/lang/Object"), (0, .class_ 3)] 3

/-- java/lang/Cloneable -/
def k10 : Class := { plain "java/lang/Cloneable" (some 0) with
  accessFlags := 1537
  interfaces := #[]
  cf := some (fileOf pool10 2 #[] #[] 1537 4 #[] #[])
  fields := #[]
  methods := #[]
  instanceTypes := #[]
  staticTypes := #[]
  resolved := Array.replicate 8 none
  statics := none }

/-- the primitive byte -/
def k11 : Class := { plain "byte" none with kind := .primitive 'B', accessFlags := 0x411 }
/-- [B -/
def k12 : Class := { plain "[B" (some 0) with kind := .array 11 .byte, interfaces := #[10, 3], accessFlags := 1041 }

/-- the primitive int -/
def k13 : Class := { plain "int" none with kind := .primitive 'I', accessFlags := 0x411 }
/-- [I -/
def k14 : Class := { plain "[I" (some 0) with kind := .array 13 .int, interfaces := #[10, 3], accessFlags := 1041 }

/-- [Ljava/lang/Integer; -/
def k15 : Class := { plain "[Ljava/lang/Integer;" (some 0) with kind := .array 8 (.object "java/lang/Integer"), interfaces := #[10, 3], accessFlags := 1041 }

def heap : Heap := #[{ cls := 9, slots := #[.int 0, .int 127, .ref 1, .null, .int 0], vm := .statics 9 },
  { cls := 15, slots := #[.ref 2, .ref 3, .ref 4, .ref 5, .ref 6, .ref 7, .ref 8, .ref 9, .ref 10, .ref 11, .ref 12, .ref 13, .ref 14, .ref 15, .ref 16, .ref 17, .ref 18, .ref 19, .ref 20, .ref 21, .ref 22, .ref 23, .ref 24, .ref 25, .ref 26, .ref 27, .ref 28, .ref 29, .ref 30, .ref 31, .ref 32, .ref 33, .ref 34, .ref 35, .ref 36, .ref 37, .ref 38, .ref 39, .ref 40, .ref 41, .ref 42, .ref 43, .ref 44, .ref 45, .ref 46, .ref 47, .ref 48, .ref 49, .ref 50, .ref 51, .ref 52, .ref 53, .ref 54, .ref 55, .ref 56, .ref 57, .ref 58, .ref 59, .ref 60, .ref 61, .ref 62, .ref 63, .ref 64, .ref 65, .ref 66, .ref 67, .ref 68, .ref 69, .ref 70, .ref 71, .ref 72, .ref 73, .ref 74, .ref 75, .ref 76, .ref 77, .ref 78, .ref 79, .ref 80, .ref 81, .ref 82, .ref 83, .ref 84, .ref 85, .ref 86, .ref 87, .ref 88, .ref 89, .ref 90, .ref 91, .ref 92, .ref 93, .ref 94, .ref 95, .ref 96, .ref 97, .ref 98, .ref 99, .ref 100, .ref 101, .ref 102, .ref 103, .ref 104, .ref 105, .ref 106, .ref 107, .ref 108, .ref 109, .ref 110, .ref 111, .ref 112, .ref 113, .ref 114, .ref 115, .ref 116, .ref 117, .ref 118, .ref 119, .ref 120, .ref 121, .ref 122, .ref 123, .ref 124, .ref 125, .ref 126, .ref 127, .ref 128, .ref 129, .ref 130, .ref 131, .ref 132, .ref 133, .ref 134, .ref 135, .ref 136, .ref 137, .ref 138, .ref 139, .ref 140, .ref 141, .ref 142, .ref 143, .ref 144, .ref 145, .ref 146, .ref 147, .ref 148, .ref 149, .ref 150, .ref 151, .ref 152, .ref 153, .ref 154, .ref 155, .ref 156, .ref 157, .ref 158, .ref 159, .ref 160, .ref 161, .ref 162, .ref 163, .ref 164, .ref 165, .ref 166, .ref 167, .ref 168, .ref 169, .ref 170, .ref 171, .ref 172, .ref 173, .ref 174, .ref 175, .ref 176, .ref 177, .ref 178, .ref 179, .ref 180, .ref 181, .ref 182, .ref 183, .ref 184, .ref 185, .ref 186, .ref 187, .ref 188, .ref 189, .ref 190, .ref 191, .ref 192, .ref 193, .ref 194, .ref 195, .ref 196, .ref 197, .ref 198, .ref 199, .ref 200, .ref 201, .ref 202, .ref 203, .ref 204, .ref 205, .ref 206, .ref 207, .ref 208, .ref 209, .ref 210, .ref 211, .ref 212, .ref 213, .ref 214, .ref 215, .ref 216, .ref 217, .ref 218, .ref 219, .ref 220, .ref 221, .ref 222, .ref 223, .ref 224, .ref 225, .ref 226, .ref 227, .ref 228, .ref 229, .ref 230, .ref 231, .ref 232, .ref 233, .ref 234, .ref 235, .ref 236, .ref 237, .ref 238, .ref 239, .ref 240, .ref 241, .ref 242, .ref 243, .ref 244, .ref 245, .ref 246, .ref 247, .ref 248, .ref 249, .ref 250, .ref 251, .ref 252, .ref 253, .ref 254, .ref 255, .ref 256, .ref 257], vm := .none },
  { cls := 8, slots := #[.int (-128)], vm := .none },
  { cls := 8, slots := #[.int (-127)], vm := .none },
  { cls := 8, slots := #[.int (-126)], vm := .none },
  { cls := 8, slots := #[.int (-125)], vm := .none },
  { cls := 8, slots := #[.int (-124)], vm := .none },
  { cls := 8, slots := #[.int (-123)], vm := .none },
  { cls := 8, slots := #[.int (-122)], vm := .none },
  { cls := 8, slots := #[.int (-121)], vm := .none },
  { cls := 8, slots := #[.int (-120)], vm := .none },
  { cls := 8, slots := #[.int (-119)], vm := .none },
  { cls := 8, slots := #[.int (-118)], vm := .none },
  { cls := 8, slots := #[.int (-117)], vm := .none },
  { cls := 8, slots := #[.int (-116)], vm := .none },
  { cls := 8, slots := #[.int (-115)], vm := .none },
  { cls := 8, slots := #[.int (-114)], vm := .none },
  { cls := 8, slots := #[.int (-113)], vm := .none },
  { cls := 8, slots := #[.int (-112)], vm := .none },
  { cls := 8, slots := #[.int (-111)], vm := .none },
  { cls := 8, slots := #[.int (-110)], vm := .none },
  { cls := 8, slots := #[.int (-109)], vm := .none },
  { cls := 8, slots := #[.int (-108)], vm := .none },
  { cls := 8, slots := #[.int (-107)], vm := .none },
  { cls := 8, slots := #[.int (-106)], vm := .none },
  { cls := 8, slots := #[.int (-105)], vm := .none },
  { cls := 8, slots := #[.int (-104)], vm := .none },
  { cls := 8, slots := #[.int (-103)], vm := .none },
  { cls := 8, slots := #[.int (-102)], vm := .none },
  { cls := 8, slots := #[.int (-101)], vm := .none },
  { cls := 8, slots := #[.int (-100)], vm := .none },
  { cls := 8, slots := #[.int (-99)], vm := .none },
  { cls := 8, slots := #[.int (-98)], vm := .none },
  { cls := 8, slots := #[.int (-97)], vm := .none },
  { cls := 8, slots := #[.int (-96)], vm := .none },
  { cls := 8, slots := #[.int (-95)], vm := .none },
  { cls := 8, slots := #[.int (-94)], vm := .none },
  { cls := 8, slots := #[.int (-93)], vm := .none },
  { cls := 8, slots := #[.int (-92)], vm := .none },
  { cls := 8, slots := #[.int (-91)], vm := .none },
  { cls := 8, slots := #[.int (-90)], vm := .none },
  { cls := 8, slots := #[.int (-89)], vm := .none },
  { cls := 8, slots := #[.int (-88)], vm := .none },
  { cls := 8, slots := #[.int (-87)], vm := .none },
  { cls := 8, slots := #[.int (-86)], vm := .none },
  { cls := 8, slots := #[.int (-85)], vm := .none },
  { cls := 8, slots := #[.int (-84)], vm := .none },
  { cls := 8, slots := #[.int (-83)], vm := .none },
  { cls := 8, slots := #[.int (-82)], vm := .none },
  { cls := 8, slots := #[.int (-81)], vm := .none },
  { cls := 8, slots := #[.int (-80)], vm := .none },
  { cls := 8, slots := #[.int (-79)], vm := .none },
  { cls := 8, slots := #[.int (-78)], vm := .none },
  { cls := 8, slots := #[.int (-77)], vm := .none },
  { cls := 8, slots := #[.int (-76)], vm := .none },
  { cls := 8, slots := #[.int (-75)], vm := .none },
  { cls := 8, slots := #[.int (-74)], vm := .none },
  { cls := 8, slots := #[.int (-73)], vm := .none },
  { cls := 8, slots := #[.int (-72)], vm := .none },
  { cls := 8, slots := #[.int (-71)], vm := .none },
  { cls := 8, slots := #[.int (-70)], vm := .none },
  { cls := 8, slots := #[.int (-69)], vm := .none },
  { cls := 8, slots := #[.int (-68)], vm := .none },
  { cls := 8, slots := #[.int (-67)], vm := .none },
  { cls := 8, slots := #[.int (-66)], vm := .none },
  { cls := 8, slots := #[.int (-65)], vm := .none },
  { cls := 8, slots := #[.int (-64)], vm := .none },
  { cls := 8, slots := #[.int (-63)], vm := .none },
  { cls := 8, slots := #[.int (-62)], vm := .none },
  { cls := 8, slots := #[.int (-61)], vm := .none },
  { cls := 8, slots := #[.int (-60)], vm := .none },
  { cls := 8, slots := #[.int (-59)], vm := .none },
  { cls := 8, slots := #[.int (-58)], vm := .none },
  { cls := 8, slots := #[.int (-57)], vm := .none },
  { cls := 8, slots := #[.int (-56)], vm := .none },
  { cls := 8, slots := #[.int (-55)], vm := .none },
  { cls := 8, slots := #[.int (-54)], vm := .none },
  { cls := 8, slots := #[.int (-53)], vm := .none },
  { cls := 8, slots := #[.int (-52)], vm := .none },
  { cls := 8, slots := #[.int (-51)], vm := .none },
  { cls := 8, slots := #[.int (-50)], vm := .none },
  { cls := 8, slots := #[.int (-49)], vm := .none },
  { cls := 8, slots := #[.int (-48)], vm := .none },
  { cls := 8, slots := #[.int (-47)], vm := .none },
  { cls := 8, slots := #[.int (-46)], vm := .none },
  { cls := 8, slots := #[.int (-45)], vm := .none },
  { cls := 8, slots := #[.int (-44)], vm := .none },
  { cls := 8, slots := #[.int (-43)], vm := .none },
  { cls := 8, slots := #[.int (-42)], vm := .none },
  { cls := 8, slots := #[.int (-41)], vm := .none },
  { cls := 8, slots := #[.int (-40)], vm := .none },
  { cls := 8, slots := #[.int (-39)], vm := .none },
  { cls := 8, slots := #[.int (-38)], vm := .none },
  { cls := 8, slots := #[.int (-37)], vm := .none },
  { cls := 8, slots := #[.int (-36)], vm := .none },
  { cls := 8, slots := #[.int (-35)], vm := .none },
  { cls := 8, slots := #[.int (-34)], vm := .none },
  { cls := 8, slots := #[.int (-33)], vm := .none },
  { cls := 8, slots := #[.int (-32)], vm := .none },
  { cls := 8, slots := #[.int (-31)], vm := .none },
  { cls := 8, slots := #[.int (-30)], vm := .none },
  { cls := 8, slots := #[.int (-29)], vm := .none },
  { cls := 8, slots := #[.int (-28)], vm := .none },
  { cls := 8, slots := #[.int (-27)], vm := .none },
  { cls := 8, slots := #[.int (-26)], vm := .none },
  { cls := 8, slots := #[.int (-25)], vm := .none },
  { cls := 8, slots := #[.int (-24)], vm := .none },
  { cls := 8, slots := #[.int (-23)], vm := .none },
  { cls := 8, slots := #[.int (-22)], vm := .none },
  { cls := 8, slots := #[.int (-21)], vm := .none },
  { cls := 8, slots := #[.int (-20)], vm := .none },
  { cls := 8, slots := #[.int (-19)], vm := .none },
  { cls := 8, slots := #[.int (-18)], vm := .none },
  { cls := 8, slots := #[.int (-17)], vm := .none },
  { cls := 8, slots := #[.int (-16)], vm := .none },
  { cls := 8, slots := #[.int (-15)], vm := .none },
  { cls := 8, slots := #[.int (-14)], vm := .none },
  { cls := 8, slots := #[.int (-13)], vm := .none },
  { cls := 8, slots := #[.int (-12)], vm := .none },
  { cls := 8, slots := #[.int (-11)], vm := .none },
  { cls := 8, slots := #[.int (-10)], vm := .none },
  { cls := 8, slots := #[.int (-9)], vm := .none },
  { cls := 8, slots := #[.int (-8)], vm := .none },
  { cls := 8, slots := #[.int (-7)], vm := .none },
  { cls := 8, slots := #[.int (-6)], vm := .none },
  { cls := 8, slots := #[.int (-5)], vm := .none },
  { cls := 8, slots := #[.int (-4)], vm := .none },
  { cls := 8, slots := #[.int (-3)], vm := .none },
  { cls := 8, slots := #[.int (-2)], vm := .none },
  { cls := 8, slots := #[.int (-1)], vm := .none },
  { cls := 8, slots := #[.int 0], vm := .none },
  { cls := 8, slots := #[.int 1], vm := .none },
  { cls := 8, slots := #[.int 2], vm := .none },
  { cls := 8, slots := #[.int 3], vm := .none },
  { cls := 8, slots := #[.int 4], vm := .none },
  { cls := 8, slots := #[.int 5], vm := .none },
  { cls := 8, slots := #[.int 6], vm := .none },
  { cls := 8, slots := #[.int 7], vm := .none },
  { cls := 8, slots := #[.int 8], vm := .none },
  { cls := 8, slots := #[.int 9], vm := .none },
  { cls := 8, slots := #[.int 10], vm := .none },
  { cls := 8, slots := #[.int 11], vm := .none },
  { cls := 8, slots := #[.int 12], vm := .none },
  { cls := 8, slots := #[.int 13], vm := .none },
  { cls := 8, slots := #[.int 14], vm := .none },
  { cls := 8, slots := #[.int 15], vm := .none },
  { cls := 8, slots := #[.int 16], vm := .none },
  { cls := 8, slots := #[.int 17], vm := .none },
  { cls := 8, slots := #[.int 18], vm := .none },
  { cls := 8, slots := #[.int 19], vm := .none },
  { cls := 8, slots := #[.int 20], vm := .none },
  { cls := 8, slots := #[.int 21], vm := .none },
  { cls := 8, slots := #[.int 22], vm := .none },
  { cls := 8, slots := #[.int 23], vm := .none },
  { cls := 8, slots := #[.int 24], vm := .none },
  { cls := 8, slots := #[.int 25], vm := .none },
  { cls := 8, slots := #[.int 26], vm := .none },
  { cls := 8, slots := #[.int 27], vm := .none },
  { cls := 8, slots := #[.int 28], vm := .none },
  { cls := 8, slots := #[.int 29], vm := .none },
  { cls := 8, slots := #[.int 30], vm := .none },
  { cls := 8, slots := #[.int 31], vm := .none },
  { cls := 8, slots := #[.int 32], vm := .none },
  { cls := 8, slots := #[.int 33], vm := .none },
  { cls := 8, slots := #[.int 34], vm := .none },
  { cls := 8, slots := #[.int 35], vm := .none },
  { cls := 8, slots := #[.int 36], vm := .none },
  { cls := 8, slots := #[.int 37], vm := .none },
  { cls := 8, slots := #[.int 38], vm := .none },
  { cls := 8, slots := #[.int 39], vm := .none },
  { cls := 8, slots := #[.int 40], vm := .none },
  { cls := 8, slots := #[.int 41], vm := .none },
  { cls := 8, slots := #[.int 42], vm := .none },
  { cls := 8, slots := #[.int 43], vm := .none },
  { cls := 8, slots := #[.int 44], vm := .none },
  { cls := 8, slots := #[.int 45], vm := .none },
  { cls := 8, slots := #[.int 46], vm := .none },
  { cls := 8, slots := #[.int 47], vm := .none },
  { cls := 8, slots := #[.int 48], vm := .none },
  { cls := 8, slots := #[.int 49], vm := .none },
  { cls := 8, slots := #[.int 50], vm := .none },
  { cls := 8, slots := #[.int 51], vm := .none },
  { cls := 8, slots := #[.int 52], vm := .none },
  { cls := 8, slots := #[.int 53], vm := .none },
  { cls := 8, slots := #[.int 54], vm := .none },
  { cls := 8, slots := #[.int 55], vm := .none },
  { cls := 8, slots := #[.int 56], vm := .none },
  { cls := 8, slots := #[.int 57], vm := .none },
  { cls := 8, slots := #[.int 58], vm := .none },
  { cls := 8, slots := #[.int 59], vm := .none },
  { cls := 8, slots := #[.int 60], vm := .none },
  { cls := 8, slots := #[.int 61], vm := .none },
  { cls := 8, slots := #[.int 62], vm := .none },
  { cls := 8, slots := #[.int 63], vm := .none },
  { cls := 8, slots := #[.int 64], vm := .none },
  { cls := 8, slots := #[.int 65], vm := .none },
  { cls := 8, slots := #[.int 66], vm := .none },
  { cls := 8, slots := #[.int 67], vm := .none },
  { cls := 8, slots := #[.int 68], vm := .none },
  { cls := 8, slots := #[.int 69], vm := .none },
  { cls := 8, slots := #[.int 70], vm := .none },
  { cls := 8, slots := #[.int 71], vm := .none },
  { cls := 8, slots := #[.int 72], vm := .none },
  { cls := 8, slots := #[.int 73], vm := .none },
  { cls := 8, slots := #[.int 74], vm := .none },
  { cls := 8, slots := #[.int 75], vm := .none },
  { cls := 8, slots := #[.int 76], vm := .none },
  { cls := 8, slots := #[.int 77], vm := .none },
  { cls := 8, slots := #[.int 78], vm := .none },
  { cls := 8, slots := #[.int 79], vm := .none },
  { cls := 8, slots := #[.int 80], vm := .none },
  { cls := 8, slots := #[.int 81], vm := .none },
  { cls := 8, slots := #[.int 82], vm := .none },
  { cls := 8, slots := #[.int 83], vm := .none },
  { cls := 8, slots := #[.int 84], vm := .none },
  { cls := 8, slots := #[.int 85], vm := .none },
  { cls := 8, slots := #[.int 86], vm := .none },
  { cls := 8, slots := #[.int 87], vm := .none },
  { cls := 8, slots := #[.int 88], vm := .none },
  { cls := 8, slots := #[.int 89], vm := .none },
  { cls := 8, slots := #[.int 90], vm := .none },
  { cls := 8, slots := #[.int 91], vm := .none },
  { cls := 8, slots := #[.int 92], vm := .none },
  { cls := 8, slots := #[.int 93], vm := .none },
  { cls := 8, slots := #[.int 94], vm := .none },
  { cls := 8, slots := #[.int 95], vm := .none },
  { cls := 8, slots := #[.int 96], vm := .none },
  { cls := 8, slots := #[.int 97], vm := .none },
  { cls := 8, slots := #[.int 98], vm := .none },
  { cls := 8, slots := #[.int 99], vm := .none },
  { cls := 8, slots := #[.int 100], vm := .none },
  { cls := 8, slots := #[.int 101], vm := .none },
  { cls := 8, slots := #[.int 102], vm := .none },
  { cls := 8, slots := #[.int 103], vm := .none },
  { cls := 8, slots := #[.int 104], vm := .none },
  { cls := 8, slots := #[.int 105], vm := .none },
  { cls := 8, slots := #[.int 106], vm := .none },
  { cls := 8, slots := #[.int 107], vm := .none },
  { cls := 8, slots := #[.int 108], vm := .none },
  { cls := 8, slots := #[.int 109], vm := .none },
  { cls := 8, slots := #[.int 110], vm := .none },
  { cls := 8, slots := #[.int 111], vm := .none },
  { cls := 8, slots := #[.int 112], vm := .none },
  { cls := 8, slots := #[.int 113], vm := .none },
  { cls := 8, slots := #[.int 114], vm := .none },
  { cls := 8, slots := #[.int 115], vm := .none },
  { cls := 8, slots := #[.int 116], vm := .none },
  { cls := 8, slots := #[.int 117], vm := .none },
  { cls := 8, slots := #[.int 118], vm := .none },
  { cls := 8, slots := #[.int 119], vm := .none },
  { cls := 8, slots := #[.int 120], vm := .none },
  { cls := 8, slots := #[.int 121], vm := .none },
  { cls := 8, slots := #[.int 122], vm := .none },
  { cls := 8, slots := #[.int 123], vm := .none },
  { cls := 8, slots := #[.int 124], vm := .none },
  { cls := 8, slots := #[.int 125], vm := .none },
  { cls := 8, slots := #[.int 126], vm := .none },
  { cls := 8, slots := #[.int 127], vm := .none }]
def classes : Array Class := #[k0, k1, k2, k3, k4, k5, k6, k7, k8, k9, k10, k11, k12, k13, k14, k15]
def interned : List (Array UInt16 × Addr) := []
def slotsUsed : Nat := 517
def theMethod : MethodId := ⟨1, 1⟩
def args0 : Array Value := #[.int 5, .long 6, .int 7, .long 8, .int 3]
def aboutOver (below : List Frame) : State where
  vm := { classes := classes, interned := interned.toArray }
  heap := heap
  slotsUsed := slotsUsed
  threads := #[{ frames := .invoking theMethod args0 :: below }]
def below0 : List Frame := [.native { method := ⟨0, 0⟩, args := #[] }]
def about1 : State := aboutOver below0
def p0 : Program := .bare "" "" ""
def e0 : Env := launch0.env 0 0 0
theorem w_frames : about1.frames = Frame.invoking theMethod args0 :: below0 := rfl
set_option maxRecDepth 65536 in
theorem w_args : argsFit about1.vm theMethod args0 = true := by decide +kernel
set_option maxRecDepth 65536 in
theorem w_heap : heapFits about1 = true := by decide +kernel
set_option maxRecDepth 65536 in
theorem w_runnable : about1.curStatus? = some .runnable := by decide +kernel
set_option maxRecDepth 65536 in
theorem w_alone : about1.alone = true := by decide +kernel
set_option maxRecDepth 65536 in
theorem w_named : about1.methodNamed? x = some theMethod := by decide +kernel
set_option maxRecDepth 65536 in
theorem w_hears : about1.hears theMethod below0 = true := by decide +kernel
set_option maxRecDepth 65536 in
theorem w_ripe : about1.ripe theMethod args0 below0 = true := by decide +kernel
theorem w_running : about1.status = .running := rfl
set_option maxRecDepth 65536 in
theorem w_room : about1.hasRoom e0.platform room_1 = true :=
  launch0.hasRoom_least _ room_1 (by decide +kernel) (by decide +kernel) (by decide +kernel) (by decide +kernel) (by decide +kernel) (by decide +kernel)
theorem allAtoms_all (ts : List Jvm.Cond) (a : Array Jvm.Value) (st : Jvm.State) : (allAtoms ts).before a st = ts.all (fun c => c.before a st) := by
  induction ts with
  | nil => rfl
  | cons c t ih =>
    show (Jvm.Cond.and c (allAtoms t)).before a st = _
    rw [Jvm.Cond.before_and, ih, List.all_cons]
def words1 : List Jvm.Cond := Jvm.Cond.code x code maxLocals ret :: tables_1
/-- a 'code' word, met by the world's own term for the bytes: nothing is compared byte by byte -/
theorem code_word {y : MethodName} {bytes : ByteArray} {mx : Nat} {rt : Option FieldType} {a : Array Value} {s : State} {m : MethodId} {meth : Method} {c : Code} (h1 : s.methodNamed? y = some m) (h2 : s.vm.method? m = some meth) (h3 : meth.code = some c) (h4 : c.code = bytes)
    (h5 : (c.maxLocals == mx && c.exceptionTable.isEmpty && decide (c.maxStack ≤ mostOperands) && decide (meth.sig.returnType = rt) && !meth.locks && decide (parseMethodDescriptor y.desc = some meth.sig)) = true) : (Jvm.Cond.code y bytes mx rt).before a s = true := by
  simp only [Bool.and_eq_true, beq_iff_eq, Bool.not_eq_true', decide_eq_true_eq] at h5
  obtain ⟨⟨⟨⟨⟨g1, g2⟩, g3⟩, g4⟩, g5⟩, g6⟩ := h5
  simp [Cond.before, Cond.holds, Cond.value, h1, h2, h3, h4, g1, g2, g3, g4, g5, g6]
def isCode : Jvm.Cond → Bool
  | .code _ _ _ _ => true
  | _ => false
theorem all_split {L : List Jvm.Cond} {P : Jvm.Cond → Bool} (h1 : L.all (fun c => isCode c || P c) = true) (h2 : ∀ c ∈ L.filter isCode, P c = true) : L.all P = true := by
  refine List.all_eq_true.mpr fun c hc => ?_
  have h := List.all_eq_true.mp h1 c hc
  rcases Bool.eq_false_or_eq_true (isCode c) with hi | hi
  · exact h2 c (List.mem_filter.mpr ⟨hc, hi⟩)
  · simpa [hi] using h
set_option maxRecDepth 65536 in
theorem w_c0 : (Jvm.Cond.code x code maxLocals ret).before args0 about1 = true := code_word (m := ⟨1, 1⟩) (meth := k1m1) (c := k1c1) (by decide +kernel) rfl rfl rfl (by decide +kernel)
set_option maxRecDepth 65536 in
theorem w_c1 : (Jvm.Cond.code ({ cls := "com/example/token_relay/tokenrelay/SnapshotId", name := "<init>", desc := "(IJ)V" } : Jvm.MethodName) prog_28_method_1_code (4 : Nat) (Option.none : Option Jvm.ClassFile.FieldType)).before args0 about1 = true := code_word (m := ⟨2, 0⟩) (meth := k2m0) (c := k2c0) (by decide +kernel) rfl rfl rfl (by decide +kernel)
set_option maxRecDepth 65536 in
theorem w_c2 : (Jvm.Cond.code ({ cls := "java/lang/Object", name := "<init>", desc := "()V" } : Jvm.MethodName) object_method_1_code (1 : Nat) (Option.none : Option Jvm.ClassFile.FieldType)).before args0 about1 = true := code_word (m := ⟨0, 0⟩) (meth := k0m0) (c := k0c0) (by decide +kernel) rfl rfl rfl (by decide +kernel)
set_option maxRecDepth 65536 in
theorem w_c3 : (Jvm.Cond.code ({ cls := "java/lang/Integer", name := "valueOf", desc := "(I)Ljava/lang/Integer;" } : Jvm.MethodName) jdk_33_method_22_code (1 : Nat) (Option.some (Jvm.ClassFile.FieldType.object "java/lang/Integer"))).before args0 about1 = true := code_word (m := ⟨8, 0⟩) (meth := k8m0) (c := k8c0) (by decide +kernel) rfl rfl rfl (by decide +kernel)
set_option maxRecDepth 65536 in
theorem w_c4 : (Jvm.Cond.code ({ cls := "com/example/token_relay/tokenrelay/SnapshotId", name := "equals", desc := "(Ljava/lang/Object;)Z" } : Jvm.MethodName) prog_28_method_4_code (3 : Nat) (Option.some Jvm.ClassFile.FieldType.boolean)).before args0 about1 = true := code_word (m := ⟨2, 1⟩) (meth := k2m1) (c := k2c1) (by decide +kernel) rfl rfl rfl (by decide +kernel)
set_option maxRecDepth 65536 in
theorem w_c5 : (Jvm.Cond.code ({ cls := "java/lang/Integer", name := "<init>", desc := "(I)V" } : Jvm.MethodName) jdk_33_method_23_code (2 : Nat) (Option.none : Option Jvm.ClassFile.FieldType)).before args0 about1 = true := code_word (m := ⟨8, 1⟩) (meth := k8m1) (c := k8c1) (by decide +kernel) rfl rfl rfl (by decide +kernel)
set_option maxRecDepth 65536 in
theorem w_c6 : (Jvm.Cond.code ({ cls := "java/lang/Number", name := "<init>", desc := "()V" } : Jvm.MethodName) jdk_18_method_1_code (1 : Nat) (Option.none : Option Jvm.ClassFile.FieldType)).before args0 about1 = true := code_word (m := ⟨4, 0⟩) (meth := k4m0) (c := k4c0) (by decide +kernel) rfl rfl rfl (by decide +kernel)
def codes1 : List Jvm.Cond := [Jvm.Cond.code x code maxLocals ret, Jvm.Cond.code ({ cls := "com/example/token_relay/tokenrelay/SnapshotId", name := "<init>", desc := "(IJ)V" } : Jvm.MethodName) prog_28_method_1_code (4 : Nat) (Option.none : Option Jvm.ClassFile.FieldType), Jvm.Cond.code ({ cls := "java/lang/Object", name := "<init>", desc := "()V" } : Jvm.MethodName) object_method_1_code (1 : Nat) (Option.none : Option Jvm.ClassFile.FieldType), Jvm.Cond.code ({ cls := "java/lang/Integer", name := "valueOf", desc := "(I)Ljava/lang/Integer;" } : Jvm.MethodName) jdk_33_method_22_code (1 : Nat) (Option.some (Jvm.ClassFile.FieldType.object "java/lang/Integer")), Jvm.Cond.code ({ cls := "com/example/token_relay/tokenrelay/SnapshotId", name := "equals", desc := "(Ljava/lang/Object;)Z" } : Jvm.MethodName) prog_28_method_4_code (3 : Nat) (Option.some Jvm.ClassFile.FieldType.boolean), Jvm.Cond.code ({ cls := "java/lang/Integer", name := "<init>", desc := "(I)V" } : Jvm.MethodName) jdk_33_method_23_code (2 : Nat) (Option.none : Option Jvm.ClassFile.FieldType), Jvm.Cond.code ({ cls := "java/lang/Number", name := "<init>", desc := "()V" } : Jvm.MethodName) jdk_18_method_1_code (1 : Nat) (Option.none : Option Jvm.ClassFile.FieldType)]
set_option maxRecDepth 65536 in
theorem codes_eq : words1.filter isCode = codes1 := rfl
theorem w_codes : ∀ c ∈ words1.filter isCode, c.before args0 about1 = true := by
  rw [codes_eq]
  intro c hc
  simp only [codes1, List.mem_cons, List.not_mem_nil, or_false] at hc
  rcases hc with rfl | rfl | rfl | rfl | rfl | rfl | rfl
  · exact w_c0
  · exact w_c1
  · exact w_c2
  · exact w_c3
  · exact w_c4
  · exact w_c5
  · exact w_c6
set_option maxRecDepth 65536 in
theorem w_t1 : (words1.take 24).all (fun c => isCode c || c.before args0 about1) = true := by decide +kernel
set_option maxRecDepth 65536 in
theorem w_t2 : (words1.drop 24).all (fun c => isCode c || c.before args0 about1) = true := by decide +kernel
theorem w_tables : (allAtoms (Jvm.Cond.code x code maxLocals ret :: tables_1)).before args0 about1 = true := by
  rw [allAtoms_all]
  show words1.all (fun c => c.before args0 about1) = true
  refine all_split ?_ w_codes
  rw [← List.take_append_drop 24 words1, List.all_append, w_t1, w_t2]
  rfl
set_option maxRecDepth 65536 in
theorem w_rest : rest_1_c.before args0 about1 = true := by decide +kernel
set_option maxRecDepth 65536 in
theorem w_case : (Jvm.Cond.and given_1 narrow_1).before args0 about1 = true := by decide +kernel
theorem w_applies : (headSpec (Jvm.Cond.code x code maxLocals ret :: tables_1) room_1).applies x e0.platform about1 = true :=
  (Spec.applies_iff w_frames).mpr ⟨w_running, w_runnable, w_alone, w_named, w_hears, w_ripe, w_room, w_tables⟩
theorem atStart : AtStart classFile x code maxLocals ret World_1 tables_1 room_1 Calls_1 rest_1 Pre_1 launch0 p0 e0 about1 theMethod args0 below0 :=
  ⟨lists_1, trivial, launch0.admits_env _ _ _, launch0.least_env, fairChoices_fair.cas, fairChoices_fair.clock, w_frames, w_args, w_heap, w_applies, trivial, w_rest, w_case⟩
end start1
theorem witness_1 : WitnessClaimed_1 := ⟨start1.p0, start1.e0, start1.about1, start1.theMethod, start1.args0, start1.below0, start1.atStart⟩
end Jvm.Pilot.@@N@@
