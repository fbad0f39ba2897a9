import JvmDerived
import JvmDerived.Pilot.@@N@@Statement
import JvmDerived.Pilot.@@N@@Code
set_option linter.unusedVariables false
set_option linter.unusedSimpArgs false
namespace Jvm.OwnKit
open Jvm Jvm.ClassFile Sem Op Lib Jvm.Free Jvm.Stand Jvm.LawKit Jvm.RoadKit
section Walk
variable {p : Program} {l : Launch} {e : Env} {R : Room} {s : State} {m : MethodId} {args : Array Value} {below : List Frame} {meth : Method} {c : Code} {T T' : State} {locs : List Loc} {cells slots k n : Nat} {Q : Option Value → Heap → List Loc → Prop} {P : Option Value → State → List Loc → Prop} {g g' : JFrame}
/-- from T with the frame g on top the run comes home: it returns, and Q says of what it returned, the heap and the places written -/
def Home {p : Program} {e : Env} {below : List Frame} {P : Option Value → State → List Loc → Prop} (T : State) (g : JFrame) : Prop :=
  ∃ U o, Steps p.tables e below (T.setTop g) U ∧ U.status = .running ∧ Ended U below o ∧ ∃ v L, o = .returned v ∧ P v U L
/-- the end of a walk that has booked no text -/
abbrev End (s : State) (Q : Option Value → Heap → List Loc → Prop) (k n : Nat) : Option Value → State → List Loc → Prop := fun v U L => Q v U.heap L ∧ FrameEnd s (.returned v) U L k n
theorem Home.go (st : ∀ t, Steps p.tables e below (T'.setTop g') t → Steps p.tables e below (T.setTop g) t) (H : @Home p e below P T' g') : @Home p e below P T g := by
  obtain ⟨U, o, h1, h2⟩ := H
  exact ⟨U, o, st _ h1, h2⟩
section Cps
variable {S : State → Prop} {S2 : State → Heap → Prop} {W E A D M : Heap → Prop} {A2 : Heap → ClassId → Prop} {O : ClassId → Prop} {h : Heap}
theorem Home.st (q : ∃ T', S T' ∧ T'.heap = h ∧ ∀ t, Steps p.tables e below (T'.setTop g') t → Steps p.tables e below (T.setTop g) t) (H : ∀ T', S T' → T'.heap = h → @Home p e below P T' g') : @Home p e below P T g := by
  obtain ⟨T', x, y, st⟩ := q
  exact Home.go st (H T' x y)
theorem Home.wr (q : ∃ T' h', S T' ∧ T'.heap = h' ∧ W h' ∧ ∀ t, Steps p.tables e below (T'.setTop g') t → Steps p.tables e below (T.setTop g) t) (H : ∀ T' h', S T' → T'.heap = h' → W h' → @Home p e below P T' g') : @Home p e below P T g := by
  obtain ⟨T', h', x, y, z, st⟩ := q
  exact Home.go st (H T' h' x y z)
theorem Home.nw {B : Addr → Prop} {A3 D3 : Heap → Addr → Prop} {ga : Addr → JFrame} (q : ∃ T' h' b, B b ∧ S T' ∧ T'.heap = h' ∧ E h' ∧ A3 h' b ∧ D3 h' b ∧ ∀ t, Steps p.tables e below (T'.setTop (ga b)) t → Steps p.tables e below (T.setTop g) t) (H : ∀ T' h' b, B b → S T' → T'.heap = h' → E h' → A3 h' b → D3 h' b → @Home p e below P T' (ga b)) : @Home p e below P T g := by
  obtain ⟨T', h', b, i, x, y, z, u, v, st⟩ := q
  exact Home.go st (H T' h' b i x y z u v)
theorem Home.na {B : Addr → Prop} {A3 : Heap → ClassId → Addr → Prop} {ga : Addr → JFrame} (q : ∃ T' h' c' b, B b ∧ S T' ∧ T'.heap = h' ∧ E h' ∧ A3 h' c' b ∧ ∀ t, Steps p.tables e below (T'.setTop (ga b)) t → Steps p.tables e below (T.setTop g) t) (H : ∀ T' h' c' b, B b → S T' → T'.heap = h' → E h' → A3 h' c' b → @Home p e below P T' (ga b)) : @Home p e below P T g := by
  obtain ⟨T', h', c', b, i, x, y, z, u, st⟩ := q
  exact Home.go st (H T' h' c' b i x y z u)
theorem Home.call {S3 : State → List Loc → Prop} {Q3 : Option Value → State → List Loc → Prop} {gv : Option Value → JFrame} (q : ∃ v T' L, S3 T' L ∧ Q3 v T' L ∧ ∀ t, Steps p.tables e below (T'.setTop (gv v)) t → Steps p.tables e below (T.setTop g) t) (H : ∀ v T' L, S3 T' L → Q3 v T' L → @Home p e below P T' (gv v)) : @Home p e below P T g := by
  obtain ⟨v, T', L, x, y, st⟩ := q
  exact Home.go st (H v T' L x y)
end Cps
theorem hW0 {m : MethodId} {pc n : Nat} {L : Array Slot} {S : List Value} : 2 * (mkF m pc L S).monitorRoom + n ≤ n := by show 2 * 0 + n ≤ n; omega
theorem Home.enter (q : g = g') (H : @Home p e below P T g') : @Home p e below P T g := by
  subst q; exact H
theorem Home.retN (X : Stand p l e R s m args below meth c T locs cells slots) (hx : p.tables.exec = Jvm.exec) (hlk : meth.locks = false) {pc : Nat} {Ls : Array Slot} {z : Int32} {t : FieldType} {rest : List Value} (hret : meth.sig.returnType = some t) (ht : t = .boolean ∨ t = .byte ∨ t = .char ∨ t = .short)
    (hd : decode c.code pc = .ok (.ireturn, 1)) (hQ : Q (some (.int (nar t z))) T.heap locs) (hk : cells ≤ k) (hn : slots ≤ n) : @Home p e below (End s Q k n) T (mkF m pc Ls (.int z :: rest)) := by
  obtain ⟨fs, hr, hrun, hended, hW, hsame⟩ := X.leave (v := some (.int (nar t z))) (fun h => by rw [hret] at h; cases h) hlk
  exact ⟨_, _, Jvm.RoadKit.retN X hx hret ht hd hr, hrun, hended, _, _, rfl, hQ, ⟨_, rfl⟩, hW, hsame.mono hk hn⟩
theorem Home.ret (X : Stand p l e R s m args below meth c T locs cells slots) (hx : p.tables.exec = Jvm.exec) (hlk : meth.locks = false) {pc : Nat} {Ls : Array Slot} {w : Value} {t : FieldType} {i : Instr} {rest : List Value} (hret : meth.sig.returnType = some t) (hnn : narrow t w = w)
    (hi : (i = .ireturn ∧ (t = .int ∨ t = .boolean ∨ t = .byte ∨ t = .char ∨ t = .short) ∧ ∃ z, w = .int z) ∨ (i = .lreturn ∧ t = .long ∧ ∃ z, w = .long z) ∨ (i = .dreturn ∧ t = .double ∧ ∃ z, w = .double z) ∨ (i = .freturn ∧ t = .float ∧ ∃ z, w = .float z) ∨ (i = .areturn ∧ t.isReference = true ∧ w.isRef = true))
    (hd : decode c.code pc = .ok (i, 1)) (hQ : Q (some w) T.heap locs) (hk : cells ≤ k) (hn : slots ≤ n) : @Home p e below (End s Q k n) T (mkF m pc Ls (w :: rest)) := by
  obtain ⟨fs, hr, hrun, hended, hW, hsame⟩ := X.leave (v := some w) (fun h => by rw [hret] at h; cases h) hlk
  exact ⟨_, _, retOut X hx hret hnn hi hd hr, hrun, hended, _, _, rfl, hQ, ⟨_, rfl⟩, hW, hsame.mono hk hn⟩
theorem Home.retI (X : Stand p l e R s m args below meth c T locs cells slots) (hx : p.tables.exec = Jvm.exec) (hlk : meth.locks = false) {pc : Nat} {Ls : Array Slot} {z : Int32} {rest : List Value} (hret : meth.sig.returnType = some .int)
    (hd : decode c.code pc = .ok (.ireturn, 1)) (hQ : Q (some (.int z)) T.heap locs) (hk : cells ≤ k) (hn : slots ≤ n) : @Home p e below (End s Q k n) T (mkF m pc Ls (.int z :: rest)) :=
  Home.ret X hx hlk hret rfl (Or.inl ⟨rfl, Or.inl rfl, z, rfl⟩) hd hQ hk hn
theorem own_narrow_ref {t : FieldType} {w : Value} (hw : w.isRef = true) : narrow t w = w := by
  rcases ref_cases hw with rfl | ⟨a, rfl⟩ <;> cases t <;> rfl
theorem Home.retR (X : Stand p l e R s m args below meth c T locs cells slots) (hx : p.tables.exec = Jvm.exec) (hlk : meth.locks = false) {pc : Nat} {Ls : Array Slot} {w : Value} {t : FieldType} {rest : List Value} (hret : meth.sig.returnType = some t) (ht : t.isReference = true) (hw : w.isRef = true)
    (hd : decode c.code pc = .ok (.areturn, 1)) (hQ : Q (some w) T.heap locs) (hk : cells ≤ k) (hn : slots ≤ n) : @Home p e below (End s Q k n) T (mkF m pc Ls (w :: rest)) :=
  Home.ret X hx hlk hret (own_narrow_ref hw) (Or.inr (Or.inr (Or.inr (Or.inr ⟨rfl, ht, hw⟩)))) hd hQ hk hn
theorem Home.ret0 (X : Stand p l e R s m args below meth c T locs cells slots) (hx : p.tables.exec = Jvm.exec) (hlk : meth.locks = false) {pc : Nat} {Ls : Array Slot} (hret : meth.sig.returnType = none)
    (hd : decode c.code pc = .ok (.return_, 1)) (hQ : Q none T.heap locs) (hk : cells ≤ k) (hn : slots ≤ n) : @Home p e below (End s Q k n) T (mkF m pc Ls []) := by
  obtain ⟨fs, hr, hrun, hended, hW, hsame⟩ := X.leave (v := none) (fun _ => rfl) hlk
  exact ⟨_, _, X.returnOut hx hret hd hr, hrun, hended, _, _, rfl, hQ, ⟨_, rfl⟩, hW, hsame.mono hk hn⟩
end Walk
section New
variable {p : Program} {l : Launch} {e : Env} {R : Room} {s : State} {m : MethodId} {args : Array Value} {below : List Frame} {meth : Method} {c : Code} {T : State} {locs : List Loc} {cells slots : Nat} {Z : State} {a0 : Array Value} {h : Heap}
theorem own_newO (X : Stand p l e R s m args below meth c T locs cells slots) (hx : p.tables.exec = Jvm.exec) (hZ : Z.Warmed39 s.vm) {own C : String} {index n : Nat} (hown : s.vm.findClass own = some m.cls) (w : (Cond.classLink own index C).before a0 Z = true) (wi : (Cond.instantiable C n).before a0 Z = true) (wz : (Cond.initialized C).before a0 Z = true) (eT : T.heap = h)
    {g : JFrame} (hg : g.method = m) (hd : decode c.code g.pc = .ok (.new index, 3)) (hc : cells + 1 ≤ R.cells) (hl : slots + n ≤ R.slots) :
    ∃ T' h' b, b = h.size ∧ Stand p l e R s m args below meth c T' locs (cells + 1) (slots + n) ∧ T'.heap = h' ∧ Ext h h' ∧ Exa Z h' b C ∧ (∀ {O nm d : String} {ty : FieldType}, Laid Z a0 C O nm d → parseFieldDescriptor d = some ty → Fld Z h' b O nm d (defaultValue ty)) ∧
      ∀ target, Steps p.tables e below (T'.setTop { g with pc := g.pc + 3, stack := .ref b :: g.stack }) target → Steps p.tables e below (T.setTop g) target := by
  obtain ⟨T', h', X', e', E', A', D', -, st⟩ := newO X hx hZ hown w wi wz eT hg hd hc hl
  exact ⟨T', h', _, rfl, X', e', E', A', D', st⟩
theorem own_newP (X : Stand p l e R s m args below meth c T locs cells slots) (hx : p.tables.exec = Jvm.exec) (hZ : Z.Warmed39 s.vm) {aty : ArrayType} (w : (Cond.arrayClass (newarray.typeOf aty)).before a0 Z = true) (eT : T.heap = h) {g : JFrame} (hg : g.method = m) (hd : decode c.code g.pc = .ok (.newarray aty, 2)) {n : Int32} {rest : List Value} (hs : g.stack = .int n :: rest)
    (hn : ¬ n < 0) {cap : Nat} (hcap : n.toNatClampNeg ≤ cap) (hb : cap * 8 ≤ 536870912) (hc : cells + 1 ≤ R.cells) (hl : slots + cap ≤ R.slots) :
    ∃ T' h' cA b, b = h.size ∧ Stand p l e R s m args below meth c T' locs (cells + 1) (slots + cap) ∧ T'.heap = h' ∧ Ext h h' ∧ Arr Z h' b (newA cA (newarray.typeOf aty) n) (newarray.typeOf aty) ∧
      ∀ target, Steps p.tables e below (T'.setTop { g with pc := g.pc + 2, stack := .ref b :: rest }) target → Steps p.tables e below (T.setTop g) target := by
  obtain ⟨T', h', cA, X', e', E', A', st⟩ := newP X hx hZ w eT hg hd hs hn hcap hb hc hl
  exact ⟨T', h', cA, _, rfl, X', e', E', A', st⟩
end New
section Run
variable {p : Program} {l : Launch} {e : Env} {R : Room} {s : State} {m : MethodId} {args : Array Value} {below : List Frame} {meth : Method} {c : Code} {T : State} {locs : List Loc} {cells slots : Nat} {target : State}
def un32 (f : Int32 → Value) (S : List Value) : Option (List Value) := match S with | .int x :: r => some (f x :: r) | _ => none
def un64 (f : Int64 → Value) (S : List Value) : Option (List Value) := match S with | .long x :: r => some (f x :: r) | _ => none
def bi32 (f : Int32 → Int32 → Int32) (S : List Value) : Option (List Value) := match S with | .int y :: .int x :: r => some (.int (f x y) :: r) | _ => none
def bi64 (f : Int64 → Int64 → Value) (S : List Value) : Option (List Value) := match S with | .long y :: .long x :: r => some (f x y :: r) | _ => none
def sh64 (f : Int64 → Int32 → Int64) (S : List Value) : Option (List Value) := match S with | .int y :: .long x :: r => some (.long (f x y) :: r) | _ => none
/-- the stack behind an instruction that reads and writes the stack alone -/
def stk (i : Instr) (S : List Value) : Option (List Value) := match i with
  | .iconst k => some (.int (Int32.ofInt k) :: S)
  | .bipush k => some (.int (Int8.ofInt k).toInt32 :: S)
  | .sipush k => some (.int (Int16.ofInt k).toInt32 :: S)
  | .lconst k => some (.long (Int64.ofNat k) :: S)
  | .aconst_null => some (.null :: S)
  | .iadd => bi32 (· + ·) S
  | .isub => bi32 (· - ·) S
  | .imul => bi32 (· * ·) S
  | .iand => bi32 (· &&& ·) S
  | .ior => bi32 (· ||| ·) S
  | .ixor => bi32 (· ^^^ ·) S
  | .ishl => bi32 (fun x y => x <<< (y &&& 31)) S
  | .ishr => bi32 (fun x y => x >>> (y &&& 31)) S
  | .iushr => bi32 (fun x y => (x.toUInt32 >>> (y &&& 31).toUInt32).toInt32) S
  | .ladd => bi64 (fun x y => .long (x + y)) S
  | .lsub => bi64 (fun x y => .long (x - y)) S
  | .lmul => bi64 (fun x y => .long (x * y)) S
  | .land => bi64 (fun x y => .long (x &&& y)) S
  | .lor => bi64 (fun x y => .long (x ||| y)) S
  | .lxor => bi64 (fun x y => .long (x ^^^ y)) S
  | .lcmp => bi64 (fun x y => .int (if x > y then 1 else if x = y then 0 else -1)) S
  | .lshl => sh64 (fun x y => x <<< (y &&& 0x3f).toInt64) S
  | .lshr => sh64 (fun x y => x >>> (y &&& 0x3f).toInt64) S
  | .lushr => sh64 (fun x y => (x.toUInt64 >>> (y &&& 0x3f).toInt64.toUInt64).toInt64) S
  | .ineg => un32 (fun x => .int (-x)) S
  | .lneg => un64 (fun x => .long (-x)) S
  | .i2l => un32 (fun x => .long x.toInt64) S
  | .l2i => un64 (fun x => .int x.toInt32) S
  | .i2b => un32 (fun x => .int x.toInt8.toInt32) S
  | .i2c => un32 (fun x => .int x.toUInt32.toUInt16.toUInt32.toInt32) S
  | .i2s => un32 (fun x => .int x.toInt16.toInt32) S
  | .dup => match S with | x :: r => if x.category = 1 then some (x :: x :: r) else none | _ => none
  | .pop => match S with | x :: r => if x.category = 1 then some r else none | _ => none
  | .dup_x1 => match S with | x :: y :: r => if x.category = 1 ∧ y.category = 1 then some (x :: y :: x :: r) else none | _ => none
  | _ => none
theorem un32_s {f : Int32 → Value} {S S' : List Value} (h : un32 f S = some S') : ∃ x r, S = .int x :: r ∧ S' = f x :: r := by
  unfold un32 at h; split at h
  · cases h; exact ⟨_, _, rfl, rfl⟩
  · cases h
theorem un64_s {f : Int64 → Value} {S S' : List Value} (h : un64 f S = some S') : ∃ x r, S = .long x :: r ∧ S' = f x :: r := by
  unfold un64 at h; split at h
  · cases h; exact ⟨_, _, rfl, rfl⟩
  · cases h
theorem bi32_s {f : Int32 → Int32 → Int32} {S S' : List Value} (h : bi32 f S = some S') : ∃ x y r, S = .int y :: .int x :: r ∧ S' = .int (f x y) :: r := by
  unfold bi32 at h; split at h
  · cases h; exact ⟨_, _, _, rfl, rfl⟩
  · cases h
theorem bi64_s {f : Int64 → Int64 → Value} {S S' : List Value} (h : bi64 f S = some S') : ∃ x y r, S = .long y :: .long x :: r ∧ S' = f x y :: r := by
  unfold bi64 at h; split at h
  · cases h; exact ⟨_, _, _, rfl, rfl⟩
  · cases h
theorem sh64_s {f : Int64 → Int32 → Int64} {S S' : List Value} (h : sh64 f S = some S') : ∃ x y r, S = .int y :: .long x :: r ∧ S' = .long (f x y) :: r := by
  unfold sh64 at h; split at h
  · cases h; exact ⟨_, _, _, rfl, rfl⟩
  · cases h
def len1 (i : Instr) : Nat := match i with | .bipush _ => 2 | .sipush _ => 3 | _ => 1
theorem stk_s (X : Stand p l e R s m args below meth c T locs cells slots) (hx : p.tables.exec = Jvm.exec) {i : Instr} {n pc : Nat} {L : Array Slot} {S S' : List Value} (hd : decode c.code pc = .ok (i, n)) (hn : n = len1 i) (h : stk i S = some S')
    (H : Steps p.tables e below (T.setTop (mkF m (pc + n) L S')) target) : Steps p.tables e below (T.setTop (mkF m pc L S)) target := by
  subst hn
  unfold stk at h
  split at h <;> first
    | (cases h; first | exact XS.iconst X.here hx rfl hd H | exact XS.bipush X.here hx rfl hd H | exact XS.sipush X.here hx rfl hd H | exact XS.lconst X.here hx rfl hd H | exact XS.aconstNull X.here hx rfl hd H)
    | (obtain ⟨x, y, r, rfl, rfl⟩ := bi32_s h; first | exact XS.iadd X.here hx rfl hd rfl H | exact XS.isub X.here hx rfl hd rfl H | exact XS.imul X.here hx rfl hd rfl H | exact XS.iand X.here hx rfl hd rfl H | exact XS.ior X.here hx rfl hd rfl H | exact XS.ixor X.here hx rfl hd rfl H | exact XS.ishl X.here hx rfl hd rfl H | exact XS.ishr X.here hx rfl hd rfl H | exact XS.iushr X.here hx rfl hd rfl H)
    | (obtain ⟨x, y, r, rfl, rfl⟩ := bi64_s h; first | exact XS.ladd X.here hx rfl hd rfl H | exact XS.lsub X.here hx rfl hd rfl H | exact XS.lmul X.here hx rfl hd rfl H | exact XS.land X.here hx rfl hd rfl H | exact XS.lor X.here hx rfl hd rfl H | exact XS.lxor X.here hx rfl hd rfl H | exact XS.lcmp X.here hx rfl hd rfl H)
    | (obtain ⟨x, y, r, rfl, rfl⟩ := sh64_s h; first | exact XS.lshl X.here hx rfl hd rfl H | exact XS.lshr X.here hx rfl hd rfl H | exact XS.lushr X.here hx rfl hd rfl H)
    | (obtain ⟨x, r, rfl, rfl⟩ := un32_s h; first | exact XS.ineg X.here hx rfl hd rfl H | exact XS.i2l X.here hx rfl hd rfl H | exact XS.i2b X.here hx rfl hd rfl H | exact XS.i2c X.here hx rfl hd rfl H | exact XS.i2s X.here hx rfl hd rfl H)
    | (obtain ⟨x, r, rfl, rfl⟩ := un64_s h; first | exact XS.lneg X.here hx rfl hd rfl H | exact XS.l2i X.here hx rfl hd rfl H)
    | (split at h <;> (try split at h) <;> first | (cases h; done) | (rename_i q; cases h; first | exact XS.dup X.here hx rfl hd rfl q H | exact XS.pop X.here hx rfl hd rfl q H | exact XS.dupX1 X.here hx rfl hd rfl q.1 q.2 H))
    | cases h
def ldI (L : Array Slot) (S : List Value) (k : Nat) : Option (Array Slot × List Value) := match L[k]? with | some (.val (.int v)) => some (L, .int v :: S) | _ => none
def ldJ (L : Array Slot) (S : List Value) (k : Nat) : Option (Array Slot × List Value) := match L[k]? with | some (.val (.long v)) => some (L, .long v :: S) | _ => none
def ldA (L : Array Slot) (S : List Value) (k : Nat) : Option (Array Slot × List Value) := match L[k]? with | some (.val v) => if v.isRef = true then some (L, v :: S) else none | _ => none
def stI1 (L : Array Slot) (S : List Value) (k : Nat) : Option (Array Slot × List Value) := match S with | .int x :: r => (storeLocals L k (.int x)).map fun l' => (l', r) | _ => none
def stJ1 (L : Array Slot) (S : List Value) (k : Nat) : Option (Array Slot × List Value) := match S with | .long x :: r => (storeLocals L k (.long x)).map fun l' => (l', r) | _ => none
def stA1 (L : Array Slot) (S : List Value) (k : Nat) : Option (Array Slot × List Value) := match S with | x :: r => if x.isRef = true then (storeLocals L k x).map fun l' => (l', r) else none | _ => none
/-- what an instruction does to pc, locals and stack; nothing else is touched -/
def run1 (i : Instr) (n pc : Nat) (L : Array Slot) (S : List Value) : Option (Nat × Array Slot × List Value) := match i with
  | .iload_n k => if n = 1 then (ldI L S k.val).map (pc + n, ·) else none
  | .iload k => if n = 2 then (ldI L S k).map (pc + n, ·) else none
  | .lload_n k => if n = 1 then (ldJ L S k.val).map (pc + n, ·) else none
  | .lload k => if n = 2 then (ldJ L S k).map (pc + n, ·) else none
  | .aload_n k => if n = 1 then (ldA L S k.val).map (pc + n, ·) else none
  | .aload k => if n = 2 then (ldA L S k).map (pc + n, ·) else none
  | .istore_n k => if n = 1 then (stI1 L S k.val).map (pc + n, ·) else none
  | .istore k => if n = 2 then (stI1 L S k).map (pc + n, ·) else none
  | .lstore_n k => if n = 1 then (stJ1 L S k.val).map (pc + n, ·) else none
  | .lstore k => if n = 2 then (stJ1 L S k).map (pc + n, ·) else none
  | .astore_n k => if n = 1 then (stA1 L S k.val).map (pc + n, ·) else none
  | .astore k => if n = 2 then (stA1 L S k).map (pc + n, ·) else none
  | .iinc k cst => if n = 3 then (match L[k]? with | some (.val (.int x)) => (storeLocals L k (.int (x + Int32.ofInt cst))).map fun l' => (pc + n, l', S) | _ => none) else none
  | .goto o => if n = 3 then (if 0 ≤ (pc : Int) + o then some (((pc : Int) + o).toNat, L, S) else none) else none
  | i => if n = len1 i then (stk i S).map fun S' => (pc + n, L, S') else none
theorem ldI_s {L L' : Array Slot} {S S' : List Value} {k : Nat} (h : ldI L S k = some (L', S')) : ∃ v, L[k]? = some (.val (.int v)) ∧ L' = L ∧ S' = .int v :: S := by
  unfold ldI at h; split at h
  · cases h; exact ⟨_, by assumption, rfl, rfl⟩
  · cases h
theorem ldJ_s {L L' : Array Slot} {S S' : List Value} {k : Nat} (h : ldJ L S k = some (L', S')) : ∃ v, L[k]? = some (.val (.long v)) ∧ L' = L ∧ S' = .long v :: S := by
  unfold ldJ at h; split at h
  · cases h; exact ⟨_, by assumption, rfl, rfl⟩
  · cases h
theorem ldA_s {L L' : Array Slot} {S S' : List Value} {k : Nat} (h : ldA L S k = some (L', S')) : ∃ v, L[k]? = some (.val v) ∧ v.isRef = true ∧ L' = L ∧ S' = v :: S := by
  unfold ldA at h; split at h
  · split at h
    · cases h; exact ⟨_, by assumption, by assumption, rfl, rfl⟩
    · cases h
  · cases h
theorem stI1_s {L L' : Array Slot} {S S' : List Value} {k : Nat} (h : stI1 L S k = some (L', S')) : ∃ x, S = .int x :: S' ∧ storeLocals L k (.int x) = some L' := by
  unfold stI1 at h; split at h
  · rw [Option.map_eq_some_iff] at h; obtain ⟨l', h1, h2⟩ := h; cases h2; exact ⟨_, rfl, h1⟩
  · cases h
theorem stJ1_s {L L' : Array Slot} {S S' : List Value} {k : Nat} (h : stJ1 L S k = some (L', S')) : ∃ x, S = .long x :: S' ∧ storeLocals L k (.long x) = some L' := by
  unfold stJ1 at h; split at h
  · rw [Option.map_eq_some_iff] at h; obtain ⟨l', h1, h2⟩ := h; cases h2; exact ⟨_, rfl, h1⟩
  · cases h
theorem stA1_s {L L' : Array Slot} {S S' : List Value} {k : Nat} (h : stA1 L S k = some (L', S')) : ∃ x, S = x :: S' ∧ x.isRef = true ∧ storeLocals L k x = some L' := by
  unfold stA1 at h; split at h
  · split at h
    · rw [Option.map_eq_some_iff] at h; obtain ⟨l', h1, h2⟩ := h; cases h2; exact ⟨_, rfl, by assumption, h1⟩
    · cases h
  · cases h
theorem map_s {α β : Type} {o : Option α} {f : α → β} {y : β} (h : o.map f = some y) : ∃ x, o = some x ∧ f x = y := Option.map_eq_some_iff.mp h
theorem run1_s (X : Stand p l e R s m args below meth c T locs cells slots) (hx : p.tables.exec = Jvm.exec) {i : Instr} {n pc pc' : Nat} {L L' : Array Slot} {S S' : List Value} (hd : decode c.code pc = .ok (i, n)) (h : run1 i n pc L S = some (pc', L', S'))
    (H : Steps p.tables e below (T.setTop (mkF m pc' L' S')) target) : Steps p.tables e below (T.setTop (mkF m pc L S)) target := by
  unfold run1 at h
  split at h <;> split at h <;> first
    | (cases h; done)
    | (rename_i hn; subst hn; obtain ⟨⟨L1, S1⟩, h1, h2⟩ := map_s h; cases h2; first
        | (obtain ⟨v, q1, rfl, rfl⟩ := ldI_s h1; first | exact XS.iloadN X.here hx rfl hd q1 H | exact XS.iload X.here hx rfl hd q1 H)
        | (obtain ⟨v, q1, rfl, rfl⟩ := ldJ_s h1; first | exact XS.lloadN X.here hx rfl hd q1 H | exact XS.lload X.here hx rfl hd q1 H)
        | (obtain ⟨v, q1, q2, rfl, rfl⟩ := ldA_s h1; first | exact XS.aloadN X.here hx rfl hd q1 q2 H | exact XS.aload X.here hx rfl hd q1 q2 H)
        | (obtain ⟨x, rfl, q⟩ := stI1_s h1; first | exact XS.istoreN X.here hx rfl hd rfl q H | exact XS.istore X.here hx rfl hd rfl q H)
        | (obtain ⟨x, rfl, q⟩ := stJ1_s h1; first | exact XS.lstoreN X.here hx rfl hd rfl q H | exact XS.lstore X.here hx rfl hd rfl q H)
        | (obtain ⟨x, rfl, q1, q⟩ := stA1_s h1; first | exact XS.astoreN X.here hx rfl hd rfl q1 q H | exact XS.astore X.here hx rfl hd rfl q1 q H))
    | (rename_i hn; subst hn; split at h <;> first
        | (cases h; done)
        | (rename_i q; obtain ⟨l', h1, h2⟩ := map_s h; cases h2; exact XS.iinc X.here hx rfl hd q h1 H)
        | (rename_i q; cases h; exact XS.goto X.here hx rfl (pc0 := pc) rfl hd q rfl H))
    | (rename_i hn; obtain ⟨S1, h1, h2⟩ := map_s h; cases h2; exact stk_s X hx hd hn h1 H)
def runs : List (Nat × Instr × Nat) → Nat → Array Slot → List Value → Option (Nat × Array Slot × List Value)
  | [], pc, L, S => some (pc, L, S)
  | (q, i, n) :: is, pc, L, S => if q = pc then (match run1 i n pc L S with | some (pc', L', S') => runs is pc' L' S' | none => none) else none
def decs (code : ByteArray) : List (Nat × Instr × Nat) → Prop
  | [] => True
  | (q, i, n) :: is => decode code q = .ok (i, n) ∧ decs code is
theorem runs_s (X : Stand p l e R s m args below meth c T locs cells slots) (hx : p.tables.exec = Jvm.exec) {pc' : Nat} {L' : Array Slot} {S' : List Value} (H : Steps p.tables e below (T.setTop (mkF m pc' L' S')) target) :
    ∀ (is : List (Nat × Instr × Nat)) (pc : Nat) (L : Array Slot) (S : List Value), decs c.code is → runs is pc L S = some (pc', L', S') → Steps p.tables e below (T.setTop (mkF m pc L S)) target
  | [], pc, L, S, _, h => by cases h; exact H
  | (q, i, n) :: is, pc, L, S, hd, h => by
    unfold runs at h
    split at h
    · rename_i e1; subst e1
      split at h
      · rename_i pc1 L1 S1 h1
        exact run1_s X hx hd.1 h1 (runs_s X hx H is pc1 L1 S1 hd.2 h)
      · cases h
    · cases h
variable {P : Option Value → State → List Loc → Prop}
theorem Home.run (X : Stand p l e R s m args below meth c T locs cells slots) (hx : p.tables.exec = Jvm.exec) {bytes : ByteArray} (hby : c.code = bytes) {is : List (Nat × Instr × Nat)} (hd : decs bytes is) {pc pc' : Nat} {L L' : Array Slot} {S S' : List Value} (h : runs is pc L S = some (pc', L', S'))
    (H : @Home p e below P T (mkF m pc' L' S')) : @Home p e below P T (mkF m pc L S) :=
  Home.go (fun _ kt => runs_s X hx kt is pc L S (by rw [hby]; exact hd) h) H
end Run
section Calls
variable {p : Program} {l : Launch} {e : Env} {R : Room} {s : State} {m : MethodId} {args : Array Value} {below : List Frame} {meth : Method} {c : Code} {T : State} {locs : List Loc} {cells slots : Nat} {Z : State} {a0 : Array Value} {h : Heap} {y z : MethodName} {bytes : ByteArray} {maxL : Nat} {ret : Option FieldType} {rm : Room} {W : Nat} {as' : Array Value} {Q : Option Value → Heap → List Loc → Prop} {own C : String} {index : Nat}
/-- a body's contract, at one heap and one list of arguments -/
abbrev Con (l : Launch) (Z : State) (y : MethodName) (bytes : ByteArray) (maxL : Nat) (ret : Option FieldType) (ws : List Jvm.Cond) (rm : Room) (as' : Array Value) (h : Heap) (Q : Option Value → Heap → List Loc → Prop) : Prop :=
  MetFree l y (head1 (Jvm.Cond.code y bytes maxL ret :: ws) rm) (fun a U => a = as' ∧ Z.Warmed39 U.vm ∧ U.heap = h) (fun _ _ _ _ _ => True) (fun _ U o U' => ∃ v L, o = .returned v ∧ Q v U'.heap L ∧ FrameEnd U o U' L rm.cells rm.slots)
/-- it leaves the heap as it was -/
abbrev Pur (w : Option Value) (h0 : Heap) : Option Value → Heap → List Loc → Prop := fun v h L => v = w ∧ L = [] ∧ h = h0
/-- from a walk that comes home to the contract -/
theorem own_body {ws : List Jvm.Cond} {L0 : Array Slot} (pn : plainFor y = true) (ef : ∀ m, entryFrame m as' maxL = mkF m 0 L0 [])
    (body : ∀ (p : Program) (e : Env) (s : State) (m : MethodId) (below : List Frame) (meth : Method) (c : Code) (s₁ : State), p.tables.exec = Jvm.exec → c.code = bytes → meth.locks = false → c.maxLocals = maxL → meth.sig.returnType = ret → Z.Warmed39 s.vm → s.vm.findClass y.cls = some m.cls → meth.name = y.name →
      Stand p l e rm s m as' below meth c s₁ [] 0 0 → s₁.heap = h → @Home p e below (End s Q rm.cells rm.slots) s₁ (mkF m 0 L0 [])) : Con l Z y bytes maxL ret ws rm as' h Q := by
  refine MetFree.of_bodySF pn hisR ?_
  intro p e s m args below meth c s₁ Bd hml0 hP hK
  obtain ⟨rfl, hZ, hh⟩ := hP
  have H : @Home p e below (End s Q rm.cells rm.slots) s₁ (entryFrame m args maxL) := Home.enter (ef m) (body p e s m below meth c s₁ Bd.exec Bd.bytes (BodyLoose.notSynchronized Bd) hml0 Bd.returns hZ (findClass_of_methodNamed Bd.named) (name_of_methodNamed Bd.named Bd.method).1 (Stand.of_body Bd) (by rw [← hh, Bd.state]; rfl))
  obtain ⟨U, o, h1, h2, h3, v, L, rfl, h4, h5⟩ := H
  exact ⟨U, _, h1, h2, h3, v, L, rfl, h4, h5⟩
theorem own_static (X : Stand p l e R s m args below meth c T locs cells slots) (hx : p.tables.exec = Jvm.exec) (hZ : Z.Warmed39 s.vm) (hown : s.vm.findClass own = some m.cls)
    (w1 : (Cond.methodLink own index y).before a0 Z = true) (w2 : (Cond.static y).before a0 Z = true) (w3 : (Cond.initialized y.cls).before a0 Z = true) (w4 : (Cond.code y bytes maxL ret).before a0 Z = true)
    (hy : y.cls ≠ "java/lang/invoke/MethodHandle" ∧ y.cls ≠ "java/lang/invoke/VarHandle") (hM : Con l Z y bytes maxL ret [] rm as' h Q) (eT : T.heap = h)
    {g : JFrame} (hg : g.method = m) (hsize : g.locals.size = c.maxLocals) {argsL rest : List Value} (hlen : ∀ sig, parseMethodDescriptor y.desc = some sig → argsL.length = sig.parameters.length) (hstack : g.stack = argsL.reverse ++ rest) (ha : argsL.toArray = as')
    (hW : 2 * g.monitorRoom + (rest.map fun v => v.category).sum ≤ W) (hf : rm.frames + 1 ≤ R.frames) (hl : W + (maxL + 11) + rm.locals ≤ R.locals)
    (hdg : decode c.code g.pc = .ok (.invokestatic index, 3)) (hc : cells + rm.cells ≤ R.cells) (hs : slots + rm.slots ≤ R.slots) :
    ∃ v T' L, Stand p l e R s m args below meth c T' (locs ++ L) (cells + rm.cells) (slots + rm.slots) ∧ Q v T'.heap L ∧
      ∀ t, Steps p.tables e below (T'.setTop { g with pc := g.pc + 3, stack := v.toList ++ rest }) t → Steps p.tables e below (T.setTop g) t := by
  obtain ⟨v, _, ⟨T', L', k', n'⟩, -, X', ⟨L, hQ, l', y', z'⟩, st⟩ := Jvm.LawKit.callS X hx (y := y) hown (mvT hZ w1) (mvT hZ w2) (mvT hZ w3) (mvT hZ w4) hy (backOf (W := W) hM hZ w4 w3 hf hl) hg hsize hlen hstack hW hdg (fun _ _ => ⟨ha, eT, hc, hs⟩)
  dsimp only [Pt.U, Pt.locs, Pt.cells, Pt.slots] at X' l' y' z' st hQ
  subst l' y' z'
  exact ⟨v, T', L, X', hQ, st⟩
theorem own_special (X : Stand p l e R s m args below meth c T locs cells slots) (hx : p.tables.exec = Jvm.exec) (hZ : Z.Warmed39 s.vm) (hown : s.vm.findClass own = some m.cls) (hy1 : y.name = "<init>")
    (w1 : (Cond.methodLink own index y).before a0 Z = true) (w2 : (Cond.instanceMethod y).before a0 Z = true) (w3 : (Cond.initialized y.cls).before a0 Z = true) (w4 : (Cond.code y bytes maxL none).before a0 Z = true)
    (hy : y.cls ≠ "java/lang/invoke/MethodHandle" ∧ y.cls ≠ "java/lang/invoke/VarHandle") (hM : Con l Z y bytes maxL none [] rm as' h Q) (eT : T.heap = h)
    {g : JFrame} (hg : g.method = m) (hsize : g.locals.size = c.maxLocals) {a : Addr} {argsL rest : List Value} (hlen : ∀ sig, parseMethodDescriptor y.desc = some sig → argsL.length = sig.parameters.length) (hstack : g.stack = argsL.reverse ++ .ref a :: rest) (ha : (.ref a :: argsL).toArray = as')
    (hW : 2 * g.monitorRoom + (rest.map fun v => v.category).sum ≤ W) (hf : rm.frames + 1 ≤ R.frames) (hl : W + (maxL + 11) + rm.locals ≤ R.locals)
    (hdg : decode c.code g.pc = .ok (.invokespecial index, 3)) (hc : cells + rm.cells ≤ R.cells) (hs : slots + rm.slots ≤ R.slots) :
    ∃ v T' L, Stand p l e R s m args below meth c T' (locs ++ L) (cells + rm.cells) (slots + rm.slots) ∧ Q v T'.heap L ∧
      ∀ t, Steps p.tables e below (T'.setTop { g with pc := g.pc + 3, stack := v.toList ++ rest }) t → Steps p.tables e below (T.setTop g) t := by
  obtain ⟨v, _, ⟨T', L', k', n'⟩, -, X', ⟨L, hQ, l', y', z'⟩, st⟩ := X.specialBack hx (y := y) hy1 hown (mvT hZ w1) (mvT hZ w2) (mvT hZ w4) hy (backOf (W := W) hM hZ w4 w3 hf hl) hg hsize (Steps.refl _) (a := a) hlen hstack hW hdg (fun _ _ => ⟨ha, eT, hc, hs⟩)
  dsimp only [Pt.U, Pt.locs, Pt.cells, Pt.slots] at X' l' y' z' st hQ
  subst l' y' z'
  exact ⟨v, T', L, X', hQ, fun t k => st.trans k⟩
theorem own_virtual (X : Stand p l e R s m args below meth c T locs cells slots) (hx : p.tables.exec = Jvm.exec) (hZ : Z.Warmed39 s.vm) (hown : s.vm.findClass own = some m.cls)
    (w1 : (Cond.methodLink own index y).before a0 Z = true) (w2 : (Cond.declares y).before a0 Z = true) (hnf : NotFace s y) (w3 : (Cond.selects C y z).before a0 Z = true) (w4 : (Cond.instanceMethod z).before a0 Z = true) (w5 : (Cond.initialized z.cls).before a0 Z = true) (w6 : (Cond.code z bytes maxL ret).before a0 Z = true)
    (hy : y.cls ≠ "java/lang/invoke/MethodHandle" ∧ y.cls ≠ "java/lang/invoke/VarHandle") (hM : Con l Z z bytes maxL ret [] rm as' h Q) (eT : T.heap = h) {a : Addr} (E : Exa Z h a C)
    {g : JFrame} (hg : g.method = m) (hsize : g.locals.size = c.maxLocals) {argsL rest : List Value} (hlen : ∀ sig, parseMethodDescriptor y.desc = some sig → argsL.length = sig.parameters.length) (hstack : g.stack = argsL.reverse ++ .ref a :: rest) (ha : (.ref a :: argsL).toArray = as')
    (hW : 2 * g.monitorRoom + (rest.map fun v => v.category).sum ≤ W) (hf : rm.frames + 1 ≤ R.frames) (hl : W + (maxL + 11) + rm.locals ≤ R.locals)
    (hdg : decode c.code g.pc = .ok (.invokevirtual index, 3)) (hc : cells + rm.cells ≤ R.cells) (hs : slots + rm.slots ≤ R.slots) :
    ∃ v T' L, Stand p l e R s m args below meth c T' (locs ++ L) (cells + rm.cells) (slots + rm.slots) ∧ Q v T'.heap L ∧
      ∀ t, Steps p.tables e below (T'.setTop { g with pc := g.pc + 3, stack := v.toList ++ rest }) t → Steps p.tables e below (T.setTop g) t := by
  obtain ⟨cB, kB, q1, q2, q3⟩ := isOf hZ eT E
  obtain ⟨v, _, ⟨T', L', k', n'⟩, -, X', ⟨L, hQ, l', y', z'⟩, st⟩ := X.virtualBack hx (y := y) (z := z) hown (mvT hZ w1) (mvT hZ w2) hnf (mvT hZ w3) (mvT hZ w4) hy (backOf (W := W) hM hZ w6 w5 hf hl) q1 q3 hg hsize (Steps.refl _) hlen hstack hW hdg (fun _ _ => ⟨ha, eT, hc, hs⟩)
  dsimp only [Pt.U, Pt.locs, Pt.cells, Pt.slots] at X' l' y' z' st hQ
  subst l' y' z'
  exact ⟨v, T', L, X', hQ, fun t k => st.trans k⟩
/-- a call that left the heap as it was -/
theorem own_pure {w : Option Value} {g : JFrame} {g' : Option Value → JFrame} (q : ∃ v T' L, Stand p l e R s m args below meth c T' (locs ++ L) (cells + rm.cells) (slots + rm.slots) ∧ Pur w h v T'.heap L ∧ ∀ t, Steps p.tables e below (T'.setTop (g' v)) t → Steps p.tables e below (T.setTop g) t)
    (hc : rm.cells = 0 := by rfl) (hs : rm.slots = 0 := by rfl) : ∃ T', Stand p l e R s m args below meth c T' locs cells slots ∧ T'.heap = h ∧ ∀ t, Steps p.tables e below (T'.setTop (g' w)) t → Steps p.tables e below (T.setTop g) t := by
  obtain ⟨v, T', L, X', ⟨rfl, rfl, hh⟩, st⟩ := q
  rw [List.append_nil, hc, hs] at X'
  exact ⟨T', X', hh, st⟩
end Calls
section Facts
variable {Z : State} {h h' : Heap} {a b : Addr} {C n d : String} {v : Value} {n0 : Nat}
theorem Old.le (O : Old Z n0 h) : n0 ≤ h.size := O.1 ▸ O.2.1
end Facts
end Jvm.OwnKit
namespace Jvm.OwnKit
open Jvm Jvm.ClassFile Sem Op Lib Jvm.Free Jvm.Stand Jvm.LawKit Jvm.RoadKit
section Arrays
variable {p : Program} {l : Launch} {e : Env} {R : Room} {s : State} {m : MethodId} {args : Array Value} {below : List Frame} {meth : Method} {c : Code} {T : State} {locs : List Loc} {cells slots : Nat} {Z : State} {h : Heap}
theorem own_alen (X : Stand p l e R s m args below meth c T locs cells slots) (hx : p.tables.exec = Jvm.exec) (hZ : Z.Warmed39 s.vm) (eT : T.heap = h) {a : Addr} {cl : Cell} {ty : FieldType} {z : Int32} (A : Arr Z h a cl ty) (S : cl.slots.size = z.toNatClampNeg) (M : ¬ z < 0)
    {g : JFrame} (hg : g.method = m) {rest : List Value} (hs : g.stack = .ref a :: rest) (hd : decode c.code g.pc = .ok (.arraylength, 1)) :
    ∀ t, Steps p.tables e below (T.setTop { g with pc := g.pc + 1, stack := .int z :: rest }) t → Steps p.tables e below (T.setTop g) t := fun t k =>
  X.arraylength hx (by rw [eT]; exact A.1) (State.isArrayOf_alike hZ.alike A.2.1) hg hs hd _ (by rw [len_of S M]; exact k)
theorem own_neAV {a b : Addr} {C : String} {a0 : Array Value} {k : Nat} {kc : ClassId} {ty : FieldType} {z : Int32} {vs : List Value} {dv : Value} (F : Exa Z h a C) (wi : (Cond.instantiable C k).before a0 Z = true) (G : Arv Z h b kc ty z vs dv) : a ≠ b := by obtain ⟨cl, A, -⟩ := G; exact ne_arr F wi A
end Arrays
end Jvm.OwnKit
namespace Jvm.OwnKit
open Jvm Jvm.ClassFile Sem Op Lib Jvm.Free Jvm.Stand Jvm.LawKit Jvm.RoadKit
theorem Ins.keep {Z : State} {h h' : Heap} {a : Addr} {C : String} {b : Bool} {ws : List Addr} (F : Ins Z h a C b) (K : Keep h h' ws) : Ins Z h' a C b := by
  obtain ⟨cell, cT, h1, h2, h3⟩ := F
  obtain ⟨c', e1, e2, e3, -⟩ := K.2.2 _ _ h1
  exact ⟨c', cT, e1, h2, by rw [e2, e3]; exact h3⟩
section Bounds
variable {x y a b c d : Int32}
theorem bnd_ite {c : Prop} [Decidable c] {a b lo hi : Int32} (ha : ¬ a < lo ∧ ¬ hi < a) (hb : ¬ b < lo ∧ ¬ hi < b) : ¬ (if c then a else b) < lo ∧ ¬ hi < (if c then a else b) := by
  split
  · exact ha
  · exact hb
theorem bnd_and (x m : Int32) (h : 0 ≤ m.toInt) : ¬ (x &&& m) < (0 : Int32) ∧ ¬ m < (x &&& m) := by
  have q := c_and x m h
  have e : (0 : Int32).toInt = 0 := rfl
  rw [Int32.lt_iff_toInt_lt, Int32.lt_iff_toInt_lt, e]; omega
theorem bnd_mono (h : ¬ x < a ∧ ¬ b < x) (h1 : c.toInt ≤ a.toInt) (h2 : b.toInt ≤ d.toInt) : ¬ x < c ∧ ¬ d < x := by
  simp only [Int32.lt_iff_toInt_lt] at *; omega
theorem bnd_lt (h : ¬ x < a ∧ ¬ b < x) (k : ¬ y < c ∧ ¬ d < y) (q : b.toInt < c.toInt) : x < y := by
  simp only [Int32.lt_iff_toInt_lt] at *; omega
theorem bnd_nlt (h : ¬ x < a ∧ ¬ b < x) (k : ¬ y < c ∧ ¬ d < y) (q : d.toInt ≤ a.toInt) : ¬ x < y := by
  simp only [Int32.lt_iff_toInt_lt] at *; omega
theorem bnd_rem (h : ¬ x < a ∧ ¬ b < x) (h1 : 0 ≤ a.toInt) (h2 : 0 < y.toInt) : ¬ (x % y) < (0 : Int32) ∧ ¬ (y - 1) < (x % y) := by
  have q := (c_iremV x y).1
  have e : (0 : Int32).toInt = 0 := rfl
  have e1 := c_isub y 1
  have e2 : (1 : Int32).toInt = 1 := rfl
  have r := rng32 y
  have r2 := rng32 (y - 1)
  simp only [Int32.lt_iff_toInt_lt, e] at *
  have h0 : 0 ≤ x.toInt := by omega
  have q := q h0 h2
  omega
theorem bnd_rem2 {hi : Int32} (h : ¬ x < a ∧ ¬ b < x) (k : ¬ y < c ∧ ¬ d < y) (h1 : 0 ≤ a.toInt) (h2 : 0 < c.toInt) (h3 : hi.toInt = d.toInt - 1) : ¬ (x % y) < (0 : Int32) ∧ ¬ hi < (x % y) := by
  have q := (c_iremV x y).1
  have e : (0 : Int32).toInt = 0 := rfl
  simp only [Int32.lt_iff_toInt_lt, e] at *
  have h0 : 0 ≤ x.toInt := by omega
  have hy : 0 < y.toInt := by omega
  have q := q h0 hy
  omega
theorem bnd_i2c (x : Int32) : ¬ (x.toUInt32.toUInt16.toUInt32.toInt32) < (0 : Int32) ∧ ¬ (65535 : Int32) < (x.toUInt32.toUInt16.toUInt32.toInt32) := by
  have q := c_i2c x
  have e : (0 : Int32).toInt = 0 := rfl
  have e1 : (65535 : Int32).toInt = 65535 := rfl
  simp only [Int32.lt_iff_toInt_lt, e, e1]; omega
theorem bnd_i2b (x : Int32) : ¬ (x.toInt8.toInt32) < (-128 : Int32) ∧ ¬ (127 : Int32) < (x.toInt8.toInt32) := by
  have q := c_i2b x
  have e : (-128 : Int32).toInt = -128 := rfl
  have e1 : (127 : Int32).toInt = 127 := rfl
  simp only [Int32.lt_iff_toInt_lt, e, e1]; omega
theorem i2c_id (h : ¬ x < a ∧ ¬ b < x) (h1 : 0 ≤ a.toInt) (h2 : b.toInt ≤ 65535) : x.toUInt32.toUInt16.toUInt32.toInt32 = x := by
  have q := c_i2c x
  simp only [Int32.lt_iff_toInt_lt] at h
  apply Int32.toInt_inj.mp; omega
theorem i2b_id (h : ¬ x < a ∧ ¬ b < x) (h1 : -128 ≤ a.toInt) (h2 : b.toInt ≤ 127) : x.toInt8.toInt32 = x := by
  have q := c_i2b x
  simp only [Int32.lt_iff_toInt_lt] at h
  apply Int32.toInt_inj.mp; omega
theorem bnd_lit (k : Int32) : ¬ k < k ∧ ¬ k < k := by
  simp only [Int32.lt_iff_toInt_lt]; omega
theorem bnd_dn (h : x < c) (q : d.toInt = c.toInt - 1) : ¬ d < x := by
  simp only [Int32.lt_iff_toInt_lt] at *; omega
theorem bnd_eql (h : x = c) : ¬ x < c := by
  subst h; simp only [Int32.lt_iff_toInt_lt]; omega
theorem bnd_eqr (h : x = c) : ¬ c < x := by
  subst h; simp only [Int32.lt_iff_toInt_lt]; omega
theorem bnd_nel (h : ¬ x < c) (k : ¬ x = c) (q : d.toInt = c.toInt + 1) : ¬ x < d := by
  rw [← Int32.toInt_inj] at k; simp only [Int32.lt_iff_toInt_lt] at *; omega
theorem bnd_fix (h : ¬ x < c ∧ ¬ c < x) : x = c := by
  rw [← Int32.toInt_inj]; simp only [Int32.lt_iff_toInt_lt] at *; omega
theorem nar_char_id (h : ¬ x < a ∧ ¬ b < x) (h1 : 0 ≤ a.toInt) (h2 : b.toInt ≤ 65535) : nar .char x = x := i2c_id h h1 h2
theorem nar_byte_id (h : ¬ x < a ∧ ¬ b < x) (h1 : -128 ≤ a.toInt) (h2 : b.toInt ≤ 127) : nar .byte x = x := i2b_id h h1 h2
theorem nar_i2c (x : Int32) : nar .char (x.toUInt32.toUInt16.toUInt32.toInt32) = x.toUInt32.toUInt16.toUInt32.toInt32 := nar_char_id (bnd_i2c x) (by decide) (by decide)
theorem nar_i2b (x : Int32) : nar .byte (x.toInt8.toInt32) = x.toInt8.toInt32 := nar_byte_id (bnd_i2b x) (by decide) (by decide)
theorem nar_bool_id (h : ¬ x < a ∧ ¬ b < x) (h1 : 0 ≤ a.toInt) (h2 : b.toInt ≤ 1) : nar .boolean x = x := by
  simp only [Int32.lt_iff_toInt_lt] at h
  have hx : x.toInt = 0 ∨ x.toInt = 1 := by omega
  rcases hx with q | q
  · have : x = 0 := Int32.toInt_inj.mp q
    subst this; rfl
  · have : x = 1 := Int32.toInt_inj.mp q
    subst this; rfl
end Bounds
theorem Wr.to {h h' : Heap} {a : Addr} {sl : Nat} {v w : Value} (W : Wr h h' a sl v) (q : v = w) : Wr h h' a sl w := q ▸ W
theorem fits_char_b {x a b : Int32} (h : ¬ x < a ∧ ¬ b < x) (h1 : 0 ≤ a.toInt) (h2 : b.toInt ≤ 65535) : fits .char (.int x) = true := by
  have q := fits_nar_char x
  rw [nar_char_id h h1 h2] at q; exact q
theorem fits_byte_b {x a b : Int32} (h : ¬ x < a ∧ ¬ b < x) (h1 : -128 ≤ a.toInt) (h2 : b.toInt ≤ 127) : fits .byte (.int x) = true := by
  have q := fits_nar_byte x
  rw [i2b_id h h1 h2] at q; exact q
/-- null, or an object of exactly that class -/
def Nul (Z : State) (h : Heap) (x : Value) (C : String) : Prop := x = .null ∨ ∃ a, x = .ref a ∧ Exa Z h a C
section Nulls
variable {Z : State} {h h' : Heap} {x : Value} {C : String}
theorem Nul.null (Z : State) (h : Heap) (C : String) : Nul Z h .null C := Or.inl rfl
theorem Nul.of {a : Addr} (E : Exa Z h a C) : Nul Z h (.ref a) C := Or.inr ⟨a, rfl, E⟩
theorem Nul.ext (N : Nul Z h x C) (E : Ext h h') : Nul Z h' x C := N.imp id fun ⟨a, e, F⟩ => ⟨a, e, F.ext E⟩
theorem Nul.wr {a : Addr} {sl : Nat} {v : Value} (N : Nul Z h x C) (W : Wr h h' a sl v) : Nul Z h' x C := N.imp id fun ⟨a, e, F⟩ => ⟨a, e, F.wr W⟩
theorem Nul.keep {ws : List Addr} (N : Nul Z h x C) (K : Keep h h' ws) : Nul Z h' x C := N.imp id fun ⟨a, e, F⟩ => ⟨a, e, F.keep K⟩
theorem Nul.isRef (N : Nul Z h x C) : x.isRef = true := by rcases N with rfl | ⟨a, rfl, -⟩ <;> rfl
end Nulls
section NotSub
variable {Z : State} {a0 : Array Value} {C S O K : String} {nn : Nat}
end NotSub
theorem Fld.to {Z : State} {h : Heap} {a : Addr} {C n d : String} {v w : Value} (F : Fld Z h a C n d v) (q : v = w) : Fld Z h a C n d w := q ▸ F
end Jvm.OwnKit
namespace Jvm.OwnKit
open Jvm Jvm.ClassFile Sem Op Lib Jvm.Free Jvm.Stand Jvm.LawKit Jvm.RoadKit
section Lists
variable {p : Program} {l : Launch} {e : Env} {R : Room} {s : State} {m : MethodId} {args : Array Value} {below : List Frame} {meth : Method} {c : Code} {T : State} {locs : List Loc} {cells slots : Nat} {Z : State} {h : Heap}
def own_n (cs : List Int32) : Int32 := Int32.ofNat cs.length
theorem Arv.lst {a : Addr} {k : ClassId} {ty : FieldType} {n : Int32} {vs : List Value} {d : Value} (F : Arv Z h a k ty n vs d) {cs cs' : List Int32} (q : cs = cs') (e1 : vs = cs.map Value.int) (e2 : n = own_n cs) : Arv Z h a k ty (own_n cs') (cs'.map Value.int) d := by
  subst q; subst e1; subst e2; exact F
end Lists
end Jvm.OwnKit
namespace Jvm.OwnKit
open Jvm Jvm.ClassFile Sem Op Lib Bundle Jvm.Free Jvm.Stand Jvm.LawKit Jvm.RoadKit
section Cold
variable {p : Program} {l : Launch} {e : Env} {R : Room} {s : State} {m : MethodId} {args : Array Value} {below : List Frame} {meth : Method} {c : Code} {T : State} {locs : List Loc} {cells slots k n : Nat} {Z : State} {a0 : Array Value} {h h' : Heap} {y z : MethodName} {bytes : ByteArray} {maxL : Nat} {rt : Option FieldType} {rm : Room} {W : Nat} {as' : Array Value} {Q : Option Value → Heap → List Loc → Prop} {own C : String} {index : Nat} {EL : List (String × Nat)} {vm0 vm1 : Vm} {xs : List Addr} {sf : Bool}
/-- what a walk that may book texts knows of its tables: they came of the start's, what is booked of EL is read, xs are none of the booked cells -/
def Cold (Z : State) (EL : List (String × Nat)) (s : State) (xs : List Addr) (vm0 : Vm) (h : Heap) : Prop := (∃ k0, s.Since vm0 k0 ∧ k0 ≤ h.size) ∧ CHr Z EL s.vm s.heap vm0 h ∧ ∀ x ∈ xs, Safe Z EL vm0 h x ∧ x < h.size
theorem Cold.go (H : Cold Z EL s xs vm0 h) (hs : ∃ k0, s.Since vm1 k0 ∧ k0 ≤ h'.size) (q : CHr Z EL vm0 h vm1 h') : Cold Z EL s xs vm1 h' :=
  ⟨hs, H.2.1.trans q, fun x hx => ⟨q.safe (H.2.2 x hx).2 (H.2.2 x hx).1, Nat.lt_of_lt_of_le (H.2.2 x hx).2 q.2.1⟩⟩
theorem Cold.same (H : Cold Z EL s xs vm0 h) (q : CHr Z EL vm0 h vm0 h') : Cold Z EL s xs vm0 h' := H.go (by obtain ⟨⟨k0, a, b⟩, -⟩ := H; exact ⟨k0, a, Nat.le_trans b q.2.1⟩) q
theorem Cold.ext (H : Cold Z EL s xs vm0 h) (E : Ext h h') : Cold Z EL s xs vm0 h' := H.same (CHr.ext E H.2.1.1)
theorem Cold.keep {ws : List Addr} (H : Cold Z EL s xs vm0 h) (K : Keep h h' ws) (hs : ∀ x ∈ ws, Safe Z EL vm0 h x) : Cold Z EL s xs vm0 h' := H.same (CHr.keep K hs H.2.1.1)
theorem Cold.wr {a : Addr} {sl : Nat} {v : Value} (H : Cold Z EL s xs vm0 h) (w : Wr h h' a sl v) (S : Safe Z EL vm0 h a) : Cold Z EL s xs vm0 h' := H.same (CHr.wr w S H.2.1.1)
theorem Cold.add {b : Addr} (H : Cold Z EL s xs vm0 h) (E : Ext h h') (hb : h.size ≤ b) (hb' : b < h'.size) : Cold Z EL s (b :: xs) vm0 h' := by
  have H' := H.ext E
  refine ⟨H'.1, H'.2.1, fun x hx => ?_⟩
  rcases List.mem_cons.mp hx with rfl | hx
  · exact ⟨Safe.ext E H.2.1.1 (Safe.new hb), hb'⟩
  · exact H'.2.2 x hx
theorem Cold.safe {x : Addr} (H : Cold Z EL s xs vm0 h) (hx : x ∈ xs) : Safe Z EL vm0 h x := (H.2.2 x hx).1
theorem Cold.start (H : CHv Z EL s.vm s.heap) : Cold Z EL s [] s.vm s.heap := ⟨⟨_, (State.WarmedH.refl s).since _, Nat.le_refl _⟩, CHr.refl H, fun _ hx => nomatch hx⟩
theorem Cold.put {b : Addr} (H : Cold Z EL s xs vm0 h) (q : Safe Z EL vm0 h b ∧ b < h.size) : Cold Z EL s (b :: xs) vm0 h := ⟨H.1, H.2.1, fun x hx => (List.mem_cons.mp hx).elim (fun e => e ▸ q) (H.2.2 x)⟩
/-- what is returned is none of the booked cells -/
def SafeR (sf : Bool) (Z : State) (EL : List (String × Nat)) (vm : Vm) (h : Heap) (v : Option Value) : Prop := sf = true → ∀ a, v = some (.ref a) → Safe Z EL vm h a ∧ a < h.size
/-- the contract of a body that may book texts -/
abbrev ConW (l : Launch) (Z : State) (EL : List (String × Nat)) (xs : List Addr) (sf : Bool) (y : MethodName) (bytes : ByteArray) (maxL : Nat) (rt : Option FieldType) (ws : List Jvm.Cond) (rm : Room) (as' : Array Value) (h : Heap) (Q : Option Value → Heap → List Loc → Prop) : Prop :=
  MetFree l y (head1 (Jvm.Cond.code y bytes maxL rt :: ws) rm) (fun a U => a = as' ∧ Z.Warmed39 U.vm ∧ U.heap = h ∧ CHv Z EL U.vm h ∧ ∀ x ∈ xs, Safe Z EL U.vm h x ∧ x < h.size) (fun _ _ _ _ _ => True) (fun _ U o U' => ∃ v L, o = .returned v ∧ Q v U'.heap L ∧ CHr Z EL U.vm U.heap U'.vm U'.heap ∧ SafeR sf Z EL U'.vm U'.heap v ∧ ReturnedEndW U o U' L rm.cells rm.slots)
abbrev EndW (s : State) (Z : State) (EL : List (String × Nat)) (sf : Bool) (Q : Option Value → Heap → List Loc → Prop) (k n : Nat) : Option Value → State → List Loc → Prop := fun v U L => Q v U.heap L ∧ CHr Z EL s.vm s.heap U.vm U.heap ∧ SafeR sf Z EL U.vm U.heap v ∧ ReturnedEndW s (.returned v) U L k n
theorem retW_mono {o : Outcome} {t : State} {L : List Loc} {k n k' n' : Nat} (h : ReturnedEndW s o t L k n) (hk : k ≤ k') (hn : n ≤ n') : ReturnedEndW s o t L k' n' := ⟨h.1, h.2.1, h.2.2.1, h.2.2.2.mono hk hn⟩
theorem HomeW.retN (X : Stand p l e R (s.setVm vm0) m args below meth c T locs cells slots) (hx : p.tables.exec = Jvm.exec) (hlk : meth.locks = false) (hZ : Z.Warmed39 (s.setVm vm0).vm) (hEL : EW Z a0 EL) (eT : T.heap = h) (H : Cold Z EL s xs vm0 h)
    {pc : Nat} {Ls : Array Slot} {z : Int32} {t : FieldType} {rest : List Value} (hret : meth.sig.returnType = some t) (ht : t = .boolean ∨ t = .byte ∨ t = .char ∨ t = .short)
    (hd : decode c.code pc = .ok (.ireturn, 1)) (hQ : Q (some (.int (nar t z))) T.heap locs) (hk : cells ≤ k) (hn : slots ≤ n) : @Home p e below (EndW s Z EL sf Q k n) T (mkF m pc Ls (.int z :: rest)) := by
  subst eT
  obtain ⟨⟨k0, hS, hk0⟩, CR, -⟩ := H
  obtain ⟨fs, hr, hrun, hended, hW⟩ := X.leaveW hS hk0 (v := some (.int (nar t z))) (fun h => by rw [hret] at h; cases h) hlk
  have q : CHr Z EL s.vm s.heap T.vm T.heap := CR.trans (CHv.at X hZ hEL CR.1)
  exact ⟨_, _, Jvm.RoadKit.retN X hx hret ht hd hr, hrun, hended, _, _, rfl, hQ, q, (fun _ _ z => by cases z), retW_mono hW hk hn⟩
theorem HomeW.ret (X : Stand p l e R (s.setVm vm0) m args below meth c T locs cells slots) (hx : p.tables.exec = Jvm.exec) (hlk : meth.locks = false) (hZ : Z.Warmed39 (s.setVm vm0).vm) (hEL : EW Z a0 EL) (eT : T.heap = h) (H : Cold Z EL s xs vm0 h) {w : Value} (hsr : sf = true → ∀ a, w = .ref a → a ∈ xs)
    {pc : Nat} {Ls : Array Slot} {t : FieldType} {i : Instr} {rest : List Value} (hret : meth.sig.returnType = some t) (hnn : narrow t w = w)
    (hi : (i = .ireturn ∧ (t = .int ∨ t = .boolean ∨ t = .byte ∨ t = .char ∨ t = .short) ∧ ∃ z, w = .int z) ∨ (i = .lreturn ∧ t = .long ∧ ∃ z, w = .long z) ∨ (i = .dreturn ∧ t = .double ∧ ∃ z, w = .double z) ∨ (i = .freturn ∧ t = .float ∧ ∃ z, w = .float z) ∨ (i = .areturn ∧ t.isReference = true ∧ w.isRef = true))
    (hd : decode c.code pc = .ok (i, 1)) (hQ : Q (some w) T.heap locs) (hk : cells ≤ k) (hn : slots ≤ n) : @Home p e below (EndW s Z EL sf Q k n) T (mkF m pc Ls (w :: rest)) := by
  subst eT
  obtain ⟨⟨k0, hS, hk0⟩, CR, hxs⟩ := H
  obtain ⟨fs, hr, hrun, hended, hW⟩ := X.leaveW hS hk0 (v := some w) (fun h => by rw [hret] at h; cases h) hlk
  have q : CHr Z EL s.vm s.heap T.vm T.heap := CR.trans (CHv.at X hZ hEL CR.1)
  exact ⟨_, _, retOut X hx hret hnn hi hd hr, hrun, hended, _, _, rfl, hQ, q, (fun z a ha => ⟨(CHv.at X hZ hEL CR.1).safe (hxs a (hsr z a (Option.some.inj ha))).2 (hxs a (hsr z a (Option.some.inj ha))).1, (hxs a (hsr z a (Option.some.inj ha))).2⟩), retW_mono hW hk hn⟩
theorem HomeW.retI (X : Stand p l e R (s.setVm vm0) m args below meth c T locs cells slots) (hx : p.tables.exec = Jvm.exec) (hlk : meth.locks = false) (hZ : Z.Warmed39 (s.setVm vm0).vm) (hEL : EW Z a0 EL) (eT : T.heap = h) (H : Cold Z EL s xs vm0 h)
    {pc : Nat} {Ls : Array Slot} {z : Int32} {rest : List Value} (hret : meth.sig.returnType = some .int)
    (hd : decode c.code pc = .ok (.ireturn, 1)) (hQ : Q (some (.int z)) T.heap locs) (hk : cells ≤ k) (hn : slots ≤ n) : @Home p e below (EndW s Z EL sf Q k n) T (mkF m pc Ls (.int z :: rest)) := HomeW.ret X hx hlk hZ hEL eT H (fun _ _ z => by cases z) hret rfl (Or.inl ⟨rfl, Or.inl rfl, _, rfl⟩) hd hQ hk hn
theorem HomeW.retR (X : Stand p l e R (s.setVm vm0) m args below meth c T locs cells slots) (hx : p.tables.exec = Jvm.exec) (hlk : meth.locks = false) (hZ : Z.Warmed39 (s.setVm vm0).vm) (hEL : EW Z a0 EL) (eT : T.heap = h) (H : Cold Z EL s xs vm0 h) {w : Value} (hsr : sf = true → ∀ a, w = .ref a → a ∈ xs)
    {pc : Nat} {Ls : Array Slot} {t : FieldType} {rest : List Value} (hret : meth.sig.returnType = some t) (ht : t.isReference = true) (hw : w.isRef = true)
    (hd : decode c.code pc = .ok (.areturn, 1)) (hQ : Q (some w) T.heap locs) (hk : cells ≤ k) (hn : slots ≤ n) : @Home p e below (EndW s Z EL sf Q k n) T (mkF m pc Ls (w :: rest)) := HomeW.ret X hx hlk hZ hEL eT H hsr hret (own_narrow_ref hw) (Or.inr (Or.inr (Or.inr (Or.inr ⟨rfl, ht, hw⟩)))) hd hQ hk hn
theorem HomeW.ret0 (X : Stand p l e R (s.setVm vm0) m args below meth c T locs cells slots) (hx : p.tables.exec = Jvm.exec) (hlk : meth.locks = false) (hZ : Z.Warmed39 (s.setVm vm0).vm) (hEL : EW Z a0 EL) (eT : T.heap = h) (H : Cold Z EL s xs vm0 h)
    {pc : Nat} {Ls : Array Slot} (hret : meth.sig.returnType = none)
    (hd : decode c.code pc = .ok (.return_, 1)) (hQ : Q none T.heap locs) (hk : cells ≤ k) (hn : slots ≤ n) : @Home p e below (EndW s Z EL sf Q k n) T (mkF m pc Ls []) := by
  subst eT
  obtain ⟨⟨k0, hS, hk0⟩, CR, -⟩ := H
  obtain ⟨fs, hr, hrun, hended, hW⟩ := X.leaveW hS hk0 (v := none) (fun _ => rfl) hlk
  have q : CHr Z EL s.vm s.heap T.vm T.heap := CR.trans (CHv.at X hZ hEL CR.1)
  exact ⟨_, _, X.returnOut hx hret hd hr, hrun, hended, _, _, rfl, hQ, q, (fun _ _ z => by cases z), retW_mono hW hk hn⟩
theorem own_bodyW {ws : List Jvm.Cond} {L0 : Array Slot} (pn : plainFor y = true) (ef : ∀ m, entryFrame m as' maxL = mkF m 0 L0 [])
    (body : ∀ (p : Program) (e : Env) (s : State) (m : MethodId) (below : List Frame) (meth : Method) (c : Code) (s₁ : State), p.tables.exec = Jvm.exec → c.code = bytes → meth.locks = false → c.maxLocals = maxL → meth.sig.returnType = rt → Z.Warmed39 (s.setVm s.vm).vm → (s.setVm s.vm).vm.findClass y.cls = some m.cls → meth.name = y.name →
      Stand p l e rm (s.setVm s.vm) m as' below meth c s₁ [] 0 0 → s₁.heap = h → Cold Z EL s xs s.vm h → @Home p e below (EndW s Z EL sf Q rm.cells rm.slots) s₁ (mkF m 0 L0 [])) : ConW l Z EL xs sf y bytes maxL rt ws rm as' h Q := by
  refine MetFree.of_bodySF pn hisR ?_
  intro p e s m args below meth c s₁ Bd hml0 hP hK
  obtain ⟨rfl, hZ, rfl, hH, hxs⟩ := hP
  have hc : Cold Z EL s xs s.vm s.heap := ⟨(Cold.start hH).1, CHr.refl hH, hxs⟩
  have H : @Home p e below (EndW s Z EL sf Q rm.cells rm.slots) s₁ (entryFrame m args maxL) := Home.enter (ef m) (body p e s m below meth c s₁ Bd.exec Bd.bytes (BodyLoose.notSynchronized Bd) hml0 Bd.returns hZ (findClass_of_methodNamed Bd.named) (name_of_methodNamed Bd.named Bd.method).1 (Stand.of_body Bd) (by rw [Bd.state]; rfl) hc)
  obtain ⟨U, o, h1, h2, h3, v, L, rfl, h4, h5, h6⟩ := H
  exact ⟨U, _, h1, h2, h3, v, L, rfl, h4, h5, h6⟩
theorem own_warmW {U : State} (hZ : Z.Warmed39 (s.setVm vm0).vm) (hS : (s.setVm vm0).Since U.vm n) : Z.Warmed39 (s.setVm U.vm).vm := State.Warmed39.trans (t := s.setVm vm0) hZ hS.1
theorem own_ownW {U : State} (hS : (s.setVm vm0).Since U.vm n) (hown : (s.setVm vm0).vm.findClass own = some m.cls) : (s.setVm U.vm).vm.findClass own = some m.cls := by rw [show (s.setVm U.vm).vm.findClass own = (s.setVm vm0).vm.findClass own from hS.1.alike.findClass _ _]; exact hown
theorem own_backW {len : Nat} (hM : ConW l Z EL xs sf y bytes maxL rt [] rm as' h Q) (hZ : Z.Warmed39 (s.setVm vm0).vm) (hEL : EW Z a0 EL) (wc : (Cond.code y bytes maxL rt).before a0 Z = true) (wz : (Cond.initialized y.cls).before a0 Z = true) (hf : rm.frames + 1 ≤ R.frames) (hl : W + (maxL + 11) + rm.locals ≤ R.locals) (H : CHv Z EL vm0 h) (hxs : ∀ x ∈ xs, Safe Z EL vm0 h x ∧ x < h.size) :
    BackS l R p e below (s.setVm vm0) args y len W (fun A a => a = as' ∧ A.U.heap = h ∧ A.cells + rm.cells ≤ R.cells ∧ A.slots + rm.slots ≤ R.slots) (fun A _ v B => ∃ L, Q v B.U.heap L ∧ B.locs = A.locs ++ L ∧ B.cells = A.cells + rm.cells ∧ B.slots = A.slots + rm.slots ∧ CHr Z EL vm0 h B.U.vm B.U.heap ∧ SafeR sf Z EL B.U.vm B.U.heap v) := by
  refine BackS.of_freeW (bytes := bytes) (maxL := maxL) (ret := rt) (E := fun _ first o t L k n => k = rm.cells ∧ n = rm.slots ∧ (∃ v, o = .returned v ∧ Q v t.heap L ∧ SafeR sf Z EL t.vm t.heap v) ∧ CHr Z EL first.vm first.heap t.vm t.heap) hM hf hl ?_ ?_ (fun _ _ _ _ _ _ _ _ _ => trivial) ?_ ?_
  · intro m meth c A a Y hp
    have hU : Z.Warmed39 A.U.vm := wtrans (s := s.setVm vm0) hZ Y.warmed
    exact ⟨by show (Cond.and _ .tt).before a A.U = true; rw [Cond.before_and, mv hU wc]; rfl, mv hU wc, mv hU wz, hp.2.2⟩
  · intro m meth c A a g mk Y hp
    have q := CHv.at Y hZ hEL H
    exact ⟨hp.1, wtrans (s := s.setVm vm0) hZ Y.warmed, hp.2.1, q.1, fun x hx => ⟨q.safe (hxs x hx).2 (hxs x hx).1, (hxs x hx).2⟩⟩
  · rintro _ _ _ _ ⟨v, L, h1, h2, h3, h5, h4⟩
    exact ⟨L, _, _, h4, rfl, rfl, ⟨v, h1, h2, h5⟩, h3⟩
  · intro m meth c A a g mk v t L k n Y hp _ _ hE
    obtain ⟨rfl, rfl, ⟨v', e3, e4, e7⟩, e5⟩ := hE
    cases e3
    have e6 : CHr Z EL A.U.vm h t.vm t.heap := hp.2.1 ▸ e5
    exact ⟨L, e4, rfl, rfl, rfl, (CHv.at Y hZ hEL H).trans e6, e7⟩
theorem own_staticW (X : Stand p l e R (s.setVm vm0) m args below meth c T locs cells slots) (hx : p.tables.exec = Jvm.exec) (hZ : Z.Warmed39 (s.setVm vm0).vm) (hown : (s.setVm vm0).vm.findClass own = some m.cls) (hEL : EW Z a0 EL) {xs0 : List Addr} (H : Cold Z EL s xs0 vm0 h) (hsub : ∀ x ∈ xs, x ∈ xs0)
    (w1 : (Cond.methodLink own index y).before a0 Z = true) (w2 : (Cond.static y).before a0 Z = true) (w3 : (Cond.initialized y.cls).before a0 Z = true) (w4 : (Cond.code y bytes maxL rt).before a0 Z = true)
    (hy : y.cls ≠ "java/lang/invoke/MethodHandle" ∧ y.cls ≠ "java/lang/invoke/VarHandle") (hM : ConW l Z EL xs sf y bytes maxL rt [] rm as' h Q) (eT : T.heap = h)
    {g : JFrame} (hg : g.method = m) (hsize : g.locals.size = c.maxLocals) {argsL rest : List Value} (hlen : ∀ sig, parseMethodDescriptor y.desc = some sig → argsL.length = sig.parameters.length) (hstack : g.stack = argsL.reverse ++ rest) (ha : argsL.toArray = as')
    (hW : 2 * g.monitorRoom + (rest.map fun v => v.category).sum ≤ W) (hf : rm.frames + 1 ≤ R.frames) (hl : W + (maxL + 11) + rm.locals ≤ R.locals)
    (hdg : decode c.code g.pc = .ok (.invokestatic index, 3)) (hc : cells + rm.cells ≤ R.cells) (hs : slots + rm.slots ≤ R.slots) :
    ∃ v T' L, Stand p l e R (s.setVm T'.vm) m args below meth c T' (locs ++ L) (cells + rm.cells) (slots + rm.slots) ∧ (Q v T'.heap L ∧ Z.Warmed39 (s.setVm T'.vm).vm ∧ (s.setVm T'.vm).vm.findClass own = some m.cls ∧ Cold Z EL s xs0 T'.vm T'.heap ∧ SafeR sf Z EL T'.vm T'.heap v) ∧
      ∀ t, Steps p.tables e below (T'.setTop { g with pc := g.pc + 3, stack := v.toList ++ rest }) t → Steps p.tables e below (T.setTop g) t := by
  obtain ⟨v, _, ⟨T', L', k', n'⟩, -, X', hS, hg', ⟨L, hQ, l', y', z', hC, hR⟩, st⟩ := Jvm.RoadKit.callSS X hx (y := y) hown (mvT hZ w1) (mvT hZ w2) (mvT hZ w3) (mvT hZ w4) hy (own_backW (W := W) hM hZ hEL w4 w3 hf hl H.2.1.1 (fun x hx => H.2.2 x (hsub x hx))) hg hsize hlen hstack hW hdg (fun _ _ => ⟨ha, eT, hc, hs⟩)
  dsimp only [Pt.U, Pt.locs, Pt.cells, Pt.slots] at X' l' y' z' st hQ hS hg' hC hR
  subst l' y' z'
  exact ⟨v, T', L, X', ⟨hQ, own_warmW hZ hS, own_ownW hS hown, H.go (by obtain ⟨⟨k0, a, b⟩, -⟩ := H; exact ⟨_, Jvm.RoadKit.foldS (T := T) a (by rw [eT]; exact b) hS hg', Nat.le_refl _⟩) hC, hR⟩, fun t k => st.trans k⟩
theorem own_specialW (X : Stand p l e R (s.setVm vm0) m args below meth c T locs cells slots) (hx : p.tables.exec = Jvm.exec) (hZ : Z.Warmed39 (s.setVm vm0).vm) (hown : (s.setVm vm0).vm.findClass own = some m.cls) (hEL : EW Z a0 EL) {xs0 : List Addr} (H : Cold Z EL s xs0 vm0 h) (hsub : ∀ x ∈ xs, x ∈ xs0) (hy1 : y.name = "<init>")
    (w1 : (Cond.methodLink own index y).before a0 Z = true) (w2 : (Cond.instanceMethod y).before a0 Z = true) (w3 : (Cond.initialized y.cls).before a0 Z = true) (w4 : (Cond.code y bytes maxL none).before a0 Z = true)
    (hy : y.cls ≠ "java/lang/invoke/MethodHandle" ∧ y.cls ≠ "java/lang/invoke/VarHandle") (hM : ConW l Z EL xs sf y bytes maxL none [] rm as' h Q) (eT : T.heap = h)
    {g : JFrame} (hg : g.method = m) (hsize : g.locals.size = c.maxLocals) {a : Addr} {argsL rest : List Value} (hlen : ∀ sig, parseMethodDescriptor y.desc = some sig → argsL.length = sig.parameters.length) (hstack : g.stack = argsL.reverse ++ .ref a :: rest) (ha : (.ref a :: argsL).toArray = as')
    (hW : 2 * g.monitorRoom + (rest.map fun v => v.category).sum ≤ W) (hf : rm.frames + 1 ≤ R.frames) (hl : W + (maxL + 11) + rm.locals ≤ R.locals)
    (hdg : decode c.code g.pc = .ok (.invokespecial index, 3)) (hc : cells + rm.cells ≤ R.cells) (hs : slots + rm.slots ≤ R.slots) :
    ∃ v T' L, Stand p l e R (s.setVm T'.vm) m args below meth c T' (locs ++ L) (cells + rm.cells) (slots + rm.slots) ∧ (Q v T'.heap L ∧ Z.Warmed39 (s.setVm T'.vm).vm ∧ (s.setVm T'.vm).vm.findClass own = some m.cls ∧ Cold Z EL s xs0 T'.vm T'.heap ∧ SafeR sf Z EL T'.vm T'.heap v) ∧
      ∀ t, Steps p.tables e below (T'.setTop { g with pc := g.pc + 3, stack := v.toList ++ rest }) t → Steps p.tables e below (T.setTop g) t := by
  obtain ⟨v, _, ⟨T', L', k', n'⟩, -, X', hS, hg', ⟨L, hQ, l', y', z', hC, hR⟩, st⟩ := X.specialBackS hx (y := y) hy1 hown (mvT hZ w1) (mvT hZ w2) (mvT hZ w4) hy (own_backW (W := W) hM hZ hEL w4 w3 hf hl H.2.1.1 (fun x hx => H.2.2 x (hsub x hx))) hg hsize (Steps.refl _) (a := a) hlen hstack hW hdg (fun _ _ => ⟨ha, eT, hc, hs⟩)
  dsimp only [Pt.U, Pt.locs, Pt.cells, Pt.slots] at X' l' y' z' st hQ hS hg' hC hR
  subst l' y' z'
  exact ⟨v, T', L, X', ⟨hQ, own_warmW hZ hS, own_ownW hS hown, H.go (by obtain ⟨⟨k0, a, b⟩, -⟩ := H; exact ⟨_, Jvm.RoadKit.foldS (T := T) a (by rw [eT]; exact b) hS hg', Nat.le_refl _⟩) hC, hR⟩, fun t k => st.trans k⟩
/-- ldc of a text of EL: its cells are there -/
theorem own_ldcW {text : String} (X : Stand p l e R (s.setVm vm0) m args below meth c T locs cells slots) (hx : p.tables.exec = Jvm.exec) (hZ : Z.Warmed39 (s.setVm vm0).vm) (hown : (s.setVm vm0).vm.findClass own = some m.cls) (hEL : EW Z a0 EL) (H : Cold Z EL s xs vm0 h) (w : (Cond.stringLink own index text).before a0 Z = true) (wS : ∀ a ∈ Bundle.stringAtoms, a.before a0 Z = true)
    (eT : T.heap = h) (hmem : (own, index) ∈ EL) {vs : List Value} {z : Int32} (ht : (∀ c ∈ text.toList, c.toNat < 256) ∧ text.toList.map (fun c => Value.int (Jvm.Lit.byteI c.toNat.toUInt16)) = vs) (hz : ¬ z < 0) (hl : z.toNatClampNeg = vs.length)
    {g : JFrame} (hg : g.method = m) (hd : decode c.code g.pc = .ok (.ldc index, 2)) {n : Nat} (hn : 4 * text.toList.length ≤ n) (hbig : n ≤ 536870912) (hc : cells + 2 ≤ R.cells) (hl' : slots + (n + 4) ≤ R.slots) :
    ∃ (a b : Addr) (k : ClassId) (T' : State) (h' : Heap), Stand p l e R (s.setVm T'.vm) m args below meth c T' locs (cells + 2) (slots + (n + 4)) ∧ T'.heap = h' ∧ Ext h h' ∧ Z.Warmed39 (s.setVm T'.vm).vm ∧ (s.setVm T'.vm).vm.findClass own = some m.cls ∧ Cold Z EL s xs T'.vm h' ∧
      Exa Z h' a "java/lang/String" ∧ Fld Z h' a "java/lang/String" "coder" "B" (.int 0) ∧ Fld Z h' a "java/lang/String" "value" "[B" (.ref b) ∧ Arv Z h' b k .byte z vs (.int 0) ∧ a < h'.size ∧ b < h'.size ∧ (∀ x ∈ xs, x ≠ a ∧ x ≠ b) ∧
      ∀ t, Steps p.tables e below (T'.setTop { g with pc := g.pc + 2, stack := .ref a :: g.stack }) t → Steps p.tables e below (T.setTop g) t := by
  obtain ⟨k0, hS, hk⟩ := H.1
  obtain ⟨a, T', h', k1, b, k, X', e1, E, hS', hk', hZ', ho', f1, f2, f3, f4, f5, f6, hC, -, hne, st⟩ := ldcCH X hx hZ hown w wS eT hS hk hEL hmem H.2.1.1 ht hz hl hg hd hn hbig hc hl'
  have H' := H.go ⟨k1, hS', hk'⟩ hC
  exact ⟨a, b, k, T', h', X', e1, E, hZ', ho', H', f1, f2, f3, f4, f5, f6, fun x hx => hne x (H'.safe hx), st⟩
end Cold
end Jvm.OwnKit
namespace Jvm.OwnKit
theorem own_b2 {a b : Int32} (ha : ¬ a < (0 : Int32) ∧ ¬ (255 : Int32) < a) (hb : ¬ b < (0 : Int32) ∧ ¬ (255 : Int32) < b) : (a.toInt8.toInt32 = b.toInt8.toInt32) ↔ a = b := by
  rw [← Int32.toInt_inj, ← Int32.toInt_inj, Int8.toInt_toInt32, Int8.toInt_toInt32, Int32.toInt_toInt8, Int32.toInt_toInt8]
  simp only [Int32.lt_iff_toInt_lt] at ha hb
  have e0 : (0 : Int32).toInt = 0 := rfl
  have e1 : (255 : Int32).toInt = 255 := rfl
  rw [e0, e1] at ha hb
  simp only [Int.bmod]
  constructor
  · intro h; split at h <;> split at h <;> omega
  · intro h; rw [h]
end Jvm.OwnKit
namespace Jvm.Pilot.@@N@@
open Jvm Jvm.ClassFile Sem Op Lib Jvm.Free Jvm.Stand Jvm.LawKit Jvm.RoadKit Jvm.OwnKit Bundle Jvm.Pilot.@@N@@.Jvm.D
set_option maxRecDepth 65536
set_option maxHeartbeats 40000000
abbrev HW (a0 : Array Value) (Z : State) : Prop := ∀ d ∈ tables_1, d.before a0 Z = true
theorem own_lenk {Z : State} {args : Array Value} {t : Term} {a : Addr} {c : Cell} {ty : FieldType} {k : Int32} (ev : t.eval args Z none [] Z = some (.ref a)) (A : Arr Z Z.heap a c ty) (h : (Jvm.Cond.eq (Jvm.Term.length t) (Jvm.Term.int k)).value args Z none Z [] = some true) : c.slots.size < 2 ^ 31 ∧ c.slots.size.toInt32 = k := by
  have e := eqv_i (Term.int_eval k) h
  have ha := A.fin (U := Z) (Vm.Alike.refl _)
  by_cases q : c.slots.size < 2 ^ 31
  · have e2 := len_f (first := Z) (o := none) (idx := []) (args := args) ev ha q
    rw [e] at e2
    exact ⟨q, by injection e2 with e3; injection e3 with e4; exact e4.symm⟩
  · exfalso
    simp [Term.eval, ev, ha, q] at e
def own_eqv (l1 l2 : List Int32) : Int32 := if l1 = l2 then 1 else 0
theorem own_eqv_bnd (l1 l2 : List Int32) : ¬ own_eqv l1 l2 < (0 : Int32) ∧ ¬ (1 : Int32) < own_eqv l1 l2 := by unfold own_eqv; split <;> decide
theorem sg0_0_3 : decs code [(0, .iload 4, 2), (2, .iconst 1, 1), (3, .iand, 1)] := ⟨at_0, at_2, at_3, trivial⟩
theorem sg0_11_1 : decs code [(11, .iload_n 1, 1)] := ⟨at_11, trivial⟩
theorem sg0_7_2 : decs code [(7, .iload_n 0, 1), (8, .goto 4, 3)] := ⟨at_7, at_8, trivial⟩
theorem sg0_12_4 : decs code [(12, .istore 5, 2), (14, .iload 4, 2), (16, .bipush 8, 2), (18, .iand, 1)] := ⟨at_12, at_14, at_16, at_18, trivial⟩
theorem sg0_26_1 : decs code [(26, .iload_n 3, 1)] := ⟨at_26, trivial⟩
theorem sg0_22_2 : decs code [(22, .iload_n 2, 1), (23, .goto 4, 3)] := ⟨at_22, at_23, trivial⟩
theorem sg0_27_4 : decs code [(27, .istore 6, 2), (29, .iload 4, 2), (31, .iconst 2, 1), (32, .iand, 1)] := ⟨at_27, at_29, at_31, at_32, trivial⟩
theorem sg0_40_1 : decs code [(40, .iconst 0, 1)] := ⟨at_40, trivial⟩
theorem sg0_36_2 : decs code [(36, .iconst 1, 1), (37, .goto 4, 3)] := ⟨at_36, at_37, trivial⟩
theorem sg0_41_4 : decs code [(41, .istore 7, 2), (43, .iload 4, 2), (45, .iconst 4, 1), (46, .iand, 1)] := ⟨at_41, at_43, at_45, at_46, trivial⟩
theorem sg0_54_1 : decs code [(54, .iconst 0, 1)] := ⟨at_54, trivial⟩
theorem sg0_50_2 : decs code [(50, .iconst 1, 1), (51, .goto 4, 3)] := ⟨at_50, at_51, trivial⟩
theorem sg0_55_1 : decs code [(55, .istore 8, 2)] := ⟨at_55, trivial⟩
theorem own_w0 {Z : State} {a0 : Array Value} (hw : HW a0 Z) : (Cond.classLink "com/example/invocant/invocant/CanonicalMatchesPinLaw" 25 "com/example/invocant/invocant/Canonical").before a0 Z = true := hw _ (List.mem_of_getElem? (i := 0) rfl)
theorem own_w1 {Z : State} {a0 : Array Value} (hw : HW a0 Z) : (Cond.instantiable "com/example/invocant/invocant/Canonical" 2).before a0 Z = true := hw _ (List.mem_of_getElem? (i := 1) rfl)
theorem own_w2 {Z : State} {a0 : Array Value} (hw : HW a0 Z) : (Cond.initialized "com/example/invocant/invocant/Canonical").before a0 Z = true := hw _ (List.mem_of_getElem? (i := 2) rfl)
theorem own_w42 {Z : State} {a0 : Array Value} (hw : HW a0 Z) : (Cond.laysFinal "com/example/invocant/invocant/Canonical" "com/example/invocant/invocant/Canonical" "url" "Ljava/lang/String;").before a0 Z = true := hw _ (List.mem_of_getElem? (i := 42) rfl)
theorem own_w44 {Z : State} {a0 : Array Value} (hw : HW a0 Z) : (Cond.laysFinal "com/example/invocant/invocant/Canonical" "com/example/invocant/invocant/Canonical" "version" "Ljava/lang/String;").before a0 Z = true := hw _ (List.mem_of_getElem? (i := 44) rfl)
theorem own_w3 {Z : State} {a0 : Array Value} (hw : HW a0 Z) : (Cond.methodLink "com/example/invocant/invocant/CanonicalMatchesPinLaw" 27 ⟨"com/example/invocant/invocant/CanonicalMatchesPinLaw", "mk", "(I)Ljava/lang/String;"⟩).before a0 Z = true := hw _ (List.mem_of_getElem? (i := 3) rfl)
theorem sg0_60_2 : decs code [(60, .dup, 1), (61, .iload_n 0, 1)] := ⟨at_60, at_61, trivial⟩
theorem d1_0 : decode method_5_code 0 = .ok (.iload_n 0, 1) := by decide +kernel
theorem own_w7 {Z : State} {a0 : Array Value} (hw : HW a0 Z) : (Cond.methodLink "com/example/invocant/invocant/CanonicalMatchesPinLaw" 7 ⟨"com/example/invocant/invocant/CanonicalMatchesPinLaw", "len", "(I)I"⟩).before a0 Z = true := hw _ (List.mem_of_getElem? (i := 7) rfl)
theorem sg1_0_1 : decs method_5_code [(0, .iload_n 0, 1)] := ⟨d1_0, trivial⟩
theorem d1_1 : decode method_5_code 1 = .ok (.invokestatic 7, 3) := by decide +kernel
theorem d2_0 : decode method_2_code 0 = .ok (.iload_n 0, 1) := by decide +kernel
theorem d2_1 : decode method_2_code 1 = .ok (.bipush 16, 2) := by decide +kernel
theorem d2_3 : decode method_2_code 3 = .ok (.iushr, 1) := by decide +kernel
theorem d2_4 : decode method_2_code 4 = .ok (.sipush 32767, 3) := by decide +kernel
theorem d2_7 : decode method_2_code 7 = .ok (.iand, 1) := by decide +kernel
theorem d2_8 : decode method_2_code 8 = .ok (.iconst 3, 1) := by decide +kernel
theorem sg2_0_6 : decs method_2_code [(0, .iload_n 0, 1), (1, .bipush 16, 2), (3, .iushr, 1), (4, .sipush 32767, 3), (7, .iand, 1), (8, .iconst 3, 1)] := ⟨d2_0, d2_1, d2_3, d2_4, d2_7, d2_8, trivial⟩
theorem d2_9 : decode method_2_code 9 = .ok (.irem, 1) := by decide +kernel
theorem d2_10 : decode method_2_code 10 = .ok (.ireturn, 1) := by decide +kernel
theorem ef_rm2_0 (m : MethodId) (x0 : Int32) : entryFrame m #[(.int x0)] 1 = mkF m 0 #[.val (.int x0)] [] := by first | (simp [entryFrame, mkF, argsToLocals, Value.category]; done) | rfl
theorem own_pn0 : plainName "com/example/invocant/invocant/CanonicalMatchesPinLaw" = true := by first | (simp [plainName, overriddenIn]; done) | decide +kernel
theorem own_w9 {Z : State} {a0 : Array Value} (hw : HW a0 Z) : (Cond.code ⟨"com/example/invocant/invocant/CanonicalMatchesPinLaw", "len", "(I)I"⟩ method_2_code 1 (Option.some Jvm.ClassFile.FieldType.int)).before a0 Z = true := hw _ (List.mem_of_getElem? (i := 9) rfl)
theorem own_w5 {Z : State} {a0 : Array Value} (hw : HW a0 Z) : (Cond.initialized "com/example/invocant/invocant/CanonicalMatchesPinLaw").before a0 Z = true := hw _ (List.mem_of_getElem? (i := 5) rfl)
theorem own_pd0 : parseMethodDescriptor "(I)I" = some ⟨[.int], some .int⟩ := by decide +kernel
theorem own_w8 {Z : State} {a0 : Array Value} (hw : HW a0 Z) : (Cond.static ⟨"com/example/invocant/invocant/CanonicalMatchesPinLaw", "len", "(I)I"⟩).before a0 Z = true := hw _ (List.mem_of_getElem? (i := 8) rfl)
theorem d1_4 : decode method_5_code 4 = .ok (.istore_n 1, 1) := by decide +kernel
theorem d1_5 : decode method_5_code 5 = .ok (.iload_n 1, 1) := by decide +kernel
theorem sg1_4_2 : decs method_5_code [(4, .istore_n 1, 1), (5, .iload_n 1, 1)] := ⟨d1_4, d1_5, trivial⟩
theorem d1_6 : decode method_5_code 6 = .ok (.ifCond .ne 14, 3) := by decide +kernel
theorem d1_9 : decode method_5_code 9 = .ok (.new 13, 3) := by decide +kernel
theorem own_w10 {Z : State} {a0 : Array Value} (hw : HW a0 Z) : (Cond.classLink "com/example/invocant/invocant/CanonicalMatchesPinLaw" 13 "java/lang/String").before a0 Z = true := hw _ (List.mem_of_getElem? (i := 10) rfl)
theorem own_w11 {Z : State} {a0 : Array Value} (hw : HW a0 Z) : (Cond.instantiable "java/lang/String" 4).before a0 Z = true := hw _ (List.mem_of_getElem? (i := 11) rfl)
theorem own_w12 {Z : State} {a0 : Array Value} (hw : HW a0 Z) : (Cond.initialized "java/lang/String").before a0 Z = true := hw _ (List.mem_of_getElem? (i := 12) rfl)
theorem own_w26 {Z : State} {a0 : Array Value} (hw : HW a0 Z) : (Cond.laysFinal "java/lang/String" "java/lang/String" "value" "[B").before a0 Z = true := hw _ (List.mem_of_getElem? (i := 26) rfl)
theorem own_w27 {Z : State} {a0 : Array Value} (hw : HW a0 Z) : (Cond.laysFinal "java/lang/String" "java/lang/String" "coder" "B").before a0 Z = true := hw _ (List.mem_of_getElem? (i := 27) rfl)
theorem d1_12 : decode method_5_code 12 = .ok (.dup, 1) := by decide +kernel
theorem d1_13 : decode method_5_code 13 = .ok (.iconst 0, 1) := by decide +kernel
theorem sg1_12_2 : decs method_5_code [(12, .dup, 1), (13, .iconst 0, 1)] := ⟨d1_12, d1_13, trivial⟩
theorem d1_14 : decode method_5_code 14 = .ok (.newarray .char, 2) := by decide +kernel
theorem own_w13 {Z : State} {a0 : Array Value} (hw : HW a0 Z) : (Cond.arrayClass Jvm.ClassFile.FieldType.char).before a0 Z = true := hw _ (List.mem_of_getElem? (i := 13) rfl)
theorem own_w14 {Z : State} {a0 : Array Value} (hw : HW a0 Z) : (Cond.methodLink "com/example/invocant/invocant/CanonicalMatchesPinLaw" 15 ⟨"java/lang/String", "<init>", "([C)V"⟩).before a0 Z = true := hw _ (List.mem_of_getElem? (i := 14) rfl)
theorem d1_16 : decode method_5_code 16 = .ok (.invokespecial 15, 3) := by decide +kernel
theorem d3_0 : decode jdk_42_method_3_code 0 = .ok (.aload_n 0, 1) := by decide +kernel
theorem d3_1 : decode jdk_42_method_3_code 1 = .ok (.aload_n 1, 1) := by decide +kernel
theorem d3_2 : decode jdk_42_method_3_code 2 = .ok (.iconst 0, 1) := by decide +kernel
theorem d3_3 : decode jdk_42_method_3_code 3 = .ok (.aload_n 1, 1) := by decide +kernel
theorem sg3_0_4 : decs jdk_42_method_3_code [(0, .aload_n 0, 1), (1, .aload_n 1, 1), (2, .iconst 0, 1), (3, .aload_n 1, 1)] := ⟨d3_0, d3_1, d3_2, d3_3, trivial⟩
theorem d3_4 : decode jdk_42_method_3_code 4 = .ok (.arraylength, 1) := by decide +kernel
theorem d3_5 : decode jdk_42_method_3_code 5 = .ok (.aconst_null, 1) := by decide +kernel
theorem own_w17 {Z : State} {a0 : Array Value} (hw : HW a0 Z) : (Cond.methodLink "java/lang/String" 27 ⟨"java/lang/String", "<init>", "([CIILjava/lang/Void;)V"⟩).before a0 Z = true := hw _ (List.mem_of_getElem? (i := 17) rfl)
theorem sg3_5_1 : decs jdk_42_method_3_code [(5, .aconst_null, 1)] := ⟨d3_5, trivial⟩
theorem d3_6 : decode jdk_42_method_3_code 6 = .ok (.invokespecial 27, 3) := by decide +kernel
theorem d4_0 : decode jdk_42_method_149_code 0 = .ok (.aload_n 0, 1) := by decide +kernel
theorem own_w21 {Z : State} {a0 : Array Value} (hw : HW a0 Z) : (Cond.methodLink "java/lang/String" 1 ⟨"java/lang/Object", "<init>", "()V"⟩).before a0 Z = true := hw _ (List.mem_of_getElem? (i := 21) rfl)
theorem sg4_0_1 : decs jdk_42_method_149_code [(0, .aload_n 0, 1)] := ⟨d4_0, trivial⟩
theorem d4_1 : decode jdk_42_method_149_code 1 = .ok (.invokespecial 1, 3) := by decide +kernel
theorem own_w23 {Z : State} {a0 : Array Value} (hw : HW a0 Z) : (Cond.code ⟨"java/lang/Object", "<init>", "()V"⟩ object_method_1_code 1 (Option.none : Option Jvm.ClassFile.FieldType)).before a0 Z = true := hw _ (List.mem_of_getElem? (i := 23) rfl)
theorem own_w22 {Z : State} {a0 : Array Value} (hw : HW a0 Z) : (Cond.instanceMethod ⟨"java/lang/Object", "<init>", "()V"⟩).before a0 Z = true := hw _ (List.mem_of_getElem? (i := 22) rfl)
theorem d4_4 : decode jdk_42_method_149_code 4 = .ok (.iload_n 3, 1) := by decide +kernel
theorem sg4_4_1 : decs jdk_42_method_149_code [(4, .iload_n 3, 1)] := ⟨d4_4, trivial⟩
theorem d4_5 : decode jdk_42_method_149_code 5 = .ok (.ifCond .ne 22, 3) := by decide +kernel
theorem d4_8 : decode jdk_42_method_149_code 8 = .ok (.aload_n 0, 1) := by decide +kernel
theorem sg4_8_1 : decs jdk_42_method_149_code [(8, .aload_n 0, 1)] := ⟨d4_8, trivial⟩
theorem d4_9 : decode jdk_42_method_149_code 9 = .ok (.ldc 7, 2) := by decide +kernel
theorem own_w24 {Z : State} {a0 : Array Value} (hw : HW a0 Z) : (Cond.stringLink "java/lang/String" 7 "").before a0 Z = true := hw _ (List.mem_of_getElem? (i := 24) rfl)
theorem d4_11 : decode jdk_42_method_149_code 11 = .ok (.getfield 9, 3) := by decide +kernel
theorem own_w30 {Z : State} {a0 : Array Value} (hw : HW a0 Z) : (Cond.fieldLink "java/lang/String" 9 "java/lang/String" "value" "[B").before a0 Z = true := hw _ (List.mem_of_getElem? (i := 30) rfl)
theorem d4_14 : decode jdk_42_method_149_code 14 = .ok (.putfield 9, 3) := by decide +kernel
theorem d4_17 : decode jdk_42_method_149_code 17 = .ok (.aload_n 0, 1) := by decide +kernel
theorem sg4_17_1 : decs jdk_42_method_149_code [(17, .aload_n 0, 1)] := ⟨d4_17, trivial⟩
theorem d4_18 : decode jdk_42_method_149_code 18 = .ok (.ldc 7, 2) := by decide +kernel
theorem d4_20 : decode jdk_42_method_149_code 20 = .ok (.getfield 15, 3) := by decide +kernel
theorem own_w31 {Z : State} {a0 : Array Value} (hw : HW a0 Z) : (Cond.fieldLink "java/lang/String" 15 "java/lang/String" "coder" "B").before a0 Z = true := hw _ (List.mem_of_getElem? (i := 31) rfl)
theorem d4_23 : decode jdk_42_method_149_code 23 = .ok (.putfield 15, 3) := by decide +kernel
theorem d4_26 : decode jdk_42_method_149_code 26 = .ok (.return_, 1) := by decide +kernel
theorem ef_rm4_0 (m : MethodId) (x0 : Addr) (x1 : Addr) (x2 : Int32) : entryFrame m #[(.ref x0), (.ref x1), (.int x2), (.int x2), .null] 6 = mkF m 0 #[.val (.ref x0), .val (.ref x1), .val (.int x2), .val (.int x2), .val .null, .unset] [] := by first | (simp [entryFrame, mkF, argsToLocals, Value.category]; done) | rfl
theorem own_pn1 : plainName "java/lang/String" = true := by first | (simp [plainName, overriddenIn]; done) | decide +kernel
theorem own_w20 {Z : State} {a0 : Array Value} (hw : HW a0 Z) : (Cond.code ⟨"java/lang/String", "<init>", "([CIILjava/lang/Void;)V"⟩ jdk_42_method_149_code 6 (Option.none : Option Jvm.ClassFile.FieldType)).before a0 Z = true := hw _ (List.mem_of_getElem? (i := 20) rfl)
theorem own_pd1 : parseMethodDescriptor "([CIILjava/lang/Void;)V" = some ⟨[(.array .char), .int, .int, (.object "java/lang/Void")], none⟩ := by decide +kernel
theorem own_w18 {Z : State} {a0 : Array Value} (hw : HW a0 Z) : (Cond.instanceMethod ⟨"java/lang/String", "<init>", "([CIILjava/lang/Void;)V"⟩).before a0 Z = true := hw _ (List.mem_of_getElem? (i := 18) rfl)
theorem d3_9 : decode jdk_42_method_3_code 9 = .ok (.return_, 1) := by decide +kernel
theorem ef_rm3_0 (m : MethodId) (x0 : Addr) (x1 : Addr) : entryFrame m #[(.ref x0), (.ref x1)] 2 = mkF m 0 #[.val (.ref x0), .val (.ref x1)] [] := by first | (simp [entryFrame, mkF, argsToLocals, Value.category]; done) | rfl
theorem own_w16 {Z : State} {a0 : Array Value} (hw : HW a0 Z) : (Cond.code ⟨"java/lang/String", "<init>", "([C)V"⟩ jdk_42_method_3_code 2 (Option.none : Option Jvm.ClassFile.FieldType)).before a0 Z = true := hw _ (List.mem_of_getElem? (i := 16) rfl)
theorem own_pd2 : parseMethodDescriptor "([C)V" = some ⟨[(.array .char)], none⟩ := by decide +kernel
theorem own_w15 {Z : State} {a0 : Array Value} (hw : HW a0 Z) : (Cond.instanceMethod ⟨"java/lang/String", "<init>", "([C)V"⟩).before a0 Z = true := hw _ (List.mem_of_getElem? (i := 15) rfl)
theorem d1_19 : decode method_5_code 19 = .ok (.areturn, 1) := by decide +kernel
theorem d1_20 : decode method_5_code 20 = .ok (.iload_n 1, 1) := by decide +kernel
theorem d1_21 : decode method_5_code 21 = .ok (.iconst 1, 1) := by decide +kernel
theorem sg1_20_2 : decs method_5_code [(20, .iload_n 1, 1), (21, .iconst 1, 1)] := ⟨d1_20, d1_21, trivial⟩
theorem d1_22 : decode method_5_code 22 = .ok (.if_icmp .ne 21, 3) := by decide +kernel
theorem d1_25 : decode method_5_code 25 = .ok (.new 13, 3) := by decide +kernel
theorem d1_28 : decode method_5_code 28 = .ok (.dup, 1) := by decide +kernel
theorem d1_29 : decode method_5_code 29 = .ok (.iconst 1, 1) := by decide +kernel
theorem sg1_28_2 : decs method_5_code [(28, .dup, 1), (29, .iconst 1, 1)] := ⟨d1_28, d1_29, trivial⟩
theorem d1_30 : decode method_5_code 30 = .ok (.newarray .char, 2) := by decide +kernel
theorem d1_32 : decode method_5_code 32 = .ok (.dup, 1) := by decide +kernel
theorem d1_33 : decode method_5_code 33 = .ok (.iconst 0, 1) := by decide +kernel
theorem d1_34 : decode method_5_code 34 = .ok (.iload_n 0, 1) := by decide +kernel
theorem own_w64 {Z : State} {a0 : Array Value} (hw : HW a0 Z) : (Cond.methodLink "com/example/invocant/invocant/CanonicalMatchesPinLaw" 18 ⟨"com/example/invocant/invocant/CanonicalMatchesPinLaw", "c0", "(I)C"⟩).before a0 Z = true := hw _ (List.mem_of_getElem? (i := 64) rfl)
theorem sg1_32_3 : decs method_5_code [(32, .dup, 1), (33, .iconst 0, 1), (34, .iload_n 0, 1)] := ⟨d1_32, d1_33, d1_34, trivial⟩
theorem d1_35 : decode method_5_code 35 = .ok (.invokestatic 18, 3) := by decide +kernel
theorem d12_0 : decode method_3_code 0 = .ok (.iload_n 0, 1) := by decide +kernel
theorem d12_1 : decode method_3_code 1 = .ok (.sipush 255, 3) := by decide +kernel
theorem d12_4 : decode method_3_code 4 = .ok (.iand, 1) := by decide +kernel
theorem d12_5 : decode method_3_code 5 = .ok (.i2c, 1) := by decide +kernel
theorem sg12_0_4 : decs method_3_code [(0, .iload_n 0, 1), (1, .sipush 255, 3), (4, .iand, 1), (5, .i2c, 1)] := ⟨d12_0, d12_1, d12_4, d12_5, trivial⟩
theorem d12_6 : decode method_3_code 6 = .ok (.ireturn, 1) := by decide +kernel
theorem ef_rm12_0 (m : MethodId) (x0 : Int32) : entryFrame m #[(.int x0)] 1 = mkF m 0 #[.val (.int x0)] [] := by first | (simp [entryFrame, mkF, argsToLocals, Value.category]; done) | rfl
theorem own_w66 {Z : State} {a0 : Array Value} (hw : HW a0 Z) : (Cond.code ⟨"com/example/invocant/invocant/CanonicalMatchesPinLaw", "c0", "(I)C"⟩ method_3_code 1 (Option.some Jvm.ClassFile.FieldType.char)).before a0 Z = true := hw _ (List.mem_of_getElem? (i := 66) rfl)
theorem own_pd3 : parseMethodDescriptor "(I)C" = some ⟨[.int], some .char⟩ := by decide +kernel
theorem own_w65 {Z : State} {a0 : Array Value} (hw : HW a0 Z) : (Cond.static ⟨"com/example/invocant/invocant/CanonicalMatchesPinLaw", "c0", "(I)C"⟩).before a0 Z = true := hw _ (List.mem_of_getElem? (i := 65) rfl)
theorem d1_38 : decode method_5_code 38 = .ok (.castore, 1) := by decide +kernel
theorem d1_39 : decode method_5_code 39 = .ok (.invokespecial 15, 3) := by decide +kernel
theorem d4_27 : decode jdk_42_method_149_code 27 = .ok (.getstatic 38, 3) := by decide +kernel
theorem own_w59 {Z : State} {a0 : Array Value} (hw : HW a0 Z) : (Cond.fieldLink "java/lang/String" 38 "java/lang/String" "COMPACT_STRINGS" "Z").before a0 Z = true := hw _ (List.mem_of_getElem? (i := 59) rfl)
theorem d4_30 : decode jdk_42_method_149_code 30 = .ok (.ifCond .eq 28, 3) := by decide +kernel
theorem d4_33 : decode jdk_42_method_149_code 33 = .ok (.aload_n 1, 1) := by decide +kernel
theorem d4_34 : decode jdk_42_method_149_code 34 = .ok (.iload_n 2, 1) := by decide +kernel
theorem d4_35 : decode jdk_42_method_149_code 35 = .ok (.iload_n 3, 1) := by decide +kernel
theorem own_w67 {Z : State} {a0 : Array Value} (hw : HW a0 Z) : (Cond.methodLink "java/lang/String" 177 ⟨"java/lang/StringUTF16", "compress", "([CII)[B"⟩).before a0 Z = true := hw _ (List.mem_of_getElem? (i := 67) rfl)
theorem sg4_33_3 : decs jdk_42_method_149_code [(33, .aload_n 1, 1), (34, .iload_n 2, 1), (35, .iload_n 3, 1)] := ⟨d4_33, d4_34, d4_35, trivial⟩
theorem d4_36 : decode jdk_42_method_149_code 36 = .ok (.invokestatic 177, 3) := by decide +kernel
theorem d13_0 : decode jdk_52_method_16_code 0 = .ok (.iload_n 2, 1) := by decide +kernel
theorem sg13_0_1 : decs jdk_52_method_16_code [(0, .iload_n 2, 1)] := ⟨d13_0, trivial⟩
theorem d13_1 : decode jdk_52_method_16_code 1 = .ok (.newarray .byte, 2) := by decide +kernel
theorem own_w25 {Z : State} {a0 : Array Value} (hw : HW a0 Z) : (Cond.arrayClass Jvm.ClassFile.FieldType.byte).before a0 Z = true := hw _ (List.mem_of_getElem? (i := 25) rfl)
theorem d13_3 : decode jdk_52_method_16_code 3 = .ok (.astore_n 3, 1) := by decide +kernel
theorem d13_4 : decode jdk_52_method_16_code 4 = .ok (.aload_n 0, 1) := by decide +kernel
theorem d13_5 : decode jdk_52_method_16_code 5 = .ok (.iload_n 1, 1) := by decide +kernel
theorem d13_6 : decode jdk_52_method_16_code 6 = .ok (.aload_n 3, 1) := by decide +kernel
theorem d13_7 : decode jdk_52_method_16_code 7 = .ok (.iconst 0, 1) := by decide +kernel
theorem d13_8 : decode jdk_52_method_16_code 8 = .ok (.iload_n 2, 1) := by decide +kernel
theorem own_w71 {Z : State} {a0 : Array Value} (hw : HW a0 Z) : (Cond.methodLink "java/lang/StringUTF16" 115 ⟨"java/lang/StringUTF16", "compress", "([CI[BII)I"⟩).before a0 Z = true := hw _ (List.mem_of_getElem? (i := 71) rfl)
theorem sg13_3_6 : decs jdk_52_method_16_code [(3, .astore_n 3, 1), (4, .aload_n 0, 1), (5, .iload_n 1, 1), (6, .aload_n 3, 1), (7, .iconst 0, 1), (8, .iload_n 2, 1)] := ⟨d13_3, d13_4, d13_5, d13_6, d13_7, d13_8, trivial⟩
theorem d13_9 : decode jdk_52_method_16_code 9 = .ok (.invokestatic 115, 3) := by decide +kernel
theorem d14_0 : decode jdk_52_method_21_code 0 = .ok (.iconst 0, 1) := by decide +kernel
theorem d14_1 : decode jdk_52_method_21_code 1 = .ok (.istore 5, 2) := by decide +kernel
theorem d14_3 : decode jdk_52_method_21_code 3 = .ok (.iload 5, 2) := by decide +kernel
theorem d14_5 : decode jdk_52_method_21_code 5 = .ok (.iload 4, 2) := by decide +kernel
theorem sg14_0_4 : decs jdk_52_method_21_code [(0, .iconst 0, 1), (1, .istore 5, 2), (3, .iload 5, 2), (5, .iload 4, 2)] := ⟨d14_0, d14_1, d14_3, d14_5, trivial⟩
theorem d14_7 : decode jdk_52_method_21_code 7 = .ok (.if_icmp .ge 37, 3) := by decide +kernel
theorem d14_10 : decode jdk_52_method_21_code 10 = .ok (.aload_n 0, 1) := by decide +kernel
theorem d14_11 : decode jdk_52_method_21_code 11 = .ok (.iload_n 1, 1) := by decide +kernel
theorem sg14_10_2 : decs jdk_52_method_21_code [(10, .aload_n 0, 1), (11, .iload_n 1, 1)] := ⟨d14_10, d14_11, trivial⟩
theorem d14_12 : decode jdk_52_method_21_code 12 = .ok (.caload, 1) := by decide +kernel
theorem d14_13 : decode jdk_52_method_21_code 13 = .ok (.istore 6, 2) := by decide +kernel
theorem d14_15 : decode jdk_52_method_21_code 15 = .ok (.iload 6, 2) := by decide +kernel
theorem d14_17 : decode jdk_52_method_21_code 17 = .ok (.sipush 255, 3) := by decide +kernel
theorem sg14_13_3 : decs jdk_52_method_21_code [(13, .istore 6, 2), (15, .iload 6, 2), (17, .sipush 255, 3)] := ⟨d14_13, d14_15, d14_17, trivial⟩
theorem d14_20 : decode jdk_52_method_21_code 20 = .ok (.if_icmp .le 6, 3) := by decide +kernel
theorem d14_26 : decode jdk_52_method_21_code 26 = .ok (.aload_n 2, 1) := by decide +kernel
theorem d14_27 : decode jdk_52_method_21_code 27 = .ok (.iload_n 3, 1) := by decide +kernel
theorem d14_28 : decode jdk_52_method_21_code 28 = .ok (.iload 6, 2) := by decide +kernel
theorem d14_30 : decode jdk_52_method_21_code 30 = .ok (.i2b, 1) := by decide +kernel
theorem sg14_26_4 : decs jdk_52_method_21_code [(26, .aload_n 2, 1), (27, .iload_n 3, 1), (28, .iload 6, 2), (30, .i2b, 1)] := ⟨d14_26, d14_27, d14_28, d14_30, trivial⟩
theorem d14_31 : decode jdk_52_method_21_code 31 = .ok (.bastore, 1) := by decide +kernel
theorem d14_32 : decode jdk_52_method_21_code 32 = .ok (.iinc 1 1, 3) := by decide +kernel
theorem d14_35 : decode jdk_52_method_21_code 35 = .ok (.iinc 3 1, 3) := by decide +kernel
theorem d14_38 : decode jdk_52_method_21_code 38 = .ok (.iinc 5 1, 3) := by decide +kernel
theorem d14_41 : decode jdk_52_method_21_code 41 = .ok (.goto (-38), 3) := by decide +kernel
theorem sg14_32_6 : decs jdk_52_method_21_code [(32, .iinc 1 1, 3), (35, .iinc 3 1, 3), (38, .iinc 5 1, 3), (41, .goto (-38), 3), (3, .iload 5, 2), (5, .iload 4, 2)] := ⟨d14_32, d14_35, d14_38, d14_41, d14_3, d14_5, trivial⟩
theorem d14_44 : decode jdk_52_method_21_code 44 = .ok (.iload 4, 2) := by decide +kernel
theorem sg14_44_1 : decs jdk_52_method_21_code [(44, .iload 4, 2)] := ⟨d14_44, trivial⟩
theorem d14_46 : decode jdk_52_method_21_code 46 = .ok (.ireturn, 1) := by decide +kernel
theorem ef_rm14_0 (m : MethodId) (x0 : Addr) (x1 : Int32) (x2 : Addr) (x4 : Int32) : entryFrame m #[(.ref x0), (.int x1), (.ref x2), (.int x1), (.int x4)] 7 = mkF m 0 #[.val (.ref x0), .val (.int x1), .val (.ref x2), .val (.int x1), .val (.int x4), .unset, .unset] [] := by first | (simp [entryFrame, mkF, argsToLocals, Value.category]; done) | rfl
theorem own_pn2 : plainName "java/lang/StringUTF16" = true := by first | (simp [plainName, overriddenIn]; done) | decide +kernel
theorem own_w73 {Z : State} {a0 : Array Value} (hw : HW a0 Z) : (Cond.code ⟨"java/lang/StringUTF16", "compress", "([CI[BII)I"⟩ jdk_52_method_21_code 7 (Option.some Jvm.ClassFile.FieldType.int)).before a0 Z = true := hw _ (List.mem_of_getElem? (i := 73) rfl)
theorem own_w69 {Z : State} {a0 : Array Value} (hw : HW a0 Z) : (Cond.initialized "java/lang/StringUTF16").before a0 Z = true := hw _ (List.mem_of_getElem? (i := 69) rfl)
theorem own_pd4 : parseMethodDescriptor "([CI[BII)I" = some ⟨[(.array .char), .int, (.array .byte), .int, .int], some .int⟩ := by decide +kernel
theorem own_w72 {Z : State} {a0 : Array Value} (hw : HW a0 Z) : (Cond.static ⟨"java/lang/StringUTF16", "compress", "([CI[BII)I"⟩).before a0 Z = true := hw _ (List.mem_of_getElem? (i := 72) rfl)
theorem d13_12 : decode jdk_52_method_16_code 12 = .ok (.istore 4, 2) := by decide +kernel
theorem d13_14 : decode jdk_52_method_16_code 14 = .ok (.iload 4, 2) := by decide +kernel
theorem d13_16 : decode jdk_52_method_16_code 16 = .ok (.iload_n 2, 1) := by decide +kernel
theorem sg13_12_3 : decs jdk_52_method_16_code [(12, .istore 4, 2), (14, .iload 4, 2), (16, .iload_n 2, 1)] := ⟨d13_12, d13_14, d13_16, trivial⟩
theorem d13_17 : decode jdk_52_method_16_code 17 = .ok (.if_icmp .eq 40, 3) := by decide +kernel
theorem d13_57 : decode jdk_52_method_16_code 57 = .ok (.aload_n 3, 1) := by decide +kernel
theorem sg13_57_1 : decs jdk_52_method_16_code [(57, .aload_n 3, 1)] := ⟨d13_57, trivial⟩
theorem d13_58 : decode jdk_52_method_16_code 58 = .ok (.areturn, 1) := by decide +kernel
theorem ef_rm13_0 (m : MethodId) (x0 : Addr) (x1 : Int32) (x2 : Int32) : entryFrame m #[(.ref x0), (.int x1), (.int x2)] 6 = mkF m 0 #[.val (.ref x0), .val (.int x1), .val (.int x2), .unset, .unset, .unset] [] := by first | (simp [entryFrame, mkF, argsToLocals, Value.category]; done) | rfl
theorem own_w70 {Z : State} {a0 : Array Value} (hw : HW a0 Z) : (Cond.code ⟨"java/lang/StringUTF16", "compress", "([CII)[B"⟩ jdk_52_method_16_code 6 (Option.some (Jvm.ClassFile.FieldType.array Jvm.ClassFile.FieldType.byte))).before a0 Z = true := hw _ (List.mem_of_getElem? (i := 70) rfl)
theorem own_pd5 : parseMethodDescriptor "([CII)[B" = some ⟨[(.array .char), .int, .int], some (.array .byte)⟩ := by decide +kernel
theorem own_w68 {Z : State} {a0 : Array Value} (hw : HW a0 Z) : (Cond.static ⟨"java/lang/StringUTF16", "compress", "([CII)[B"⟩).before a0 Z = true := hw _ (List.mem_of_getElem? (i := 68) rfl)
theorem d4_39 : decode jdk_42_method_149_code 39 = .ok (.astore 5, 2) := by decide +kernel
theorem d4_41 : decode jdk_42_method_149_code 41 = .ok (.aload_n 0, 1) := by decide +kernel
theorem d4_42 : decode jdk_42_method_149_code 42 = .ok (.aload 5, 2) := by decide +kernel
theorem d4_44 : decode jdk_42_method_149_code 44 = .ok (.iload_n 3, 1) := by decide +kernel
theorem own_w74 {Z : State} {a0 : Array Value} (hw : HW a0 Z) : (Cond.methodLink "java/lang/String" 47 ⟨"java/lang/StringUTF16", "coderFromArrayLen", "([BI)B"⟩).before a0 Z = true := hw _ (List.mem_of_getElem? (i := 74) rfl)
theorem sg4_39_4 : decs jdk_42_method_149_code [(39, .astore 5, 2), (41, .aload_n 0, 1), (42, .aload 5, 2), (44, .iload_n 3, 1)] := ⟨d4_39, d4_41, d4_42, d4_44, trivial⟩
theorem d4_45 : decode jdk_42_method_149_code 45 = .ok (.invokestatic 47, 3) := by decide +kernel
theorem d15_0 : decode jdk_52_method_15_code 0 = .ok (.iload_n 1, 1) := by decide +kernel
theorem d15_1 : decode jdk_52_method_15_code 1 = .ok (.aload_n 0, 1) := by decide +kernel
theorem sg15_0_2 : decs jdk_52_method_15_code [(0, .iload_n 1, 1), (1, .aload_n 0, 1)] := ⟨d15_0, d15_1, trivial⟩
theorem d15_2 : decode jdk_52_method_15_code 2 = .ok (.arraylength, 1) := by decide +kernel
theorem d15_3 : decode jdk_52_method_15_code 3 = .ok (.isub, 1) := by decide +kernel
theorem d15_4 : decode jdk_52_method_15_code 4 = .ok (.bipush 31, 2) := by decide +kernel
theorem d15_6 : decode jdk_52_method_15_code 6 = .ok (.iushr, 1) := by decide +kernel
theorem d15_7 : decode jdk_52_method_15_code 7 = .ok (.i2b, 1) := by decide +kernel
theorem sg15_3_4 : decs jdk_52_method_15_code [(3, .isub, 1), (4, .bipush 31, 2), (6, .iushr, 1), (7, .i2b, 1)] := ⟨d15_3, d15_4, d15_6, d15_7, trivial⟩
theorem d15_8 : decode jdk_52_method_15_code 8 = .ok (.ireturn, 1) := by decide +kernel
theorem ef_rm15_0 (m : MethodId) (x0 : Addr) (x1 : Int32) : entryFrame m #[(.ref x0), (.int x1)] 2 = mkF m 0 #[.val (.ref x0), .val (.int x1)] [] := by first | (simp [entryFrame, mkF, argsToLocals, Value.category]; done) | rfl
theorem own_w76 {Z : State} {a0 : Array Value} (hw : HW a0 Z) : (Cond.code ⟨"java/lang/StringUTF16", "coderFromArrayLen", "([BI)B"⟩ jdk_52_method_15_code 2 (Option.some Jvm.ClassFile.FieldType.byte)).before a0 Z = true := hw _ (List.mem_of_getElem? (i := 76) rfl)
theorem own_pd6 : parseMethodDescriptor "([BI)B" = some ⟨[(.array .byte), .int], some .byte⟩ := by decide +kernel
theorem own_w75 {Z : State} {a0 : Array Value} (hw : HW a0 Z) : (Cond.static ⟨"java/lang/StringUTF16", "coderFromArrayLen", "([BI)B"⟩).before a0 Z = true := hw _ (List.mem_of_getElem? (i := 75) rfl)
theorem d4_48 : decode jdk_42_method_149_code 48 = .ok (.putfield 15, 3) := by decide +kernel
theorem d4_51 : decode jdk_42_method_149_code 51 = .ok (.aload_n 0, 1) := by decide +kernel
theorem d4_52 : decode jdk_42_method_149_code 52 = .ok (.aload 5, 2) := by decide +kernel
theorem sg4_51_2 : decs jdk_42_method_149_code [(51, .aload_n 0, 1), (52, .aload 5, 2)] := ⟨d4_51, d4_52, trivial⟩
theorem d4_54 : decode jdk_42_method_149_code 54 = .ok (.putfield 9, 3) := by decide +kernel
theorem d4_57 : decode jdk_42_method_149_code 57 = .ok (.return_, 1) := by decide +kernel
theorem ef_rm4_1 (m : MethodId) (x0 : Addr) (x1 : Addr) (x2 : Int32) (x3 : Int32) : entryFrame m #[(.ref x0), (.ref x1), (.int x2), (.int x3), .null] 6 = mkF m 0 #[.val (.ref x0), .val (.ref x1), .val (.int x2), .val (.int x3), .val .null, .unset] [] := by first | (simp [entryFrame, mkF, argsToLocals, Value.category]; done) | rfl
theorem ef_rm3_1 (m : MethodId) (x0 : Addr) (x1 : Addr) : entryFrame m #[(.ref x0), (.ref x1)] 2 = mkF m 0 #[.val (.ref x0), .val (.ref x1)] [] := by first | (simp [entryFrame, mkF, argsToLocals, Value.category]; done) | rfl
theorem d1_42 : decode method_5_code 42 = .ok (.areturn, 1) := by decide +kernel
theorem d1_43 : decode method_5_code 43 = .ok (.new 13, 3) := by decide +kernel
theorem d1_46 : decode method_5_code 46 = .ok (.dup, 1) := by decide +kernel
theorem d1_47 : decode method_5_code 47 = .ok (.iconst 2, 1) := by decide +kernel
theorem sg1_46_2 : decs method_5_code [(46, .dup, 1), (47, .iconst 2, 1)] := ⟨d1_46, d1_47, trivial⟩
theorem d1_48 : decode method_5_code 48 = .ok (.newarray .char, 2) := by decide +kernel
theorem d1_50 : decode method_5_code 50 = .ok (.dup, 1) := by decide +kernel
theorem d1_51 : decode method_5_code 51 = .ok (.iconst 0, 1) := by decide +kernel
theorem d1_52 : decode method_5_code 52 = .ok (.iload_n 0, 1) := by decide +kernel
theorem sg1_50_3 : decs method_5_code [(50, .dup, 1), (51, .iconst 0, 1), (52, .iload_n 0, 1)] := ⟨d1_50, d1_51, d1_52, trivial⟩
theorem d1_53 : decode method_5_code 53 = .ok (.invokestatic 18, 3) := by decide +kernel
theorem d1_56 : decode method_5_code 56 = .ok (.castore, 1) := by decide +kernel
theorem d1_57 : decode method_5_code 57 = .ok (.dup, 1) := by decide +kernel
theorem d1_58 : decode method_5_code 58 = .ok (.iconst 1, 1) := by decide +kernel
theorem d1_59 : decode method_5_code 59 = .ok (.iload_n 0, 1) := by decide +kernel
theorem own_w77 {Z : State} {a0 : Array Value} (hw : HW a0 Z) : (Cond.methodLink "com/example/invocant/invocant/CanonicalMatchesPinLaw" 22 ⟨"com/example/invocant/invocant/CanonicalMatchesPinLaw", "c1", "(I)C"⟩).before a0 Z = true := hw _ (List.mem_of_getElem? (i := 77) rfl)
theorem sg1_57_3 : decs method_5_code [(57, .dup, 1), (58, .iconst 1, 1), (59, .iload_n 0, 1)] := ⟨d1_57, d1_58, d1_59, trivial⟩
theorem d1_60 : decode method_5_code 60 = .ok (.invokestatic 22, 3) := by decide +kernel
theorem d16_0 : decode method_4_code 0 = .ok (.iload_n 0, 1) := by decide +kernel
theorem d16_1 : decode method_4_code 1 = .ok (.bipush 8, 2) := by decide +kernel
theorem d16_3 : decode method_4_code 3 = .ok (.iushr, 1) := by decide +kernel
theorem d16_4 : decode method_4_code 4 = .ok (.sipush 255, 3) := by decide +kernel
theorem d16_7 : decode method_4_code 7 = .ok (.iand, 1) := by decide +kernel
theorem d16_8 : decode method_4_code 8 = .ok (.i2c, 1) := by decide +kernel
theorem sg16_0_6 : decs method_4_code [(0, .iload_n 0, 1), (1, .bipush 8, 2), (3, .iushr, 1), (4, .sipush 255, 3), (7, .iand, 1), (8, .i2c, 1)] := ⟨d16_0, d16_1, d16_3, d16_4, d16_7, d16_8, trivial⟩
theorem d16_9 : decode method_4_code 9 = .ok (.ireturn, 1) := by decide +kernel
theorem ef_rm16_0 (m : MethodId) (x0 : Int32) : entryFrame m #[(.int x0)] 1 = mkF m 0 #[.val (.int x0)] [] := by first | (simp [entryFrame, mkF, argsToLocals, Value.category]; done) | rfl
theorem own_w79 {Z : State} {a0 : Array Value} (hw : HW a0 Z) : (Cond.code ⟨"com/example/invocant/invocant/CanonicalMatchesPinLaw", "c1", "(I)C"⟩ method_4_code 1 (Option.some Jvm.ClassFile.FieldType.char)).before a0 Z = true := hw _ (List.mem_of_getElem? (i := 79) rfl)
theorem own_w78 {Z : State} {a0 : Array Value} (hw : HW a0 Z) : (Cond.static ⟨"com/example/invocant/invocant/CanonicalMatchesPinLaw", "c1", "(I)C"⟩).before a0 Z = true := hw _ (List.mem_of_getElem? (i := 78) rfl)
theorem d1_63 : decode method_5_code 63 = .ok (.castore, 1) := by decide +kernel
theorem d1_64 : decode method_5_code 64 = .ok (.invokespecial 15, 3) := by decide +kernel
theorem ef_rm14_1 (m : MethodId) (x0 : Addr) (x1 : Int32) (x2 : Addr) (x4 : Int32) : entryFrame m #[(.ref x0), (.int x1), (.ref x2), (.int x1), (.int x4)] 7 = mkF m 0 #[.val (.ref x0), .val (.int x1), .val (.ref x2), .val (.int x1), .val (.int x4), .unset, .unset] [] := by first | (simp [entryFrame, mkF, argsToLocals, Value.category]; done) | rfl
theorem ef_rm13_1 (m : MethodId) (x0 : Addr) (x1 : Int32) (x2 : Int32) : entryFrame m #[(.ref x0), (.int x1), (.int x2)] 6 = mkF m 0 #[.val (.ref x0), .val (.int x1), .val (.int x2), .unset, .unset, .unset] [] := by first | (simp [entryFrame, mkF, argsToLocals, Value.category]; done) | rfl
theorem ef_rm15_1 (m : MethodId) (x0 : Addr) (x1 : Int32) : entryFrame m #[(.ref x0), (.int x1)] 2 = mkF m 0 #[.val (.ref x0), .val (.int x1)] [] := by first | (simp [entryFrame, mkF, argsToLocals, Value.category]; done) | rfl
theorem ef_rm4_2 (m : MethodId) (x0 : Addr) (x1 : Addr) (x2 : Int32) (x3 : Int32) : entryFrame m #[(.ref x0), (.ref x1), (.int x2), (.int x3), .null] 6 = mkF m 0 #[.val (.ref x0), .val (.ref x1), .val (.int x2), .val (.int x3), .val .null, .unset] [] := by first | (simp [entryFrame, mkF, argsToLocals, Value.category]; done) | rfl
theorem ef_rm3_2 (m : MethodId) (x0 : Addr) (x1 : Addr) : entryFrame m #[(.ref x0), (.ref x1)] 2 = mkF m 0 #[.val (.ref x0), .val (.ref x1)] [] := by first | (simp [entryFrame, mkF, argsToLocals, Value.category]; done) | rfl
theorem d1_67 : decode method_5_code 67 = .ok (.areturn, 1) := by decide +kernel
def cs_rm1_0 (i0 : Int32) : List Int32 := (if ((((i0.toUInt32 >>> ((16 : Int32) &&& 31).toUInt32).toInt32) &&& (32767 : Int32)) % (3 : Int32)) = (0 : Int32) then [] else (if ((((i0.toUInt32 >>> ((16 : Int32) &&& 31).toUInt32).toInt32) &&& (32767 : Int32)) % (3 : Int32)) = (1 : Int32) then [((i0 &&& (255 : Int32)).toInt8.toInt32)] else [((i0 &&& (255 : Int32)).toInt8.toInt32), ((((i0.toUInt32 >>> ((8 : Int32) &&& 31).toUInt32).toInt32) &&& (255 : Int32)).toInt8.toInt32)]))
theorem cs_rm1_0_short (i0 : Int32) : (cs_rm1_0 i0).length ≤ 2 := by unfold cs_rm1_0; (repeat' split) <;> simp
theorem ef_rm1_0 (m : MethodId) (x0 : Int32) : entryFrame m #[(.int x0)] 2 = mkF m 0 #[.val (.int x0), .unset] [] := by first | (simp [entryFrame, mkF, argsToLocals, Value.category]; done) | rfl
theorem own_w6 {Z : State} {a0 : Array Value} (hw : HW a0 Z) : (Cond.code ⟨"com/example/invocant/invocant/CanonicalMatchesPinLaw", "mk", "(I)Ljava/lang/String;"⟩ method_5_code 2 (Option.some (Jvm.ClassFile.FieldType.object "java/lang/String"))).before a0 Z = true := hw _ (List.mem_of_getElem? (i := 6) rfl)
theorem own_pd7 : parseMethodDescriptor "(I)Ljava/lang/String;" = some ⟨[.int], some (.object "java/lang/String")⟩ := by decide +kernel
theorem own_w4 {Z : State} {a0 : Array Value} (hw : HW a0 Z) : (Cond.static ⟨"com/example/invocant/invocant/CanonicalMatchesPinLaw", "mk", "(I)Ljava/lang/String;"⟩).before a0 Z = true := hw _ (List.mem_of_getElem? (i := 4) rfl)
theorem sg0_65_1 : decs code [(65, .iload 7, 2)] := ⟨at_65, trivial⟩
theorem sg0_74_1 : decs code [(74, .iload_n 2, 1)] := ⟨at_74, trivial⟩
theorem sg0_70_2 : decs code [(70, .aconst_null, 1), (71, .goto 7, 3)] := ⟨at_70, at_71, trivial⟩
theorem own_w32 {Z : State} {a0 : Array Value} (hw : HW a0 Z) : (Cond.methodLink "com/example/invocant/invocant/CanonicalMatchesPinLaw" 31 ⟨"com/example/invocant/invocant/Canonical", "<init>", "(Ljava/lang/String;Ljava/lang/String;)V"⟩).before a0 Z = true := hw _ (List.mem_of_getElem? (i := 32) rfl)
theorem d6_0 : decode prog_3_method_1_code 0 = .ok (.aload_n 0, 1) := by decide +kernel
theorem own_w35 {Z : State} {a0 : Array Value} (hw : HW a0 Z) : (Cond.methodLink "com/example/invocant/invocant/Canonical" 1 ⟨"java/lang/Record", "<init>", "()V"⟩).before a0 Z = true := hw _ (List.mem_of_getElem? (i := 35) rfl)
theorem sg6_0_1 : decs prog_3_method_1_code [(0, .aload_n 0, 1)] := ⟨d6_0, trivial⟩
theorem d6_1 : decode prog_3_method_1_code 1 = .ok (.invokespecial 1, 3) := by decide +kernel
theorem d7_0 : decode jdk_30_method_1_code 0 = .ok (.aload_n 0, 1) := by decide +kernel
theorem own_w40 {Z : State} {a0 : Array Value} (hw : HW a0 Z) : (Cond.methodLink "java/lang/Record" 1 ⟨"java/lang/Object", "<init>", "()V"⟩).before a0 Z = true := hw _ (List.mem_of_getElem? (i := 40) rfl)
theorem sg7_0_1 : decs jdk_30_method_1_code [(0, .aload_n 0, 1)] := ⟨d7_0, trivial⟩
theorem d7_1 : decode jdk_30_method_1_code 1 = .ok (.invokespecial 1, 3) := by decide +kernel
theorem d7_4 : decode jdk_30_method_1_code 4 = .ok (.return_, 1) := by decide +kernel
theorem ef_rm7_0 (m : MethodId) (x0 : Addr) : entryFrame m #[(.ref x0)] 1 = mkF m 0 #[.val (.ref x0)] [] := by first | (simp [entryFrame, mkF, argsToLocals, Value.category]; done) | rfl
theorem own_pn3 : plainName "java/lang/Record" = true := by first | (simp [plainName, overriddenIn]; done) | decide +kernel
theorem own_w39 {Z : State} {a0 : Array Value} (hw : HW a0 Z) : (Cond.code ⟨"java/lang/Record", "<init>", "()V"⟩ jdk_30_method_1_code 1 (Option.none : Option Jvm.ClassFile.FieldType)).before a0 Z = true := hw _ (List.mem_of_getElem? (i := 39) rfl)
theorem own_w38 {Z : State} {a0 : Array Value} (hw : HW a0 Z) : (Cond.initialized "java/lang/Record").before a0 Z = true := hw _ (List.mem_of_getElem? (i := 38) rfl)
theorem own_pd8 : parseMethodDescriptor "()V" = some ⟨[], none⟩ := by decide +kernel
theorem own_w36 {Z : State} {a0 : Array Value} (hw : HW a0 Z) : (Cond.instanceMethod ⟨"java/lang/Record", "<init>", "()V"⟩).before a0 Z = true := hw _ (List.mem_of_getElem? (i := 36) rfl)
theorem d6_4 : decode prog_3_method_1_code 4 = .ok (.aload_n 0, 1) := by decide +kernel
theorem d6_5 : decode prog_3_method_1_code 5 = .ok (.aload_n 1, 1) := by decide +kernel
theorem sg6_4_2 : decs prog_3_method_1_code [(4, .aload_n 0, 1), (5, .aload_n 1, 1)] := ⟨d6_4, d6_5, trivial⟩
theorem d6_6 : decode prog_3_method_1_code 6 = .ok (.putfield 7, 3) := by decide +kernel
theorem own_w41 {Z : State} {a0 : Array Value} (hw : HW a0 Z) : (Cond.fieldLink "com/example/invocant/invocant/Canonical" 7 "com/example/invocant/invocant/Canonical" "url" "Ljava/lang/String;").before a0 Z = true := hw _ (List.mem_of_getElem? (i := 41) rfl)
theorem d6_9 : decode prog_3_method_1_code 9 = .ok (.aload_n 0, 1) := by decide +kernel
theorem d6_10 : decode prog_3_method_1_code 10 = .ok (.aload_n 2, 1) := by decide +kernel
theorem sg6_9_2 : decs prog_3_method_1_code [(9, .aload_n 0, 1), (10, .aload_n 2, 1)] := ⟨d6_9, d6_10, trivial⟩
theorem d6_11 : decode prog_3_method_1_code 11 = .ok (.putfield 13, 3) := by decide +kernel
theorem own_w43 {Z : State} {a0 : Array Value} (hw : HW a0 Z) : (Cond.fieldLink "com/example/invocant/invocant/Canonical" 13 "com/example/invocant/invocant/Canonical" "version" "Ljava/lang/String;").before a0 Z = true := hw _ (List.mem_of_getElem? (i := 43) rfl)
theorem d6_14 : decode prog_3_method_1_code 14 = .ok (.return_, 1) := by decide +kernel
theorem ef_rm6_0 (m : MethodId) (x0 : Addr) (x1 : Addr) (x2 : Addr) : entryFrame m #[(.ref x0), (.ref x1), (.ref x2)] 3 = mkF m 0 #[.val (.ref x0), .val (.ref x1), .val (.ref x2)] [] := by first | (simp [entryFrame, mkF, argsToLocals, Value.category]; done) | rfl
theorem own_pn4 : plainName "com/example/invocant/invocant/Canonical" = true := by first | (simp [plainName, overriddenIn]; done) | decide +kernel
theorem own_w34 {Z : State} {a0 : Array Value} (hw : HW a0 Z) : (Cond.code ⟨"com/example/invocant/invocant/Canonical", "<init>", "(Ljava/lang/String;Ljava/lang/String;)V"⟩ prog_3_method_1_code 3 (Option.none : Option Jvm.ClassFile.FieldType)).before a0 Z = true := hw _ (List.mem_of_getElem? (i := 34) rfl)
theorem own_pd9 : parseMethodDescriptor "(Ljava/lang/String;Ljava/lang/String;)V" = some ⟨[(.object "java/lang/String"), (.object "java/lang/String")], none⟩ := by decide +kernel
theorem own_w33 {Z : State} {a0 : Array Value} (hw : HW a0 Z) : (Cond.instanceMethod ⟨"com/example/invocant/invocant/Canonical", "<init>", "(Ljava/lang/String;Ljava/lang/String;)V"⟩).before a0 Z = true := hw _ (List.mem_of_getElem? (i := 33) rfl)
theorem sg0_81_1 : decs code [(81, .astore 9, 2)] := ⟨at_81, trivial⟩
theorem sg0_86_2 : decs code [(86, .dup, 1), (87, .iload 5, 2)] := ⟨at_86, at_87, trivial⟩
theorem sg0_92_1 : decs code [(92, .iload 8, 2)] := ⟨at_92, trivial⟩
theorem sg0_101_1 : decs code [(101, .iload 6, 2)] := ⟨at_101, trivial⟩
theorem sg0_97_2 : decs code [(97, .aconst_null, 1), (98, .goto 8, 3)] := ⟨at_97, at_98, trivial⟩
theorem own_w45 {Z : State} {a0 : Array Value} (hw : HW a0 Z) : (Cond.methodLink "com/example/invocant/invocant/CanonicalMatchesPinLaw" 34 ⟨"com/example/invocant/invocant/CanonicalMatchesPinLaw", "same", "(II)Z"⟩).before a0 Z = true := hw _ (List.mem_of_getElem? (i := 45) rfl)
theorem sg0_109_3 : decs code [(109, .astore 10, 2), (111, .iload_n 0, 1), (112, .iload 5, 2)] := ⟨at_109, at_111, at_112, trivial⟩
theorem d8_0 : decode method_6_code 0 = .ok (.iload_n 0, 1) := by decide +kernel
theorem sg8_0_1 : decs method_6_code [(0, .iload_n 0, 1)] := ⟨d8_0, trivial⟩
theorem d8_1 : decode method_6_code 1 = .ok (.invokestatic 7, 3) := by decide +kernel
theorem d8_4 : decode method_6_code 4 = .ok (.istore_n 2, 1) := by decide +kernel
theorem d8_5 : decode method_6_code 5 = .ok (.iload_n 2, 1) := by decide +kernel
theorem d8_6 : decode method_6_code 6 = .ok (.iload_n 1, 1) := by decide +kernel
theorem sg8_4_3 : decs method_6_code [(4, .istore_n 2, 1), (5, .iload_n 2, 1), (6, .iload_n 1, 1)] := ⟨d8_4, d8_5, d8_6, trivial⟩
theorem d8_7 : decode method_6_code 7 = .ok (.invokestatic 7, 3) := by decide +kernel
theorem d8_10 : decode method_6_code 10 = .ok (.if_icmp .eq 5, 3) := by decide +kernel
theorem d8_15 : decode method_6_code 15 = .ok (.iload_n 2, 1) := by decide +kernel
theorem d8_16 : decode method_6_code 16 = .ok (.iconst 1, 1) := by decide +kernel
theorem sg8_15_2 : decs method_6_code [(15, .iload_n 2, 1), (16, .iconst 1, 1)] := ⟨d8_15, d8_16, trivial⟩
theorem d8_17 : decode method_6_code 17 = .ok (.if_icmp .lt 16, 3) := by decide +kernel
theorem d8_33 : decode method_6_code 33 = .ok (.iload_n 2, 1) := by decide +kernel
theorem d8_34 : decode method_6_code 34 = .ok (.iconst 2, 1) := by decide +kernel
theorem sg8_33_2 : decs method_6_code [(33, .iload_n 2, 1), (34, .iconst 2, 1)] := ⟨d8_33, d8_34, trivial⟩
theorem d8_35 : decode method_6_code 35 = .ok (.if_icmp .lt 16, 3) := by decide +kernel
theorem d8_51 : decode method_6_code 51 = .ok (.iconst 1, 1) := by decide +kernel
theorem sg8_51_1 : decs method_6_code [(51, .iconst 1, 1)] := ⟨d8_51, trivial⟩
theorem d8_52 : decode method_6_code 52 = .ok (.ireturn, 1) := by decide +kernel
theorem d8_20 : decode method_6_code 20 = .ok (.iload_n 0, 1) := by decide +kernel
theorem sg8_20_1 : decs method_6_code [(20, .iload_n 0, 1)] := ⟨d8_20, trivial⟩
theorem d8_21 : decode method_6_code 21 = .ok (.invokestatic 18, 3) := by decide +kernel
theorem d8_24 : decode method_6_code 24 = .ok (.iload_n 1, 1) := by decide +kernel
theorem sg8_24_1 : decs method_6_code [(24, .iload_n 1, 1)] := ⟨d8_24, trivial⟩
theorem d8_25 : decode method_6_code 25 = .ok (.invokestatic 18, 3) := by decide +kernel
theorem d8_28 : decode method_6_code 28 = .ok (.if_icmp .eq 5, 3) := by decide +kernel
theorem d8_38 : decode method_6_code 38 = .ok (.iload_n 0, 1) := by decide +kernel
theorem sg8_38_1 : decs method_6_code [(38, .iload_n 0, 1)] := ⟨d8_38, trivial⟩
theorem d8_39 : decode method_6_code 39 = .ok (.invokestatic 22, 3) := by decide +kernel
theorem d8_42 : decode method_6_code 42 = .ok (.iload_n 1, 1) := by decide +kernel
theorem sg8_42_1 : decs method_6_code [(42, .iload_n 1, 1)] := ⟨d8_42, trivial⟩
theorem d8_43 : decode method_6_code 43 = .ok (.invokestatic 22, 3) := by decide +kernel
theorem d8_46 : decode method_6_code 46 = .ok (.if_icmp .eq 5, 3) := by decide +kernel
theorem d8_49 : decode method_6_code 49 = .ok (.iconst 0, 1) := by decide +kernel
theorem sg8_49_1 : decs method_6_code [(49, .iconst 0, 1)] := ⟨d8_49, trivial⟩
theorem d8_50 : decode method_6_code 50 = .ok (.ireturn, 1) := by decide +kernel
theorem d8_31 : decode method_6_code 31 = .ok (.iconst 0, 1) := by decide +kernel
theorem sg8_31_1 : decs method_6_code [(31, .iconst 0, 1)] := ⟨d8_31, trivial⟩
theorem d8_32 : decode method_6_code 32 = .ok (.ireturn, 1) := by decide +kernel
theorem d8_13 : decode method_6_code 13 = .ok (.iconst 0, 1) := by decide +kernel
theorem sg8_13_1 : decs method_6_code [(13, .iconst 0, 1)] := ⟨d8_13, trivial⟩
theorem d8_14 : decode method_6_code 14 = .ok (.ireturn, 1) := by decide +kernel
def f_rm8_0 (i0 i1 : Int32) : Int32 := (if ((((i0.toUInt32 >>> ((16 : Int32) &&& 31).toUInt32).toInt32) &&& (32767 : Int32)) % (3 : Int32)) = ((((i1.toUInt32 >>> ((16 : Int32) &&& 31).toUInt32).toInt32) &&& (32767 : Int32)) % (3 : Int32)) then (if ((((i0.toUInt32 >>> ((16 : Int32) &&& 31).toUInt32).toInt32) &&& (32767 : Int32)) % (3 : Int32)) < (1 : Int32) then (1 : Int32) else (if (i0 &&& (255 : Int32)) = (i1 &&& (255 : Int32)) then (if ((((i0.toUInt32 >>> ((16 : Int32) &&& 31).toUInt32).toInt32) &&& (32767 : Int32)) % (3 : Int32)) < (2 : Int32) then (1 : Int32) else (if (((i0.toUInt32 >>> ((8 : Int32) &&& 31).toUInt32).toInt32) &&& (255 : Int32)) = (((i1.toUInt32 >>> ((8 : Int32) &&& 31).toUInt32).toInt32) &&& (255 : Int32)) then (1 : Int32) else (0 : Int32))) else (0 : Int32))) else (0 : Int32))
theorem ef_rm8_0 (m : MethodId) (x0 : Int32) (x1 : Int32) : entryFrame m #[(.int x0), (.int x1)] 3 = mkF m 0 #[.val (.int x0), .val (.int x1), .unset] [] := by first | (simp [entryFrame, mkF, argsToLocals, Value.category]; done) | rfl
theorem own_w47 {Z : State} {a0 : Array Value} (hw : HW a0 Z) : (Cond.code ⟨"com/example/invocant/invocant/CanonicalMatchesPinLaw", "same", "(II)Z"⟩ method_6_code 3 (Option.some Jvm.ClassFile.FieldType.boolean)).before a0 Z = true := hw _ (List.mem_of_getElem? (i := 47) rfl)
theorem own_pd10 : parseMethodDescriptor "(II)Z" = some ⟨[.int, .int], some .boolean⟩ := by decide +kernel
theorem own_w46 {Z : State} {a0 : Array Value} (hw : HW a0 Z) : (Cond.static ⟨"com/example/invocant/invocant/CanonicalMatchesPinLaw", "same", "(II)Z"⟩).before a0 Z = true := hw _ (List.mem_of_getElem? (i := 46) rfl)
theorem sg0_143_1 : decs code [(143, .iconst 0, 1)] := ⟨at_143, trivial⟩
theorem sg0_120_1 : decs code [(120, .iload 7, 2)] := ⟨at_120, trivial⟩
theorem sg0_125_1 : decs code [(125, .iload 8, 2)] := ⟨at_125, trivial⟩
theorem sg0_130_2 : decs code [(130, .iload_n 2, 1), (131, .iload 6, 2)] := ⟨at_130, at_131, trivial⟩
theorem sg0_139_2 : decs code [(139, .iconst 1, 1), (140, .goto 4, 3)] := ⟨at_139, at_140, trivial⟩
theorem own_w48 {Z : State} {a0 : Array Value} (hw : HW a0 Z) : (Cond.methodLink "com/example/invocant/invocant/CanonicalMatchesPinLaw" 38 ⟨"com/example/invocant/invocant/Canonical", "matches", "(Lcom/example/invocant/invocant/Canonical;)Z"⟩).before a0 Z = true := hw _ (List.mem_of_getElem? (i := 48) rfl)
theorem sg0_144_3 : decs code [(144, .istore 11, 2), (146, .aload 9, 2), (148, .aload 10, 2)] := ⟨at_144, at_146, at_148, trivial⟩
theorem d9_0 : decode prog_3_method_3_code 0 = .ok (.aload_n 0, 1) := by decide +kernel
theorem sg9_0_1 : decs prog_3_method_3_code [(0, .aload_n 0, 1)] := ⟨d9_0, trivial⟩
theorem d9_1 : decode prog_3_method_3_code 1 = .ok (.getfield 7, 3) := by decide +kernel
theorem d9_4 : decode prog_3_method_3_code 4 = .ok (.aload_n 1, 1) := by decide +kernel
theorem sg9_4_1 : decs prog_3_method_3_code [(4, .aload_n 1, 1)] := ⟨d9_4, trivial⟩
theorem d9_5 : decode prog_3_method_3_code 5 = .ok (.getfield 7, 3) := by decide +kernel
theorem own_w53 {Z : State} {a0 : Array Value} (hw : HW a0 Z) : (Cond.methodLink "com/example/invocant/invocant/Canonical" 32 ⟨"java/lang/String", "equals", "(Ljava/lang/Object;)Z"⟩).before a0 Z = true := hw _ (List.mem_of_getElem? (i := 53) rfl)
theorem d9_8 : decode prog_3_method_3_code 8 = .ok (.invokevirtual 32, 3) := by decide +kernel
theorem d10_0 : decode jdk_42_method_66_code 0 = .ok (.aload_n 0, 1) := by decide +kernel
theorem d10_1 : decode jdk_42_method_66_code 1 = .ok (.aload_n 1, 1) := by decide +kernel
theorem sg10_0_2 : decs jdk_42_method_66_code [(0, .aload_n 0, 1), (1, .aload_n 1, 1)] := ⟨d10_0, d10_1, trivial⟩
theorem d10_2 : decode jdk_42_method_66_code 2 = .ok (.if_acmp .ne 5, 3) := by decide +kernel
theorem d10_7 : decode jdk_42_method_66_code 7 = .ok (.aload_n 1, 1) := by decide +kernel
theorem sg10_7_1 : decs jdk_42_method_66_code [(7, .aload_n 1, 1)] := ⟨d10_7, trivial⟩
theorem d10_8 : decode jdk_42_method_66_code 8 = .ok (.instanceof 10, 3) := by decide +kernel
theorem own_w58 {Z : State} {a0 : Array Value} (hw : HW a0 Z) : (Cond.classLink "java/lang/String" 10 "java/lang/String").before a0 Z = true := hw _ (List.mem_of_getElem? (i := 58) rfl)
theorem d10_11 : decode jdk_42_method_66_code 11 = .ok (.ifCond .eq 43, 3) := by decide +kernel
theorem d10_14 : decode jdk_42_method_66_code 14 = .ok (.aload_n 1, 1) := by decide +kernel
theorem sg10_14_1 : decs jdk_42_method_66_code [(14, .aload_n 1, 1)] := ⟨d10_14, trivial⟩
theorem d10_15 : decode jdk_42_method_66_code 15 = .ok (.checkcast 10, 3) := by decide +kernel
theorem d10_18 : decode jdk_42_method_66_code 18 = .ok (.astore_n 2, 1) := by decide +kernel
theorem sg10_18_1 : decs jdk_42_method_66_code [(18, .astore_n 2, 1)] := ⟨d10_18, trivial⟩
theorem d10_19 : decode jdk_42_method_66_code 19 = .ok (.getstatic 38, 3) := by decide +kernel
theorem d10_22 : decode jdk_42_method_66_code 22 = .ok (.ifCond .eq 14, 3) := by decide +kernel
theorem d10_25 : decode jdk_42_method_66_code 25 = .ok (.aload_n 0, 1) := by decide +kernel
theorem sg10_25_1 : decs jdk_42_method_66_code [(25, .aload_n 0, 1)] := ⟨d10_25, trivial⟩
theorem d10_26 : decode jdk_42_method_66_code 26 = .ok (.getfield 15, 3) := by decide +kernel
theorem d10_29 : decode jdk_42_method_66_code 29 = .ok (.aload_n 2, 1) := by decide +kernel
theorem sg10_29_1 : decs jdk_42_method_66_code [(29, .aload_n 2, 1)] := ⟨d10_29, trivial⟩
theorem d10_30 : decode jdk_42_method_66_code 30 = .ok (.getfield 15, 3) := by decide +kernel
theorem d10_33 : decode jdk_42_method_66_code 33 = .ok (.if_icmp .ne 21, 3) := by decide +kernel
theorem d10_36 : decode jdk_42_method_66_code 36 = .ok (.aload_n 0, 1) := by decide +kernel
theorem sg10_36_1 : decs jdk_42_method_66_code [(36, .aload_n 0, 1)] := ⟨d10_36, trivial⟩
theorem d10_37 : decode jdk_42_method_66_code 37 = .ok (.getfield 9, 3) := by decide +kernel
theorem d10_40 : decode jdk_42_method_66_code 40 = .ok (.aload_n 2, 1) := by decide +kernel
theorem sg10_40_1 : decs jdk_42_method_66_code [(40, .aload_n 2, 1)] := ⟨d10_40, trivial⟩
theorem d10_41 : decode jdk_42_method_66_code 41 = .ok (.getfield 9, 3) := by decide +kernel
theorem own_w60 {Z : State} {a0 : Array Value} (hw : HW a0 Z) : (Cond.methodLink "java/lang/String" 541 ⟨"java/lang/StringLatin1", "equals", "([B[B)Z"⟩).before a0 Z = true := hw _ (List.mem_of_getElem? (i := 60) rfl)
theorem d10_44 : decode jdk_42_method_66_code 44 = .ok (.invokestatic 541, 3) := by decide +kernel
theorem d11_0 : decode jdk_43_method_13_code 0 = .ok (.aload_n 0, 1) := by decide +kernel
theorem sg11_0_1 : decs jdk_43_method_13_code [(0, .aload_n 0, 1)] := ⟨d11_0, trivial⟩
theorem d11_1 : decode jdk_43_method_13_code 1 = .ok (.arraylength, 1) := by decide +kernel
theorem d11_2 : decode jdk_43_method_13_code 2 = .ok (.aload_n 1, 1) := by decide +kernel
theorem sg11_2_1 : decs jdk_43_method_13_code [(2, .aload_n 1, 1)] := ⟨d11_2, trivial⟩
theorem d11_3 : decode jdk_43_method_13_code 3 = .ok (.arraylength, 1) := by decide +kernel
theorem d11_4 : decode jdk_43_method_13_code 4 = .ok (.if_icmp .ne 30, 3) := by decide +kernel
theorem d11_7 : decode jdk_43_method_13_code 7 = .ok (.iconst 0, 1) := by decide +kernel
theorem d11_8 : decode jdk_43_method_13_code 8 = .ok (.istore_n 2, 1) := by decide +kernel
theorem d11_9 : decode jdk_43_method_13_code 9 = .ok (.iload_n 2, 1) := by decide +kernel
theorem d11_10 : decode jdk_43_method_13_code 10 = .ok (.aload_n 0, 1) := by decide +kernel
theorem sg11_7_4 : decs jdk_43_method_13_code [(7, .iconst 0, 1), (8, .istore_n 2, 1), (9, .iload_n 2, 1), (10, .aload_n 0, 1)] := ⟨d11_7, d11_8, d11_9, d11_10, trivial⟩
theorem d11_11 : decode jdk_43_method_13_code 11 = .ok (.arraylength, 1) := by decide +kernel
theorem d11_12 : decode jdk_43_method_13_code 12 = .ok (.if_icmp .ge 20, 3) := by decide +kernel
theorem d11_32 : decode jdk_43_method_13_code 32 = .ok (.iconst 1, 1) := by decide +kernel
theorem sg11_32_1 : decs jdk_43_method_13_code [(32, .iconst 1, 1)] := ⟨d11_32, trivial⟩
theorem d11_33 : decode jdk_43_method_13_code 33 = .ok (.ireturn, 1) := by decide +kernel
theorem ef_rm11_0 (m : MethodId) (x0 : Addr) (x1 : Addr) : entryFrame m #[(.ref x0), (.ref x1)] 3 = mkF m 0 #[.val (.ref x0), .val (.ref x1), .unset] [] := by first | (simp [entryFrame, mkF, argsToLocals, Value.category]; done) | rfl
theorem own_pn5 : plainName "java/lang/StringLatin1" = true := by first | (simp [plainName, overriddenIn]; done) | decide +kernel
theorem own_w63 {Z : State} {a0 : Array Value} (hw : HW a0 Z) : (Cond.code ⟨"java/lang/StringLatin1", "equals", "([B[B)Z"⟩ jdk_43_method_13_code 3 (Option.some Jvm.ClassFile.FieldType.boolean)).before a0 Z = true := hw _ (List.mem_of_getElem? (i := 63) rfl)
theorem own_w62 {Z : State} {a0 : Array Value} (hw : HW a0 Z) : (Cond.initialized "java/lang/StringLatin1").before a0 Z = true := hw _ (List.mem_of_getElem? (i := 62) rfl)
theorem own_pd11 : parseMethodDescriptor "([B[B)Z" = some ⟨[(.array .byte), (.array .byte)], some .boolean⟩ := by decide +kernel
theorem own_w61 {Z : State} {a0 : Array Value} (hw : HW a0 Z) : (Cond.static ⟨"java/lang/StringLatin1", "equals", "([B[B)Z"⟩).before a0 Z = true := hw _ (List.mem_of_getElem? (i := 61) rfl)
theorem d10_47 : decode jdk_42_method_66_code 47 = .ok (.ifCond .eq 7, 3) := by decide +kernel
theorem d10_50 : decode jdk_42_method_66_code 50 = .ok (.iconst 1, 1) := by decide +kernel
theorem d10_51 : decode jdk_42_method_66_code 51 = .ok (.goto 4, 3) := by decide +kernel
theorem sg10_50_2 : decs jdk_42_method_66_code [(50, .iconst 1, 1), (51, .goto 4, 3)] := ⟨d10_50, d10_51, trivial⟩
theorem d10_55 : decode jdk_42_method_66_code 55 = .ok (.ireturn, 1) := by decide +kernel
theorem ef_rm10_0 (m : MethodId) (x0 : Addr) (x1 : Addr) : entryFrame m #[(.ref x0), (.ref x1)] 3 = mkF m 0 #[.val (.ref x0), .val (.ref x1), .unset] [] := by first | (simp [entryFrame, mkF, argsToLocals, Value.category]; done) | rfl
theorem d11_34 : decode jdk_43_method_13_code 34 = .ok (.iconst 0, 1) := by decide +kernel
theorem sg11_34_1 : decs jdk_43_method_13_code [(34, .iconst 0, 1)] := ⟨d11_34, trivial⟩
theorem d11_35 : decode jdk_43_method_13_code 35 = .ok (.ireturn, 1) := by decide +kernel
theorem ef_rm11_1 (m : MethodId) (x0 : Addr) (x1 : Addr) : entryFrame m #[(.ref x0), (.ref x1)] 3 = mkF m 0 #[.val (.ref x0), .val (.ref x1), .unset] [] := by first | (simp [entryFrame, mkF, argsToLocals, Value.category]; done) | rfl
theorem d10_54 : decode jdk_42_method_66_code 54 = .ok (.iconst 0, 1) := by decide +kernel
theorem sg10_54_1 : decs jdk_42_method_66_code [(54, .iconst 0, 1)] := ⟨d10_54, trivial⟩
theorem ef_rm10_1 (m : MethodId) (x0 : Addr) (x1 : Addr) : entryFrame m #[(.ref x0), (.ref x1)] 3 = mkF m 0 #[.val (.ref x0), .val (.ref x1), .unset] [] := by first | (simp [entryFrame, mkF, argsToLocals, Value.category]; done) | rfl
theorem d11_15 : decode jdk_43_method_13_code 15 = .ok (.aload_n 0, 1) := by decide +kernel
theorem d11_16 : decode jdk_43_method_13_code 16 = .ok (.iload_n 2, 1) := by decide +kernel
theorem sg11_15_2 : decs jdk_43_method_13_code [(15, .aload_n 0, 1), (16, .iload_n 2, 1)] := ⟨d11_15, d11_16, trivial⟩
theorem d11_17 : decode jdk_43_method_13_code 17 = .ok (.baload, 1) := by decide +kernel
theorem d11_18 : decode jdk_43_method_13_code 18 = .ok (.aload_n 1, 1) := by decide +kernel
theorem d11_19 : decode jdk_43_method_13_code 19 = .ok (.iload_n 2, 1) := by decide +kernel
theorem sg11_18_2 : decs jdk_43_method_13_code [(18, .aload_n 1, 1), (19, .iload_n 2, 1)] := ⟨d11_18, d11_19, trivial⟩
theorem d11_20 : decode jdk_43_method_13_code 20 = .ok (.baload, 1) := by decide +kernel
theorem d11_21 : decode jdk_43_method_13_code 21 = .ok (.if_icmp .eq 5, 3) := by decide +kernel
theorem d11_26 : decode jdk_43_method_13_code 26 = .ok (.iinc 2 1, 3) := by decide +kernel
theorem d11_29 : decode jdk_43_method_13_code 29 = .ok (.goto (-20), 3) := by decide +kernel
theorem sg11_26_4 : decs jdk_43_method_13_code [(26, .iinc 2 1, 3), (29, .goto (-20), 3), (9, .iload_n 2, 1), (10, .aload_n 0, 1)] := ⟨d11_26, d11_29, d11_9, d11_10, trivial⟩
theorem d11_24 : decode jdk_43_method_13_code 24 = .ok (.iconst 0, 1) := by decide +kernel
theorem sg11_24_1 : decs jdk_43_method_13_code [(24, .iconst 0, 1)] := ⟨d11_24, trivial⟩
theorem d11_25 : decode jdk_43_method_13_code 25 = .ok (.ireturn, 1) := by decide +kernel
def f_rm11_2 (u1 u2 : Int32) : Int32 := (if u1 = u2 then (1 : Int32) else (0 : Int32))
theorem ef_rm11_2 (m : MethodId) (x0 : Addr) (x1 : Addr) : entryFrame m #[(.ref x0), (.ref x1)] 3 = mkF m 0 #[.val (.ref x0), .val (.ref x1), .unset] [] := by first | (simp [entryFrame, mkF, argsToLocals, Value.category]; done) | rfl
def f_rm10_2 (u1 u2 : Int32) : Int32 := (if (f_rm11_2 u1 u2) = (0 : Int32) then (0 : Int32) else (1 : Int32))
theorem ef_rm10_2 (m : MethodId) (x0 : Addr) (x1 : Addr) : entryFrame m #[(.ref x0), (.ref x1)] 3 = mkF m 0 #[.val (.ref x0), .val (.ref x1), .unset] [] := by first | (simp [entryFrame, mkF, argsToLocals, Value.category]; done) | rfl
def f_rm11_3 (u1 u2 u3 u4 : Int32) : Int32 := (if u1 = u3 then (if u2 = u4 then (1 : Int32) else (0 : Int32)) else (0 : Int32))
theorem ef_rm11_3 (m : MethodId) (x0 : Addr) (x1 : Addr) : entryFrame m #[(.ref x0), (.ref x1)] 3 = mkF m 0 #[.val (.ref x0), .val (.ref x1), .unset] [] := by first | (simp [entryFrame, mkF, argsToLocals, Value.category]; done) | rfl
def f_rm10_3 (u1 u2 u3 u4 : Int32) : Int32 := (if (f_rm11_3 u1 u2 u3 u4) = (0 : Int32) then (0 : Int32) else (1 : Int32))
theorem ef_rm10_3 (m : MethodId) (x0 : Addr) (x1 : Addr) : entryFrame m #[(.ref x0), (.ref x1)] 3 = mkF m 0 #[.val (.ref x0), .val (.ref x1), .unset] [] := by first | (simp [entryFrame, mkF, argsToLocals, Value.category]; done) | rfl
theorem own_w57 {Z : State} {a0 : Array Value} (hw : HW a0 Z) : (Cond.code ⟨"java/lang/String", "equals", "(Ljava/lang/Object;)Z"⟩ jdk_42_method_66_code 3 (Option.some Jvm.ClassFile.FieldType.boolean)).before a0 Z = true := hw _ (List.mem_of_getElem? (i := 57) rfl)
theorem own_pd12 : parseMethodDescriptor "(Ljava/lang/Object;)Z" = some ⟨[(.object "java/lang/Object")], some .boolean⟩ := by decide +kernel
theorem own_w56 {Z : State} {a0 : Array Value} (hw : HW a0 Z) : (Cond.selects "java/lang/String" ⟨"java/lang/String", "equals", "(Ljava/lang/Object;)Z"⟩ ⟨"java/lang/String", "equals", "(Ljava/lang/Object;)Z"⟩).before a0 Z = true := hw _ (List.mem_of_getElem? (i := 56) rfl)
theorem own_w54 {Z : State} {a0 : Array Value} (hw : HW a0 Z) : (Cond.declares ⟨"java/lang/String", "equals", "(Ljava/lang/Object;)Z"⟩).before a0 Z = true := hw _ (List.mem_of_getElem? (i := 54) rfl)
theorem own_w55 {Z : State} {a0 : Array Value} (hw : HW a0 Z) : (Cond.instanceMethod ⟨"java/lang/String", "equals", "(Ljava/lang/Object;)Z"⟩).before a0 Z = true := hw _ (List.mem_of_getElem? (i := 55) rfl)
theorem d9_11 : decode prog_3_method_3_code 11 = .ok (.ifCond .eq 35, 3) := by decide +kernel
theorem d9_46 : decode prog_3_method_3_code 46 = .ok (.iconst 0, 1) := by decide +kernel
theorem sg9_46_1 : decs prog_3_method_3_code [(46, .iconst 0, 1)] := ⟨d9_46, trivial⟩
theorem d9_14 : decode prog_3_method_3_code 14 = .ok (.aload_n 0, 1) := by decide +kernel
theorem sg9_14_1 : decs prog_3_method_3_code [(14, .aload_n 0, 1)] := ⟨d9_14, trivial⟩
theorem d9_15 : decode prog_3_method_3_code 15 = .ok (.getfield 13, 3) := by decide +kernel
theorem d9_18 : decode prog_3_method_3_code 18 = .ok (.ifnull 24, 3) := by decide +kernel
theorem d9_21 : decode prog_3_method_3_code 21 = .ok (.aload_n 1, 1) := by decide +kernel
theorem sg9_21_1 : decs prog_3_method_3_code [(21, .aload_n 1, 1)] := ⟨d9_21, trivial⟩
theorem d9_22 : decode prog_3_method_3_code 22 = .ok (.getfield 13, 3) := by decide +kernel
theorem d9_25 : decode prog_3_method_3_code 25 = .ok (.ifnull 17, 3) := by decide +kernel
theorem d9_28 : decode prog_3_method_3_code 28 = .ok (.aload_n 0, 1) := by decide +kernel
theorem sg9_28_1 : decs prog_3_method_3_code [(28, .aload_n 0, 1)] := ⟨d9_28, trivial⟩
theorem d9_29 : decode prog_3_method_3_code 29 = .ok (.getfield 13, 3) := by decide +kernel
theorem d9_32 : decode prog_3_method_3_code 32 = .ok (.aload_n 1, 1) := by decide +kernel
theorem sg9_32_1 : decs prog_3_method_3_code [(32, .aload_n 1, 1)] := ⟨d9_32, trivial⟩
theorem d9_33 : decode prog_3_method_3_code 33 = .ok (.getfield 13, 3) := by decide +kernel
theorem d9_36 : decode prog_3_method_3_code 36 = .ok (.invokevirtual 32, 3) := by decide +kernel
theorem d9_39 : decode prog_3_method_3_code 39 = .ok (.ifCond .eq 7, 3) := by decide +kernel
theorem d9_42 : decode prog_3_method_3_code 42 = .ok (.iconst 1, 1) := by decide +kernel
theorem d9_43 : decode prog_3_method_3_code 43 = .ok (.goto 4, 3) := by decide +kernel
theorem sg9_42_2 : decs prog_3_method_3_code [(42, .iconst 1, 1), (43, .goto 4, 3)] := ⟨d9_42, d9_43, trivial⟩
theorem d9_47 : decode prog_3_method_3_code 47 = .ok (.ireturn, 1) := by decide +kernel
def f_rm9_0 (l_1 l_3 l_2 l_4 : List Int32) : Int32 := (if (own_eqv l_1 l_3) = (0 : Int32) then (0 : Int32) else (if (own_eqv l_2 l_4) = (0 : Int32) then (0 : Int32) else (1 : Int32)))
theorem ef_rm9_0 (m : MethodId) (x0 : Addr) (x1 : Addr) : entryFrame m #[(.ref x0), (.ref x1)] 2 = mkF m 0 #[.val (.ref x0), .val (.ref x1)] [] := by first | (simp [entryFrame, mkF, argsToLocals, Value.category]; done) | rfl
theorem own_w52 {Z : State} {a0 : Array Value} (hw : HW a0 Z) : (Cond.code ⟨"com/example/invocant/invocant/Canonical", "matches", "(Lcom/example/invocant/invocant/Canonical;)Z"⟩ prog_3_method_3_code 2 (Option.some Jvm.ClassFile.FieldType.boolean)).before a0 Z = true := hw _ (List.mem_of_getElem? (i := 52) rfl)
theorem own_pd13 : parseMethodDescriptor "(Lcom/example/invocant/invocant/Canonical;)Z" = some ⟨[(.object "com/example/invocant/invocant/Canonical")], some .boolean⟩ := by decide +kernel
theorem own_w51 {Z : State} {a0 : Array Value} (hw : HW a0 Z) : (Cond.selects "com/example/invocant/invocant/Canonical" ⟨"com/example/invocant/invocant/Canonical", "matches", "(Lcom/example/invocant/invocant/Canonical;)Z"⟩ ⟨"com/example/invocant/invocant/Canonical", "matches", "(Lcom/example/invocant/invocant/Canonical;)Z"⟩).before a0 Z = true := hw _ (List.mem_of_getElem? (i := 51) rfl)
theorem own_w49 {Z : State} {a0 : Array Value} (hw : HW a0 Z) : (Cond.declares ⟨"com/example/invocant/invocant/Canonical", "matches", "(Lcom/example/invocant/invocant/Canonical;)Z"⟩).before a0 Z = true := hw _ (List.mem_of_getElem? (i := 49) rfl)
theorem own_w50 {Z : State} {a0 : Array Value} (hw : HW a0 Z) : (Cond.instanceMethod ⟨"com/example/invocant/invocant/Canonical", "matches", "(Lcom/example/invocant/invocant/Canonical;)Z"⟩).before a0 Z = true := hw _ (List.mem_of_getElem? (i := 50) rfl)
theorem sg0_153_1 : decs code [(153, .iload 11, 2)] := ⟨at_153, trivial⟩
theorem sg0_158_2 : decs code [(158, .iconst 1, 1), (159, .goto 4, 3)] := ⟨at_158, at_159, trivial⟩
theorem sg0_162_1 : decs code [(162, .iconst 0, 1)] := ⟨at_162, trivial⟩
theorem ef_rm6_1 (m : MethodId) (x0 : Addr) (x1 : Addr) : entryFrame m #[(.ref x0), (.ref x1), .null] 3 = mkF m 0 #[.val (.ref x0), .val (.ref x1), .val .null] [] := by first | (simp [entryFrame, mkF, argsToLocals, Value.category]; done) | rfl
def f_rm9_1 (l_1 l_3 : List Int32) : Int32 := (if (own_eqv l_1 l_3) = (0 : Int32) then (0 : Int32) else (1 : Int32))
theorem ef_rm9_1 (m : MethodId) (x0 : Addr) (x1 : Addr) : entryFrame m #[(.ref x0), (.ref x1)] 2 = mkF m 0 #[.val (.ref x0), .val (.ref x1)] [] := by first | (simp [entryFrame, mkF, argsToLocals, Value.category]; done) | rfl
def f_rm9_2 (l_1 l_2 : List Int32) : Int32 := (if (own_eqv l_1 l_2) = (0 : Int32) then (0 : Int32) else (1 : Int32))
theorem ef_rm9_2 (m : MethodId) (x0 : Addr) (x1 : Addr) : entryFrame m #[(.ref x0), (.ref x1)] 2 = mkF m 0 #[.val (.ref x0), .val (.ref x1)] [] := by first | (simp [entryFrame, mkF, argsToLocals, Value.category]; done) | rfl
theorem ef_rm0 (m : MethodId) (x0 : Int32) (x1 : Int32) (x2 : Int32) (x3 : Int32) (x4 : Int32) : entryFrame m #[(.int x0), (.int x1), (.int x2), (.int x3), (.int x4)] maxLocals = mkF m 0 #[.val (.int x0), .val (.int x1), .val (.int x2), .val (.int x3), .val (.int x4), .unset, .unset, .unset, .unset, .unset, .unset, .unset] [] := by first | (simp [entryFrame, mkF, argsToLocals, Value.category, maxLocals]; done) | rfl
abbrev own_EL : List (String × Nat) := [("java/lang/String", 7)]
theorem own_hEL {Z : State} {a0 : Array Value} (hw : HW a0 Z) : EW Z a0 own_EL := (EW.cons (own_w24 hw) (by decide) EW.nil)
theorem own_wS0 : ∀ a ∈ Bundle.stringAtoms, a ∈ tables_1 := by decide +kernel
theorem own_wS {Z : State} {a0 : Array Value} (hw : HW a0 Z) : ∀ a ∈ Bundle.stringAtoms, a.before a0 Z = true := fun a ha => hw a (own_wS0 a ha)
theorem rm2_0 (l : Launch) (Z : State) (a0 : Array Value) (hw : HW a0 Z) (ws : List Jvm.Cond) (i0 : Int32) (h0 : Heap) (n0 : Nat) (O0 : Old Z n0 h0) :
    Con l Z (⟨"com/example/invocant/invocant/CanonicalMatchesPinLaw", "len", "(I)I"⟩ : MethodName) method_2_code 1 (some .int) ws ({ frames := 0, cells := 0, slots := 0, locals := 0 } : Room) #[(.int i0)] h0 (Pur (some (.int ((((i0.toUInt32 >>> ((16 : Int32) &&& 31).toUInt32).toInt32) &&& (32767 : Int32)) % (3 : Int32)))) h0) := by
 refine own_body (plainFor_of_name own_pn0) (fun m => ef_rm2_0 m i0) ?_
 intro p e s m below meth c s₁ hx hby hlk hml hret hZ hown hnm X0 e0
 have N0 := Fr.nil n0
 refine Home.run X0 hx hby sg2_0_6 (pc' := 9) (L' := #[.val (.int i0)]) (S' := [(.int (3 : Int32)), (.int (((i0.toUInt32 >>> ((16 : Int32) &&& 31).toUInt32).toInt32) &&& (32767 : Int32)))]) rfl ?_
 refine Home.go (fun _ => iremM X0 hx rfl (hb hby d2_9) rfl (by decide)) ?_
 exact Home.retI X0 hx hlk hret (hb hby d2_10) ⟨rfl, rfl, e0⟩ (by decide) (by decide)
theorem rm4_0 (l : Launch) (Z : State) (a0 : Array Value) (hw : HW a0 Z) (ws : List Jvm.Cond) (o0 o1 : Addr) (h0 : Heap) (n0 : Nat) (O0 : Old Z n0 h0) (E_o0 : Exa Z h0 o0 "java/lang/String") (F_value_o0 : Fld Z h0 o0 "java/lang/String" "value" "[B" .null) (g_o0 : n0 ≤ o0) (F_coder_o0 : Fld Z h0 o0 "java/lang/String" "coder" "B" (.int (0 : Int32))) :
    ConW l Z own_EL ([o0] : List Addr) false (⟨"java/lang/String", "<init>", "([CIILjava/lang/Void;)V"⟩ : MethodName) jdk_42_method_149_code 6 none ws ({ frames := 1, cells := 4, slots := 8, locals := 12 } : Room) #[(.ref o0), (.ref o1), (.int (0 : Int32)), (.int (0 : Int32)), .null] h0 (fun v h L => ∃ (b2 : Jvm.Addr), ∃ (k2 : ClassId), v = none ∧ Fr n0 L ∧ Keep h0 h [o0] ∧ Exa Z h o0 "java/lang/String" ∧ Fld Z h o0 "java/lang/String" "value" "[B" (.ref b2) ∧ Fld Z h o0 "java/lang/String" "coder" "B" (.int (0 : Int32)) ∧ Arv Z h b2 k2 .byte (0 : Int32) [] (.int (0 : Int32))) := by
 refine own_bodyW (plainFor_of_name own_pn1) (fun m => ef_rm4_0 m o0 o1 (0 : Int32)) ?_
 intro p e s m below meth c s₁ hx hby hlk hml hret hZ hown hnm X0 e0 Cd0
 have N0 := Fr.nil n0
 refine Home.run X0 hx hby sg4_0_1 (pc' := 1) (L' := #[.val (.ref o0), .val (.ref o1), .val (.int (0 : Int32)), .val (.int (0 : Int32)), .val .null, .unset]) (S' := [(.ref o0)]) rfl ?_
 refine Home.st (initO X0 hx hZ hown (own_w21 hw) (own_w22 hw) (own_w23 hw) e0 rfl (by rw [hml]; rfl) rfl (hb hby d4_1) (by decide) (W := 0) (by exact hW0) (by decide)) fun T1 X1 e1 => ?_
 refine Home.run X1 hx hby sg4_4_1 (pc' := 5) (L' := #[.val (.ref o0), .val (.ref o1), .val (.int (0 : Int32)), .val (.int (0 : Int32)), .val .null, .unset]) (S' := [(.int (0 : Int32))]) rfl ?_
 refine Home.go (fun _ => XS.ifNo X1.here hx rfl (hb hby d4_5) rfl ((if0 _ _).trans (teq (by decide)).2)) ?_
 refine Home.run X1 hx hby sg4_8_1 (pc' := 9) (L' := #[.val (.ref o0), .val (.ref o1), .val (.int (0 : Int32)), .val (.int (0 : Int32)), .val .null, .unset]) (S' := [(.ref o0)]) rfl ?_
 obtain ⟨ad2, b2, k2, T2, h2, X2, e2, E2, hZ, hown, Cd2, Ea2, Fc2, Fv2, V2, la2, lb2, hne2, st2⟩ := own_ldcW X1 hx hZ hown (own_hEL hw) Cd0 (own_w24 hw) (own_wS hw) e1 (List.mem_of_getElem? (i := 0) rfl) (vs := []) (z := (0 : Int32)) ⟨by decide, by rfl⟩ (by decide) (by decide) (g := (mkF m 9 #[.val (.ref o0), .val (.ref o1), .val (.int (0 : Int32)), .val (.int (0 : Int32)), .val .null, .unset] [(.ref o0)])) rfl (hb hby d4_9) (n := 0) (by decide) (by decide) (by decide) (by decide)
 refine Home.go st2 ?_
 have O2 := O0.ext E2
 have K2 : Keep h0 h2 ([o0] : List Addr) := Keep.ext (Keep.refl h0 ([o0] : List Addr)) E2
 show Home T2 (mkF m 11 #[.val (.ref o0), .val (.ref o1), .val (.int (0 : Int32)), .val (.int (0 : Int32)), .val .null, .unset] [(.ref ad2), (.ref o0)])
 refine Home.st (getF X2 hx hZ hown (host := "") (Or.inl (own_w30 hw)) Via.refl e2 Fv2 rfl rfl (hb hby d4_11)) fun T3 X3 e3 => ?_
 have q4 := (F_value_o0.ext E2)
 refine Home.wr (putF X3 hx hZ hown (host := "") (Or.inl (own_w30 hw)) Via.refl e3 q4 (E_o0.keep K2) (Or.inr ⟨(own_w26 hw), rfl, hnm⟩) (own_w11 hw) (ty := (.array .byte)) (by decide) rfl rfl rfl rfl (hb hby d4_14)) fun T5 h5 X5 e5 W5 => ?_
 have Fw5 := q4.same W5
 have O5 := O2.wr W5 g_o0
 have K5 : Keep h0 h5 ([o0] : List Addr) := Keep.wr K2 W5 (Or.inl (List.mem_of_getElem? (i := 0) rfl))
 have Cd5 := Cold.wr Cd2 W5 (Cold.safe Cd2 (List.mem_of_getElem? (i := 0) rfl))
 have N5 := Fr.snoc X5 N0 g_o0
 show Home T5 (mkF m 17 #[.val (.ref o0), .val (.ref o1), .val (.int (0 : Int32)), .val (.int (0 : Int32)), .val .null, .unset] [])
 refine Home.run X5 hx hby sg4_17_1 (pc' := 18) (L' := #[.val (.ref o0), .val (.ref o1), .val (.int (0 : Int32)), .val (.int (0 : Int32)), .val .null, .unset]) (S' := [(.ref o0)]) rfl ?_
 obtain ⟨ad6, b6, k6, T6, h6, X6, e6, E6, hZ, hown, Cd6, Ea6, Fc6, Fv6, V6, la6, lb6, hne6, st6⟩ := own_ldcW X5 hx hZ hown (own_hEL hw) Cd5 (own_w24 hw) (own_wS hw) e5 (List.mem_of_getElem? (i := 0) rfl) (vs := []) (z := (0 : Int32)) ⟨by decide, by rfl⟩ (by decide) (by decide) (g := (mkF m 18 #[.val (.ref o0), .val (.ref o1), .val (.int (0 : Int32)), .val (.int (0 : Int32)), .val .null, .unset] [(.ref o0)])) rfl (hb hby d4_18) (n := 0) (by decide) (by decide) (by decide) (by decide)
 refine Home.go st6 ?_
 have O6 := O5.ext E6
 have K6 : Keep h0 h6 ([o0] : List Addr) := Keep.ext K5 E6
 refine Home.st (getF X6 hx hZ hown (host := "") (Or.inl (own_w31 hw)) Via.refl e6 Fc6 rfl rfl (hb hby d4_20)) fun T7 X7 e7 => ?_
 have q8 := (((F_coder_o0.ext E2).other W5 (Or.inr (slot_ne (Or.inr (own_w27 hw)) (Or.inr (own_w26 hw)) (by decide) (t := .byte) (t' := (.array .byte)) (by decide) (by decide)))).ext E6)
 refine Home.wr (putFN X7 hx hZ hown (own_w31 hw) Via.refl e7 q8 (E_o0.keep K6) (Or.inr ⟨(own_w27 hw), rfl, hnm⟩) (own_w11 hw) (ty := .byte) (v := (.int (0 : Int32))) (v' := (.int (0 : Int32))) (by decide) rfl rfl rfl rfl (hb hby d4_23)) fun T9 h9 X9 e9 W9 => ?_
 have Fw9 := q8.same W9
 have O9 := O6.wr W9 g_o0
 have K9 : Keep h0 h9 ([o0] : List Addr) := Keep.wr K6 W9 (Or.inl (List.mem_of_getElem? (i := 0) rfl))
 have Cd9 := Cold.wr Cd6 W9 (Cold.safe Cd6 (List.mem_of_getElem? (i := 0) rfl))
 have N9 := Fr.snoc X9 N5 g_o0
 show Home T9 (mkF m 26 #[.val (.ref o0), .val (.ref o1), .val (.int (0 : Int32)), .val (.int (0 : Int32)), .val .null, .unset] [])
 have q10 := ((Fw5.ext E6).other W9 (Or.inr (slot_ne (Or.inr (own_w26 hw)) (Or.inr (own_w27 hw)) (by decide) (t := (.array .byte)) (t' := .byte) (by decide) (by decide))))
 have ne11 : b2 ≠ o0 := (Ne.symm (hne2 _ (List.mem_of_getElem? (i := 0) rfl)).2)
 have q12 := (((V2.other W5 ne11).ext E6).other W9 ne11)
 exact HomeW.ret0 X9 hx hlk hZ (own_hEL hw) e9 Cd9 hret (hb hby d4_26) (by rw [show T9.heap = h9 from e9]; exact ⟨b2, k2, rfl, N9, K9, (E_o0.keep K9), q10, Fw9, q12⟩) (by decide) (by decide)
theorem rm3_0 (l : Launch) (Z : State) (a0 : Array Value) (hw : HW a0 Z) (ws : List Jvm.Cond) (o0 o1 : Addr) (k_o1 : ClassId) (h0 : Heap) (n0 : Nat) (O0 : Old Z n0 h0) (V_o1 : Arv Z h0 o1 k_o1 .char (0 : Int32) [] (.int (0 : Int32))) (E_o0 : Exa Z h0 o0 "java/lang/String") (F_value_o0 : Fld Z h0 o0 "java/lang/String" "value" "[B" .null) (F_coder_o0 : Fld Z h0 o0 "java/lang/String" "coder" "B" (.int (0 : Int32))) (g_o0 : n0 ≤ o0) :
    ConW l Z own_EL ([o0] : List Addr) false (⟨"java/lang/String", "<init>", "([C)V"⟩ : MethodName) jdk_42_method_3_code 2 none ws ({ frames := 2, cells := 4, slots := 8, locals := 29 } : Room) #[(.ref o0), (.ref o1)] h0 (fun v h L => ∃ (b2_2 : Jvm.Addr), ∃ (k2_2 : ClassId), v = none ∧ Fr n0 L ∧ Keep h0 h [o0] ∧ Exa Z h o0 "java/lang/String" ∧ Fld Z h o0 "java/lang/String" "value" "[B" (.ref b2_2) ∧ Fld Z h o0 "java/lang/String" "coder" "B" (.int (0 : Int32)) ∧ Arv Z h b2_2 k2_2 .byte (0 : Int32) [] (.int (0 : Int32))) := by
 refine own_bodyW (plainFor_of_name own_pn1) (fun m => ef_rm3_0 m o0 o1) ?_
 intro p e s m below meth c s₁ hx hby hlk hml hret hZ hown hnm X0 e0 Cd0
 have N0 := Fr.nil n0
 refine Home.run X0 hx hby sg3_0_4 (pc' := 4) (L' := #[.val (.ref o0), .val (.ref o1)]) (S' := [(.ref o1), (.int (0 : Int32)), (.ref o1), (.ref o0)]) rfl ?_
 obtain ⟨cl1, Ar1, q1, S1, M1, H1, G1⟩ := id V_o1
 refine Home.go (own_alen X0 hx hZ e0 Ar1 S1 M1 rfl rfl (hb hby d3_4)) ?_
 refine Home.run X0 hx hby sg3_5_1 (pc' := 6) (L' := #[.val (.ref o0), .val (.ref o1)]) (S' := [.null, (.int (0 : Int32)), (.int (0 : Int32)), (.ref o1), (.ref o0)]) rfl ?_
 refine Home.call (own_specialW X0 hx hZ hown (own_hEL hw) Cd0 (allS (List.mem_of_getElem? (i := 0) rfl) all0) rfl (own_w17 hw) (own_w18 hw) (own_w12 hw) (own_w20 hw) (by decide) (rm4_0 l Z a0 hw [] o0 o1 h0 n0 O0 E_o0 F_value_o0 g_o0 F_coder_o0) e0 rfl (by rw [hml]; rfl) (a := o0) (argsL := [(.ref o1), (.int (0 : Int32)), (.int (0 : Int32)), .null]) (rest := []) (lenOf own_pd1 rfl) rfl rfl (W := 0) (by exact hW0) (by decide) (by decide) (hb hby d3_6) (by decide) (by decide)) ?_
 rintro _ T2 L2 X2 ⟨⟨b2_2, k2_2, rfl, N2q, K2q, P2_0, P2_1, P2_2, P2_3⟩, hZ, hown, Cd2, sR2⟩
 have O2 := Old.keep O0 K2q (allS g_o0 all0)
 have K2 : Keep h0 T2.heap ([o0] : List Addr) := Keep.trans (Keep.refl h0 ([o0] : List Addr)) K2q (allS (Or.inl (List.mem_of_getElem? (i := 0) rfl)) all0)
 have N2 := Fr.app N0 N2q
 show Home T2 (mkF m 9 #[.val (.ref o0), .val (.ref o1)] [])
 exact HomeW.ret0 X2 hx hlk hZ (own_hEL hw) rfl Cd2 hret (hb hby d3_9) ⟨b2_2, k2_2, rfl, N2, K2, P2_0, P2_1, P2_2, P2_3⟩ (by decide) (by decide)
theorem rm12_0 (l : Launch) (Z : State) (a0 : Array Value) (hw : HW a0 Z) (ws : List Jvm.Cond) (i0 : Int32) (h0 : Heap) (n0 : Nat) (O0 : Old Z n0 h0) :
    Con l Z (⟨"com/example/invocant/invocant/CanonicalMatchesPinLaw", "c0", "(I)C"⟩ : MethodName) method_3_code 1 (some .char) ws ({ frames := 0, cells := 0, slots := 0, locals := 0 } : Room) #[(.int i0)] h0 (Pur (some (.int (i0 &&& (255 : Int32)))) h0) := by
 refine own_body (plainFor_of_name own_pn0) (fun m => ef_rm12_0 m i0) ?_
 intro p e s m below meth c s₁ hx hby hlk hml hret hZ hown hnm X0 e0
 have N0 := Fr.nil n0
 refine Home.run X0 hx hby sg12_0_4 (pc' := 6) (L' := #[.val (.int i0)]) (S' := [(.int ((i0 &&& (255 : Int32)).toUInt32.toUInt16.toUInt32.toInt32))]) rfl ?_
 rw [i2c_id (bnd_and i0 (255 : Int32) (by decide)) (by decide +kernel) (by decide +kernel)]
 exact Home.retN X0 hx hlk (t := .char) hret (by simp) (hb hby d12_6) ⟨congrArg some (congrArg Value.int (by first | rfl | exact nar_i2c _ | exact nar_i2b _ | exact nar_char_id (bnd_and i0 (255 : Int32) (by decide)) (by decide +kernel) (by decide +kernel))), rfl, e0⟩ (by decide) (by decide)
theorem rm14_0 (l : Launch) (Z : State) (a0 : Array Value) (hw : HW a0 Z) (ws : List Jvm.Cond) (o0 o2 : Addr) (k_o0 : ClassId) (u1 : Int32) (k_o2 : ClassId) (h0 : Heap) (n0 : Nat) (O0 : Old Z n0 h0) (V_o0 : Arv Z h0 o0 k_o0 .char (1 : Int32) [(.int u1)] (.int (0 : Int32))) (bnd_u1 : ¬ u1 < (0 : Int32) ∧ ¬ (255 : Int32) < u1) (V_o2 : Arv Z h0 o2 k_o2 .byte (1 : Int32) [(.int (0 : Int32))] (.int (0 : Int32))) (g_o2 : n0 ≤ o2) :
    Con l Z (⟨"java/lang/StringUTF16", "compress", "([CI[BII)I"⟩ : MethodName) jdk_52_method_21_code 7 (some .int) ws ({ frames := 0, cells := 0, slots := 0, locals := 0 } : Room) #[(.ref o0), (.int (0 : Int32)), (.ref o2), (.int (0 : Int32)), (.int (1 : Int32))] h0 (fun v h L => v = some (.int (1 : Int32)) ∧ Fr n0 L ∧ Keep h0 h [o2] ∧ Arv Z h o2 k_o2 .byte (1 : Int32) [(.int (u1.toInt8.toInt32))] (.int (0 : Int32))) := by
 refine own_body (plainFor_of_name own_pn2) (fun m => ef_rm14_0 m o0 (0 : Int32) o2 (1 : Int32)) ?_
 intro p e s m below meth c s₁ hx hby hlk hml hret hZ hown hnm X0 e0
 have N0 := Fr.nil n0
 refine Home.run X0 hx hby sg14_0_4 (pc' := 7) (L' := #[.val (.ref o0), .val (.int (0 : Int32)), .val (.ref o2), .val (.int (0 : Int32)), .val (.int (1 : Int32)), .val (.int (0 : Int32)), .unset]) (S' := [(.int (1 : Int32)), (.int (0 : Int32))]) rfl ?_
 refine Home.go (fun _ => XS.icmpNo X0.here hx rfl (hb hby d14_7) rfl (tlt (by decide)).2.1) ?_
 refine Home.run X0 hx hby sg14_10_2 (pc' := 12) (L' := #[.val (.ref o0), .val (.int (0 : Int32)), .val (.ref o2), .val (.int (0 : Int32)), .val (.int (1 : Int32)), .val (.int (0 : Int32)), .unset]) (S' := [(.int (0 : Int32)), (.ref o0)]) rfl ?_
 obtain ⟨cl1, Ar1, q1, S1, M1, H1, G1⟩ := id V_o0
 have ib1 : ¬ ((0 : Int32) < 0 ∨ cl1.slots.size ≤ ((0 : Int32)).toNatClampNeg) := inb_of S1 ⟨by decide, by decide⟩
 refine Home.go (X0.caload hx (j := (0 : Int32)) (v := (.int u1)) (by rw [e0]; exact Ar1.1) (State.isArrayOf_alike hZ.alike Ar1.2.1) Ar1.2.2 ib1 (Has.at H1 ib1 rfl) rfl rfl (hb hby d14_12)) ?_
 refine Home.run X0 hx hby sg14_13_3 (pc' := 20) (L' := #[.val (.ref o0), .val (.int (0 : Int32)), .val (.ref o2), .val (.int (0 : Int32)), .val (.int (1 : Int32)), .val (.int (0 : Int32)), .val (.int u1)]) (S' := [(.int (255 : Int32)), (.int u1)]) rfl ?_
 refine Home.go (fun _ => XS.icmpYes X0.here hx rfl (pc0 := 20) (pc' := 26) rfl (hb hby d14_20) rfl (flt (bnd_nlt (bnd_lit (255 : Int32)) bnd_u1 (by decide +kernel))).2.2.2 (by decide) (by decide)) ?_
 refine Home.run X0 hx hby sg14_26_4 (pc' := 31) (L' := #[.val (.ref o0), .val (.int (0 : Int32)), .val (.ref o2), .val (.int (0 : Int32)), .val (.int (1 : Int32)), .val (.int (0 : Int32)), .val (.int u1)]) (S' := [(.int (u1.toInt8.toInt32)), (.int (0 : Int32)), (.ref o2)]) rfl ?_
 obtain ⟨cl2, Ar2, q2, S2, M2, H2, G2⟩ := id V_o2
 refine Home.wr (stB X0 hx hZ e0 Ar2 (j := (0 : Int32)) (inb_of S2 ⟨by decide, by decide⟩) rfl rfl (hb hby d14_31)) fun T2 h2 X2 e2 W2 => ?_
 have W2' := Wr.to W2 (congrArg Value.int (nar_byte_id (bnd_i2b u1) (by decide +kernel) (by decide +kernel)))
 have V2 : Arv Z h2 o2 k_o2 .byte (1 : Int32) [(.int (u1.toInt8.toInt32))] (.int (0 : Int32)) := Arv.set Ar2 q2 S2 M2 H2 G2 (fits_byte_b (bnd_i2b u1) (by decide +kernel) (by decide +kernel)) W2' 0 rfl (Nat.le_of_ble_eq_true rfl)
 have O2 := O0.wr W2 g_o2
 have K2 : Keep h0 h2 ([o2] : List Addr) := Keep.wr (Keep.refl h0 ([o2] : List Addr)) W2 (Or.inl (List.mem_of_getElem? (i := 0) rfl))
 have N2 := Fr.snoc X2 N0 g_o2
 show Home T2 (mkF m 32 #[.val (.ref o0), .val (.int (0 : Int32)), .val (.ref o2), .val (.int (0 : Int32)), .val (.int (1 : Int32)), .val (.int (0 : Int32)), .val (.int u1)] [])
 refine Home.run X2 hx hby sg14_32_6 (pc' := 7) (L' := #[.val (.ref o0), .val (.int (1 : Int32)), .val (.ref o2), .val (.int (1 : Int32)), .val (.int (1 : Int32)), .val (.int (1 : Int32)), .val (.int u1)]) (S' := [(.int (1 : Int32)), (.int (1 : Int32))]) rfl ?_
 refine Home.go (fun _ => XS.icmpYes X2.here hx rfl (pc0 := 7) (pc' := 44) rfl (hb hby d14_7) rfl (flt (by decide)).2.1 (by decide) (by decide)) ?_
 refine Home.run X2 hx hby sg14_44_1 (pc' := 46) (L' := #[.val (.ref o0), .val (.int (1 : Int32)), .val (.ref o2), .val (.int (1 : Int32)), .val (.int (1 : Int32)), .val (.int (1 : Int32)), .val (.int u1)]) (S' := [(.int (1 : Int32))]) rfl ?_
 exact Home.retI X2 hx hlk hret (hb hby d14_46) (by rw [show T2.heap = h2 from e2]; exact ⟨rfl, N2, K2, V2⟩) (by decide) (by decide)
theorem rm13_0 (l : Launch) (Z : State) (a0 : Array Value) (hw : HW a0 Z) (ws : List Jvm.Cond) (o0 : Addr) (k_o0 : ClassId) (u1 : Int32) (h0 : Heap) (n0 : Nat) (O0 : Old Z n0 h0) (V_o0 : Arv Z h0 o0 k_o0 .char (1 : Int32) [(.int u1)] (.int (0 : Int32))) (bnd_u1 : ¬ u1 < (0 : Int32) ∧ ¬ (255 : Int32) < u1) :
    Con l Z (⟨"java/lang/StringUTF16", "compress", "([CII)[B"⟩ : MethodName) jdk_52_method_16_code 6 (some (.array .byte)) ws ({ frames := 1, cells := 1, slots := 1, locals := 18 } : Room) #[(.ref o0), (.int (0 : Int32)), (.int (1 : Int32))] h0 (fun v h L => ∃ (b1 : Addr), ∃ (k1 : ClassId), v = some (.ref b1) ∧ Fr n0 L ∧ h0.size ≤ b1 ∧ Keep h0 h [] ∧ Arv Z h b1 k1 .byte (1 : Int32) [(.int (u1.toInt8.toInt32))] (.int (0 : Int32))) := by
 refine own_body (plainFor_of_name own_pn2) (fun m => ef_rm13_0 m o0 (0 : Int32) (1 : Int32)) ?_
 intro p e s m below meth c s₁ hx hby hlk hml hret hZ hown hnm X0 e0
 have N0 := Fr.nil n0
 refine Home.run X0 hx hby sg13_0_1 (pc' := 1) (L' := #[.val (.ref o0), .val (.int (0 : Int32)), .val (.int (1 : Int32)), .unset, .unset, .unset]) (S' := [(.int (1 : Int32))]) rfl ?_
 refine Home.na (own_newP (aty := .byte) X0 hx hZ (own_w25 hw) e0 (g := (mkF m 1 #[.val (.ref o0), .val (.int (0 : Int32)), .val (.int (1 : Int32)), .unset, .unset, .unset] [(.int (1 : Int32))])) rfl (hb hby d13_1) rfl (by decide) (cap := 1) (by decide) (by decide) (by decide) (by decide)) fun T1 h1 k1 b1 g1 X1 e1 E1 A1 => ?_
 have g_b1 : n0 ≤ b1 := Nat.le_trans (Old.le O0) (Nat.le_of_eq g1.symm)
 have V1 : Arv Z h1 b1 k1 .byte (1 : Int32) [(.int (0 : Int32))] (.int (0 : Int32)) := (Arv.new A1 (by decide)).pad (pad_rep [] (.int (0 : Int32)) 1)
 have O1 := O0.ext E1
 have K1 : Keep h0 h1 ([] : List Addr) := Keep.ext (Keep.refl h0 ([] : List Addr)) E1
 refine Home.run X1 hx hby sg13_3_6 (pc' := 9) (L' := #[.val (.ref o0), .val (.int (0 : Int32)), .val (.int (1 : Int32)), .val (.ref b1), .unset, .unset]) (S' := [(.int (1 : Int32)), (.int (0 : Int32)), (.ref b1), (.int (0 : Int32)), (.ref o0)]) rfl ?_
 refine Home.call (own_static X1 hx hZ hown (own_w71 hw) (own_w72 hw) (own_w69 hw) (own_w73 hw) (by decide) (rm14_0 l Z a0 hw [] o0 b1 k_o0 u1 k1 h1 n0 O1 (V_o0.keep K1 nin0) bnd_u1 V1 g_b1) e1 rfl (by rw [hml]; rfl) (argsL := [(.ref o0), (.int (0 : Int32)), (.ref b1), (.int (0 : Int32)), (.int (1 : Int32))]) (rest := []) (lenOf own_pd4 rfl) rfl rfl (W := 0) (by exact hW0) (by decide) (by decide) (hb hby d13_9) (by decide) (by decide)) ?_
 rintro _ T2 L2 X2 ⟨rfl, N2q, K2q, P2_0⟩
 have O2 := Old.keep O1 K2q (allS g_b1 all0)
 have K2 : Keep h0 T2.heap ([] : List Addr) := Keep.trans K1 K2q (allS (Or.inr (Nat.le_trans (Nat.le_refl _) (Nat.le_of_eq g1.symm))) all0)
 have N2 := Fr.app N0 N2q
 show Home T2 (mkF m 12 #[.val (.ref o0), .val (.int (0 : Int32)), .val (.int (1 : Int32)), .val (.ref b1), .unset, .unset] [(.int (1 : Int32))])
 refine Home.run X2 hx hby sg13_12_3 (pc' := 17) (L' := #[.val (.ref o0), .val (.int (0 : Int32)), .val (.int (1 : Int32)), .val (.ref b1), .val (.int (1 : Int32)), .unset]) (S' := [(.int (1 : Int32)), (.int (1 : Int32))]) rfl ?_
 refine Home.go (fun _ => XS.icmpYes X2.here hx rfl (pc0 := 17) (pc' := 57) rfl (hb hby d13_17) rfl (teq (by decide)).1 (by decide) (by decide)) ?_
 refine Home.run X2 hx hby sg13_57_1 (pc' := 58) (L' := #[.val (.ref o0), .val (.int (0 : Int32)), .val (.int (1 : Int32)), .val (.ref b1), .val (.int (1 : Int32)), .unset]) (S' := [(.ref b1)]) rfl ?_
 exact Home.retR X2 hx hlk hret rfl rfl (hb hby d13_58) ⟨b1, k1, rfl, N2, (Nat.le_trans (Nat.le_refl _) (Nat.le_of_eq g1.symm)), K2, P2_0⟩ (by decide) (by decide)
theorem rm15_0 (l : Launch) (Z : State) (a0 : Array Value) (hw : HW a0 Z) (ws : List Jvm.Cond) (o0 : Addr) (k_o0 : ClassId) (u1 : Int32) (h0 : Heap) (n0 : Nat) (O0 : Old Z n0 h0) (V_o0 : Arv Z h0 o0 k_o0 .byte (1 : Int32) [(.int u1)] (.int (0 : Int32))) :
    Con l Z (⟨"java/lang/StringUTF16", "coderFromArrayLen", "([BI)B"⟩ : MethodName) jdk_52_method_15_code 2 (some .byte) ws ({ frames := 0, cells := 0, slots := 0, locals := 0 } : Room) #[(.ref o0), (.int (1 : Int32))] h0 (Pur (some (.int (0 : Int32))) h0) := by
 refine own_body (plainFor_of_name own_pn2) (fun m => ef_rm15_0 m o0 (1 : Int32)) ?_
 intro p e s m below meth c s₁ hx hby hlk hml hret hZ hown hnm X0 e0
 have N0 := Fr.nil n0
 refine Home.run X0 hx hby sg15_0_2 (pc' := 2) (L' := #[.val (.ref o0), .val (.int (1 : Int32))]) (S' := [(.ref o0), (.int (1 : Int32))]) rfl ?_
 obtain ⟨cl1, Ar1, q1, S1, M1, H1, G1⟩ := id V_o0
 refine Home.go (own_alen X0 hx hZ e0 Ar1 S1 M1 rfl rfl (hb hby d15_2)) ?_
 refine Home.run X0 hx hby sg15_3_4 (pc' := 8) (L' := #[.val (.ref o0), .val (.int (1 : Int32))]) (S' := [(.int (0 : Int32))]) rfl ?_
 exact Home.retN X0 hx hlk (t := .byte) hret (by simp) (hb hby d15_8) ⟨congrArg some (congrArg Value.int (by first | rfl | exact nar_i2c _ | exact nar_i2b _)), rfl, e0⟩ (by decide) (by decide)
theorem rm4_1 (l : Launch) (Z : State) (a0 : Array Value) (hw : HW a0 Z) (ws : List Jvm.Cond) (o0 o1 : Addr) (sv_COMPACT_STRINGS : Int32) (k_o1 : ClassId) (u1 : Int32) (h0 : Heap) (n0 : Nat) (O0 : Old Z n0 h0) (S_COMPACT_STRINGS : Sta Z Z.heap "java/lang/String" "COMPACT_STRINGS" "Z" (.int sv_COMPACT_STRINGS)) (hCS : ¬ (sv_COMPACT_STRINGS = (0 : Int32))) (V_o1 : Arv Z h0 o1 k_o1 .char (1 : Int32) [(.int u1)] (.int (0 : Int32))) (bnd_u1 : ¬ u1 < (0 : Int32) ∧ ¬ (255 : Int32) < u1) (E_o0 : Exa Z h0 o0 "java/lang/String") (F_coder_o0 : Fld Z h0 o0 "java/lang/String" "coder" "B" (.int (0 : Int32))) (g_o0 : n0 ≤ o0) (F_value_o0 : Fld Z h0 o0 "java/lang/String" "value" "[B" .null) :
    Con l Z (⟨"java/lang/String", "<init>", "([CIILjava/lang/Void;)V"⟩ : MethodName) jdk_42_method_149_code 6 none ws ({ frames := 2, cells := 1, slots := 1, locals := 35 } : Room) #[(.ref o0), (.ref o1), (.int (0 : Int32)), (.int (1 : Int32)), .null] h0 (fun v h L => ∃ (b1_3 : Addr), ∃ (k1_3 : ClassId), v = none ∧ Fr n0 L ∧ h0.size ≤ b1_3 ∧ Keep h0 h [o0] ∧ Exa Z h o0 "java/lang/String" ∧ Fld Z h o0 "java/lang/String" "coder" "B" (.int (0 : Int32)) ∧ Fld Z h o0 "java/lang/String" "value" "[B" (.ref b1_3) ∧ Arv Z h b1_3 k1_3 .byte (1 : Int32) [(.int (u1.toInt8.toInt32))] (.int (0 : Int32))) := by
 refine own_body (plainFor_of_name own_pn1) (fun m => ef_rm4_1 m o0 o1 (0 : Int32) (1 : Int32)) ?_
 intro p e s m below meth c s₁ hx hby hlk hml hret hZ hown hnm X0 e0
 have N0 := Fr.nil n0
 refine Home.run X0 hx hby sg4_0_1 (pc' := 1) (L' := #[.val (.ref o0), .val (.ref o1), .val (.int (0 : Int32)), .val (.int (1 : Int32)), .val .null, .unset]) (S' := [(.ref o0)]) rfl ?_
 refine Home.st (initO X0 hx hZ hown (own_w21 hw) (own_w22 hw) (own_w23 hw) e0 rfl (by rw [hml]; rfl) rfl (hb hby d4_1) (by decide) (W := 0) (by exact hW0) (by decide)) fun T1 X1 e1 => ?_
 refine Home.run X1 hx hby sg4_4_1 (pc' := 5) (L' := #[.val (.ref o0), .val (.ref o1), .val (.int (0 : Int32)), .val (.int (1 : Int32)), .val .null, .unset]) (S' := [(.int (1 : Int32))]) rfl ?_
 refine Home.go (fun _ => XS.ifYes X1.here hx rfl (pc0 := 5) (pc' := 27) rfl (hb hby d4_5) rfl ((if0 _ _).trans (feq (by decide)).2) (by decide) (by decide)) ?_
 refine Home.st (getS2 X1 hx hZ hown (host := "") (Or.inl (own_w59 hw)) Via.refl e1 (S_COMPACT_STRINGS.ext O0.2) rfl (hb hby d4_27)) fun T2 X2 e2 => ?_
 refine Home.go (fun _ => XS.ifNo X2.here hx rfl (hb hby d4_30) rfl ((if0 _ _).trans (feq hCS).1)) ?_
 refine Home.run X2 hx hby sg4_33_3 (pc' := 36) (L' := #[.val (.ref o0), .val (.ref o1), .val (.int (0 : Int32)), .val (.int (1 : Int32)), .val .null, .unset]) (S' := [(.int (1 : Int32)), (.int (0 : Int32)), (.ref o1)]) rfl ?_
 refine Home.call (own_static X2 hx hZ hown (own_w67 hw) (own_w68 hw) (own_w69 hw) (own_w70 hw) (by decide) (rm13_0 l Z a0 hw [] o1 k_o1 u1 h0 n0 O0 V_o1 bnd_u1) e2 rfl (by rw [hml]; rfl) (argsL := [(.ref o1), (.int (0 : Int32)), (.int (1 : Int32))]) (rest := []) (lenOf own_pd5 rfl) rfl rfl (W := 0) (by exact hW0) (by decide) (by decide) (hb hby d4_36) (by decide) (by decide)) ?_
 rintro _ T3 L3 X3 ⟨b1_3, k1_3, rfl, N3q, sz_b1_3, K3q, P3_0⟩
 have g_b1_3 : n0 ≤ b1_3 := Nat.le_trans (Old.le O0) sz_b1_3
 have O3 := Old.keep O0 K3q all0
 have K3 : Keep h0 T3.heap ([o0] : List Addr) := Keep.trans (Keep.refl h0 ([o0] : List Addr)) K3q all0
 have N3 := Fr.app N0 N3q
 show Home T3 (mkF m 39 #[.val (.ref o0), .val (.ref o1), .val (.int (0 : Int32)), .val (.int (1 : Int32)), .val .null, .unset] [(.ref b1_3)])
 refine Home.run X3 hx hby sg4_39_4 (pc' := 45) (L' := #[.val (.ref o0), .val (.ref o1), .val (.int (0 : Int32)), .val (.int (1 : Int32)), .val .null, .val (.ref b1_3)]) (S' := [(.int (1 : Int32)), (.ref b1_3), (.ref o0)]) rfl ?_
 refine Home.st (own_pure (own_static X3 hx hZ hown (own_w74 hw) (own_w75 hw) (own_w69 hw) (own_w76 hw) (by decide) (rm15_0 l Z a0 hw [] b1_3 k1_3 (u1.toInt8.toInt32) T3.heap n0 O3 P3_0) rfl rfl (by rw [hml]; rfl) (argsL := [(.ref b1_3), (.int (1 : Int32))]) (rest := [(.ref o0)]) (lenOf own_pd6 rfl) rfl rfl (W := 1) (by exact hW0) (by decide) (by decide) (hb hby d4_45) (by decide) (by decide))) fun T4 X4 e4 => ?_
 have q5 := (F_coder_o0.keep K3q nin0)
 refine Home.wr (putFN X4 hx hZ hown (own_w31 hw) Via.refl e4 q5 (E_o0.keep K3) (Or.inr ⟨(own_w27 hw), rfl, hnm⟩) (own_w11 hw) (ty := .byte) (v := (.int (0 : Int32))) (v' := (.int (0 : Int32))) (by decide) rfl rfl rfl rfl (hb hby d4_48)) fun T6 h6 X6 e6 W6 => ?_
 have Fw6 := q5.same W6
 have O6 := O3.wr W6 g_o0
 have K6 : Keep h0 h6 ([o0] : List Addr) := Keep.wr K3 W6 (Or.inl (List.mem_of_getElem? (i := 0) rfl))
 have N6 := Fr.snoc X6 N3 g_o0
 show Home T6 (mkF m 51 #[.val (.ref o0), .val (.ref o1), .val (.int (0 : Int32)), .val (.int (1 : Int32)), .val .null, .val (.ref b1_3)] [])
 refine Home.run X6 hx hby sg4_51_2 (pc' := 54) (L' := #[.val (.ref o0), .val (.ref o1), .val (.int (0 : Int32)), .val (.int (1 : Int32)), .val .null, .val (.ref b1_3)]) (S' := [(.ref b1_3), (.ref o0)]) rfl ?_
 have q7 := ((F_value_o0.keep K3q nin0).other W6 (Or.inr (slot_ne (Or.inr (own_w26 hw)) (Or.inr (own_w27 hw)) (by decide) (t := (.array .byte)) (t' := .byte) (by decide) (by decide))))
 refine Home.wr (putF X6 hx hZ hown (host := "") (Or.inl (own_w30 hw)) Via.refl e6 q7 (E_o0.keep K6) (Or.inr ⟨(own_w26 hw), rfl, hnm⟩) (own_w11 hw) (ty := (.array .byte)) (by decide) rfl rfl rfl rfl (hb hby d4_54)) fun T8 h8 X8 e8 W8 => ?_
 have Fw8 := q7.same W8
 have O8 := O6.wr W8 g_o0
 have K8 : Keep h0 h8 ([o0] : List Addr) := Keep.wr K6 W8 (Or.inl (List.mem_of_getElem? (i := 0) rfl))
 have N8 := Fr.snoc X8 N6 g_o0
 have q9 := (Fw6.other W8 (Or.inr (slot_ne (Or.inr (own_w27 hw)) (Or.inr (own_w26 hw)) (by decide) (t := .byte) (t' := (.array .byte)) (by decide) (by decide))))
 have ne10 : b1_3 ≠ o0 := (Ne.symm (Nat.ne_of_lt (Nat.lt_of_lt_of_le E_o0.lt (Nat.le_trans (Nat.le_refl _) sz_b1_3))))
 have q11 := ((P3_0.other W6 ne10).other W8 ne10)
 exact Home.ret0 X8 hx hlk hret (hb hby d4_57) (by rw [show T8.heap = h8 from e8]; exact ⟨b1_3, k1_3, rfl, N8, (Nat.le_trans (Nat.le_refl _) sz_b1_3), K8, (E_o0.keep K8), q9, Fw8, q11⟩) (by decide) (by decide)
theorem rm3_1 (l : Launch) (Z : State) (a0 : Array Value) (hw : HW a0 Z) (ws : List Jvm.Cond) (o0 o1 : Addr) (k_o1 : ClassId) (u1 sv_COMPACT_STRINGS : Int32) (h0 : Heap) (n0 : Nat) (O0 : Old Z n0 h0) (V_o1 : Arv Z h0 o1 k_o1 .char (1 : Int32) [(.int u1)] (.int (0 : Int32))) (S_COMPACT_STRINGS : Sta Z Z.heap "java/lang/String" "COMPACT_STRINGS" "Z" (.int sv_COMPACT_STRINGS)) (E_o0 : Exa Z h0 o0 "java/lang/String") (F_coder_o0 : Fld Z h0 o0 "java/lang/String" "coder" "B" (.int (0 : Int32))) (F_value_o0 : Fld Z h0 o0 "java/lang/String" "value" "[B" .null) (bnd_u1 : ¬ u1 < (0 : Int32) ∧ ¬ (255 : Int32) < u1) (g_o0 : n0 ≤ o0) (hCS : ¬ (sv_COMPACT_STRINGS = (0 : Int32))) :
    Con l Z (⟨"java/lang/String", "<init>", "([C)V"⟩ : MethodName) jdk_42_method_3_code 2 none ws ({ frames := 3, cells := 1, slots := 1, locals := 52 } : Room) #[(.ref o0), (.ref o1)] h0 (fun v h L => ∃ (b1_3_2 : Addr), ∃ (k1_3_2 : ClassId), v = none ∧ Fr n0 L ∧ h0.size ≤ b1_3_2 ∧ Keep h0 h [o0] ∧ Exa Z h o0 "java/lang/String" ∧ Fld Z h o0 "java/lang/String" "coder" "B" (.int (0 : Int32)) ∧ Fld Z h o0 "java/lang/String" "value" "[B" (.ref b1_3_2) ∧ Arv Z h b1_3_2 k1_3_2 .byte (1 : Int32) [(.int (u1.toInt8.toInt32))] (.int (0 : Int32))) := by
 refine own_body (plainFor_of_name own_pn1) (fun m => ef_rm3_1 m o0 o1) ?_
 intro p e s m below meth c s₁ hx hby hlk hml hret hZ hown hnm X0 e0
 have N0 := Fr.nil n0
 refine Home.run X0 hx hby sg3_0_4 (pc' := 4) (L' := #[.val (.ref o0), .val (.ref o1)]) (S' := [(.ref o1), (.int (0 : Int32)), (.ref o1), (.ref o0)]) rfl ?_
 obtain ⟨cl1, Ar1, q1, S1, M1, H1, G1⟩ := id V_o1
 refine Home.go (own_alen X0 hx hZ e0 Ar1 S1 M1 rfl rfl (hb hby d3_4)) ?_
 refine Home.run X0 hx hby sg3_5_1 (pc' := 6) (L' := #[.val (.ref o0), .val (.ref o1)]) (S' := [.null, (.int (1 : Int32)), (.int (0 : Int32)), (.ref o1), (.ref o0)]) rfl ?_
 refine Home.call (own_special X0 hx hZ hown rfl (own_w17 hw) (own_w18 hw) (own_w12 hw) (own_w20 hw) (by decide) (rm4_1 l Z a0 hw [] o0 o1 sv_COMPACT_STRINGS k_o1 u1 h0 n0 O0 S_COMPACT_STRINGS hCS V_o1 bnd_u1 E_o0 F_coder_o0 g_o0 F_value_o0) e0 rfl (by rw [hml]; rfl) (a := o0) (argsL := [(.ref o1), (.int (0 : Int32)), (.int (1 : Int32)), .null]) (rest := []) (lenOf own_pd1 rfl) rfl rfl (W := 0) (by exact hW0) (by decide) (by decide) (hb hby d3_6) (by decide) (by decide)) ?_
 rintro _ T2 L2 X2 ⟨b1_3_2, k1_3_2, rfl, N2q, sz_b1_3_2, K2q, P2_0, P2_1, P2_2, P2_3⟩
 have g_b1_3_2 : n0 ≤ b1_3_2 := Nat.le_trans (Old.le O0) sz_b1_3_2
 have O2 := Old.keep O0 K2q (allS g_o0 all0)
 have K2 : Keep h0 T2.heap ([o0] : List Addr) := Keep.trans (Keep.refl h0 ([o0] : List Addr)) K2q (allS (Or.inl (List.mem_of_getElem? (i := 0) rfl)) all0)
 have N2 := Fr.app N0 N2q
 show Home T2 (mkF m 9 #[.val (.ref o0), .val (.ref o1)] [])
 exact Home.ret0 X2 hx hlk hret (hb hby d3_9) ⟨b1_3_2, k1_3_2, rfl, N2, (Nat.le_trans (Nat.le_refl _) sz_b1_3_2), K2, P2_0, P2_1, P2_2, P2_3⟩ (by decide) (by decide)
theorem rm16_0 (l : Launch) (Z : State) (a0 : Array Value) (hw : HW a0 Z) (ws : List Jvm.Cond) (i0 : Int32) (h0 : Heap) (n0 : Nat) (O0 : Old Z n0 h0) :
    Con l Z (⟨"com/example/invocant/invocant/CanonicalMatchesPinLaw", "c1", "(I)C"⟩ : MethodName) method_4_code 1 (some .char) ws ({ frames := 0, cells := 0, slots := 0, locals := 0 } : Room) #[(.int i0)] h0 (Pur (some (.int (((i0.toUInt32 >>> ((8 : Int32) &&& 31).toUInt32).toInt32) &&& (255 : Int32)))) h0) := by
 refine own_body (plainFor_of_name own_pn0) (fun m => ef_rm16_0 m i0) ?_
 intro p e s m below meth c s₁ hx hby hlk hml hret hZ hown hnm X0 e0
 have N0 := Fr.nil n0
 refine Home.run X0 hx hby sg16_0_6 (pc' := 9) (L' := #[.val (.int i0)]) (S' := [(.int ((((i0.toUInt32 >>> ((8 : Int32) &&& 31).toUInt32).toInt32) &&& (255 : Int32)).toUInt32.toUInt16.toUInt32.toInt32))]) rfl ?_
 rw [i2c_id (bnd_and ((i0.toUInt32 >>> ((8 : Int32) &&& 31).toUInt32).toInt32) (255 : Int32) (by decide)) (by decide +kernel) (by decide +kernel)]
 exact Home.retN X0 hx hlk (t := .char) hret (by simp) (hb hby d16_9) ⟨congrArg some (congrArg Value.int (by first | rfl | exact nar_i2c _ | exact nar_i2b _ | exact nar_char_id (bnd_and ((i0.toUInt32 >>> ((8 : Int32) &&& 31).toUInt32).toInt32) (255 : Int32) (by decide)) (by decide +kernel) (by decide +kernel))), rfl, e0⟩ (by decide) (by decide)
theorem rm14_1 (l : Launch) (Z : State) (a0 : Array Value) (hw : HW a0 Z) (ws : List Jvm.Cond) (o0 o2 : Addr) (k_o0 : ClassId) (u1 u2 : Int32) (k_o2 : ClassId) (h0 : Heap) (n0 : Nat) (O0 : Old Z n0 h0) (V_o0 : Arv Z h0 o0 k_o0 .char (2 : Int32) [(.int u1), (.int u2)] (.int (0 : Int32))) (bnd_u1 : ¬ u1 < (0 : Int32) ∧ ¬ (255 : Int32) < u1) (V_o2 : Arv Z h0 o2 k_o2 .byte (2 : Int32) [(.int (0 : Int32)), (.int (0 : Int32))] (.int (0 : Int32))) (g_o2 : n0 ≤ o2) (ne_o0_o2 : o0 ≠ o2) (bnd_u2 : ¬ u2 < (0 : Int32) ∧ ¬ (255 : Int32) < u2) :
    Con l Z (⟨"java/lang/StringUTF16", "compress", "([CI[BII)I"⟩ : MethodName) jdk_52_method_21_code 7 (some .int) ws ({ frames := 0, cells := 0, slots := 0, locals := 0 } : Room) #[(.ref o0), (.int (0 : Int32)), (.ref o2), (.int (0 : Int32)), (.int (2 : Int32))] h0 (fun v h L => v = some (.int (2 : Int32)) ∧ Fr n0 L ∧ Keep h0 h [o2] ∧ Arv Z h o2 k_o2 .byte (2 : Int32) [(.int (u1.toInt8.toInt32)), (.int (u2.toInt8.toInt32))] (.int (0 : Int32))) := by
 refine own_body (plainFor_of_name own_pn2) (fun m => ef_rm14_1 m o0 (0 : Int32) o2 (2 : Int32)) ?_
 intro p e s m below meth c s₁ hx hby hlk hml hret hZ hown hnm X0 e0
 have N0 := Fr.nil n0
 refine Home.run X0 hx hby sg14_0_4 (pc' := 7) (L' := #[.val (.ref o0), .val (.int (0 : Int32)), .val (.ref o2), .val (.int (0 : Int32)), .val (.int (2 : Int32)), .val (.int (0 : Int32)), .unset]) (S' := [(.int (2 : Int32)), (.int (0 : Int32))]) rfl ?_
 refine Home.go (fun _ => XS.icmpNo X0.here hx rfl (hb hby d14_7) rfl (tlt (by decide)).2.1) ?_
 refine Home.run X0 hx hby sg14_10_2 (pc' := 12) (L' := #[.val (.ref o0), .val (.int (0 : Int32)), .val (.ref o2), .val (.int (0 : Int32)), .val (.int (2 : Int32)), .val (.int (0 : Int32)), .unset]) (S' := [(.int (0 : Int32)), (.ref o0)]) rfl ?_
 obtain ⟨cl1, Ar1, q1, S1, M1, H1, G1⟩ := id V_o0
 have ib1 : ¬ ((0 : Int32) < 0 ∨ cl1.slots.size ≤ ((0 : Int32)).toNatClampNeg) := inb_of S1 ⟨by decide, by decide⟩
 refine Home.go (X0.caload hx (j := (0 : Int32)) (v := (.int u1)) (by rw [e0]; exact Ar1.1) (State.isArrayOf_alike hZ.alike Ar1.2.1) Ar1.2.2 ib1 (Has.at H1 ib1 rfl) rfl rfl (hb hby d14_12)) ?_
 refine Home.run X0 hx hby sg14_13_3 (pc' := 20) (L' := #[.val (.ref o0), .val (.int (0 : Int32)), .val (.ref o2), .val (.int (0 : Int32)), .val (.int (2 : Int32)), .val (.int (0 : Int32)), .val (.int u1)]) (S' := [(.int (255 : Int32)), (.int u1)]) rfl ?_
 refine Home.go (fun _ => XS.icmpYes X0.here hx rfl (pc0 := 20) (pc' := 26) rfl (hb hby d14_20) rfl (flt (bnd_nlt (bnd_lit (255 : Int32)) bnd_u1 (by decide +kernel))).2.2.2 (by decide) (by decide)) ?_
 refine Home.run X0 hx hby sg14_26_4 (pc' := 31) (L' := #[.val (.ref o0), .val (.int (0 : Int32)), .val (.ref o2), .val (.int (0 : Int32)), .val (.int (2 : Int32)), .val (.int (0 : Int32)), .val (.int u1)]) (S' := [(.int (u1.toInt8.toInt32)), (.int (0 : Int32)), (.ref o2)]) rfl ?_
 obtain ⟨cl2, Ar2, q2, S2, M2, H2, G2⟩ := id V_o2
 refine Home.wr (stB X0 hx hZ e0 Ar2 (j := (0 : Int32)) (inb_of S2 ⟨by decide, by decide⟩) rfl rfl (hb hby d14_31)) fun T2 h2 X2 e2 W2 => ?_
 have W2' := Wr.to W2 (congrArg Value.int (nar_byte_id (bnd_i2b u1) (by decide +kernel) (by decide +kernel)))
 have V2 : Arv Z h2 o2 k_o2 .byte (2 : Int32) [(.int (u1.toInt8.toInt32)), (.int (0 : Int32))] (.int (0 : Int32)) := Arv.set Ar2 q2 S2 M2 H2 G2 (fits_byte_b (bnd_i2b u1) (by decide +kernel) (by decide +kernel)) W2' 0 rfl (Nat.le_of_ble_eq_true rfl)
 have O2 := O0.wr W2 g_o2
 have K2 : Keep h0 h2 ([o2] : List Addr) := Keep.wr (Keep.refl h0 ([o2] : List Addr)) W2 (Or.inl (List.mem_of_getElem? (i := 0) rfl))
 have N2 := Fr.snoc X2 N0 g_o2
 show Home T2 (mkF m 32 #[.val (.ref o0), .val (.int (0 : Int32)), .val (.ref o2), .val (.int (0 : Int32)), .val (.int (2 : Int32)), .val (.int (0 : Int32)), .val (.int u1)] [])
 refine Home.run X2 hx hby sg14_32_6 (pc' := 7) (L' := #[.val (.ref o0), .val (.int (1 : Int32)), .val (.ref o2), .val (.int (1 : Int32)), .val (.int (2 : Int32)), .val (.int (1 : Int32)), .val (.int u1)]) (S' := [(.int (2 : Int32)), (.int (1 : Int32))]) rfl ?_
 refine Home.go (fun _ => XS.icmpNo X2.here hx rfl (hb hby d14_7) rfl (tlt (by decide)).2.1) ?_
 refine Home.run X2 hx hby sg14_10_2 (pc' := 12) (L' := #[.val (.ref o0), .val (.int (1 : Int32)), .val (.ref o2), .val (.int (1 : Int32)), .val (.int (2 : Int32)), .val (.int (1 : Int32)), .val (.int u1)]) (S' := [(.int (1 : Int32)), (.ref o0)]) rfl ?_
 have q3 := (V_o0.other W2 ne_o0_o2)
 obtain ⟨cl4, Ar4, q4, S4, M4, H4, G4⟩ := id q3
 have ib4 : ¬ ((1 : Int32) < 0 ∨ cl4.slots.size ≤ ((1 : Int32)).toNatClampNeg) := inb_of S4 ⟨by decide, by decide⟩
 refine Home.go (X2.caload hx (j := (1 : Int32)) (v := (.int u2)) (by rw [e2]; exact Ar4.1) (State.isArrayOf_alike hZ.alike Ar4.2.1) Ar4.2.2 ib4 (Has.at H4 ib4 rfl) rfl rfl (hb hby d14_12)) ?_
 refine Home.run X2 hx hby sg14_13_3 (pc' := 20) (L' := #[.val (.ref o0), .val (.int (1 : Int32)), .val (.ref o2), .val (.int (1 : Int32)), .val (.int (2 : Int32)), .val (.int (1 : Int32)), .val (.int u2)]) (S' := [(.int (255 : Int32)), (.int u2)]) rfl ?_
 refine Home.go (fun _ => XS.icmpYes X2.here hx rfl (pc0 := 20) (pc' := 26) rfl (hb hby d14_20) rfl (flt (bnd_nlt (bnd_lit (255 : Int32)) bnd_u2 (by decide +kernel))).2.2.2 (by decide) (by decide)) ?_
 refine Home.run X2 hx hby sg14_26_4 (pc' := 31) (L' := #[.val (.ref o0), .val (.int (1 : Int32)), .val (.ref o2), .val (.int (1 : Int32)), .val (.int (2 : Int32)), .val (.int (1 : Int32)), .val (.int u2)]) (S' := [(.int (u2.toInt8.toInt32)), (.int (1 : Int32)), (.ref o2)]) rfl ?_
 obtain ⟨cl5, Ar5, q5, S5, M5, H5, G5⟩ := id V2
 refine Home.wr (stB X2 hx hZ e2 Ar5 (j := (1 : Int32)) (inb_of S5 ⟨by decide, by decide⟩) rfl rfl (hb hby d14_31)) fun T5 h5 X5 e5 W5 => ?_
 have W5' := Wr.to W5 (congrArg Value.int (nar_byte_id (bnd_i2b u2) (by decide +kernel) (by decide +kernel)))
 have V5 : Arv Z h5 o2 k_o2 .byte (2 : Int32) [(.int (u1.toInt8.toInt32)), (.int (u2.toInt8.toInt32))] (.int (0 : Int32)) := Arv.set Ar5 q5 S5 M5 H5 G5 (fits_byte_b (bnd_i2b u2) (by decide +kernel) (by decide +kernel)) W5' 1 rfl (Nat.le_of_ble_eq_true rfl)
 have O5 := O2.wr W5 g_o2
 have K5 : Keep h0 h5 ([o2] : List Addr) := Keep.wr K2 W5 (Or.inl (List.mem_of_getElem? (i := 0) rfl))
 have N5 := Fr.snoc X5 N2 g_o2
 show Home T5 (mkF m 32 #[.val (.ref o0), .val (.int (1 : Int32)), .val (.ref o2), .val (.int (1 : Int32)), .val (.int (2 : Int32)), .val (.int (1 : Int32)), .val (.int u2)] [])
 refine Home.run X5 hx hby sg14_32_6 (pc' := 7) (L' := #[.val (.ref o0), .val (.int (2 : Int32)), .val (.ref o2), .val (.int (2 : Int32)), .val (.int (2 : Int32)), .val (.int (2 : Int32)), .val (.int u2)]) (S' := [(.int (2 : Int32)), (.int (2 : Int32))]) rfl ?_
 refine Home.go (fun _ => XS.icmpYes X5.here hx rfl (pc0 := 7) (pc' := 44) rfl (hb hby d14_7) rfl (flt (by decide)).2.1 (by decide) (by decide)) ?_
 refine Home.run X5 hx hby sg14_44_1 (pc' := 46) (L' := #[.val (.ref o0), .val (.int (2 : Int32)), .val (.ref o2), .val (.int (2 : Int32)), .val (.int (2 : Int32)), .val (.int (2 : Int32)), .val (.int u2)]) (S' := [(.int (2 : Int32))]) rfl ?_
 exact Home.retI X5 hx hlk hret (hb hby d14_46) (by rw [show T5.heap = h5 from e5]; exact ⟨rfl, N5, K5, V5⟩) (by decide) (by decide)
theorem rm13_1 (l : Launch) (Z : State) (a0 : Array Value) (hw : HW a0 Z) (ws : List Jvm.Cond) (o0 : Addr) (k_o0 : ClassId) (u1 u2 : Int32) (h0 : Heap) (n0 : Nat) (O0 : Old Z n0 h0) (V_o0 : Arv Z h0 o0 k_o0 .char (2 : Int32) [(.int u1), (.int u2)] (.int (0 : Int32))) (bnd_u1 : ¬ u1 < (0 : Int32) ∧ ¬ (255 : Int32) < u1) (bnd_u2 : ¬ u2 < (0 : Int32) ∧ ¬ (255 : Int32) < u2) :
    Con l Z (⟨"java/lang/StringUTF16", "compress", "([CII)[B"⟩ : MethodName) jdk_52_method_16_code 6 (some (.array .byte)) ws ({ frames := 1, cells := 1, slots := 2, locals := 18 } : Room) #[(.ref o0), (.int (0 : Int32)), (.int (2 : Int32))] h0 (fun v h L => ∃ (b1 : Addr), ∃ (k1 : ClassId), v = some (.ref b1) ∧ Fr n0 L ∧ h0.size ≤ b1 ∧ Keep h0 h [] ∧ Arv Z h b1 k1 .byte (2 : Int32) [(.int (u1.toInt8.toInt32)), (.int (u2.toInt8.toInt32))] (.int (0 : Int32))) := by
 refine own_body (plainFor_of_name own_pn2) (fun m => ef_rm13_1 m o0 (0 : Int32) (2 : Int32)) ?_
 intro p e s m below meth c s₁ hx hby hlk hml hret hZ hown hnm X0 e0
 have N0 := Fr.nil n0
 refine Home.run X0 hx hby sg13_0_1 (pc' := 1) (L' := #[.val (.ref o0), .val (.int (0 : Int32)), .val (.int (2 : Int32)), .unset, .unset, .unset]) (S' := [(.int (2 : Int32))]) rfl ?_
 refine Home.na (own_newP (aty := .byte) X0 hx hZ (own_w25 hw) e0 (g := (mkF m 1 #[.val (.ref o0), .val (.int (0 : Int32)), .val (.int (2 : Int32)), .unset, .unset, .unset] [(.int (2 : Int32))])) rfl (hb hby d13_1) rfl (by decide) (cap := 2) (by decide) (by decide) (by decide) (by decide)) fun T1 h1 k1 b1 g1 X1 e1 E1 A1 => ?_
 have g_b1 : n0 ≤ b1 := Nat.le_trans (Old.le O0) (Nat.le_of_eq g1.symm)
 have V1 : Arv Z h1 b1 k1 .byte (2 : Int32) [(.int (0 : Int32)), (.int (0 : Int32))] (.int (0 : Int32)) := (Arv.new A1 (by decide)).pad (pad_rep [] (.int (0 : Int32)) 2)
 have O1 := O0.ext E1
 have K1 : Keep h0 h1 ([] : List Addr) := Keep.ext (Keep.refl h0 ([] : List Addr)) E1
 refine Home.run X1 hx hby sg13_3_6 (pc' := 9) (L' := #[.val (.ref o0), .val (.int (0 : Int32)), .val (.int (2 : Int32)), .val (.ref b1), .unset, .unset]) (S' := [(.int (2 : Int32)), (.int (0 : Int32)), (.ref b1), (.int (0 : Int32)), (.ref o0)]) rfl ?_
 have ne2 : o0 ≠ b1 := (Nat.ne_of_lt (Nat.lt_of_lt_of_le V_o0.lt (Nat.le_trans (Nat.le_refl _) (Nat.le_of_eq g1.symm))))
 refine Home.call (own_static X1 hx hZ hown (own_w71 hw) (own_w72 hw) (own_w69 hw) (own_w73 hw) (by decide) (rm14_1 l Z a0 hw [] o0 b1 k_o0 u1 u2 k1 h1 n0 O1 (V_o0.keep K1 nin0) bnd_u1 V1 g_b1 ne2 bnd_u2) e1 rfl (by rw [hml]; rfl) (argsL := [(.ref o0), (.int (0 : Int32)), (.ref b1), (.int (0 : Int32)), (.int (2 : Int32))]) (rest := []) (lenOf own_pd4 rfl) rfl rfl (W := 0) (by exact hW0) (by decide) (by decide) (hb hby d13_9) (by decide) (by decide)) ?_
 rintro _ T3 L3 X3 ⟨rfl, N3q, K3q, P3_0⟩
 have O3 := Old.keep O1 K3q (allS g_b1 all0)
 have K3 : Keep h0 T3.heap ([] : List Addr) := Keep.trans K1 K3q (allS (Or.inr (Nat.le_trans (Nat.le_refl _) (Nat.le_of_eq g1.symm))) all0)
 have N3 := Fr.app N0 N3q
 show Home T3 (mkF m 12 #[.val (.ref o0), .val (.int (0 : Int32)), .val (.int (2 : Int32)), .val (.ref b1), .unset, .unset] [(.int (2 : Int32))])
 refine Home.run X3 hx hby sg13_12_3 (pc' := 17) (L' := #[.val (.ref o0), .val (.int (0 : Int32)), .val (.int (2 : Int32)), .val (.ref b1), .val (.int (2 : Int32)), .unset]) (S' := [(.int (2 : Int32)), (.int (2 : Int32))]) rfl ?_
 refine Home.go (fun _ => XS.icmpYes X3.here hx rfl (pc0 := 17) (pc' := 57) rfl (hb hby d13_17) rfl (teq (by decide)).1 (by decide) (by decide)) ?_
 refine Home.run X3 hx hby sg13_57_1 (pc' := 58) (L' := #[.val (.ref o0), .val (.int (0 : Int32)), .val (.int (2 : Int32)), .val (.ref b1), .val (.int (2 : Int32)), .unset]) (S' := [(.ref b1)]) rfl ?_
 exact Home.retR X3 hx hlk hret rfl rfl (hb hby d13_58) ⟨b1, k1, rfl, N3, (Nat.le_trans (Nat.le_refl _) (Nat.le_of_eq g1.symm)), K3, P3_0⟩ (by decide) (by decide)
theorem rm15_1 (l : Launch) (Z : State) (a0 : Array Value) (hw : HW a0 Z) (ws : List Jvm.Cond) (o0 : Addr) (k_o0 : ClassId) (u1 u2 : Int32) (h0 : Heap) (n0 : Nat) (O0 : Old Z n0 h0) (V_o0 : Arv Z h0 o0 k_o0 .byte (2 : Int32) [(.int u1), (.int u2)] (.int (0 : Int32))) :
    Con l Z (⟨"java/lang/StringUTF16", "coderFromArrayLen", "([BI)B"⟩ : MethodName) jdk_52_method_15_code 2 (some .byte) ws ({ frames := 0, cells := 0, slots := 0, locals := 0 } : Room) #[(.ref o0), (.int (2 : Int32))] h0 (Pur (some (.int (0 : Int32))) h0) := by
 refine own_body (plainFor_of_name own_pn2) (fun m => ef_rm15_1 m o0 (2 : Int32)) ?_
 intro p e s m below meth c s₁ hx hby hlk hml hret hZ hown hnm X0 e0
 have N0 := Fr.nil n0
 refine Home.run X0 hx hby sg15_0_2 (pc' := 2) (L' := #[.val (.ref o0), .val (.int (2 : Int32))]) (S' := [(.ref o0), (.int (2 : Int32))]) rfl ?_
 obtain ⟨cl1, Ar1, q1, S1, M1, H1, G1⟩ := id V_o0
 refine Home.go (own_alen X0 hx hZ e0 Ar1 S1 M1 rfl rfl (hb hby d15_2)) ?_
 refine Home.run X0 hx hby sg15_3_4 (pc' := 8) (L' := #[.val (.ref o0), .val (.int (2 : Int32))]) (S' := [(.int (0 : Int32))]) rfl ?_
 exact Home.retN X0 hx hlk (t := .byte) hret (by simp) (hb hby d15_8) ⟨congrArg some (congrArg Value.int (by first | rfl | exact nar_i2c _ | exact nar_i2b _)), rfl, e0⟩ (by decide) (by decide)
theorem rm4_2 (l : Launch) (Z : State) (a0 : Array Value) (hw : HW a0 Z) (ws : List Jvm.Cond) (o0 o1 : Addr) (sv_COMPACT_STRINGS : Int32) (k_o1 : ClassId) (u1 u2 : Int32) (h0 : Heap) (n0 : Nat) (O0 : Old Z n0 h0) (S_COMPACT_STRINGS : Sta Z Z.heap "java/lang/String" "COMPACT_STRINGS" "Z" (.int sv_COMPACT_STRINGS)) (hCS : ¬ (sv_COMPACT_STRINGS = (0 : Int32))) (V_o1 : Arv Z h0 o1 k_o1 .char (2 : Int32) [(.int u1), (.int u2)] (.int (0 : Int32))) (bnd_u1 : ¬ u1 < (0 : Int32) ∧ ¬ (255 : Int32) < u1) (bnd_u2 : ¬ u2 < (0 : Int32) ∧ ¬ (255 : Int32) < u2) (E_o0 : Exa Z h0 o0 "java/lang/String") (F_coder_o0 : Fld Z h0 o0 "java/lang/String" "coder" "B" (.int (0 : Int32))) (g_o0 : n0 ≤ o0) (F_value_o0 : Fld Z h0 o0 "java/lang/String" "value" "[B" .null) :
    Con l Z (⟨"java/lang/String", "<init>", "([CIILjava/lang/Void;)V"⟩ : MethodName) jdk_42_method_149_code 6 none ws ({ frames := 2, cells := 1, slots := 2, locals := 35 } : Room) #[(.ref o0), (.ref o1), (.int (0 : Int32)), (.int (2 : Int32)), .null] h0 (fun v h L => ∃ (b1_3 : Addr), ∃ (k1_3 : ClassId), v = none ∧ Fr n0 L ∧ h0.size ≤ b1_3 ∧ Keep h0 h [o0] ∧ Exa Z h o0 "java/lang/String" ∧ Fld Z h o0 "java/lang/String" "coder" "B" (.int (0 : Int32)) ∧ Fld Z h o0 "java/lang/String" "value" "[B" (.ref b1_3) ∧ Arv Z h b1_3 k1_3 .byte (2 : Int32) [(.int (u1.toInt8.toInt32)), (.int (u2.toInt8.toInt32))] (.int (0 : Int32))) := by
 refine own_body (plainFor_of_name own_pn1) (fun m => ef_rm4_2 m o0 o1 (0 : Int32) (2 : Int32)) ?_
 intro p e s m below meth c s₁ hx hby hlk hml hret hZ hown hnm X0 e0
 have N0 := Fr.nil n0
 refine Home.run X0 hx hby sg4_0_1 (pc' := 1) (L' := #[.val (.ref o0), .val (.ref o1), .val (.int (0 : Int32)), .val (.int (2 : Int32)), .val .null, .unset]) (S' := [(.ref o0)]) rfl ?_
 refine Home.st (initO X0 hx hZ hown (own_w21 hw) (own_w22 hw) (own_w23 hw) e0 rfl (by rw [hml]; rfl) rfl (hb hby d4_1) (by decide) (W := 0) (by exact hW0) (by decide)) fun T1 X1 e1 => ?_
 refine Home.run X1 hx hby sg4_4_1 (pc' := 5) (L' := #[.val (.ref o0), .val (.ref o1), .val (.int (0 : Int32)), .val (.int (2 : Int32)), .val .null, .unset]) (S' := [(.int (2 : Int32))]) rfl ?_
 refine Home.go (fun _ => XS.ifYes X1.here hx rfl (pc0 := 5) (pc' := 27) rfl (hb hby d4_5) rfl ((if0 _ _).trans (feq (by decide)).2) (by decide) (by decide)) ?_
 refine Home.st (getS2 X1 hx hZ hown (host := "") (Or.inl (own_w59 hw)) Via.refl e1 (S_COMPACT_STRINGS.ext O0.2) rfl (hb hby d4_27)) fun T2 X2 e2 => ?_
 refine Home.go (fun _ => XS.ifNo X2.here hx rfl (hb hby d4_30) rfl ((if0 _ _).trans (feq hCS).1)) ?_
 refine Home.run X2 hx hby sg4_33_3 (pc' := 36) (L' := #[.val (.ref o0), .val (.ref o1), .val (.int (0 : Int32)), .val (.int (2 : Int32)), .val .null, .unset]) (S' := [(.int (2 : Int32)), (.int (0 : Int32)), (.ref o1)]) rfl ?_
 refine Home.call (own_static X2 hx hZ hown (own_w67 hw) (own_w68 hw) (own_w69 hw) (own_w70 hw) (by decide) (rm13_1 l Z a0 hw [] o1 k_o1 u1 u2 h0 n0 O0 V_o1 bnd_u1 bnd_u2) e2 rfl (by rw [hml]; rfl) (argsL := [(.ref o1), (.int (0 : Int32)), (.int (2 : Int32))]) (rest := []) (lenOf own_pd5 rfl) rfl rfl (W := 0) (by exact hW0) (by decide) (by decide) (hb hby d4_36) (by decide) (by decide)) ?_
 rintro _ T3 L3 X3 ⟨b1_3, k1_3, rfl, N3q, sz_b1_3, K3q, P3_0⟩
 have g_b1_3 : n0 ≤ b1_3 := Nat.le_trans (Old.le O0) sz_b1_3
 have O3 := Old.keep O0 K3q all0
 have K3 : Keep h0 T3.heap ([o0] : List Addr) := Keep.trans (Keep.refl h0 ([o0] : List Addr)) K3q all0
 have N3 := Fr.app N0 N3q
 show Home T3 (mkF m 39 #[.val (.ref o0), .val (.ref o1), .val (.int (0 : Int32)), .val (.int (2 : Int32)), .val .null, .unset] [(.ref b1_3)])
 refine Home.run X3 hx hby sg4_39_4 (pc' := 45) (L' := #[.val (.ref o0), .val (.ref o1), .val (.int (0 : Int32)), .val (.int (2 : Int32)), .val .null, .val (.ref b1_3)]) (S' := [(.int (2 : Int32)), (.ref b1_3), (.ref o0)]) rfl ?_
 refine Home.st (own_pure (own_static X3 hx hZ hown (own_w74 hw) (own_w75 hw) (own_w69 hw) (own_w76 hw) (by decide) (rm15_1 l Z a0 hw [] b1_3 k1_3 (u1.toInt8.toInt32) (u2.toInt8.toInt32) T3.heap n0 O3 P3_0) rfl rfl (by rw [hml]; rfl) (argsL := [(.ref b1_3), (.int (2 : Int32))]) (rest := [(.ref o0)]) (lenOf own_pd6 rfl) rfl rfl (W := 1) (by exact hW0) (by decide) (by decide) (hb hby d4_45) (by decide) (by decide))) fun T4 X4 e4 => ?_
 have q5 := (F_coder_o0.keep K3q nin0)
 refine Home.wr (putFN X4 hx hZ hown (own_w31 hw) Via.refl e4 q5 (E_o0.keep K3) (Or.inr ⟨(own_w27 hw), rfl, hnm⟩) (own_w11 hw) (ty := .byte) (v := (.int (0 : Int32))) (v' := (.int (0 : Int32))) (by decide) rfl rfl rfl rfl (hb hby d4_48)) fun T6 h6 X6 e6 W6 => ?_
 have Fw6 := q5.same W6
 have O6 := O3.wr W6 g_o0
 have K6 : Keep h0 h6 ([o0] : List Addr) := Keep.wr K3 W6 (Or.inl (List.mem_of_getElem? (i := 0) rfl))
 have N6 := Fr.snoc X6 N3 g_o0
 show Home T6 (mkF m 51 #[.val (.ref o0), .val (.ref o1), .val (.int (0 : Int32)), .val (.int (2 : Int32)), .val .null, .val (.ref b1_3)] [])
 refine Home.run X6 hx hby sg4_51_2 (pc' := 54) (L' := #[.val (.ref o0), .val (.ref o1), .val (.int (0 : Int32)), .val (.int (2 : Int32)), .val .null, .val (.ref b1_3)]) (S' := [(.ref b1_3), (.ref o0)]) rfl ?_
 have q7 := ((F_value_o0.keep K3q nin0).other W6 (Or.inr (slot_ne (Or.inr (own_w26 hw)) (Or.inr (own_w27 hw)) (by decide) (t := (.array .byte)) (t' := .byte) (by decide) (by decide))))
 refine Home.wr (putF X6 hx hZ hown (host := "") (Or.inl (own_w30 hw)) Via.refl e6 q7 (E_o0.keep K6) (Or.inr ⟨(own_w26 hw), rfl, hnm⟩) (own_w11 hw) (ty := (.array .byte)) (by decide) rfl rfl rfl rfl (hb hby d4_54)) fun T8 h8 X8 e8 W8 => ?_
 have Fw8 := q7.same W8
 have O8 := O6.wr W8 g_o0
 have K8 : Keep h0 h8 ([o0] : List Addr) := Keep.wr K6 W8 (Or.inl (List.mem_of_getElem? (i := 0) rfl))
 have N8 := Fr.snoc X8 N6 g_o0
 have q9 := (Fw6.other W8 (Or.inr (slot_ne (Or.inr (own_w27 hw)) (Or.inr (own_w26 hw)) (by decide) (t := .byte) (t' := (.array .byte)) (by decide) (by decide))))
 have ne10 : b1_3 ≠ o0 := (Ne.symm (Nat.ne_of_lt (Nat.lt_of_lt_of_le E_o0.lt (Nat.le_trans (Nat.le_refl _) sz_b1_3))))
 have q11 := ((P3_0.other W6 ne10).other W8 ne10)
 exact Home.ret0 X8 hx hlk hret (hb hby d4_57) (by rw [show T8.heap = h8 from e8]; exact ⟨b1_3, k1_3, rfl, N8, (Nat.le_trans (Nat.le_refl _) sz_b1_3), K8, (E_o0.keep K8), q9, Fw8, q11⟩) (by decide) (by decide)
theorem rm3_2 (l : Launch) (Z : State) (a0 : Array Value) (hw : HW a0 Z) (ws : List Jvm.Cond) (o0 o1 : Addr) (k_o1 : ClassId) (u1 u2 sv_COMPACT_STRINGS : Int32) (h0 : Heap) (n0 : Nat) (O0 : Old Z n0 h0) (V_o1 : Arv Z h0 o1 k_o1 .char (2 : Int32) [(.int u1), (.int u2)] (.int (0 : Int32))) (S_COMPACT_STRINGS : Sta Z Z.heap "java/lang/String" "COMPACT_STRINGS" "Z" (.int sv_COMPACT_STRINGS)) (E_o0 : Exa Z h0 o0 "java/lang/String") (F_coder_o0 : Fld Z h0 o0 "java/lang/String" "coder" "B" (.int (0 : Int32))) (F_value_o0 : Fld Z h0 o0 "java/lang/String" "value" "[B" .null) (bnd_u1 : ¬ u1 < (0 : Int32) ∧ ¬ (255 : Int32) < u1) (bnd_u2 : ¬ u2 < (0 : Int32) ∧ ¬ (255 : Int32) < u2) (g_o0 : n0 ≤ o0) (hCS : ¬ (sv_COMPACT_STRINGS = (0 : Int32))) :
    Con l Z (⟨"java/lang/String", "<init>", "([C)V"⟩ : MethodName) jdk_42_method_3_code 2 none ws ({ frames := 3, cells := 1, slots := 2, locals := 52 } : Room) #[(.ref o0), (.ref o1)] h0 (fun v h L => ∃ (b1_3_2 : Addr), ∃ (k1_3_2 : ClassId), v = none ∧ Fr n0 L ∧ h0.size ≤ b1_3_2 ∧ Keep h0 h [o0] ∧ Exa Z h o0 "java/lang/String" ∧ Fld Z h o0 "java/lang/String" "coder" "B" (.int (0 : Int32)) ∧ Fld Z h o0 "java/lang/String" "value" "[B" (.ref b1_3_2) ∧ Arv Z h b1_3_2 k1_3_2 .byte (2 : Int32) [(.int (u1.toInt8.toInt32)), (.int (u2.toInt8.toInt32))] (.int (0 : Int32))) := by
 refine own_body (plainFor_of_name own_pn1) (fun m => ef_rm3_2 m o0 o1) ?_
 intro p e s m below meth c s₁ hx hby hlk hml hret hZ hown hnm X0 e0
 have N0 := Fr.nil n0
 refine Home.run X0 hx hby sg3_0_4 (pc' := 4) (L' := #[.val (.ref o0), .val (.ref o1)]) (S' := [(.ref o1), (.int (0 : Int32)), (.ref o1), (.ref o0)]) rfl ?_
 obtain ⟨cl1, Ar1, q1, S1, M1, H1, G1⟩ := id V_o1
 refine Home.go (own_alen X0 hx hZ e0 Ar1 S1 M1 rfl rfl (hb hby d3_4)) ?_
 refine Home.run X0 hx hby sg3_5_1 (pc' := 6) (L' := #[.val (.ref o0), .val (.ref o1)]) (S' := [.null, (.int (2 : Int32)), (.int (0 : Int32)), (.ref o1), (.ref o0)]) rfl ?_
 refine Home.call (own_special X0 hx hZ hown rfl (own_w17 hw) (own_w18 hw) (own_w12 hw) (own_w20 hw) (by decide) (rm4_2 l Z a0 hw [] o0 o1 sv_COMPACT_STRINGS k_o1 u1 u2 h0 n0 O0 S_COMPACT_STRINGS hCS V_o1 bnd_u1 bnd_u2 E_o0 F_coder_o0 g_o0 F_value_o0) e0 rfl (by rw [hml]; rfl) (a := o0) (argsL := [(.ref o1), (.int (0 : Int32)), (.int (2 : Int32)), .null]) (rest := []) (lenOf own_pd1 rfl) rfl rfl (W := 0) (by exact hW0) (by decide) (by decide) (hb hby d3_6) (by decide) (by decide)) ?_
 rintro _ T2 L2 X2 ⟨b1_3_2, k1_3_2, rfl, N2q, sz_b1_3_2, K2q, P2_0, P2_1, P2_2, P2_3⟩
 have g_b1_3_2 : n0 ≤ b1_3_2 := Nat.le_trans (Old.le O0) sz_b1_3_2
 have O2 := Old.keep O0 K2q (allS g_o0 all0)
 have K2 : Keep h0 T2.heap ([o0] : List Addr) := Keep.trans (Keep.refl h0 ([o0] : List Addr)) K2q (allS (Or.inl (List.mem_of_getElem? (i := 0) rfl)) all0)
 have N2 := Fr.app N0 N2q
 show Home T2 (mkF m 9 #[.val (.ref o0), .val (.ref o1)] [])
 exact Home.ret0 X2 hx hlk hret (hb hby d3_9) ⟨b1_3_2, k1_3_2, rfl, N2, (Nat.le_trans (Nat.le_refl _) sz_b1_3_2), K2, P2_0, P2_1, P2_2, P2_3⟩ (by decide) (by decide)
theorem rm1_0 (l : Launch) (Z : State) (a0 : Array Value) (hw : HW a0 Z) (ws : List Jvm.Cond) (i0 sv_COMPACT_STRINGS : Int32) (h0 : Heap) (n0 : Nat) (O0 : Old Z n0 h0) (S_COMPACT_STRINGS : Sta Z Z.heap "java/lang/String" "COMPACT_STRINGS" "Z" (.int sv_COMPACT_STRINGS)) (hCS : ¬ (sv_COMPACT_STRINGS = (0 : Int32))) :
    ConW l Z own_EL ([] : List Addr) true (⟨"com/example/invocant/invocant/CanonicalMatchesPinLaw", "mk", "(I)Ljava/lang/String;"⟩ : MethodName) method_5_code 2 (some (.object "java/lang/String")) ws ({ frames := 4, cells := 6, slots := 12, locals := 66 } : Room) #[(.int i0)] h0 (fun v h L => ∃ (rs : Addr) (rb : Jvm.Addr) (rk : ClassId), v = some (.ref rs) ∧ Fr n0 L ∧ h0.size ≤ rs ∧ Keep h0 h [] ∧ Exa Z h rs "java/lang/String" ∧ Fld Z h rs "java/lang/String" "coder" "B" (.int (0 : Int32)) ∧ Fld Z h rs "java/lang/String" "value" "[B" (.ref rb) ∧ Arv Z h rb rk .byte (own_n (cs_rm1_0 i0)) (List.map Value.int (cs_rm1_0 i0)) (.int (0 : Int32))) := by
 refine own_bodyW (plainFor_of_name own_pn0) (fun m => ef_rm1_0 m i0) ?_
 intro p e s m below meth c s₁ hx hby hlk hml hret hZ hown hnm X0 e0 Cd0
 have N0 := Fr.nil n0
 refine Home.run X0 hx hby sg1_0_1 (pc' := 1) (L' := #[.val (.int i0), .unset]) (S' := [(.int i0)]) rfl ?_
 refine Home.st (own_pure (own_static X0 hx hZ hown (own_w7 hw) (own_w8 hw) (own_w5 hw) (own_w9 hw) (by decide) (rm2_0 l Z a0 hw [] i0 h0 n0 O0) e0 rfl (by rw [hml]; rfl) (argsL := [(.int i0)]) (rest := []) (lenOf own_pd0 rfl) rfl rfl (W := 0) (by exact hW0) (by decide) (by decide) (hb hby d1_1) (by decide) (by decide))) fun T1 X1 e1 => ?_
 refine Home.run X1 hx hby sg1_4_2 (pc' := 6) (L' := #[.val (.int i0), .val (.int ((((i0.toUInt32 >>> ((16 : Int32) &&& 31).toUInt32).toInt32) &&& (32767 : Int32)) % (3 : Int32)))]) (S' := [(.int ((((i0.toUInt32 >>> ((16 : Int32) &&& 31).toUInt32).toInt32) &&& (32767 : Int32)) % (3 : Int32)))]) rfl ?_
 by_cases c2 : ((((i0.toUInt32 >>> ((16 : Int32) &&& 31).toUInt32).toInt32) &&& (32767 : Int32)) % (3 : Int32)) = (0 : Int32)
 ·
  refine Home.go (fun _ => XS.ifNo X1.here hx rfl (hb hby d1_6) rfl ((if0 _ _).trans (teq c2).2)) ?_
  have bd3 : ¬ ((((i0.toUInt32 >>> ((16 : Int32) &&& 31).toUInt32).toInt32) &&& (32767 : Int32)) % (3 : Int32)) < (0 : Int32) ∧ ¬ (0 : Int32) < ((((i0.toUInt32 >>> ((16 : Int32) &&& 31).toUInt32).toInt32) &&& (32767 : Int32)) % (3 : Int32)) := ⟨(bnd_eql c2), (bnd_eqr c2)⟩
  refine Home.nw (own_newO X1 hx hZ hown (own_w10 hw) (own_w11 hw) (own_w12 hw) e1 rfl (hb hby d1_9) (by decide) (by decide)) fun T5 h5 b5 g5 X5 e5 E5 A5 D5 => ?_
  have g_b5 : n0 ≤ b5 := Nat.le_trans (Old.le O0) (Nat.le_of_eq g5.symm)
  have F_value_b5 : Fld Z h5 b5 "java/lang/String" "value" "[B" .null := D5 (Or.inr (own_w26 hw)) (ty := (.array .byte)) (by decide)
  have F_coder_b5 : Fld Z h5 b5 "java/lang/String" "coder" "B" (.int (0 : Int32)) := D5 (Or.inr (own_w27 hw)) (ty := .byte) (by decide)
  have O5 := O0.ext E5
  have K5 : Keep h0 h5 ([] : List Addr) := Keep.ext (Keep.refl h0 ([] : List Addr)) E5
  have Cd5 := Cold.add Cd0 E5 (Nat.le_of_eq g5.symm) A5.lt
  refine Home.run X5 hx hby sg1_12_2 (pc' := 14) (L' := #[.val (.int i0), .val (.int ((((i0.toUInt32 >>> ((16 : Int32) &&& 31).toUInt32).toInt32) &&& (32767 : Int32)) % (3 : Int32)))]) (S' := [(.int (0 : Int32)), (.ref b5), (.ref b5)]) rfl ?_
  refine Home.na (own_newP (aty := .char) X5 hx hZ (own_w13 hw) e5 (g := (mkF m 14 #[.val (.int i0), .val (.int ((((i0.toUInt32 >>> ((16 : Int32) &&& 31).toUInt32).toInt32) &&& (32767 : Int32)) % (3 : Int32)))] [(.int (0 : Int32)), (.ref b5), (.ref b5)])) rfl (hb hby d1_14) rfl (by decide) (cap := 0) (by decide) (by decide) (by decide) (by decide)) fun T6 h6 k6 b6 g6 X6 e6 E6 A6 => ?_
  have g_b6 : n0 ≤ b6 := Nat.le_trans (Old.le O5) (Nat.le_of_eq g6.symm)
  have V6 : Arv Z h6 b6 k6 .char (0 : Int32) [] (.int (0 : Int32)) := Arv.new A6 (by decide)
  have O6 := O5.ext E6
  have K6 : Keep h0 h6 ([] : List Addr) := Keep.ext K5 E6
  have Cd6 := Cold.ext Cd5 E6
  show Home T6 (mkF m 16 #[.val (.int i0), .val (.int ((((i0.toUInt32 >>> ((16 : Int32) &&& 31).toUInt32).toInt32) &&& (32767 : Int32)) % (3 : Int32)))] [(.ref b6), (.ref b5), (.ref b5)])
  have q7 := (A5.ext E6)
  have q8 := (F_value_b5.ext E6)
  have q9 := (F_coder_b5.ext E6)
  refine Home.call (own_specialW X6 hx hZ hown (own_hEL hw) Cd6 (allS (List.mem_of_getElem? (i := 0) rfl) all0) rfl (own_w14 hw) (own_w15 hw) (own_w12 hw) (own_w16 hw) (by decide) (rm3_0 l Z a0 hw [] b5 b6 k6 h6 n0 O6 V6 q7 q8 q9 g_b5) e6 rfl (by rw [hml]; rfl) (a := b5) (argsL := [(.ref b6)]) (rest := [(.ref b5)]) (lenOf own_pd2 rfl) rfl rfl (W := 1) (by exact hW0) (by decide) (by decide) (hb hby d1_16) (by decide) (by decide)) ?_
  rintro _ T10 L10 X10 ⟨⟨b2_2_10, k2_2_10, rfl, N10q, K10q, P10_0, P10_1, P10_2, P10_3⟩, hZ, hown, Cd10, sR10⟩
  have O10 := Old.keep O6 K10q (allS g_b5 all0)
  have K10 : Keep h0 T10.heap ([] : List Addr) := Keep.trans K6 K10q (allS (Or.inr (Nat.le_trans (Nat.le_refl _) (Nat.le_of_eq g5.symm))) all0)
  have N10 := Fr.app N0 N10q
  show Home T10 (mkF m 19 #[.val (.int i0), .val (.int ((((i0.toUInt32 >>> ((16 : Int32) &&& 31).toUInt32).toInt32) &&& (32767 : Int32)) % (3 : Int32)))] [(.ref b5)])
  exact HomeW.retR X10 hx hlk hZ (own_hEL hw) rfl Cd10 (fun _ _ q => by cases q; exact (List.mem_of_getElem? (i := 0) rfl)) hret rfl rfl (hb hby d1_19) ⟨b5, b2_2_10, k2_2_10, rfl, N10, (Nat.le_trans (Nat.le_refl _) (Nat.le_of_eq g5.symm)), K10, P10_0, P10_2, P10_1, Arv.lst P10_3 (cs := []) (cs' := (cs_rm1_0 i0)) (by first | rfl | (simp only [cs_rm1_0, if_pos c2] <;> rfl) | (simp [cs_rm1_0, if_pos c2]; done)) rfl rfl⟩ (by decide) (by decide)
 ·
  refine Home.go (fun _ => XS.ifYes X1.here hx rfl (pc0 := 6) (pc' := 20) rfl (hb hby d1_6) rfl ((if0 _ _).trans (feq c2).2) (by decide) (by decide)) ?_
  have bd4 : ¬ ((((i0.toUInt32 >>> ((16 : Int32) &&& 31).toUInt32).toInt32) &&& (32767 : Int32)) % (3 : Int32)) < (1 : Int32) ∧ ¬ (2 : Int32) < ((((i0.toUInt32 >>> ((16 : Int32) &&& 31).toUInt32).toInt32) &&& (32767 : Int32)) % (3 : Int32)) := ⟨(bnd_nel (bnd_rem (bnd_and ((i0.toUInt32 >>> ((16 : Int32) &&& 31).toUInt32).toInt32) (32767 : Int32) (by decide)) (by decide +kernel) (by decide +kernel)).1 c2 (by decide +kernel)), (bnd_rem (bnd_and ((i0.toUInt32 >>> ((16 : Int32) &&& 31).toUInt32).toInt32) (32767 : Int32) (by decide)) (by decide +kernel) (by decide +kernel)).2⟩
  refine Home.run X1 hx hby sg1_20_2 (pc' := 22) (L' := #[.val (.int i0), .val (.int ((((i0.toUInt32 >>> ((16 : Int32) &&& 31).toUInt32).toInt32) &&& (32767 : Int32)) % (3 : Int32)))]) (S' := [(.int (1 : Int32)), (.int ((((i0.toUInt32 >>> ((16 : Int32) &&& 31).toUInt32).toInt32) &&& (32767 : Int32)) % (3 : Int32)))]) rfl ?_
  by_cases c11 : ((((i0.toUInt32 >>> ((16 : Int32) &&& 31).toUInt32).toInt32) &&& (32767 : Int32)) % (3 : Int32)) = (1 : Int32)
  ·
   refine Home.go (fun _ => XS.icmpNo X1.here hx rfl (hb hby d1_22) rfl (teq c11).2) ?_
   have bd12 : ¬ ((((i0.toUInt32 >>> ((16 : Int32) &&& 31).toUInt32).toInt32) &&& (32767 : Int32)) % (3 : Int32)) < (1 : Int32) ∧ ¬ (1 : Int32) < ((((i0.toUInt32 >>> ((16 : Int32) &&& 31).toUInt32).toInt32) &&& (32767 : Int32)) % (3 : Int32)) := ⟨(bnd_eql c11), (bnd_eqr c11)⟩
   refine Home.nw (own_newO X1 hx hZ hown (own_w10 hw) (own_w11 hw) (own_w12 hw) e1 rfl (hb hby d1_25) (by decide) (by decide)) fun T14 h14 b14 g14 X14 e14 E14 A14 D14 => ?_
   have g_b14 : n0 ≤ b14 := Nat.le_trans (Old.le O0) (Nat.le_of_eq g14.symm)
   have F_value_b14 : Fld Z h14 b14 "java/lang/String" "value" "[B" .null := D14 (Or.inr (own_w26 hw)) (ty := (.array .byte)) (by decide)
   have F_coder_b14 : Fld Z h14 b14 "java/lang/String" "coder" "B" (.int (0 : Int32)) := D14 (Or.inr (own_w27 hw)) (ty := .byte) (by decide)
   have O14 := O0.ext E14
   have K14 : Keep h0 h14 ([] : List Addr) := Keep.ext (Keep.refl h0 ([] : List Addr)) E14
   have Cd14 := Cold.add Cd0 E14 (Nat.le_of_eq g14.symm) A14.lt
   refine Home.run X14 hx hby sg1_28_2 (pc' := 30) (L' := #[.val (.int i0), .val (.int ((((i0.toUInt32 >>> ((16 : Int32) &&& 31).toUInt32).toInt32) &&& (32767 : Int32)) % (3 : Int32)))]) (S' := [(.int (1 : Int32)), (.ref b14), (.ref b14)]) rfl ?_
   refine Home.na (own_newP (aty := .char) X14 hx hZ (own_w13 hw) e14 (g := (mkF m 30 #[.val (.int i0), .val (.int ((((i0.toUInt32 >>> ((16 : Int32) &&& 31).toUInt32).toInt32) &&& (32767 : Int32)) % (3 : Int32)))] [(.int (1 : Int32)), (.ref b14), (.ref b14)])) rfl (hb hby d1_30) rfl (by decide) (cap := 1) (by decide) (by decide) (by decide) (by decide)) fun T15 h15 k15 b15 g15 X15 e15 E15 A15 => ?_
   have g_b15 : n0 ≤ b15 := Nat.le_trans (Old.le O14) (Nat.le_of_eq g15.symm)
   have V15 : Arv Z h15 b15 k15 .char (1 : Int32) [(.int (0 : Int32))] (.int (0 : Int32)) := (Arv.new A15 (by decide)).pad (pad_rep [] (.int (0 : Int32)) 1)
   have O15 := O14.ext E15
   have K15 : Keep h0 h15 ([] : List Addr) := Keep.ext K14 E15
   have Cd15 := Cold.ext Cd14 E15
   show Home T15 (mkF m 32 #[.val (.int i0), .val (.int ((((i0.toUInt32 >>> ((16 : Int32) &&& 31).toUInt32).toInt32) &&& (32767 : Int32)) % (3 : Int32)))] [(.ref b15), (.ref b14), (.ref b14)])
   refine Home.run X15 hx hby sg1_32_3 (pc' := 35) (L' := #[.val (.int i0), .val (.int ((((i0.toUInt32 >>> ((16 : Int32) &&& 31).toUInt32).toInt32) &&& (32767 : Int32)) % (3 : Int32)))]) (S' := [(.int i0), (.int (0 : Int32)), (.ref b15), (.ref b15), (.ref b14), (.ref b14)]) rfl ?_
   refine Home.st (own_pure (own_static X15 hx hZ hown (own_w64 hw) (own_w65 hw) (own_w5 hw) (own_w66 hw) (by decide) (rm12_0 l Z a0 hw [] i0 h15 n0 O15) e15 rfl (by rw [hml]; rfl) (argsL := [(.int i0)]) (rest := [(.int (0 : Int32)), (.ref b15), (.ref b15), (.ref b14), (.ref b14)]) (lenOf own_pd3 rfl) rfl rfl (W := 5) (by exact hW0) (by decide) (by decide) (hb hby d1_35) (by decide) (by decide))) fun T16 X16 e16 => ?_
   obtain ⟨cl17, Ar17, q17, S17, M17, H17, G17⟩ := id V15
   refine Home.wr (stC X16 hx hZ e16 Ar17 (j := (0 : Int32)) (inb_of S17 ⟨by decide, by decide⟩) rfl rfl (hb hby d1_38)) fun T17 h17 X17 e17 W17 => ?_
   have W17' := Wr.to W17 (congrArg Value.int (nar_char_id (bnd_and i0 (255 : Int32) (by decide)) (by decide +kernel) (by decide +kernel)))
   have V17 : Arv Z h17 b15 k15 .char (1 : Int32) [(.int (i0 &&& (255 : Int32)))] (.int (0 : Int32)) := Arv.set Ar17 q17 S17 M17 H17 G17 (fits_char_b (bnd_and i0 (255 : Int32) (by decide)) (by decide +kernel) (by decide +kernel)) W17' 0 rfl (Nat.le_of_ble_eq_true rfl)
   have O17 := O15.wr W17 g_b15
   have K17 : Keep h0 h17 ([] : List Addr) := Keep.wr K15 W17 (Or.inr (Nat.le_trans E14.1 (Nat.le_of_eq g15.symm)))
   have Cd17 := Cold.wr Cd15 W17 (Safe.arv hZ.alike V15 (by simp))
   have N17 := Fr.snoc X17 N0 g_b15
   show Home T17 (mkF m 39 #[.val (.int i0), .val (.int ((((i0.toUInt32 >>> ((16 : Int32) &&& 31).toUInt32).toInt32) &&& (32767 : Int32)) % (3 : Int32)))] [(.ref b15), (.ref b14), (.ref b14)])
   have q18 := ((A14.ext E15).wr W17)
   have ne19 : b14 ≠ b15 := (Nat.ne_of_lt (Nat.lt_of_lt_of_le A14.lt (Nat.le_trans (Nat.le_refl _) (Nat.le_of_eq g15.symm))))
   have q20 := ((F_coder_b14.ext E15).other W17 (Or.inl ne19))
   have q21 := ((F_value_b14.ext E15).other W17 (Or.inl ne19))
   refine Home.call (own_special X17 hx hZ hown rfl (own_w14 hw) (own_w15 hw) (own_w12 hw) (own_w16 hw) (by decide) (rm3_1 l Z a0 hw [] b14 b15 k15 (i0 &&& (255 : Int32)) sv_COMPACT_STRINGS h17 n0 O17 V17 S_COMPACT_STRINGS q18 q20 q21 (bnd_and i0 (255 : Int32) (by decide)) g_b14 hCS) e17 rfl (by rw [hml]; rfl) (a := b14) (argsL := [(.ref b15)]) (rest := [(.ref b14)]) (lenOf own_pd2 rfl) rfl rfl (W := 1) (by exact hW0) (by decide) (by decide) (hb hby d1_39) (by decide) (by decide)) ?_
   rintro _ T22 L22 X22 ⟨b1_3_2_22, k1_3_2_22, rfl, N22q, sz_b1_3_2_22, K22q, P22_0, P22_1, P22_2, P22_3⟩
   have Cd22 := Cold.keep Cd17 K22q (allS (Cold.safe Cd17 (List.mem_of_getElem? (i := 0) rfl)) all0)
   have Cd22b1_3_2_22 := Cold.put Cd22 ⟨Safe.keep K22q (allS (Cold.safe Cd17 (List.mem_of_getElem? (i := 0) rfl)) all0) Cd17.2.1.1 (Safe.new sz_b1_3_2_22), P22_3.lt⟩
   have g_b1_3_2_22 : n0 ≤ b1_3_2_22 := Nat.le_trans (Old.le O17) sz_b1_3_2_22
   have O22 := Old.keep O17 K22q (allS g_b14 all0)
   have K22 : Keep h0 T22.heap ([] : List Addr) := Keep.trans K17 K22q (allS (Or.inr (Nat.le_trans (Nat.le_refl _) (Nat.le_of_eq g14.symm))) all0)
   have N22 := Fr.app N17 N22q
   show Home T22 (mkF m 42 #[.val (.int i0), .val (.int ((((i0.toUInt32 >>> ((16 : Int32) &&& 31).toUInt32).toInt32) &&& (32767 : Int32)) % (3 : Int32)))] [(.ref b14)])
   exact HomeW.retR X22 hx hlk hZ (own_hEL hw) rfl Cd22b1_3_2_22 (fun _ _ q => by cases q; exact (List.mem_of_getElem? (i := 1) rfl)) hret rfl rfl (hb hby d1_42) ⟨b14, b1_3_2_22, k1_3_2_22, rfl, N22, (Nat.le_trans (Nat.le_refl _) (Nat.le_of_eq g14.symm)), K22, P22_0, P22_1, P22_2, Arv.lst P22_3 (cs := [((i0 &&& (255 : Int32)).toInt8.toInt32)]) (cs' := (cs_rm1_0 i0)) (by first | rfl | (simp only [cs_rm1_0, if_neg c2, if_pos c11] <;> rfl) | (simp [cs_rm1_0, if_neg c2, if_pos c11]; done)) rfl rfl⟩ (by decide) (by decide)
  ·
   refine Home.go (fun _ => XS.icmpYes X1.here hx rfl (pc0 := 22) (pc' := 43) rfl (hb hby d1_22) rfl (feq c11).2 (by decide) (by decide)) ?_
   have bd13 : ¬ ((((i0.toUInt32 >>> ((16 : Int32) &&& 31).toUInt32).toInt32) &&& (32767 : Int32)) % (3 : Int32)) < (2 : Int32) ∧ ¬ (2 : Int32) < ((((i0.toUInt32 >>> ((16 : Int32) &&& 31).toUInt32).toInt32) &&& (32767 : Int32)) % (3 : Int32)) := ⟨(bnd_nel bd4.1 c11 (by decide +kernel)), bd4.2⟩
   refine Home.nw (own_newO X1 hx hZ hown (own_w10 hw) (own_w11 hw) (own_w12 hw) e1 rfl (hb hby d1_43) (by decide) (by decide)) fun T23 h23 b23 g23 X23 e23 E23 A23 D23 => ?_
   have g_b23 : n0 ≤ b23 := Nat.le_trans (Old.le O0) (Nat.le_of_eq g23.symm)
   have F_value_b23 : Fld Z h23 b23 "java/lang/String" "value" "[B" .null := D23 (Or.inr (own_w26 hw)) (ty := (.array .byte)) (by decide)
   have F_coder_b23 : Fld Z h23 b23 "java/lang/String" "coder" "B" (.int (0 : Int32)) := D23 (Or.inr (own_w27 hw)) (ty := .byte) (by decide)
   have O23 := O0.ext E23
   have K23 : Keep h0 h23 ([] : List Addr) := Keep.ext (Keep.refl h0 ([] : List Addr)) E23
   have Cd23 := Cold.add Cd0 E23 (Nat.le_of_eq g23.symm) A23.lt
   refine Home.run X23 hx hby sg1_46_2 (pc' := 48) (L' := #[.val (.int i0), .val (.int ((((i0.toUInt32 >>> ((16 : Int32) &&& 31).toUInt32).toInt32) &&& (32767 : Int32)) % (3 : Int32)))]) (S' := [(.int (2 : Int32)), (.ref b23), (.ref b23)]) rfl ?_
   refine Home.na (own_newP (aty := .char) X23 hx hZ (own_w13 hw) e23 (g := (mkF m 48 #[.val (.int i0), .val (.int ((((i0.toUInt32 >>> ((16 : Int32) &&& 31).toUInt32).toInt32) &&& (32767 : Int32)) % (3 : Int32)))] [(.int (2 : Int32)), (.ref b23), (.ref b23)])) rfl (hb hby d1_48) rfl (by decide) (cap := 2) (by decide) (by decide) (by decide) (by decide)) fun T24 h24 k24 b24 g24 X24 e24 E24 A24 => ?_
   have g_b24 : n0 ≤ b24 := Nat.le_trans (Old.le O23) (Nat.le_of_eq g24.symm)
   have V24 : Arv Z h24 b24 k24 .char (2 : Int32) [(.int (0 : Int32)), (.int (0 : Int32))] (.int (0 : Int32)) := (Arv.new A24 (by decide)).pad (pad_rep [] (.int (0 : Int32)) 2)
   have O24 := O23.ext E24
   have K24 : Keep h0 h24 ([] : List Addr) := Keep.ext K23 E24
   have Cd24 := Cold.ext Cd23 E24
   show Home T24 (mkF m 50 #[.val (.int i0), .val (.int ((((i0.toUInt32 >>> ((16 : Int32) &&& 31).toUInt32).toInt32) &&& (32767 : Int32)) % (3 : Int32)))] [(.ref b24), (.ref b23), (.ref b23)])
   refine Home.run X24 hx hby sg1_50_3 (pc' := 53) (L' := #[.val (.int i0), .val (.int ((((i0.toUInt32 >>> ((16 : Int32) &&& 31).toUInt32).toInt32) &&& (32767 : Int32)) % (3 : Int32)))]) (S' := [(.int i0), (.int (0 : Int32)), (.ref b24), (.ref b24), (.ref b23), (.ref b23)]) rfl ?_
   refine Home.st (own_pure (own_static X24 hx hZ hown (own_w64 hw) (own_w65 hw) (own_w5 hw) (own_w66 hw) (by decide) (rm12_0 l Z a0 hw [] i0 h24 n0 O24) e24 rfl (by rw [hml]; rfl) (argsL := [(.int i0)]) (rest := [(.int (0 : Int32)), (.ref b24), (.ref b24), (.ref b23), (.ref b23)]) (lenOf own_pd3 rfl) rfl rfl (W := 5) (by exact hW0) (by decide) (by decide) (hb hby d1_53) (by decide) (by decide))) fun T25 X25 e25 => ?_
   obtain ⟨cl26, Ar26, q26, S26, M26, H26, G26⟩ := id V24
   refine Home.wr (stC X25 hx hZ e25 Ar26 (j := (0 : Int32)) (inb_of S26 ⟨by decide, by decide⟩) rfl rfl (hb hby d1_56)) fun T26 h26 X26 e26 W26 => ?_
   have W26' := Wr.to W26 (congrArg Value.int (nar_char_id (bnd_and i0 (255 : Int32) (by decide)) (by decide +kernel) (by decide +kernel)))
   have V26 : Arv Z h26 b24 k24 .char (2 : Int32) [(.int (i0 &&& (255 : Int32))), (.int (0 : Int32))] (.int (0 : Int32)) := Arv.set Ar26 q26 S26 M26 H26 G26 (fits_char_b (bnd_and i0 (255 : Int32) (by decide)) (by decide +kernel) (by decide +kernel)) W26' 0 rfl (Nat.le_of_ble_eq_true rfl)
   have O26 := O24.wr W26 g_b24
   have K26 : Keep h0 h26 ([] : List Addr) := Keep.wr K24 W26 (Or.inr (Nat.le_trans E23.1 (Nat.le_of_eq g24.symm)))
   have Cd26 := Cold.wr Cd24 W26 (Safe.arv hZ.alike V24 (by simp))
   have N26 := Fr.snoc X26 N0 g_b24
   show Home T26 (mkF m 57 #[.val (.int i0), .val (.int ((((i0.toUInt32 >>> ((16 : Int32) &&& 31).toUInt32).toInt32) &&& (32767 : Int32)) % (3 : Int32)))] [(.ref b24), (.ref b23), (.ref b23)])
   refine Home.run X26 hx hby sg1_57_3 (pc' := 60) (L' := #[.val (.int i0), .val (.int ((((i0.toUInt32 >>> ((16 : Int32) &&& 31).toUInt32).toInt32) &&& (32767 : Int32)) % (3 : Int32)))]) (S' := [(.int i0), (.int (1 : Int32)), (.ref b24), (.ref b24), (.ref b23), (.ref b23)]) rfl ?_
   refine Home.st (own_pure (own_static X26 hx hZ hown (own_w77 hw) (own_w78 hw) (own_w5 hw) (own_w79 hw) (by decide) (rm16_0 l Z a0 hw [] i0 h26 n0 O26) e26 rfl (by rw [hml]; rfl) (argsL := [(.int i0)]) (rest := [(.int (1 : Int32)), (.ref b24), (.ref b24), (.ref b23), (.ref b23)]) (lenOf own_pd3 rfl) rfl rfl (W := 5) (by exact hW0) (by decide) (by decide) (hb hby d1_60) (by decide) (by decide))) fun T27 X27 e27 => ?_
   obtain ⟨cl28, Ar28, q28, S28, M28, H28, G28⟩ := id V26
   refine Home.wr (stC X27 hx hZ e27 Ar28 (j := (1 : Int32)) (inb_of S28 ⟨by decide, by decide⟩) rfl rfl (hb hby d1_63)) fun T28 h28 X28 e28 W28 => ?_
   have W28' := Wr.to W28 (congrArg Value.int (nar_char_id (bnd_and ((i0.toUInt32 >>> ((8 : Int32) &&& 31).toUInt32).toInt32) (255 : Int32) (by decide)) (by decide +kernel) (by decide +kernel)))
   have V28 : Arv Z h28 b24 k24 .char (2 : Int32) [(.int (i0 &&& (255 : Int32))), (.int (((i0.toUInt32 >>> ((8 : Int32) &&& 31).toUInt32).toInt32) &&& (255 : Int32)))] (.int (0 : Int32)) := Arv.set Ar28 q28 S28 M28 H28 G28 (fits_char_b (bnd_and ((i0.toUInt32 >>> ((8 : Int32) &&& 31).toUInt32).toInt32) (255 : Int32) (by decide)) (by decide +kernel) (by decide +kernel)) W28' 1 rfl (Nat.le_of_ble_eq_true rfl)
   have O28 := O26.wr W28 g_b24
   have K28 : Keep h0 h28 ([] : List Addr) := Keep.wr K26 W28 (Or.inr (Nat.le_trans E23.1 (Nat.le_of_eq g24.symm)))
   have Cd28 := Cold.wr Cd26 W28 (Safe.arv hZ.alike V26 (by simp))
   have N28 := Fr.snoc X28 N26 g_b24
   show Home T28 (mkF m 64 #[.val (.int i0), .val (.int ((((i0.toUInt32 >>> ((16 : Int32) &&& 31).toUInt32).toInt32) &&& (32767 : Int32)) % (3 : Int32)))] [(.ref b24), (.ref b23), (.ref b23)])
   have q29 := (((A23.ext E24).wr W26).wr W28)
   have ne30 : b23 ≠ b24 := (Nat.ne_of_lt (Nat.lt_of_lt_of_le A23.lt (Nat.le_trans (Nat.le_refl _) (Nat.le_of_eq g24.symm))))
   have q31 := (((F_coder_b23.ext E24).other W26 (Or.inl ne30)).other W28 (Or.inl ne30))
   have q32 := (((F_value_b23.ext E24).other W26 (Or.inl ne30)).other W28 (Or.inl ne30))
   refine Home.call (own_special X28 hx hZ hown rfl (own_w14 hw) (own_w15 hw) (own_w12 hw) (own_w16 hw) (by decide) (rm3_2 l Z a0 hw [] b23 b24 k24 (i0 &&& (255 : Int32)) (((i0.toUInt32 >>> ((8 : Int32) &&& 31).toUInt32).toInt32) &&& (255 : Int32)) sv_COMPACT_STRINGS h28 n0 O28 V28 S_COMPACT_STRINGS q29 q31 q32 (bnd_and i0 (255 : Int32) (by decide)) (bnd_and ((i0.toUInt32 >>> ((8 : Int32) &&& 31).toUInt32).toInt32) (255 : Int32) (by decide)) g_b23 hCS) e28 rfl (by rw [hml]; rfl) (a := b23) (argsL := [(.ref b24)]) (rest := [(.ref b23)]) (lenOf own_pd2 rfl) rfl rfl (W := 1) (by exact hW0) (by decide) (by decide) (hb hby d1_64) (by decide) (by decide)) ?_
   rintro _ T33 L33 X33 ⟨b1_3_2_33, k1_3_2_33, rfl, N33q, sz_b1_3_2_33, K33q, P33_0, P33_1, P33_2, P33_3⟩
   have Cd33 := Cold.keep Cd28 K33q (allS (Cold.safe Cd28 (List.mem_of_getElem? (i := 0) rfl)) all0)
   have Cd33b1_3_2_33 := Cold.put Cd33 ⟨Safe.keep K33q (allS (Cold.safe Cd28 (List.mem_of_getElem? (i := 0) rfl)) all0) Cd28.2.1.1 (Safe.new sz_b1_3_2_33), P33_3.lt⟩
   have g_b1_3_2_33 : n0 ≤ b1_3_2_33 := Nat.le_trans (Old.le O28) sz_b1_3_2_33
   have O33 := Old.keep O28 K33q (allS g_b23 all0)
   have K33 : Keep h0 T33.heap ([] : List Addr) := Keep.trans K28 K33q (allS (Or.inr (Nat.le_trans (Nat.le_refl _) (Nat.le_of_eq g23.symm))) all0)
   have N33 := Fr.app N28 N33q
   show Home T33 (mkF m 67 #[.val (.int i0), .val (.int ((((i0.toUInt32 >>> ((16 : Int32) &&& 31).toUInt32).toInt32) &&& (32767 : Int32)) % (3 : Int32)))] [(.ref b23)])
   exact HomeW.retR X33 hx hlk hZ (own_hEL hw) rfl Cd33b1_3_2_33 (fun _ _ q => by cases q; exact (List.mem_of_getElem? (i := 1) rfl)) hret rfl rfl (hb hby d1_67) ⟨b23, b1_3_2_33, k1_3_2_33, rfl, N33, (Nat.le_trans (Nat.le_refl _) (Nat.le_of_eq g23.symm)), K33, P33_0, P33_1, P33_2, Arv.lst P33_3 (cs := [((i0 &&& (255 : Int32)).toInt8.toInt32), ((((i0.toUInt32 >>> ((8 : Int32) &&& 31).toUInt32).toInt32) &&& (255 : Int32)).toInt8.toInt32)]) (cs' := (cs_rm1_0 i0)) (by first | rfl | (simp only [cs_rm1_0, if_neg c2, if_neg c11] <;> rfl) | (simp [cs_rm1_0, if_neg c2, if_neg c11]; done)) rfl rfl⟩ (by decide) (by decide)
theorem rm7_0 (l : Launch) (Z : State) (a0 : Array Value) (hw : HW a0 Z) (ws : List Jvm.Cond) (o0 : Addr) (h0 : Heap) (n0 : Nat) (O0 : Old Z n0 h0) :
    Con l Z (⟨"java/lang/Record", "<init>", "()V"⟩ : MethodName) jdk_30_method_1_code 1 none ws ({ frames := 1, cells := 0, slots := 0, locals := 12 } : Room) #[(.ref o0)] h0 (Pur none h0) := by
 refine own_body (plainFor_of_name own_pn3) (fun m => ef_rm7_0 m o0) ?_
 intro p e s m below meth c s₁ hx hby hlk hml hret hZ hown hnm X0 e0
 have N0 := Fr.nil n0
 refine Home.run X0 hx hby sg7_0_1 (pc' := 1) (L' := #[.val (.ref o0)]) (S' := [(.ref o0)]) rfl ?_
 refine Home.st (initO X0 hx hZ hown (own_w40 hw) (own_w22 hw) (own_w23 hw) e0 rfl (by rw [hml]; rfl) rfl (hb hby d7_1) (by decide) (W := 0) (by exact hW0) (by decide)) fun T1 X1 e1 => ?_
 exact Home.ret0 X1 hx hlk hret (hb hby d7_4) ⟨rfl, rfl, e1⟩ (by decide) (by decide)
theorem rm6_0 (l : Launch) (Z : State) (a0 : Array Value) (hw : HW a0 Z) (ws : List Jvm.Cond) (o0 o1 o2 : Addr) (h0 : Heap) (n0 : Nat) (O0 : Old Z n0 h0) (E_o0 : Exa Z h0 o0 "com/example/invocant/invocant/Canonical") (F_url_o0 : Fld Z h0 o0 "com/example/invocant/invocant/Canonical" "url" "Ljava/lang/String;" .null) (g_o0 : n0 ≤ o0) (F_version_o0 : Fld Z h0 o0 "com/example/invocant/invocant/Canonical" "version" "Ljava/lang/String;" .null) :
    Con l Z (⟨"com/example/invocant/invocant/Canonical", "<init>", "(Ljava/lang/String;Ljava/lang/String;)V"⟩ : MethodName) prog_3_method_1_code 3 none ws ({ frames := 2, cells := 0, slots := 0, locals := 24 } : Room) #[(.ref o0), (.ref o1), (.ref o2)] h0 (fun v h L => v = none ∧ Fr n0 L ∧ Keep h0 h [o0] ∧ Exa Z h o0 "com/example/invocant/invocant/Canonical" ∧ Fld Z h o0 "com/example/invocant/invocant/Canonical" "url" "Ljava/lang/String;" (.ref o1) ∧ Fld Z h o0 "com/example/invocant/invocant/Canonical" "version" "Ljava/lang/String;" (.ref o2)) := by
 refine own_body (plainFor_of_name own_pn4) (fun m => ef_rm6_0 m o0 o1 o2) ?_
 intro p e s m below meth c s₁ hx hby hlk hml hret hZ hown hnm X0 e0
 have N0 := Fr.nil n0
 refine Home.run X0 hx hby sg6_0_1 (pc' := 1) (L' := #[.val (.ref o0), .val (.ref o1), .val (.ref o2)]) (S' := [(.ref o0)]) rfl ?_
 refine Home.st (own_pure (own_special X0 hx hZ hown rfl (own_w35 hw) (own_w36 hw) (own_w38 hw) (own_w39 hw) (by decide) (rm7_0 l Z a0 hw [] o0 h0 n0 O0) e0 rfl (by rw [hml]; rfl) (a := o0) (argsL := []) (rest := []) (lenOf own_pd8 rfl) rfl rfl (W := 0) (by exact hW0) (by decide) (by decide) (hb hby d6_1) (by decide) (by decide))) fun T1 X1 e1 => ?_
 refine Home.run X1 hx hby sg6_4_2 (pc' := 6) (L' := #[.val (.ref o0), .val (.ref o1), .val (.ref o2)]) (S' := [(.ref o1), (.ref o0)]) rfl ?_
 refine Home.wr (putF X1 hx hZ hown (host := "") (Or.inl (own_w41 hw)) Via.refl e1 F_url_o0 E_o0 (Or.inr ⟨(own_w42 hw), rfl, hnm⟩) (own_w1 hw) (ty := (.object "java/lang/String")) (by decide) rfl rfl rfl rfl (hb hby d6_6)) fun T2 h2 X2 e2 W2 => ?_
 have Fw2 := F_url_o0.same W2
 have O2 := O0.wr W2 g_o0
 have K2 : Keep h0 h2 ([o0] : List Addr) := Keep.wr (Keep.refl h0 ([o0] : List Addr)) W2 (Or.inl (List.mem_of_getElem? (i := 0) rfl))
 have N2 := Fr.snoc X2 N0 g_o0
 show Home T2 (mkF m 9 #[.val (.ref o0), .val (.ref o1), .val (.ref o2)] [])
 refine Home.run X2 hx hby sg6_9_2 (pc' := 11) (L' := #[.val (.ref o0), .val (.ref o1), .val (.ref o2)]) (S' := [(.ref o2), (.ref o0)]) rfl ?_
 have q3 := (F_version_o0.other W2 (Or.inr (slot_ne (Or.inr (own_w44 hw)) (Or.inr (own_w42 hw)) (by decide) (t := (.object "java/lang/String")) (t' := (.object "java/lang/String")) (by decide) (by decide))))
 refine Home.wr (putF X2 hx hZ hown (host := "") (Or.inl (own_w43 hw)) Via.refl e2 q3 (E_o0.keep K2) (Or.inr ⟨(own_w44 hw), rfl, hnm⟩) (own_w1 hw) (ty := (.object "java/lang/String")) (by decide) rfl rfl rfl rfl (hb hby d6_11)) fun T4 h4 X4 e4 W4 => ?_
 have Fw4 := q3.same W4
 have O4 := O2.wr W4 g_o0
 have K4 : Keep h0 h4 ([o0] : List Addr) := Keep.wr K2 W4 (Or.inl (List.mem_of_getElem? (i := 0) rfl))
 have N4 := Fr.snoc X4 N2 g_o0
 have q5 := (Fw2.other W4 (Or.inr (slot_ne (Or.inr (own_w42 hw)) (Or.inr (own_w44 hw)) (by decide) (t := (.object "java/lang/String")) (t' := (.object "java/lang/String")) (by decide) (by decide))))
 exact Home.ret0 X4 hx hlk hret (hb hby d6_14) (by rw [show T4.heap = h4 from e4]; exact ⟨rfl, N4, K4, (E_o0.keep K4), q5, Fw4⟩) (by decide) (by decide)
theorem rm8_0 (l : Launch) (Z : State) (a0 : Array Value) (hw : HW a0 Z) (ws : List Jvm.Cond) (i0 i1 : Int32) (h0 : Heap) (n0 : Nat) (O0 : Old Z n0 h0) :
    Con l Z (⟨"com/example/invocant/invocant/CanonicalMatchesPinLaw", "same", "(II)Z"⟩ : MethodName) method_6_code 3 (some .boolean) ws ({ frames := 1, cells := 0, slots := 0, locals := 13 } : Room) #[(.int i0), (.int i1)] h0 (Pur (some (.int (f_rm8_0 i0 i1))) h0) := by
 refine own_body (plainFor_of_name own_pn0) (fun m => ef_rm8_0 m i0 i1) ?_
 intro p e s m below meth c s₁ hx hby hlk hml hret hZ hown hnm X0 e0
 have N0 := Fr.nil n0
 refine Home.run X0 hx hby sg8_0_1 (pc' := 1) (L' := #[.val (.int i0), .val (.int i1), .unset]) (S' := [(.int i0)]) rfl ?_
 refine Home.st (own_pure (own_static X0 hx hZ hown (own_w7 hw) (own_w8 hw) (own_w5 hw) (own_w9 hw) (by decide) (rm2_0 l Z a0 hw [] i0 h0 n0 O0) e0 rfl (by rw [hml]; rfl) (argsL := [(.int i0)]) (rest := []) (lenOf own_pd0 rfl) rfl rfl (W := 0) (by exact hW0) (by decide) (by decide) (hb hby d8_1) (by decide) (by decide))) fun T1 X1 e1 => ?_
 refine Home.run X1 hx hby sg8_4_3 (pc' := 7) (L' := #[.val (.int i0), .val (.int i1), .val (.int ((((i0.toUInt32 >>> ((16 : Int32) &&& 31).toUInt32).toInt32) &&& (32767 : Int32)) % (3 : Int32)))]) (S' := [(.int i1), (.int ((((i0.toUInt32 >>> ((16 : Int32) &&& 31).toUInt32).toInt32) &&& (32767 : Int32)) % (3 : Int32)))]) rfl ?_
 refine Home.st (own_pure (own_static X1 hx hZ hown (own_w7 hw) (own_w8 hw) (own_w5 hw) (own_w9 hw) (by decide) (rm2_0 l Z a0 hw [] i1 h0 n0 O0) e1 rfl (by rw [hml]; rfl) (argsL := [(.int i1)]) (rest := [(.int ((((i0.toUInt32 >>> ((16 : Int32) &&& 31).toUInt32).toInt32) &&& (32767 : Int32)) % (3 : Int32)))]) (lenOf own_pd0 rfl) rfl rfl (W := 1) (by exact hW0) (by decide) (by decide) (hb hby d8_7) (by decide) (by decide))) fun T2 X2 e2 => ?_
 by_cases c3 : ((((i0.toUInt32 >>> ((16 : Int32) &&& 31).toUInt32).toInt32) &&& (32767 : Int32)) % (3 : Int32)) = ((((i1.toUInt32 >>> ((16 : Int32) &&& 31).toUInt32).toInt32) &&& (32767 : Int32)) % (3 : Int32))
 ·
  refine Home.go (fun _ => XS.icmpYes X2.here hx rfl (pc0 := 10) (pc' := 15) rfl (hb hby d8_10) rfl (teq c3).1 (by decide) (by decide)) ?_
  refine Home.run X2 hx hby sg8_15_2 (pc' := 17) (L' := #[.val (.int i0), .val (.int i1), .val (.int ((((i0.toUInt32 >>> ((16 : Int32) &&& 31).toUInt32).toInt32) &&& (32767 : Int32)) % (3 : Int32)))]) (S' := [(.int (1 : Int32)), (.int ((((i0.toUInt32 >>> ((16 : Int32) &&& 31).toUInt32).toInt32) &&& (32767 : Int32)) % (3 : Int32)))]) rfl ?_
  by_cases c4 : ((((i0.toUInt32 >>> ((16 : Int32) &&& 31).toUInt32).toInt32) &&& (32767 : Int32)) % (3 : Int32)) < (1 : Int32)
  ·
   refine Home.go (fun _ => XS.icmpYes X2.here hx rfl (pc0 := 17) (pc' := 33) rfl (hb hby d8_17) rfl (tlt c4).1 (by decide) (by decide)) ?_
   have bd5 : ¬ ((((i0.toUInt32 >>> ((16 : Int32) &&& 31).toUInt32).toInt32) &&& (32767 : Int32)) % (3 : Int32)) < (0 : Int32) ∧ ¬ (0 : Int32) < ((((i0.toUInt32 >>> ((16 : Int32) &&& 31).toUInt32).toInt32) &&& (32767 : Int32)) % (3 : Int32)) := ⟨(bnd_rem (bnd_and ((i0.toUInt32 >>> ((16 : Int32) &&& 31).toUInt32).toInt32) (32767 : Int32) (by decide)) (by decide +kernel) (by decide +kernel)).1, (bnd_dn c4 (by decide +kernel))⟩
   refine Home.run X2 hx hby sg8_33_2 (pc' := 35) (L' := #[.val (.int i0), .val (.int i1), .val (.int ((((i0.toUInt32 >>> ((16 : Int32) &&& 31).toUInt32).toInt32) &&& (32767 : Int32)) % (3 : Int32)))]) (S' := [(.int (2 : Int32)), (.int ((((i0.toUInt32 >>> ((16 : Int32) &&& 31).toUInt32).toInt32) &&& (32767 : Int32)) % (3 : Int32)))]) rfl ?_
   refine Home.go (fun _ => XS.icmpYes X2.here hx rfl (pc0 := 35) (pc' := 51) rfl (hb hby d8_35) rfl (tlt (bnd_lt bd5 (bnd_lit (2 : Int32)) (by decide +kernel))).1 (by decide) (by decide)) ?_
   refine Home.run X2 hx hby sg8_51_1 (pc' := 52) (L' := #[.val (.int i0), .val (.int i1), .val (.int ((((i0.toUInt32 >>> ((16 : Int32) &&& 31).toUInt32).toInt32) &&& (32767 : Int32)) % (3 : Int32)))]) (S' := [(.int (1 : Int32))]) rfl ?_
   exact Home.retN X2 hx hlk (t := .boolean) hret (by simp) (hb hby d8_52) ⟨congrArg some (congrArg Value.int (by first | rfl | (simp only [f_rm8_0, if_pos c3, if_pos c4, nar_i2c, nar_i2b] <;> rfl) | (simp [f_rm8_0, if_pos c3, if_pos c4]; done))), rfl, e2⟩ (by decide) (by decide)
  ·
   refine Home.go (fun _ => XS.icmpNo X2.here hx rfl (hb hby d8_17) rfl (flt c4).1) ?_
   have bd6 : ¬ ((((i0.toUInt32 >>> ((16 : Int32) &&& 31).toUInt32).toInt32) &&& (32767 : Int32)) % (3 : Int32)) < (1 : Int32) ∧ ¬ (2 : Int32) < ((((i0.toUInt32 >>> ((16 : Int32) &&& 31).toUInt32).toInt32) &&& (32767 : Int32)) % (3 : Int32)) := ⟨c4, (bnd_rem (bnd_and ((i0.toUInt32 >>> ((16 : Int32) &&& 31).toUInt32).toInt32) (32767 : Int32) (by decide)) (by decide +kernel) (by decide +kernel)).2⟩
   refine Home.run X2 hx hby sg8_20_1 (pc' := 21) (L' := #[.val (.int i0), .val (.int i1), .val (.int ((((i0.toUInt32 >>> ((16 : Int32) &&& 31).toUInt32).toInt32) &&& (32767 : Int32)) % (3 : Int32)))]) (S' := [(.int i0)]) rfl ?_
   refine Home.st (own_pure (own_static X2 hx hZ hown (own_w64 hw) (own_w65 hw) (own_w5 hw) (own_w66 hw) (by decide) (rm12_0 l Z a0 hw [] i0 h0 n0 O0) e2 rfl (by rw [hml]; rfl) (argsL := [(.int i0)]) (rest := []) (lenOf own_pd3 rfl) rfl rfl (W := 0) (by exact hW0) (by decide) (by decide) (hb hby d8_21) (by decide) (by decide))) fun T7 X7 e7 => ?_
   refine Home.run X7 hx hby sg8_24_1 (pc' := 25) (L' := #[.val (.int i0), .val (.int i1), .val (.int ((((i0.toUInt32 >>> ((16 : Int32) &&& 31).toUInt32).toInt32) &&& (32767 : Int32)) % (3 : Int32)))]) (S' := [(.int i1), (.int (i0 &&& (255 : Int32)))]) rfl ?_
   refine Home.st (own_pure (own_static X7 hx hZ hown (own_w64 hw) (own_w65 hw) (own_w5 hw) (own_w66 hw) (by decide) (rm12_0 l Z a0 hw [] i1 h0 n0 O0) e7 rfl (by rw [hml]; rfl) (argsL := [(.int i1)]) (rest := [(.int (i0 &&& (255 : Int32)))]) (lenOf own_pd3 rfl) rfl rfl (W := 1) (by exact hW0) (by decide) (by decide) (hb hby d8_25) (by decide) (by decide))) fun T8 X8 e8 => ?_
   by_cases c9 : (i0 &&& (255 : Int32)) = (i1 &&& (255 : Int32))
   ·
    refine Home.go (fun _ => XS.icmpYes X8.here hx rfl (pc0 := 28) (pc' := 33) rfl (hb hby d8_28) rfl (teq c9).1 (by decide) (by decide)) ?_
    refine Home.run X8 hx hby sg8_33_2 (pc' := 35) (L' := #[.val (.int i0), .val (.int i1), .val (.int ((((i0.toUInt32 >>> ((16 : Int32) &&& 31).toUInt32).toInt32) &&& (32767 : Int32)) % (3 : Int32)))]) (S' := [(.int (2 : Int32)), (.int ((((i0.toUInt32 >>> ((16 : Int32) &&& 31).toUInt32).toInt32) &&& (32767 : Int32)) % (3 : Int32)))]) rfl ?_
    by_cases c10 : ((((i0.toUInt32 >>> ((16 : Int32) &&& 31).toUInt32).toInt32) &&& (32767 : Int32)) % (3 : Int32)) < (2 : Int32)
    ·
     refine Home.go (fun _ => XS.icmpYes X8.here hx rfl (pc0 := 35) (pc' := 51) rfl (hb hby d8_35) rfl (tlt c10).1 (by decide) (by decide)) ?_
     have bd11 : ¬ ((((i0.toUInt32 >>> ((16 : Int32) &&& 31).toUInt32).toInt32) &&& (32767 : Int32)) % (3 : Int32)) < (1 : Int32) ∧ ¬ (1 : Int32) < ((((i0.toUInt32 >>> ((16 : Int32) &&& 31).toUInt32).toInt32) &&& (32767 : Int32)) % (3 : Int32)) := ⟨bd6.1, (bnd_dn c10 (by decide +kernel))⟩
     refine Home.run X8 hx hby sg8_51_1 (pc' := 52) (L' := #[.val (.int i0), .val (.int i1), .val (.int ((((i0.toUInt32 >>> ((16 : Int32) &&& 31).toUInt32).toInt32) &&& (32767 : Int32)) % (3 : Int32)))]) (S' := [(.int (1 : Int32))]) rfl ?_
     exact Home.retN X8 hx hlk (t := .boolean) hret (by simp) (hb hby d8_52) ⟨congrArg some (congrArg Value.int (by first | rfl | (simp only [f_rm8_0, if_pos c3, if_neg c4, if_pos c9, if_pos c10, nar_i2c, nar_i2b] <;> rfl) | (simp [f_rm8_0, if_pos c3, if_neg c4, if_pos c9, if_pos c10]; done))), rfl, e8⟩ (by decide) (by decide)
    ·
     refine Home.go (fun _ => XS.icmpNo X8.here hx rfl (hb hby d8_35) rfl (flt c10).1) ?_
     have bd12 : ¬ ((((i0.toUInt32 >>> ((16 : Int32) &&& 31).toUInt32).toInt32) &&& (32767 : Int32)) % (3 : Int32)) < (2 : Int32) ∧ ¬ (2 : Int32) < ((((i0.toUInt32 >>> ((16 : Int32) &&& 31).toUInt32).toInt32) &&& (32767 : Int32)) % (3 : Int32)) := ⟨c10, bd6.2⟩
     refine Home.run X8 hx hby sg8_38_1 (pc' := 39) (L' := #[.val (.int i0), .val (.int i1), .val (.int ((((i0.toUInt32 >>> ((16 : Int32) &&& 31).toUInt32).toInt32) &&& (32767 : Int32)) % (3 : Int32)))]) (S' := [(.int i0)]) rfl ?_
     refine Home.st (own_pure (own_static X8 hx hZ hown (own_w77 hw) (own_w78 hw) (own_w5 hw) (own_w79 hw) (by decide) (rm16_0 l Z a0 hw [] i0 h0 n0 O0) e8 rfl (by rw [hml]; rfl) (argsL := [(.int i0)]) (rest := []) (lenOf own_pd3 rfl) rfl rfl (W := 0) (by exact hW0) (by decide) (by decide) (hb hby d8_39) (by decide) (by decide))) fun T13 X13 e13 => ?_
     refine Home.run X13 hx hby sg8_42_1 (pc' := 43) (L' := #[.val (.int i0), .val (.int i1), .val (.int ((((i0.toUInt32 >>> ((16 : Int32) &&& 31).toUInt32).toInt32) &&& (32767 : Int32)) % (3 : Int32)))]) (S' := [(.int i1), (.int (((i0.toUInt32 >>> ((8 : Int32) &&& 31).toUInt32).toInt32) &&& (255 : Int32)))]) rfl ?_
     refine Home.st (own_pure (own_static X13 hx hZ hown (own_w77 hw) (own_w78 hw) (own_w5 hw) (own_w79 hw) (by decide) (rm16_0 l Z a0 hw [] i1 h0 n0 O0) e13 rfl (by rw [hml]; rfl) (argsL := [(.int i1)]) (rest := [(.int (((i0.toUInt32 >>> ((8 : Int32) &&& 31).toUInt32).toInt32) &&& (255 : Int32)))]) (lenOf own_pd3 rfl) rfl rfl (W := 1) (by exact hW0) (by decide) (by decide) (hb hby d8_43) (by decide) (by decide))) fun T14 X14 e14 => ?_
     by_cases c15 : (((i0.toUInt32 >>> ((8 : Int32) &&& 31).toUInt32).toInt32) &&& (255 : Int32)) = (((i1.toUInt32 >>> ((8 : Int32) &&& 31).toUInt32).toInt32) &&& (255 : Int32))
     ·
      refine Home.go (fun _ => XS.icmpYes X14.here hx rfl (pc0 := 46) (pc' := 51) rfl (hb hby d8_46) rfl (teq c15).1 (by decide) (by decide)) ?_
      refine Home.run X14 hx hby sg8_51_1 (pc' := 52) (L' := #[.val (.int i0), .val (.int i1), .val (.int ((((i0.toUInt32 >>> ((16 : Int32) &&& 31).toUInt32).toInt32) &&& (32767 : Int32)) % (3 : Int32)))]) (S' := [(.int (1 : Int32))]) rfl ?_
      exact Home.retN X14 hx hlk (t := .boolean) hret (by simp) (hb hby d8_52) ⟨congrArg some (congrArg Value.int (by first | rfl | (simp only [f_rm8_0, if_pos c3, if_neg c4, if_pos c9, if_neg c10, if_pos c15, nar_i2c, nar_i2b] <;> rfl) | (simp [f_rm8_0, if_pos c3, if_neg c4, if_pos c9, if_neg c10, if_pos c15]; done))), rfl, e14⟩ (by decide) (by decide)
     ·
      refine Home.go (fun _ => XS.icmpNo X14.here hx rfl (hb hby d8_46) rfl (feq c15).1) ?_
      refine Home.run X14 hx hby sg8_49_1 (pc' := 50) (L' := #[.val (.int i0), .val (.int i1), .val (.int ((((i0.toUInt32 >>> ((16 : Int32) &&& 31).toUInt32).toInt32) &&& (32767 : Int32)) % (3 : Int32)))]) (S' := [(.int (0 : Int32))]) rfl ?_
      exact Home.retN X14 hx hlk (t := .boolean) hret (by simp) (hb hby d8_50) ⟨congrArg some (congrArg Value.int (by first | rfl | (simp only [f_rm8_0, if_pos c3, if_neg c4, if_pos c9, if_neg c10, if_neg c15, nar_i2c, nar_i2b] <;> rfl) | (simp [f_rm8_0, if_pos c3, if_neg c4, if_pos c9, if_neg c10, if_neg c15]; done))), rfl, e14⟩ (by decide) (by decide)
   ·
    refine Home.go (fun _ => XS.icmpNo X8.here hx rfl (hb hby d8_28) rfl (feq c9).1) ?_
    refine Home.run X8 hx hby sg8_31_1 (pc' := 32) (L' := #[.val (.int i0), .val (.int i1), .val (.int ((((i0.toUInt32 >>> ((16 : Int32) &&& 31).toUInt32).toInt32) &&& (32767 : Int32)) % (3 : Int32)))]) (S' := [(.int (0 : Int32))]) rfl ?_
    exact Home.retN X8 hx hlk (t := .boolean) hret (by simp) (hb hby d8_32) ⟨congrArg some (congrArg Value.int (by first | rfl | (simp only [f_rm8_0, if_pos c3, if_neg c4, if_neg c9, nar_i2c, nar_i2b] <;> rfl) | (simp [f_rm8_0, if_pos c3, if_neg c4, if_neg c9]; done))), rfl, e8⟩ (by decide) (by decide)
 ·
  refine Home.go (fun _ => XS.icmpNo X2.here hx rfl (hb hby d8_10) rfl (feq c3).1) ?_
  refine Home.run X2 hx hby sg8_13_1 (pc' := 14) (L' := #[.val (.int i0), .val (.int i1), .val (.int ((((i0.toUInt32 >>> ((16 : Int32) &&& 31).toUInt32).toInt32) &&& (32767 : Int32)) % (3 : Int32)))]) (S' := [(.int (0 : Int32))]) rfl ?_
  exact Home.retN X2 hx hlk (t := .boolean) hret (by simp) (hb hby d8_14) ⟨congrArg some (congrArg Value.int (by first | rfl | (simp only [f_rm8_0, if_neg c3, nar_i2c, nar_i2b] <;> rfl) | (simp [f_rm8_0, if_neg c3]; done))), rfl, e2⟩ (by decide) (by decide)
theorem f_rm8_0_bnd (i0 : Int32) (i1 : Int32) : ¬ (f_rm8_0 i0 i1) < (0 : Int32) ∧ ¬ (1 : Int32) < (f_rm8_0 i0 i1) := by unfold f_rm8_0; (repeat' split) <;> first | exact bnd_mono (bnd_lit (1 : Int32)) (by decide +kernel) (by decide +kernel) | exact bnd_mono (bnd_lit (0 : Int32)) (by decide +kernel) (by decide +kernel)
theorem rm11_0 (l : Launch) (Z : State) (a0 : Array Value) (hw : HW a0 Z) (ws : List Jvm.Cond) (o0 o1 : Addr) (k_o0 k_o1 : ClassId) (h0 : Heap) (n0 : Nat) (O0 : Old Z n0 h0) (V_o0 : Arv Z h0 o0 k_o0 .byte (0 : Int32) [] (.int (0 : Int32))) (V_o1 : Arv Z h0 o1 k_o1 .byte (0 : Int32) [] (.int (0 : Int32))) :
    Con l Z (⟨"java/lang/StringLatin1", "equals", "([B[B)Z"⟩ : MethodName) jdk_43_method_13_code 3 (some .boolean) ws ({ frames := 0, cells := 0, slots := 0, locals := 0 } : Room) #[(.ref o0), (.ref o1)] h0 (Pur (some (.int (1 : Int32))) h0) := by
 refine own_body (plainFor_of_name own_pn5) (fun m => ef_rm11_0 m o0 o1) ?_
 intro p e s m below meth c s₁ hx hby hlk hml hret hZ hown hnm X0 e0
 have N0 := Fr.nil n0
 refine Home.run X0 hx hby sg11_0_1 (pc' := 1) (L' := #[.val (.ref o0), .val (.ref o1), .unset]) (S' := [(.ref o0)]) rfl ?_
 obtain ⟨cl1, Ar1, q1, S1, M1, H1, G1⟩ := id V_o0
 refine Home.go (own_alen X0 hx hZ e0 Ar1 S1 M1 rfl rfl (hb hby d11_1)) ?_
 refine Home.run X0 hx hby sg11_2_1 (pc' := 3) (L' := #[.val (.ref o0), .val (.ref o1), .unset]) (S' := [(.ref o1), (.int (0 : Int32))]) rfl ?_
 obtain ⟨cl2, Ar2, q2, S2, M2, H2, G2⟩ := id V_o1
 refine Home.go (own_alen X0 hx hZ e0 Ar2 S2 M2 rfl rfl (hb hby d11_3)) ?_
 refine Home.go (fun _ => XS.icmpNo X0.here hx rfl (hb hby d11_4) rfl (teq (by decide)).2) ?_
 refine Home.run X0 hx hby sg11_7_4 (pc' := 11) (L' := #[.val (.ref o0), .val (.ref o1), .val (.int (0 : Int32))]) (S' := [(.ref o0), (.int (0 : Int32))]) rfl ?_
 obtain ⟨cl3, Ar3, q3, S3, M3, H3, G3⟩ := id V_o0
 refine Home.go (own_alen X0 hx hZ e0 Ar3 S3 M3 rfl rfl (hb hby d11_11)) ?_
 show Home s₁ (mkF m 12 #[.val (.ref o0), .val (.ref o1), .val (.int (0 : Int32))] [(.int (0 : Int32)), (.int (0 : Int32))])
 refine Home.go (fun _ => XS.icmpYes X0.here hx rfl (pc0 := 12) (pc' := 32) rfl (hb hby d11_12) rfl (flt (by decide)).2.1 (by decide) (by decide)) ?_
 refine Home.run X0 hx hby sg11_32_1 (pc' := 33) (L' := #[.val (.ref o0), .val (.ref o1), .val (.int (0 : Int32))]) (S' := [(.int (1 : Int32))]) rfl ?_
 exact Home.retN X0 hx hlk (t := .boolean) hret (by simp) (hb hby d11_33) ⟨congrArg some (congrArg Value.int (by first | rfl | exact nar_i2c _ | exact nar_i2b _)), rfl, e0⟩ (by decide) (by decide)
theorem rm10_0 (l : Launch) (Z : State) (a0 : Array Value) (hw : HW a0 Z) (ws : List Jvm.Cond) (o0 o1 : Addr) (sv_COMPACT_STRINGS : Int32) (p3 p4 : Addr) (k_p3 k_p4 : ClassId) (h0 : Heap) (n0 : Nat) (O0 : Old Z n0 h0) (E_o0 : Exa Z h0 o0 "java/lang/String") (E_o1 : Exa Z h0 o1 "java/lang/String") (ne_o0_o1 : o0 ≠ o1) (S_COMPACT_STRINGS : Sta Z Z.heap "java/lang/String" "COMPACT_STRINGS" "Z" (.int sv_COMPACT_STRINGS)) (hCS : ¬ (sv_COMPACT_STRINGS = (0 : Int32))) (F_coder_o0 : Fld Z h0 o0 "java/lang/String" "coder" "B" (.int (0 : Int32))) (F_coder_o1 : Fld Z h0 o1 "java/lang/String" "coder" "B" (.int (0 : Int32))) (F_value_o0 : Fld Z h0 o0 "java/lang/String" "value" "[B" (.ref p3)) (F_value_o1 : Fld Z h0 o1 "java/lang/String" "value" "[B" (.ref p4)) (V_p3 : Arv Z h0 p3 k_p3 .byte (0 : Int32) [] (.int (0 : Int32))) (V_p4 : Arv Z h0 p4 k_p4 .byte (0 : Int32) [] (.int (0 : Int32))) :
    Con l Z (⟨"java/lang/String", "equals", "(Ljava/lang/Object;)Z"⟩ : MethodName) jdk_42_method_66_code 3 (some .boolean) ws ({ frames := 1, cells := 0, slots := 0, locals := 14 } : Room) #[(.ref o0), (.ref o1)] h0 (Pur (some (.int (1 : Int32))) h0) := by
 refine own_body (plainFor_of_name own_pn1) (fun m => ef_rm10_0 m o0 o1) ?_
 intro p e s m below meth c s₁ hx hby hlk hml hret hZ hown hnm X0 e0
 have N0 := Fr.nil n0
 refine Home.run X0 hx hby sg10_0_2 (pc' := 2) (L' := #[.val (.ref o0), .val (.ref o1), .unset]) (S' := [(.ref o1), (.ref o0)]) rfl ?_
 refine Home.go (fun _ => Jvm.RoadKit.acmp X0 hx rfl rfl rfl (pc0 := 2) (pc' := 7) (same := false) rfl (hb hby d10_2) rfl (decide_eq_false fun q => ne_o0_o1 (Value.ref.inj q)) (by decide) (by decide)) ?_
 show Home s₁ (mkF m 7 #[.val (.ref o0), .val (.ref o1), .unset] [])
 refine Home.run X0 hx hby sg10_7_1 (pc' := 8) (L' := #[.val (.ref o0), .val (.ref o1), .unset]) (S' := [(.ref o1)]) rfl ?_
 refine Home.st (instY X0 hx hZ hown (own_w58 hw) e0 (Ins.self E_o1) rfl rfl (hb hby d10_8)) fun T1 X1 e1 => ?_
 refine Home.go (fun _ => XS.ifNo X1.here hx rfl (hb hby d10_11) rfl ((if0 _ _).trans (feq (by decide)).1)) ?_
 refine Home.run X1 hx hby sg10_14_1 (pc' := 15) (L' := #[.val (.ref o0), .val (.ref o1), .unset]) (S' := [(.ref o1)]) rfl ?_
 refine Home.st (castY X1 hx hZ hown (own_w58 hw) e1 (Ins.self E_o1) rfl rfl (hb hby d10_15)) fun T2 X2 e2 => ?_
 refine Home.run X2 hx hby sg10_18_1 (pc' := 19) (L' := #[.val (.ref o0), .val (.ref o1), .val (.ref o1)]) (S' := []) rfl ?_
 refine Home.st (getS2 X2 hx hZ hown (host := "") (Or.inl (own_w59 hw)) Via.refl e2 (S_COMPACT_STRINGS.ext O0.2) rfl (hb hby d10_19)) fun T3 X3 e3 => ?_
 refine Home.go (fun _ => XS.ifNo X3.here hx rfl (hb hby d10_22) rfl ((if0 _ _).trans (feq hCS).1)) ?_
 refine Home.run X3 hx hby sg10_25_1 (pc' := 26) (L' := #[.val (.ref o0), .val (.ref o1), .val (.ref o1)]) (S' := [(.ref o0)]) rfl ?_
 refine Home.st (getF X3 hx hZ hown (host := "") (Or.inl (own_w31 hw)) Via.refl e3 F_coder_o0 rfl rfl (hb hby d10_26)) fun T4 X4 e4 => ?_
 show Home T4 (mkF m 29 #[.val (.ref o0), .val (.ref o1), .val (.ref o1)] [(.int (0 : Int32))])
 refine Home.run X4 hx hby sg10_29_1 (pc' := 30) (L' := #[.val (.ref o0), .val (.ref o1), .val (.ref o1)]) (S' := [(.ref o1), (.int (0 : Int32))]) rfl ?_
 refine Home.st (getF X4 hx hZ hown (host := "") (Or.inl (own_w31 hw)) Via.refl e4 F_coder_o1 rfl rfl (hb hby d10_30)) fun T5 X5 e5 => ?_
 refine Home.go (fun _ => XS.icmpNo X5.here hx rfl (hb hby d10_33) rfl (teq (by decide)).2) ?_
 refine Home.run X5 hx hby sg10_36_1 (pc' := 37) (L' := #[.val (.ref o0), .val (.ref o1), .val (.ref o1)]) (S' := [(.ref o0)]) rfl ?_
 refine Home.st (getF X5 hx hZ hown (host := "") (Or.inl (own_w30 hw)) Via.refl e5 F_value_o0 rfl rfl (hb hby d10_37)) fun T6 X6 e6 => ?_
 refine Home.run X6 hx hby sg10_40_1 (pc' := 41) (L' := #[.val (.ref o0), .val (.ref o1), .val (.ref o1)]) (S' := [(.ref o1), (.ref p3)]) rfl ?_
 refine Home.st (getF X6 hx hZ hown (host := "") (Or.inl (own_w30 hw)) Via.refl e6 F_value_o1 rfl rfl (hb hby d10_41)) fun T7 X7 e7 => ?_
 refine Home.st (own_pure (own_static X7 hx hZ hown (own_w60 hw) (own_w61 hw) (own_w62 hw) (own_w63 hw) (by decide) (rm11_0 l Z a0 hw [] p3 p4 k_p3 k_p4 h0 n0 O0 V_p3 V_p4) e7 rfl (by rw [hml]; rfl) (argsL := [(.ref p3), (.ref p4)]) (rest := []) (lenOf own_pd11 rfl) rfl rfl (W := 0) (by exact hW0) (by decide) (by decide) (hb hby d10_44) (by decide) (by decide))) fun T8 X8 e8 => ?_
 show Home T8 (mkF m 47 #[.val (.ref o0), .val (.ref o1), .val (.ref o1)] [(.int (1 : Int32))])
 refine Home.go (fun _ => XS.ifNo X8.here hx rfl (hb hby d10_47) rfl ((if0 _ _).trans (feq (by decide)).1)) ?_
 refine Home.run X8 hx hby sg10_50_2 (pc' := 55) (L' := #[.val (.ref o0), .val (.ref o1), .val (.ref o1)]) (S' := [(.int (1 : Int32))]) rfl ?_
 exact Home.retN X8 hx hlk (t := .boolean) hret (by simp) (hb hby d10_55) ⟨congrArg some (congrArg Value.int (by first | rfl | exact nar_i2c _ | exact nar_i2b _)), rfl, e8⟩ (by decide) (by decide)
theorem rm11_1 (l : Launch) (Z : State) (a0 : Array Value) (hw : HW a0 Z) (ws : List Jvm.Cond) (o0 o1 : Addr) (k_o0 : ClassId) (n_o0 : Int32) (l_o0 : List Value) (k_o1 : ClassId) (n_o1 : Int32) (l_o1 : List Value) (h0 : Heap) (n0 : Nat) (O0 : Old Z n0 h0) (V_o0 : Arv Z h0 o0 k_o0 .byte n_o0 l_o0 (.int (0 : Int32))) (V_o1 : Arv Z h0 o1 k_o1 .byte n_o1 l_o1 (.int (0 : Int32))) (pn0 : ¬ (n_o0 = n_o1)) :
    Con l Z (⟨"java/lang/StringLatin1", "equals", "([B[B)Z"⟩ : MethodName) jdk_43_method_13_code 3 (some .boolean) ws ({ frames := 0, cells := 0, slots := 0, locals := 0 } : Room) #[(.ref o0), (.ref o1)] h0 (Pur (some (.int (0 : Int32))) h0) := by
 refine own_body (plainFor_of_name own_pn5) (fun m => ef_rm11_1 m o0 o1) ?_
 intro p e s m below meth c s₁ hx hby hlk hml hret hZ hown hnm X0 e0
 have N0 := Fr.nil n0
 refine Home.run X0 hx hby sg11_0_1 (pc' := 1) (L' := #[.val (.ref o0), .val (.ref o1), .unset]) (S' := [(.ref o0)]) rfl ?_
 obtain ⟨cl1, Ar1, q1, S1, M1, H1, G1⟩ := id V_o0
 refine Home.go (own_alen X0 hx hZ e0 Ar1 S1 M1 rfl rfl (hb hby d11_1)) ?_
 refine Home.run X0 hx hby sg11_2_1 (pc' := 3) (L' := #[.val (.ref o0), .val (.ref o1), .unset]) (S' := [(.ref o1), (.int n_o0)]) rfl ?_
 obtain ⟨cl2, Ar2, q2, S2, M2, H2, G2⟩ := id V_o1
 refine Home.go (own_alen X0 hx hZ e0 Ar2 S2 M2 rfl rfl (hb hby d11_3)) ?_
 refine Home.go (fun _ => XS.icmpYes X0.here hx rfl (pc0 := 4) (pc' := 34) rfl (hb hby d11_4) rfl (feq pn0).2 (by decide) (by decide)) ?_
 refine Home.run X0 hx hby sg11_34_1 (pc' := 35) (L' := #[.val (.ref o0), .val (.ref o1), .unset]) (S' := [(.int (0 : Int32))]) rfl ?_
 exact Home.retN X0 hx hlk (t := .boolean) hret (by simp) (hb hby d11_35) ⟨congrArg some (congrArg Value.int (by first | rfl | exact nar_i2c _ | exact nar_i2b _)), rfl, e0⟩ (by decide) (by decide)
theorem rm10_1 (l : Launch) (Z : State) (a0 : Array Value) (hw : HW a0 Z) (ws : List Jvm.Cond) (o0 o1 p3 : Addr) (k_p3 : ClassId) (n_p3 : Int32) (l_p3 : List Value) (p4 : Addr) (k_p4 : ClassId) (n_p4 : Int32) (l_p4 : List Value) (sv_COMPACT_STRINGS : Int32) (h0 : Heap) (n0 : Nat) (O0 : Old Z n0 h0) (V_p3 : Arv Z h0 p3 k_p3 .byte n_p3 l_p3 (.int (0 : Int32))) (V_p4 : Arv Z h0 p4 k_p4 .byte n_p4 l_p4 (.int (0 : Int32))) (pn0 : ¬ (n_p3 = n_p4)) (E_o0 : Exa Z h0 o0 "java/lang/String") (E_o1 : Exa Z h0 o1 "java/lang/String") (ne_o0_o1 : o0 ≠ o1) (S_COMPACT_STRINGS : Sta Z Z.heap "java/lang/String" "COMPACT_STRINGS" "Z" (.int sv_COMPACT_STRINGS)) (hCS : ¬ (sv_COMPACT_STRINGS = (0 : Int32))) (F_coder_o0 : Fld Z h0 o0 "java/lang/String" "coder" "B" (.int (0 : Int32))) (F_coder_o1 : Fld Z h0 o1 "java/lang/String" "coder" "B" (.int (0 : Int32))) (F_value_o0 : Fld Z h0 o0 "java/lang/String" "value" "[B" (.ref p3)) (F_value_o1 : Fld Z h0 o1 "java/lang/String" "value" "[B" (.ref p4)) :
    Con l Z (⟨"java/lang/String", "equals", "(Ljava/lang/Object;)Z"⟩ : MethodName) jdk_42_method_66_code 3 (some .boolean) ws ({ frames := 1, cells := 0, slots := 0, locals := 14 } : Room) #[(.ref o0), (.ref o1)] h0 (Pur (some (.int (0 : Int32))) h0) := by
 refine own_body (plainFor_of_name own_pn1) (fun m => ef_rm10_1 m o0 o1) ?_
 intro p e s m below meth c s₁ hx hby hlk hml hret hZ hown hnm X0 e0
 have N0 := Fr.nil n0
 refine Home.run X0 hx hby sg10_0_2 (pc' := 2) (L' := #[.val (.ref o0), .val (.ref o1), .unset]) (S' := [(.ref o1), (.ref o0)]) rfl ?_
 refine Home.go (fun _ => Jvm.RoadKit.acmp X0 hx rfl rfl rfl (pc0 := 2) (pc' := 7) (same := false) rfl (hb hby d10_2) rfl (decide_eq_false fun q => ne_o0_o1 (Value.ref.inj q)) (by decide) (by decide)) ?_
 show Home s₁ (mkF m 7 #[.val (.ref o0), .val (.ref o1), .unset] [])
 refine Home.run X0 hx hby sg10_7_1 (pc' := 8) (L' := #[.val (.ref o0), .val (.ref o1), .unset]) (S' := [(.ref o1)]) rfl ?_
 refine Home.st (instY X0 hx hZ hown (own_w58 hw) e0 (Ins.self E_o1) rfl rfl (hb hby d10_8)) fun T1 X1 e1 => ?_
 refine Home.go (fun _ => XS.ifNo X1.here hx rfl (hb hby d10_11) rfl ((if0 _ _).trans (feq (by decide)).1)) ?_
 refine Home.run X1 hx hby sg10_14_1 (pc' := 15) (L' := #[.val (.ref o0), .val (.ref o1), .unset]) (S' := [(.ref o1)]) rfl ?_
 refine Home.st (castY X1 hx hZ hown (own_w58 hw) e1 (Ins.self E_o1) rfl rfl (hb hby d10_15)) fun T2 X2 e2 => ?_
 refine Home.run X2 hx hby sg10_18_1 (pc' := 19) (L' := #[.val (.ref o0), .val (.ref o1), .val (.ref o1)]) (S' := []) rfl ?_
 refine Home.st (getS2 X2 hx hZ hown (host := "") (Or.inl (own_w59 hw)) Via.refl e2 (S_COMPACT_STRINGS.ext O0.2) rfl (hb hby d10_19)) fun T3 X3 e3 => ?_
 refine Home.go (fun _ => XS.ifNo X3.here hx rfl (hb hby d10_22) rfl ((if0 _ _).trans (feq hCS).1)) ?_
 refine Home.run X3 hx hby sg10_25_1 (pc' := 26) (L' := #[.val (.ref o0), .val (.ref o1), .val (.ref o1)]) (S' := [(.ref o0)]) rfl ?_
 refine Home.st (getF X3 hx hZ hown (host := "") (Or.inl (own_w31 hw)) Via.refl e3 F_coder_o0 rfl rfl (hb hby d10_26)) fun T4 X4 e4 => ?_
 show Home T4 (mkF m 29 #[.val (.ref o0), .val (.ref o1), .val (.ref o1)] [(.int (0 : Int32))])
 refine Home.run X4 hx hby sg10_29_1 (pc' := 30) (L' := #[.val (.ref o0), .val (.ref o1), .val (.ref o1)]) (S' := [(.ref o1), (.int (0 : Int32))]) rfl ?_
 refine Home.st (getF X4 hx hZ hown (host := "") (Or.inl (own_w31 hw)) Via.refl e4 F_coder_o1 rfl rfl (hb hby d10_30)) fun T5 X5 e5 => ?_
 refine Home.go (fun _ => XS.icmpNo X5.here hx rfl (hb hby d10_33) rfl (teq (by decide)).2) ?_
 refine Home.run X5 hx hby sg10_36_1 (pc' := 37) (L' := #[.val (.ref o0), .val (.ref o1), .val (.ref o1)]) (S' := [(.ref o0)]) rfl ?_
 refine Home.st (getF X5 hx hZ hown (host := "") (Or.inl (own_w30 hw)) Via.refl e5 F_value_o0 rfl rfl (hb hby d10_37)) fun T6 X6 e6 => ?_
 refine Home.run X6 hx hby sg10_40_1 (pc' := 41) (L' := #[.val (.ref o0), .val (.ref o1), .val (.ref o1)]) (S' := [(.ref o1), (.ref p3)]) rfl ?_
 refine Home.st (getF X6 hx hZ hown (host := "") (Or.inl (own_w30 hw)) Via.refl e6 F_value_o1 rfl rfl (hb hby d10_41)) fun T7 X7 e7 => ?_
 refine Home.st (own_pure (own_static X7 hx hZ hown (own_w60 hw) (own_w61 hw) (own_w62 hw) (own_w63 hw) (by decide) (rm11_1 l Z a0 hw [] p3 p4 k_p3 n_p3 l_p3 k_p4 n_p4 l_p4 h0 n0 O0 V_p3 V_p4 pn0) e7 rfl (by rw [hml]; rfl) (argsL := [(.ref p3), (.ref p4)]) (rest := []) (lenOf own_pd11 rfl) rfl rfl (W := 0) (by exact hW0) (by decide) (by decide) (hb hby d10_44) (by decide) (by decide))) fun T8 X8 e8 => ?_
 show Home T8 (mkF m 47 #[.val (.ref o0), .val (.ref o1), .val (.ref o1)] [(.int (0 : Int32))])
 refine Home.go (fun _ => XS.ifYes X8.here hx rfl (pc0 := 47) (pc' := 54) rfl (hb hby d10_47) rfl ((if0 _ _).trans (teq (by decide)).1) (by decide) (by decide)) ?_
 refine Home.run X8 hx hby sg10_54_1 (pc' := 55) (L' := #[.val (.ref o0), .val (.ref o1), .val (.ref o1)]) (S' := [(.int (0 : Int32))]) rfl ?_
 exact Home.retN X8 hx hlk (t := .boolean) hret (by simp) (hb hby d10_55) ⟨congrArg some (congrArg Value.int (by first | rfl | exact nar_i2c _ | exact nar_i2b _)), rfl, e8⟩ (by decide) (by decide)
theorem rm11_2 (l : Launch) (Z : State) (a0 : Array Value) (hw : HW a0 Z) (ws : List Jvm.Cond) (o0 o1 : Addr) (k_o0 : ClassId) (u1 : Int32) (k_o1 : ClassId) (u2 : Int32) (h0 : Heap) (n0 : Nat) (O0 : Old Z n0 h0) (V_o0 : Arv Z h0 o0 k_o0 .byte (1 : Int32) [(.int u1)] (.int (0 : Int32))) (V_o1 : Arv Z h0 o1 k_o1 .byte (1 : Int32) [(.int u2)] (.int (0 : Int32))) :
    Con l Z (⟨"java/lang/StringLatin1", "equals", "([B[B)Z"⟩ : MethodName) jdk_43_method_13_code 3 (some .boolean) ws ({ frames := 0, cells := 0, slots := 0, locals := 0 } : Room) #[(.ref o0), (.ref o1)] h0 (Pur (some (.int (f_rm11_2 u1 u2))) h0) := by
 refine own_body (plainFor_of_name own_pn5) (fun m => ef_rm11_2 m o0 o1) ?_
 intro p e s m below meth c s₁ hx hby hlk hml hret hZ hown hnm X0 e0
 have N0 := Fr.nil n0
 refine Home.run X0 hx hby sg11_0_1 (pc' := 1) (L' := #[.val (.ref o0), .val (.ref o1), .unset]) (S' := [(.ref o0)]) rfl ?_
 obtain ⟨cl1, Ar1, q1, S1, M1, H1, G1⟩ := id V_o0
 refine Home.go (own_alen X0 hx hZ e0 Ar1 S1 M1 rfl rfl (hb hby d11_1)) ?_
 refine Home.run X0 hx hby sg11_2_1 (pc' := 3) (L' := #[.val (.ref o0), .val (.ref o1), .unset]) (S' := [(.ref o1), (.int (1 : Int32))]) rfl ?_
 obtain ⟨cl2, Ar2, q2, S2, M2, H2, G2⟩ := id V_o1
 refine Home.go (own_alen X0 hx hZ e0 Ar2 S2 M2 rfl rfl (hb hby d11_3)) ?_
 refine Home.go (fun _ => XS.icmpNo X0.here hx rfl (hb hby d11_4) rfl (teq (by decide)).2) ?_
 refine Home.run X0 hx hby sg11_7_4 (pc' := 11) (L' := #[.val (.ref o0), .val (.ref o1), .val (.int (0 : Int32))]) (S' := [(.ref o0), (.int (0 : Int32))]) rfl ?_
 obtain ⟨cl3, Ar3, q3, S3, M3, H3, G3⟩ := id V_o0
 refine Home.go (own_alen X0 hx hZ e0 Ar3 S3 M3 rfl rfl (hb hby d11_11)) ?_
 show Home s₁ (mkF m 12 #[.val (.ref o0), .val (.ref o1), .val (.int (0 : Int32))] [(.int (1 : Int32)), (.int (0 : Int32))])
 refine Home.go (fun _ => XS.icmpNo X0.here hx rfl (hb hby d11_12) rfl (tlt (by decide)).2.1) ?_
 refine Home.run X0 hx hby sg11_15_2 (pc' := 17) (L' := #[.val (.ref o0), .val (.ref o1), .val (.int (0 : Int32))]) (S' := [(.int (0 : Int32)), (.ref o0)]) rfl ?_
 obtain ⟨cl4, Ar4, q4, S4, M4, H4, G4⟩ := id V_o0
 have ib4 : ¬ ((0 : Int32) < 0 ∨ cl4.slots.size ≤ ((0 : Int32)).toNatClampNeg) := inb_of S4 ⟨by decide, by decide⟩
 refine Home.go (X0.baloadBytes hx (j := (0 : Int32)) (v := (.int u1)) (by rw [e0]; exact Ar4.1) (State.isArrayOf_alike hZ.alike Ar4.2.1) Ar4.2.2 ib4 (Has.at H4 ib4 rfl) rfl rfl (hb hby d11_17)) ?_
 refine Home.run X0 hx hby sg11_18_2 (pc' := 20) (L' := #[.val (.ref o0), .val (.ref o1), .val (.int (0 : Int32))]) (S' := [(.int (0 : Int32)), (.ref o1), (.int u1)]) rfl ?_
 obtain ⟨cl5, Ar5, q5, S5, M5, H5, G5⟩ := id V_o1
 have ib5 : ¬ ((0 : Int32) < 0 ∨ cl5.slots.size ≤ ((0 : Int32)).toNatClampNeg) := inb_of S5 ⟨by decide, by decide⟩
 refine Home.go (X0.baloadBytes hx (j := (0 : Int32)) (v := (.int u2)) (by rw [e0]; exact Ar5.1) (State.isArrayOf_alike hZ.alike Ar5.2.1) Ar5.2.2 ib5 (Has.at H5 ib5 rfl) rfl rfl (hb hby d11_20)) ?_
 show Home s₁ (mkF m 21 #[.val (.ref o0), .val (.ref o1), .val (.int (0 : Int32))] [(.int u2), (.int u1)])
 by_cases c6 : u1 = u2
 ·
  refine Home.go (fun _ => XS.icmpYes X0.here hx rfl (pc0 := 21) (pc' := 26) rfl (hb hby d11_21) rfl (teq c6).1 (by decide) (by decide)) ?_
  refine Home.run X0 hx hby sg11_26_4 (pc' := 11) (L' := #[.val (.ref o0), .val (.ref o1), .val (.int (1 : Int32))]) (S' := [(.ref o0), (.int (1 : Int32))]) rfl ?_
  obtain ⟨cl7, Ar7, q7, S7, M7, H7, G7⟩ := id V_o0
  refine Home.go (own_alen X0 hx hZ e0 Ar7 S7 M7 rfl rfl (hb hby d11_11)) ?_
  refine Home.go (fun _ => XS.icmpYes X0.here hx rfl (pc0 := 12) (pc' := 32) rfl (hb hby d11_12) rfl (flt (by decide)).2.1 (by decide) (by decide)) ?_
  refine Home.run X0 hx hby sg11_32_1 (pc' := 33) (L' := #[.val (.ref o0), .val (.ref o1), .val (.int (1 : Int32))]) (S' := [(.int (1 : Int32))]) rfl ?_
  exact Home.retN X0 hx hlk (t := .boolean) hret (by simp) (hb hby d11_33) ⟨congrArg some (congrArg Value.int (by first | rfl | (simp only [f_rm11_2, if_pos c6, nar_i2c, nar_i2b] <;> rfl) | (simp [f_rm11_2, if_pos c6]; done))), rfl, e0⟩ (by decide) (by decide)
 ·
  refine Home.go (fun _ => XS.icmpNo X0.here hx rfl (hb hby d11_21) rfl (feq c6).1) ?_
  refine Home.run X0 hx hby sg11_24_1 (pc' := 25) (L' := #[.val (.ref o0), .val (.ref o1), .val (.int (0 : Int32))]) (S' := [(.int (0 : Int32))]) rfl ?_
  exact Home.retN X0 hx hlk (t := .boolean) hret (by simp) (hb hby d11_25) ⟨congrArg some (congrArg Value.int (by first | rfl | (simp only [f_rm11_2, if_neg c6, nar_i2c, nar_i2b] <;> rfl) | (simp [f_rm11_2, if_neg c6]; done))), rfl, e0⟩ (by decide) (by decide)
theorem f_rm11_2_bnd (u1 : Int32) (u2 : Int32) : ¬ (f_rm11_2 u1 u2) < (0 : Int32) ∧ ¬ (1 : Int32) < (f_rm11_2 u1 u2) := by unfold f_rm11_2; (repeat' split) <;> first | exact bnd_mono (bnd_lit (1 : Int32)) (by decide +kernel) (by decide +kernel) | exact bnd_mono (bnd_lit (0 : Int32)) (by decide +kernel) (by decide +kernel)
theorem rm10_2 (l : Launch) (Z : State) (a0 : Array Value) (hw : HW a0 Z) (ws : List Jvm.Cond) (o0 o1 : Addr) (sv_COMPACT_STRINGS : Int32) (p3 p4 : Addr) (k_p3 : ClassId) (u1 : Int32) (k_p4 : ClassId) (u2 : Int32) (h0 : Heap) (n0 : Nat) (O0 : Old Z n0 h0) (E_o0 : Exa Z h0 o0 "java/lang/String") (E_o1 : Exa Z h0 o1 "java/lang/String") (ne_o0_o1 : o0 ≠ o1) (S_COMPACT_STRINGS : Sta Z Z.heap "java/lang/String" "COMPACT_STRINGS" "Z" (.int sv_COMPACT_STRINGS)) (hCS : ¬ (sv_COMPACT_STRINGS = (0 : Int32))) (F_coder_o0 : Fld Z h0 o0 "java/lang/String" "coder" "B" (.int (0 : Int32))) (F_coder_o1 : Fld Z h0 o1 "java/lang/String" "coder" "B" (.int (0 : Int32))) (F_value_o0 : Fld Z h0 o0 "java/lang/String" "value" "[B" (.ref p3)) (F_value_o1 : Fld Z h0 o1 "java/lang/String" "value" "[B" (.ref p4)) (V_p3 : Arv Z h0 p3 k_p3 .byte (1 : Int32) [(.int u1)] (.int (0 : Int32))) (V_p4 : Arv Z h0 p4 k_p4 .byte (1 : Int32) [(.int u2)] (.int (0 : Int32))) :
    Con l Z (⟨"java/lang/String", "equals", "(Ljava/lang/Object;)Z"⟩ : MethodName) jdk_42_method_66_code 3 (some .boolean) ws ({ frames := 1, cells := 0, slots := 0, locals := 14 } : Room) #[(.ref o0), (.ref o1)] h0 (Pur (some (.int (f_rm10_2 u1 u2))) h0) := by
 refine own_body (plainFor_of_name own_pn1) (fun m => ef_rm10_2 m o0 o1) ?_
 intro p e s m below meth c s₁ hx hby hlk hml hret hZ hown hnm X0 e0
 have N0 := Fr.nil n0
 refine Home.run X0 hx hby sg10_0_2 (pc' := 2) (L' := #[.val (.ref o0), .val (.ref o1), .unset]) (S' := [(.ref o1), (.ref o0)]) rfl ?_
 refine Home.go (fun _ => Jvm.RoadKit.acmp X0 hx rfl rfl rfl (pc0 := 2) (pc' := 7) (same := false) rfl (hb hby d10_2) rfl (decide_eq_false fun q => ne_o0_o1 (Value.ref.inj q)) (by decide) (by decide)) ?_
 show Home s₁ (mkF m 7 #[.val (.ref o0), .val (.ref o1), .unset] [])
 refine Home.run X0 hx hby sg10_7_1 (pc' := 8) (L' := #[.val (.ref o0), .val (.ref o1), .unset]) (S' := [(.ref o1)]) rfl ?_
 refine Home.st (instY X0 hx hZ hown (own_w58 hw) e0 (Ins.self E_o1) rfl rfl (hb hby d10_8)) fun T1 X1 e1 => ?_
 refine Home.go (fun _ => XS.ifNo X1.here hx rfl (hb hby d10_11) rfl ((if0 _ _).trans (feq (by decide)).1)) ?_
 refine Home.run X1 hx hby sg10_14_1 (pc' := 15) (L' := #[.val (.ref o0), .val (.ref o1), .unset]) (S' := [(.ref o1)]) rfl ?_
 refine Home.st (castY X1 hx hZ hown (own_w58 hw) e1 (Ins.self E_o1) rfl rfl (hb hby d10_15)) fun T2 X2 e2 => ?_
 refine Home.run X2 hx hby sg10_18_1 (pc' := 19) (L' := #[.val (.ref o0), .val (.ref o1), .val (.ref o1)]) (S' := []) rfl ?_
 refine Home.st (getS2 X2 hx hZ hown (host := "") (Or.inl (own_w59 hw)) Via.refl e2 (S_COMPACT_STRINGS.ext O0.2) rfl (hb hby d10_19)) fun T3 X3 e3 => ?_
 refine Home.go (fun _ => XS.ifNo X3.here hx rfl (hb hby d10_22) rfl ((if0 _ _).trans (feq hCS).1)) ?_
 refine Home.run X3 hx hby sg10_25_1 (pc' := 26) (L' := #[.val (.ref o0), .val (.ref o1), .val (.ref o1)]) (S' := [(.ref o0)]) rfl ?_
 refine Home.st (getF X3 hx hZ hown (host := "") (Or.inl (own_w31 hw)) Via.refl e3 F_coder_o0 rfl rfl (hb hby d10_26)) fun T4 X4 e4 => ?_
 show Home T4 (mkF m 29 #[.val (.ref o0), .val (.ref o1), .val (.ref o1)] [(.int (0 : Int32))])
 refine Home.run X4 hx hby sg10_29_1 (pc' := 30) (L' := #[.val (.ref o0), .val (.ref o1), .val (.ref o1)]) (S' := [(.ref o1), (.int (0 : Int32))]) rfl ?_
 refine Home.st (getF X4 hx hZ hown (host := "") (Or.inl (own_w31 hw)) Via.refl e4 F_coder_o1 rfl rfl (hb hby d10_30)) fun T5 X5 e5 => ?_
 refine Home.go (fun _ => XS.icmpNo X5.here hx rfl (hb hby d10_33) rfl (teq (by decide)).2) ?_
 refine Home.run X5 hx hby sg10_36_1 (pc' := 37) (L' := #[.val (.ref o0), .val (.ref o1), .val (.ref o1)]) (S' := [(.ref o0)]) rfl ?_
 refine Home.st (getF X5 hx hZ hown (host := "") (Or.inl (own_w30 hw)) Via.refl e5 F_value_o0 rfl rfl (hb hby d10_37)) fun T6 X6 e6 => ?_
 refine Home.run X6 hx hby sg10_40_1 (pc' := 41) (L' := #[.val (.ref o0), .val (.ref o1), .val (.ref o1)]) (S' := [(.ref o1), (.ref p3)]) rfl ?_
 refine Home.st (getF X6 hx hZ hown (host := "") (Or.inl (own_w30 hw)) Via.refl e6 F_value_o1 rfl rfl (hb hby d10_41)) fun T7 X7 e7 => ?_
 refine Home.st (own_pure (own_static X7 hx hZ hown (own_w60 hw) (own_w61 hw) (own_w62 hw) (own_w63 hw) (by decide) (rm11_2 l Z a0 hw [] p3 p4 k_p3 u1 k_p4 u2 h0 n0 O0 V_p3 V_p4) e7 rfl (by rw [hml]; rfl) (argsL := [(.ref p3), (.ref p4)]) (rest := []) (lenOf own_pd11 rfl) rfl rfl (W := 0) (by exact hW0) (by decide) (by decide) (hb hby d10_44) (by decide) (by decide))) fun T8 X8 e8 => ?_
 show Home T8 (mkF m 47 #[.val (.ref o0), .val (.ref o1), .val (.ref o1)] [(.int (f_rm11_2 u1 u2))])
 obtain ⟨r9, hr9⟩ : ∃ z, z = (f_rm11_2 u1 u2) := ⟨_, rfl⟩
 rw [← hr9]
 have br9 : ¬ r9 < (0 : Int32) ∧ ¬ (1 : Int32) < r9 := by rw [hr9]; exact f_rm11_2_bnd u1 u2
 suffices J13 : ∀ {T : State} (X : Stand p l e ({ frames := 1, cells := 0, slots := 0, locals := 14 } : Room) s m #[(.ref o0), (.ref o1)] below meth c T [] 0 0) (eT : T.heap = h0) (v14 : Int32) (hv14 : v14 = (if r9 = (0 : Int32) then (0 : Int32) else (1 : Int32))), @Home p e below _ T (mkF m 55 #[.val (.ref o0), .val (.ref o1), .val (.ref o1)] [(.int v14)]) by
  by_cases c10 : r9 = (0 : Int32)
  ·
   refine Home.go (fun _ => XS.ifYes X8.here hx rfl (pc0 := 47) (pc' := 54) rfl (hb hby d10_47) rfl ((if0 _ _).trans (teq c10).1) (by decide) (by decide)) ?_
   have bd11 : ¬ r9 < (0 : Int32) ∧ ¬ (0 : Int32) < r9 := ⟨(bnd_eql c10), (bnd_eqr c10)⟩
   refine Home.run X8 hx hby sg10_54_1 (pc' := 55) (L' := #[.val (.ref o0), .val (.ref o1), .val (.ref o1)]) (S' := [(.int (0 : Int32))]) rfl ?_
   exact J13 X8 e8 _ (by simp only [if_pos c10])
  ·
   refine Home.go (fun _ => XS.ifNo X8.here hx rfl (hb hby d10_47) rfl ((if0 _ _).trans (feq c10).1)) ?_
   have bd12 : ¬ r9 < (1 : Int32) ∧ ¬ (1 : Int32) < r9 := ⟨(bnd_nel br9.1 c10 (by decide +kernel)), br9.2⟩
   refine Home.run X8 hx hby sg10_50_2 (pc' := 55) (L' := #[.val (.ref o0), .val (.ref o1), .val (.ref o1)]) (S' := [(.int (1 : Int32))]) rfl ?_
   exact J13 X8 e8 _ (by simp only [if_neg c10])
 intro TJ13 XJ13 eJ13 v14 hv14
 have bv14 : ¬ v14 < (0 : Int32) ∧ ¬ (1 : Int32) < v14 := by rw [hv14]; exact (bnd_ite (bnd_mono (bnd_lit (0 : Int32)) (by decide +kernel) (by decide +kernel)) (bnd_mono (bnd_lit (1 : Int32)) (by decide +kernel) (by decide +kernel)))
 show Home TJ13 (mkF m 55 #[.val (.ref o0), .val (.ref o1), .val (.ref o1)] [(.int v14)])
 exact Home.retN XJ13 hx hlk (t := .boolean) hret (by simp) (hb hby d10_55) ⟨congrArg some (congrArg Value.int (by subst hv14; subst hr9; first | rfl | (simp only [f_rm10_2, nar_bool_id bv14 (by decide +kernel) (by decide +kernel), nar_i2c, nar_i2b] <;> rfl) | (simp [f_rm10_2, nar_bool_id bv14 (by decide +kernel) (by decide +kernel)]; done))), rfl, eJ13⟩ (by decide) (by decide)
theorem f_rm10_2_bnd (u1 : Int32) (u2 : Int32) : ¬ (f_rm10_2 u1 u2) < (0 : Int32) ∧ ¬ (1 : Int32) < (f_rm10_2 u1 u2) := by unfold f_rm10_2; (repeat' split) <;> first | exact bnd_mono (bnd_lit (0 : Int32)) (by decide +kernel) (by decide +kernel) | exact bnd_mono (bnd_lit (1 : Int32)) (by decide +kernel) (by decide +kernel)
theorem rm11_3 (l : Launch) (Z : State) (a0 : Array Value) (hw : HW a0 Z) (ws : List Jvm.Cond) (o0 o1 : Addr) (k_o0 : ClassId) (u1 u2 : Int32) (k_o1 : ClassId) (u3 u4 : Int32) (h0 : Heap) (n0 : Nat) (O0 : Old Z n0 h0) (V_o0 : Arv Z h0 o0 k_o0 .byte (2 : Int32) [(.int u1), (.int u2)] (.int (0 : Int32))) (V_o1 : Arv Z h0 o1 k_o1 .byte (2 : Int32) [(.int u3), (.int u4)] (.int (0 : Int32))) :
    Con l Z (⟨"java/lang/StringLatin1", "equals", "([B[B)Z"⟩ : MethodName) jdk_43_method_13_code 3 (some .boolean) ws ({ frames := 0, cells := 0, slots := 0, locals := 0 } : Room) #[(.ref o0), (.ref o1)] h0 (Pur (some (.int (f_rm11_3 u1 u2 u3 u4))) h0) := by
 refine own_body (plainFor_of_name own_pn5) (fun m => ef_rm11_3 m o0 o1) ?_
 intro p e s m below meth c s₁ hx hby hlk hml hret hZ hown hnm X0 e0
 have N0 := Fr.nil n0
 refine Home.run X0 hx hby sg11_0_1 (pc' := 1) (L' := #[.val (.ref o0), .val (.ref o1), .unset]) (S' := [(.ref o0)]) rfl ?_
 obtain ⟨cl1, Ar1, q1, S1, M1, H1, G1⟩ := id V_o0
 refine Home.go (own_alen X0 hx hZ e0 Ar1 S1 M1 rfl rfl (hb hby d11_1)) ?_
 refine Home.run X0 hx hby sg11_2_1 (pc' := 3) (L' := #[.val (.ref o0), .val (.ref o1), .unset]) (S' := [(.ref o1), (.int (2 : Int32))]) rfl ?_
 obtain ⟨cl2, Ar2, q2, S2, M2, H2, G2⟩ := id V_o1
 refine Home.go (own_alen X0 hx hZ e0 Ar2 S2 M2 rfl rfl (hb hby d11_3)) ?_
 refine Home.go (fun _ => XS.icmpNo X0.here hx rfl (hb hby d11_4) rfl (teq (by decide)).2) ?_
 refine Home.run X0 hx hby sg11_7_4 (pc' := 11) (L' := #[.val (.ref o0), .val (.ref o1), .val (.int (0 : Int32))]) (S' := [(.ref o0), (.int (0 : Int32))]) rfl ?_
 obtain ⟨cl3, Ar3, q3, S3, M3, H3, G3⟩ := id V_o0
 refine Home.go (own_alen X0 hx hZ e0 Ar3 S3 M3 rfl rfl (hb hby d11_11)) ?_
 show Home s₁ (mkF m 12 #[.val (.ref o0), .val (.ref o1), .val (.int (0 : Int32))] [(.int (2 : Int32)), (.int (0 : Int32))])
 refine Home.go (fun _ => XS.icmpNo X0.here hx rfl (hb hby d11_12) rfl (tlt (by decide)).2.1) ?_
 refine Home.run X0 hx hby sg11_15_2 (pc' := 17) (L' := #[.val (.ref o0), .val (.ref o1), .val (.int (0 : Int32))]) (S' := [(.int (0 : Int32)), (.ref o0)]) rfl ?_
 obtain ⟨cl4, Ar4, q4, S4, M4, H4, G4⟩ := id V_o0
 have ib4 : ¬ ((0 : Int32) < 0 ∨ cl4.slots.size ≤ ((0 : Int32)).toNatClampNeg) := inb_of S4 ⟨by decide, by decide⟩
 refine Home.go (X0.baloadBytes hx (j := (0 : Int32)) (v := (.int u1)) (by rw [e0]; exact Ar4.1) (State.isArrayOf_alike hZ.alike Ar4.2.1) Ar4.2.2 ib4 (Has.at H4 ib4 rfl) rfl rfl (hb hby d11_17)) ?_
 refine Home.run X0 hx hby sg11_18_2 (pc' := 20) (L' := #[.val (.ref o0), .val (.ref o1), .val (.int (0 : Int32))]) (S' := [(.int (0 : Int32)), (.ref o1), (.int u1)]) rfl ?_
 obtain ⟨cl5, Ar5, q5, S5, M5, H5, G5⟩ := id V_o1
 have ib5 : ¬ ((0 : Int32) < 0 ∨ cl5.slots.size ≤ ((0 : Int32)).toNatClampNeg) := inb_of S5 ⟨by decide, by decide⟩
 refine Home.go (X0.baloadBytes hx (j := (0 : Int32)) (v := (.int u3)) (by rw [e0]; exact Ar5.1) (State.isArrayOf_alike hZ.alike Ar5.2.1) Ar5.2.2 ib5 (Has.at H5 ib5 rfl) rfl rfl (hb hby d11_20)) ?_
 show Home s₁ (mkF m 21 #[.val (.ref o0), .val (.ref o1), .val (.int (0 : Int32))] [(.int u3), (.int u1)])
 by_cases c6 : u1 = u3
 ·
  refine Home.go (fun _ => XS.icmpYes X0.here hx rfl (pc0 := 21) (pc' := 26) rfl (hb hby d11_21) rfl (teq c6).1 (by decide) (by decide)) ?_
  refine Home.run X0 hx hby sg11_26_4 (pc' := 11) (L' := #[.val (.ref o0), .val (.ref o1), .val (.int (1 : Int32))]) (S' := [(.ref o0), (.int (1 : Int32))]) rfl ?_
  obtain ⟨cl7, Ar7, q7, S7, M7, H7, G7⟩ := id V_o0
  refine Home.go (own_alen X0 hx hZ e0 Ar7 S7 M7 rfl rfl (hb hby d11_11)) ?_
  refine Home.go (fun _ => XS.icmpNo X0.here hx rfl (hb hby d11_12) rfl (tlt (by decide)).2.1) ?_
  refine Home.run X0 hx hby sg11_15_2 (pc' := 17) (L' := #[.val (.ref o0), .val (.ref o1), .val (.int (1 : Int32))]) (S' := [(.int (1 : Int32)), (.ref o0)]) rfl ?_
  obtain ⟨cl8, Ar8, q8, S8, M8, H8, G8⟩ := id V_o0
  have ib8 : ¬ ((1 : Int32) < 0 ∨ cl8.slots.size ≤ ((1 : Int32)).toNatClampNeg) := inb_of S8 ⟨by decide, by decide⟩
  refine Home.go (X0.baloadBytes hx (j := (1 : Int32)) (v := (.int u2)) (by rw [e0]; exact Ar8.1) (State.isArrayOf_alike hZ.alike Ar8.2.1) Ar8.2.2 ib8 (Has.at H8 ib8 rfl) rfl rfl (hb hby d11_17)) ?_
  show Home s₁ (mkF m 18 #[.val (.ref o0), .val (.ref o1), .val (.int (1 : Int32))] [(.int u2)])
  refine Home.run X0 hx hby sg11_18_2 (pc' := 20) (L' := #[.val (.ref o0), .val (.ref o1), .val (.int (1 : Int32))]) (S' := [(.int (1 : Int32)), (.ref o1), (.int u2)]) rfl ?_
  obtain ⟨cl9, Ar9, q9, S9, M9, H9, G9⟩ := id V_o1
  have ib9 : ¬ ((1 : Int32) < 0 ∨ cl9.slots.size ≤ ((1 : Int32)).toNatClampNeg) := inb_of S9 ⟨by decide, by decide⟩
  refine Home.go (X0.baloadBytes hx (j := (1 : Int32)) (v := (.int u4)) (by rw [e0]; exact Ar9.1) (State.isArrayOf_alike hZ.alike Ar9.2.1) Ar9.2.2 ib9 (Has.at H9 ib9 rfl) rfl rfl (hb hby d11_20)) ?_
  by_cases c10 : u2 = u4
  ·
   refine Home.go (fun _ => XS.icmpYes X0.here hx rfl (pc0 := 21) (pc' := 26) rfl (hb hby d11_21) rfl (teq c10).1 (by decide) (by decide)) ?_
   refine Home.run X0 hx hby sg11_26_4 (pc' := 11) (L' := #[.val (.ref o0), .val (.ref o1), .val (.int (2 : Int32))]) (S' := [(.ref o0), (.int (2 : Int32))]) rfl ?_
   obtain ⟨cl11, Ar11, q11, S11, M11, H11, G11⟩ := id V_o0
   refine Home.go (own_alen X0 hx hZ e0 Ar11 S11 M11 rfl rfl (hb hby d11_11)) ?_
   refine Home.go (fun _ => XS.icmpYes X0.here hx rfl (pc0 := 12) (pc' := 32) rfl (hb hby d11_12) rfl (flt (by decide)).2.1 (by decide) (by decide)) ?_
   refine Home.run X0 hx hby sg11_32_1 (pc' := 33) (L' := #[.val (.ref o0), .val (.ref o1), .val (.int (2 : Int32))]) (S' := [(.int (1 : Int32))]) rfl ?_
   exact Home.retN X0 hx hlk (t := .boolean) hret (by simp) (hb hby d11_33) ⟨congrArg some (congrArg Value.int (by first | rfl | (simp only [f_rm11_3, if_pos c6, if_pos c10, nar_i2c, nar_i2b] <;> rfl) | (simp [f_rm11_3, if_pos c6, if_pos c10]; done))), rfl, e0⟩ (by decide) (by decide)
  ·
   refine Home.go (fun _ => XS.icmpNo X0.here hx rfl (hb hby d11_21) rfl (feq c10).1) ?_
   refine Home.run X0 hx hby sg11_24_1 (pc' := 25) (L' := #[.val (.ref o0), .val (.ref o1), .val (.int (1 : Int32))]) (S' := [(.int (0 : Int32))]) rfl ?_
   exact Home.retN X0 hx hlk (t := .boolean) hret (by simp) (hb hby d11_25) ⟨congrArg some (congrArg Value.int (by first | rfl | (simp only [f_rm11_3, if_pos c6, if_neg c10, nar_i2c, nar_i2b] <;> rfl) | (simp [f_rm11_3, if_pos c6, if_neg c10]; done))), rfl, e0⟩ (by decide) (by decide)
 ·
  refine Home.go (fun _ => XS.icmpNo X0.here hx rfl (hb hby d11_21) rfl (feq c6).1) ?_
  refine Home.run X0 hx hby sg11_24_1 (pc' := 25) (L' := #[.val (.ref o0), .val (.ref o1), .val (.int (0 : Int32))]) (S' := [(.int (0 : Int32))]) rfl ?_
  exact Home.retN X0 hx hlk (t := .boolean) hret (by simp) (hb hby d11_25) ⟨congrArg some (congrArg Value.int (by first | rfl | (simp only [f_rm11_3, if_neg c6, nar_i2c, nar_i2b] <;> rfl) | (simp [f_rm11_3, if_neg c6]; done))), rfl, e0⟩ (by decide) (by decide)
theorem f_rm11_3_bnd (u1 : Int32) (u2 : Int32) (u3 : Int32) (u4 : Int32) : ¬ (f_rm11_3 u1 u2 u3 u4) < (0 : Int32) ∧ ¬ (1 : Int32) < (f_rm11_3 u1 u2 u3 u4) := by unfold f_rm11_3; (repeat' split) <;> first | exact bnd_mono (bnd_lit (1 : Int32)) (by decide +kernel) (by decide +kernel) | exact bnd_mono (bnd_lit (0 : Int32)) (by decide +kernel) (by decide +kernel)
theorem rm10_3 (l : Launch) (Z : State) (a0 : Array Value) (hw : HW a0 Z) (ws : List Jvm.Cond) (o0 o1 : Addr) (sv_COMPACT_STRINGS : Int32) (p3 p4 : Addr) (k_p3 : ClassId) (u1 u2 : Int32) (k_p4 : ClassId) (u3 u4 : Int32) (h0 : Heap) (n0 : Nat) (O0 : Old Z n0 h0) (E_o0 : Exa Z h0 o0 "java/lang/String") (E_o1 : Exa Z h0 o1 "java/lang/String") (ne_o0_o1 : o0 ≠ o1) (S_COMPACT_STRINGS : Sta Z Z.heap "java/lang/String" "COMPACT_STRINGS" "Z" (.int sv_COMPACT_STRINGS)) (hCS : ¬ (sv_COMPACT_STRINGS = (0 : Int32))) (F_coder_o0 : Fld Z h0 o0 "java/lang/String" "coder" "B" (.int (0 : Int32))) (F_coder_o1 : Fld Z h0 o1 "java/lang/String" "coder" "B" (.int (0 : Int32))) (F_value_o0 : Fld Z h0 o0 "java/lang/String" "value" "[B" (.ref p3)) (F_value_o1 : Fld Z h0 o1 "java/lang/String" "value" "[B" (.ref p4)) (V_p3 : Arv Z h0 p3 k_p3 .byte (2 : Int32) [(.int u1), (.int u2)] (.int (0 : Int32))) (V_p4 : Arv Z h0 p4 k_p4 .byte (2 : Int32) [(.int u3), (.int u4)] (.int (0 : Int32))) :
    Con l Z (⟨"java/lang/String", "equals", "(Ljava/lang/Object;)Z"⟩ : MethodName) jdk_42_method_66_code 3 (some .boolean) ws ({ frames := 1, cells := 0, slots := 0, locals := 14 } : Room) #[(.ref o0), (.ref o1)] h0 (Pur (some (.int (f_rm10_3 u1 u2 u3 u4))) h0) := by
 refine own_body (plainFor_of_name own_pn1) (fun m => ef_rm10_3 m o0 o1) ?_
 intro p e s m below meth c s₁ hx hby hlk hml hret hZ hown hnm X0 e0
 have N0 := Fr.nil n0
 refine Home.run X0 hx hby sg10_0_2 (pc' := 2) (L' := #[.val (.ref o0), .val (.ref o1), .unset]) (S' := [(.ref o1), (.ref o0)]) rfl ?_
 refine Home.go (fun _ => Jvm.RoadKit.acmp X0 hx rfl rfl rfl (pc0 := 2) (pc' := 7) (same := false) rfl (hb hby d10_2) rfl (decide_eq_false fun q => ne_o0_o1 (Value.ref.inj q)) (by decide) (by decide)) ?_
 show Home s₁ (mkF m 7 #[.val (.ref o0), .val (.ref o1), .unset] [])
 refine Home.run X0 hx hby sg10_7_1 (pc' := 8) (L' := #[.val (.ref o0), .val (.ref o1), .unset]) (S' := [(.ref o1)]) rfl ?_
 refine Home.st (instY X0 hx hZ hown (own_w58 hw) e0 (Ins.self E_o1) rfl rfl (hb hby d10_8)) fun T1 X1 e1 => ?_
 refine Home.go (fun _ => XS.ifNo X1.here hx rfl (hb hby d10_11) rfl ((if0 _ _).trans (feq (by decide)).1)) ?_
 refine Home.run X1 hx hby sg10_14_1 (pc' := 15) (L' := #[.val (.ref o0), .val (.ref o1), .unset]) (S' := [(.ref o1)]) rfl ?_
 refine Home.st (castY X1 hx hZ hown (own_w58 hw) e1 (Ins.self E_o1) rfl rfl (hb hby d10_15)) fun T2 X2 e2 => ?_
 refine Home.run X2 hx hby sg10_18_1 (pc' := 19) (L' := #[.val (.ref o0), .val (.ref o1), .val (.ref o1)]) (S' := []) rfl ?_
 refine Home.st (getS2 X2 hx hZ hown (host := "") (Or.inl (own_w59 hw)) Via.refl e2 (S_COMPACT_STRINGS.ext O0.2) rfl (hb hby d10_19)) fun T3 X3 e3 => ?_
 refine Home.go (fun _ => XS.ifNo X3.here hx rfl (hb hby d10_22) rfl ((if0 _ _).trans (feq hCS).1)) ?_
 refine Home.run X3 hx hby sg10_25_1 (pc' := 26) (L' := #[.val (.ref o0), .val (.ref o1), .val (.ref o1)]) (S' := [(.ref o0)]) rfl ?_
 refine Home.st (getF X3 hx hZ hown (host := "") (Or.inl (own_w31 hw)) Via.refl e3 F_coder_o0 rfl rfl (hb hby d10_26)) fun T4 X4 e4 => ?_
 show Home T4 (mkF m 29 #[.val (.ref o0), .val (.ref o1), .val (.ref o1)] [(.int (0 : Int32))])
 refine Home.run X4 hx hby sg10_29_1 (pc' := 30) (L' := #[.val (.ref o0), .val (.ref o1), .val (.ref o1)]) (S' := [(.ref o1), (.int (0 : Int32))]) rfl ?_
 refine Home.st (getF X4 hx hZ hown (host := "") (Or.inl (own_w31 hw)) Via.refl e4 F_coder_o1 rfl rfl (hb hby d10_30)) fun T5 X5 e5 => ?_
 refine Home.go (fun _ => XS.icmpNo X5.here hx rfl (hb hby d10_33) rfl (teq (by decide)).2) ?_
 refine Home.run X5 hx hby sg10_36_1 (pc' := 37) (L' := #[.val (.ref o0), .val (.ref o1), .val (.ref o1)]) (S' := [(.ref o0)]) rfl ?_
 refine Home.st (getF X5 hx hZ hown (host := "") (Or.inl (own_w30 hw)) Via.refl e5 F_value_o0 rfl rfl (hb hby d10_37)) fun T6 X6 e6 => ?_
 refine Home.run X6 hx hby sg10_40_1 (pc' := 41) (L' := #[.val (.ref o0), .val (.ref o1), .val (.ref o1)]) (S' := [(.ref o1), (.ref p3)]) rfl ?_
 refine Home.st (getF X6 hx hZ hown (host := "") (Or.inl (own_w30 hw)) Via.refl e6 F_value_o1 rfl rfl (hb hby d10_41)) fun T7 X7 e7 => ?_
 refine Home.st (own_pure (own_static X7 hx hZ hown (own_w60 hw) (own_w61 hw) (own_w62 hw) (own_w63 hw) (by decide) (rm11_3 l Z a0 hw [] p3 p4 k_p3 u1 u2 k_p4 u3 u4 h0 n0 O0 V_p3 V_p4) e7 rfl (by rw [hml]; rfl) (argsL := [(.ref p3), (.ref p4)]) (rest := []) (lenOf own_pd11 rfl) rfl rfl (W := 0) (by exact hW0) (by decide) (by decide) (hb hby d10_44) (by decide) (by decide))) fun T8 X8 e8 => ?_
 show Home T8 (mkF m 47 #[.val (.ref o0), .val (.ref o1), .val (.ref o1)] [(.int (f_rm11_3 u1 u2 u3 u4))])
 obtain ⟨r9, hr9⟩ : ∃ z, z = (f_rm11_3 u1 u2 u3 u4) := ⟨_, rfl⟩
 rw [← hr9]
 have br9 : ¬ r9 < (0 : Int32) ∧ ¬ (1 : Int32) < r9 := by rw [hr9]; exact f_rm11_3_bnd u1 u2 u3 u4
 suffices J13 : ∀ {T : State} (X : Stand p l e ({ frames := 1, cells := 0, slots := 0, locals := 14 } : Room) s m #[(.ref o0), (.ref o1)] below meth c T [] 0 0) (eT : T.heap = h0) (v14 : Int32) (hv14 : v14 = (if r9 = (0 : Int32) then (0 : Int32) else (1 : Int32))), @Home p e below _ T (mkF m 55 #[.val (.ref o0), .val (.ref o1), .val (.ref o1)] [(.int v14)]) by
  by_cases c10 : r9 = (0 : Int32)
  ·
   refine Home.go (fun _ => XS.ifYes X8.here hx rfl (pc0 := 47) (pc' := 54) rfl (hb hby d10_47) rfl ((if0 _ _).trans (teq c10).1) (by decide) (by decide)) ?_
   have bd11 : ¬ r9 < (0 : Int32) ∧ ¬ (0 : Int32) < r9 := ⟨(bnd_eql c10), (bnd_eqr c10)⟩
   refine Home.run X8 hx hby sg10_54_1 (pc' := 55) (L' := #[.val (.ref o0), .val (.ref o1), .val (.ref o1)]) (S' := [(.int (0 : Int32))]) rfl ?_
   exact J13 X8 e8 _ (by simp only [if_pos c10])
  ·
   refine Home.go (fun _ => XS.ifNo X8.here hx rfl (hb hby d10_47) rfl ((if0 _ _).trans (feq c10).1)) ?_
   have bd12 : ¬ r9 < (1 : Int32) ∧ ¬ (1 : Int32) < r9 := ⟨(bnd_nel br9.1 c10 (by decide +kernel)), br9.2⟩
   refine Home.run X8 hx hby sg10_50_2 (pc' := 55) (L' := #[.val (.ref o0), .val (.ref o1), .val (.ref o1)]) (S' := [(.int (1 : Int32))]) rfl ?_
   exact J13 X8 e8 _ (by simp only [if_neg c10])
 intro TJ13 XJ13 eJ13 v14 hv14
 have bv14 : ¬ v14 < (0 : Int32) ∧ ¬ (1 : Int32) < v14 := by rw [hv14]; exact (bnd_ite (bnd_mono (bnd_lit (0 : Int32)) (by decide +kernel) (by decide +kernel)) (bnd_mono (bnd_lit (1 : Int32)) (by decide +kernel) (by decide +kernel)))
 show Home TJ13 (mkF m 55 #[.val (.ref o0), .val (.ref o1), .val (.ref o1)] [(.int v14)])
 exact Home.retN XJ13 hx hlk (t := .boolean) hret (by simp) (hb hby d10_55) ⟨congrArg some (congrArg Value.int (by subst hv14; subst hr9; first | rfl | (simp only [f_rm10_3, nar_bool_id bv14 (by decide +kernel) (by decide +kernel), nar_i2c, nar_i2b] <;> rfl) | (simp [f_rm10_3, nar_bool_id bv14 (by decide +kernel) (by decide +kernel)]; done))), rfl, eJ13⟩ (by decide) (by decide)
theorem f_rm10_3_bnd (u1 : Int32) (u2 : Int32) (u3 : Int32) (u4 : Int32) : ¬ (f_rm10_3 u1 u2 u3 u4) < (0 : Int32) ∧ ¬ (1 : Int32) < (f_rm10_3 u1 u2 u3 u4) := by unfold f_rm10_3; (repeat' split) <;> first | exact bnd_mono (bnd_lit (0 : Int32)) (by decide +kernel) (by decide +kernel) | exact bnd_mono (bnd_lit (1 : Int32)) (by decide +kernel) (by decide +kernel)
theorem rm10_S (l : Launch) (Z : State) (a0 : Array Value) (hw : HW a0 Z) (ws : List Jvm.Cond) (o0 o1 p1 : Addr) (k1 : ClassId) (l1 : List Int32) (p2 : Addr) (k2 : ClassId) (l2 : List Int32) (sv_COMPACT_STRINGS : Int32) (h0 : Heap) (n0 : Nat) (O0 : Old Z n0 h0) (E_o0 : Exa Z h0 o0 "java/lang/String") (F_coder_o0 : Fld Z h0 o0 "java/lang/String" "coder" "B" (.int (0 : Int32))) (F_value_o0 : Fld Z h0 o0 "java/lang/String" "value" "[B" (.ref p1)) (V_p1 : Arv Z h0 p1 k1 .byte (own_n l1) (List.map Value.int l1) (.int (0 : Int32))) (sh_l1 : l1.length ≤ 2) (E_o1 : Exa Z h0 o1 "java/lang/String") (F_coder_o1 : Fld Z h0 o1 "java/lang/String" "coder" "B" (.int (0 : Int32))) (F_value_o1 : Fld Z h0 o1 "java/lang/String" "value" "[B" (.ref p2)) (V_p2 : Arv Z h0 p2 k2 .byte (own_n l2) (List.map Value.int l2) (.int (0 : Int32))) (sh_l2 : l2.length ≤ 2) (ne_o0_o1 : o0 ≠ o1) (S_COMPACT_STRINGS : Sta Z Z.heap "java/lang/String" "COMPACT_STRINGS" "Z" (.int sv_COMPACT_STRINGS)) (hCS : ¬ (sv_COMPACT_STRINGS = (0 : Int32))) :
    Con l Z (⟨"java/lang/String", "equals", "(Ljava/lang/Object;)Z"⟩ : MethodName) jdk_42_method_66_code 3 (some .boolean) ws ({ frames := 1, cells := 0, slots := 0, locals := 14 } : Room) #[(.ref o0), (.ref o1)] h0 (Pur (some (.int (own_eqv l1 l2))) h0) := by
  rcases l1 with _ | ⟨a1, _ | ⟨a2, _ | ⟨a3, a_t⟩⟩⟩
  · rcases l2 with _ | ⟨b1, _ | ⟨b2, _ | ⟨b3, b_t⟩⟩⟩
    · have e : own_eqv ([] : List Int32) ([] : List Int32) = (1 : Int32) := by simp [own_eqv]
      rw [e]
      exact rm10_0 l Z a0 hw ws o0 o1 sv_COMPACT_STRINGS p1 p2 k1 k2 h0 n0 O0 E_o0 E_o1 ne_o0_o1 S_COMPACT_STRINGS hCS F_coder_o0 F_coder_o1 F_value_o0 F_value_o1 V_p1 V_p2
    · have e : own_eqv ([] : List Int32) ([b1] : List Int32) = (0 : Int32) := by simp [own_eqv]
      rw [e]
      exact rm10_1 l Z a0 hw ws o0 o1 p1 k1 (0 : Int32) [] p2 k2 (1 : Int32) [(.int b1)] sv_COMPACT_STRINGS h0 n0 O0 V_p1 V_p2 (by decide) E_o0 E_o1 ne_o0_o1 S_COMPACT_STRINGS hCS F_coder_o0 F_coder_o1 F_value_o0 F_value_o1
    · have e : own_eqv ([] : List Int32) ([b1, b2] : List Int32) = (0 : Int32) := by simp [own_eqv]
      rw [e]
      exact rm10_1 l Z a0 hw ws o0 o1 p1 k1 (0 : Int32) [] p2 k2 (2 : Int32) [(.int b1), (.int b2)] sv_COMPACT_STRINGS h0 n0 O0 V_p1 V_p2 (by decide) E_o0 E_o1 ne_o0_o1 S_COMPACT_STRINGS hCS F_coder_o0 F_coder_o1 F_value_o0 F_value_o1
    · exact absurd sh_l2 (by simp only [List.length_cons]; omega)
  · rcases l2 with _ | ⟨b1, _ | ⟨b2, _ | ⟨b3, b_t⟩⟩⟩
    · have e : own_eqv ([a1] : List Int32) ([] : List Int32) = (0 : Int32) := by simp [own_eqv]
      rw [e]
      exact rm10_1 l Z a0 hw ws o0 o1 p1 k1 (1 : Int32) [(.int a1)] p2 k2 (0 : Int32) [] sv_COMPACT_STRINGS h0 n0 O0 V_p1 V_p2 (by decide) E_o0 E_o1 ne_o0_o1 S_COMPACT_STRINGS hCS F_coder_o0 F_coder_o1 F_value_o0 F_value_o1
    · have e : own_eqv ([a1] : List Int32) ([b1] : List Int32) = (f_rm10_2 a1 b1) := by by_cases q1 : a1 = b1 <;> simp [own_eqv, f_rm10_2, f_rm11_2, q1]
      rw [e]
      exact rm10_2 l Z a0 hw ws o0 o1 sv_COMPACT_STRINGS p1 p2 k1 a1 k2 b1 h0 n0 O0 E_o0 E_o1 ne_o0_o1 S_COMPACT_STRINGS hCS F_coder_o0 F_coder_o1 F_value_o0 F_value_o1 V_p1 V_p2
    · have e : own_eqv ([a1] : List Int32) ([b1, b2] : List Int32) = (0 : Int32) := by simp [own_eqv]
      rw [e]
      exact rm10_1 l Z a0 hw ws o0 o1 p1 k1 (1 : Int32) [(.int a1)] p2 k2 (2 : Int32) [(.int b1), (.int b2)] sv_COMPACT_STRINGS h0 n0 O0 V_p1 V_p2 (by decide) E_o0 E_o1 ne_o0_o1 S_COMPACT_STRINGS hCS F_coder_o0 F_coder_o1 F_value_o0 F_value_o1
    · exact absurd sh_l2 (by simp only [List.length_cons]; omega)
  · rcases l2 with _ | ⟨b1, _ | ⟨b2, _ | ⟨b3, b_t⟩⟩⟩
    · have e : own_eqv ([a1, a2] : List Int32) ([] : List Int32) = (0 : Int32) := by simp [own_eqv]
      rw [e]
      exact rm10_1 l Z a0 hw ws o0 o1 p1 k1 (2 : Int32) [(.int a1), (.int a2)] p2 k2 (0 : Int32) [] sv_COMPACT_STRINGS h0 n0 O0 V_p1 V_p2 (by decide) E_o0 E_o1 ne_o0_o1 S_COMPACT_STRINGS hCS F_coder_o0 F_coder_o1 F_value_o0 F_value_o1
    · have e : own_eqv ([a1, a2] : List Int32) ([b1] : List Int32) = (0 : Int32) := by simp [own_eqv]
      rw [e]
      exact rm10_1 l Z a0 hw ws o0 o1 p1 k1 (2 : Int32) [(.int a1), (.int a2)] p2 k2 (1 : Int32) [(.int b1)] sv_COMPACT_STRINGS h0 n0 O0 V_p1 V_p2 (by decide) E_o0 E_o1 ne_o0_o1 S_COMPACT_STRINGS hCS F_coder_o0 F_coder_o1 F_value_o0 F_value_o1
    · have e : own_eqv ([a1, a2] : List Int32) ([b1, b2] : List Int32) = (f_rm10_3 a1 a2 b1 b2) := by by_cases q1 : a1 = b1 <;> by_cases q2 : a2 = b2 <;> simp [own_eqv, f_rm10_3, f_rm11_3, q1, q2]
      rw [e]
      exact rm10_3 l Z a0 hw ws o0 o1 sv_COMPACT_STRINGS p1 p2 k1 a1 a2 k2 b1 b2 h0 n0 O0 E_o0 E_o1 ne_o0_o1 S_COMPACT_STRINGS hCS F_coder_o0 F_coder_o1 F_value_o0 F_value_o1 V_p1 V_p2
    · exact absurd sh_l2 (by simp only [List.length_cons]; omega)
  · exact absurd sh_l1 (by simp only [List.length_cons]; omega)
theorem rm9_0 (l : Launch) (Z : State) (a0 : Array Value) (hw : HW a0 Z) (ws : List Jvm.Cond) (o0 o1 p3 p5 p7 : Addr) (k_p7 : ClassId) (l_1 : List Int32) (p9 : Addr) (k_p9 : ClassId) (l_3 : List Int32) (sv_COMPACT_STRINGS : Int32) (p4 p6 p8 : Addr) (k_p8 : ClassId) (l_2 : List Int32) (p10 : Addr) (k_p10 : ClassId) (l_4 : List Int32) (h0 : Heap) (n0 : Nat) (O0 : Old Z n0 h0) (F_url_o0 : Fld Z h0 o0 "com/example/invocant/invocant/Canonical" "url" "Ljava/lang/String;" (.ref p3)) (F_url_o1 : Fld Z h0 o1 "com/example/invocant/invocant/Canonical" "url" "Ljava/lang/String;" (.ref p5)) (E_p3 : Exa Z h0 p3 "java/lang/String") (F_coder_p3 : Fld Z h0 p3 "java/lang/String" "coder" "B" (.int (0 : Int32))) (F_value_p3 : Fld Z h0 p3 "java/lang/String" "value" "[B" (.ref p7)) (V_p7 : Arv Z h0 p7 k_p7 .byte (own_n l_1) (List.map Value.int l_1) (.int (0 : Int32))) (E_p5 : Exa Z h0 p5 "java/lang/String") (F_coder_p5 : Fld Z h0 p5 "java/lang/String" "coder" "B" (.int (0 : Int32))) (F_value_p5 : Fld Z h0 p5 "java/lang/String" "value" "[B" (.ref p9)) (V_p9 : Arv Z h0 p9 k_p9 .byte (own_n l_3) (List.map Value.int l_3) (.int (0 : Int32))) (S_COMPACT_STRINGS : Sta Z Z.heap "java/lang/String" "COMPACT_STRINGS" "Z" (.int sv_COMPACT_STRINGS)) (ne_p3_p5 : p3 ≠ p5) (sh_l_1 : l_1.length ≤ 2) (sh_l_3 : l_3.length ≤ 2) (hCS : ¬ (sv_COMPACT_STRINGS = (0 : Int32))) (F_version_o0 : Fld Z h0 o0 "com/example/invocant/invocant/Canonical" "version" "Ljava/lang/String;" (.ref p4)) (F_version_o1 : Fld Z h0 o1 "com/example/invocant/invocant/Canonical" "version" "Ljava/lang/String;" (.ref p6)) (E_p4 : Exa Z h0 p4 "java/lang/String") (F_coder_p4 : Fld Z h0 p4 "java/lang/String" "coder" "B" (.int (0 : Int32))) (F_value_p4 : Fld Z h0 p4 "java/lang/String" "value" "[B" (.ref p8)) (V_p8 : Arv Z h0 p8 k_p8 .byte (own_n l_2) (List.map Value.int l_2) (.int (0 : Int32))) (E_p6 : Exa Z h0 p6 "java/lang/String") (F_coder_p6 : Fld Z h0 p6 "java/lang/String" "coder" "B" (.int (0 : Int32))) (F_value_p6 : Fld Z h0 p6 "java/lang/String" "value" "[B" (.ref p10)) (V_p10 : Arv Z h0 p10 k_p10 .byte (own_n l_4) (List.map Value.int l_4) (.int (0 : Int32))) (ne_p4_p6 : p4 ≠ p6) (sh_l_2 : l_2.length ≤ 2) (sh_l_4 : l_4.length ≤ 2) :
    Con l Z (⟨"com/example/invocant/invocant/Canonical", "matches", "(Lcom/example/invocant/invocant/Canonical;)Z"⟩ : MethodName) prog_3_method_3_code 2 (some .boolean) ws ({ frames := 2, cells := 0, slots := 0, locals := 28 } : Room) #[(.ref o0), (.ref o1)] h0 (Pur (some (.int (f_rm9_0 l_1 l_3 l_2 l_4))) h0) := by
 refine own_body (plainFor_of_name own_pn4) (fun m => ef_rm9_0 m o0 o1) ?_
 intro p e s m below meth c s₁ hx hby hlk hml hret hZ hown hnm X0 e0
 have N0 := Fr.nil n0
 refine Home.run X0 hx hby sg9_0_1 (pc' := 1) (L' := #[.val (.ref o0), .val (.ref o1)]) (S' := [(.ref o0)]) rfl ?_
 refine Home.st (getF X0 hx hZ hown (host := "") (Or.inl (own_w41 hw)) Via.refl e0 F_url_o0 rfl rfl (hb hby d9_1)) fun T1 X1 e1 => ?_
 refine Home.run X1 hx hby sg9_4_1 (pc' := 5) (L' := #[.val (.ref o0), .val (.ref o1)]) (S' := [(.ref o1), (.ref p3)]) rfl ?_
 refine Home.st (getF X1 hx hZ hown (host := "") (Or.inl (own_w41 hw)) Via.refl e1 F_url_o1 rfl rfl (hb hby d9_5)) fun T2 X2 e2 => ?_
 refine Home.st (own_pure (own_virtual X2 hx hZ hown (own_w53 hw) (own_w54 hw) (notFace_of_selects (args := #[]) (mvT hZ (own_w56 hw))) (own_w56 hw) (own_w55 hw) (own_w12 hw) (own_w57 hw) (by decide) (rm10_S l Z a0 hw [] p3 p5 p7 k_p7 l_1 p9 k_p9 l_3 sv_COMPACT_STRINGS h0 n0 O0 E_p3 F_coder_p3 F_value_p3 V_p7 sh_l_1 E_p5 F_coder_p5 F_value_p5 V_p9 sh_l_3 ne_p3_p5 S_COMPACT_STRINGS hCS) e2 E_p3 rfl (by rw [hml]; rfl) (argsL := [(.ref p5)]) (rest := []) (lenOf own_pd12 rfl) rfl rfl (W := 0) (by exact hW0) (by decide) (by decide) (hb hby d9_8) (by decide) (by decide))) fun T3 X3 e3 => ?_
 show Home T3 (mkF m 11 #[.val (.ref o0), .val (.ref o1)] [(.int (own_eqv l_1 l_3))])
 obtain ⟨r4, hr4⟩ : ∃ z, z = (own_eqv l_1 l_3) := ⟨_, rfl⟩
 rw [← hr4]
 have br4 : ¬ r4 < (0 : Int32) ∧ ¬ (1 : Int32) < r4 := by rw [hr4]; exact own_eqv_bnd l_1 l_3
 suffices J16 : ∀ {T : State} (X : Stand p l e ({ frames := 2, cells := 0, slots := 0, locals := 28 } : Room) s m #[(.ref o0), (.ref o1)] below meth c T [] 0 0) (eT : T.heap = h0) (v17 : Int32) (hv17 : v17 = (if r4 = (0 : Int32) then (0 : Int32) else (if (own_eqv l_2 l_4) = (0 : Int32) then (0 : Int32) else (1 : Int32)))), @Home p e below _ T (mkF m 47 #[.val (.ref o0), .val (.ref o1)] [(.int v17)]) by
  by_cases c5 : r4 = (0 : Int32)
  ·
   refine Home.go (fun _ => XS.ifYes X3.here hx rfl (pc0 := 11) (pc' := 46) rfl (hb hby d9_11) rfl ((if0 _ _).trans (teq c5).1) (by decide) (by decide)) ?_
   have bd6 : ¬ r4 < (0 : Int32) ∧ ¬ (0 : Int32) < r4 := ⟨(bnd_eql c5), (bnd_eqr c5)⟩
   refine Home.run X3 hx hby sg9_46_1 (pc' := 47) (L' := #[.val (.ref o0), .val (.ref o1)]) (S' := [(.int (0 : Int32))]) rfl ?_
   exact J16 X3 e3 _ (by simp only [if_pos c5])
  ·
   refine Home.go (fun _ => XS.ifNo X3.here hx rfl (hb hby d9_11) rfl ((if0 _ _).trans (feq c5).1)) ?_
   have bd7 : ¬ r4 < (1 : Int32) ∧ ¬ (1 : Int32) < r4 := ⟨(bnd_nel br4.1 c5 (by decide +kernel)), br4.2⟩
   refine Home.run X3 hx hby sg9_14_1 (pc' := 15) (L' := #[.val (.ref o0), .val (.ref o1)]) (S' := [(.ref o0)]) rfl ?_
   refine Home.st (getF X3 hx hZ hown (host := "") (Or.inl (own_w43 hw)) Via.refl e3 F_version_o0 rfl rfl (hb hby d9_15)) fun T8 X8 e8 => ?_
   refine Home.go (fun _ => XS.ifnullNo X8.here hx rfl (hb hby d9_18) rfl) ?_
   show Home T8 (mkF m 21 #[.val (.ref o0), .val (.ref o1)] [])
   refine Home.run X8 hx hby sg9_21_1 (pc' := 22) (L' := #[.val (.ref o0), .val (.ref o1)]) (S' := [(.ref o1)]) rfl ?_
   refine Home.st (getF X8 hx hZ hown (host := "") (Or.inl (own_w43 hw)) Via.refl e8 F_version_o1 rfl rfl (hb hby d9_22)) fun T9 X9 e9 => ?_
   refine Home.go (fun _ => XS.ifnullNo X9.here hx rfl (hb hby d9_25) rfl) ?_
   show Home T9 (mkF m 28 #[.val (.ref o0), .val (.ref o1)] [])
   refine Home.run X9 hx hby sg9_28_1 (pc' := 29) (L' := #[.val (.ref o0), .val (.ref o1)]) (S' := [(.ref o0)]) rfl ?_
   refine Home.st (getF X9 hx hZ hown (host := "") (Or.inl (own_w43 hw)) Via.refl e9 F_version_o0 rfl rfl (hb hby d9_29)) fun T10 X10 e10 => ?_
   refine Home.run X10 hx hby sg9_32_1 (pc' := 33) (L' := #[.val (.ref o0), .val (.ref o1)]) (S' := [(.ref o1), (.ref p4)]) rfl ?_
   refine Home.st (getF X10 hx hZ hown (host := "") (Or.inl (own_w43 hw)) Via.refl e10 F_version_o1 rfl rfl (hb hby d9_33)) fun T11 X11 e11 => ?_
   refine Home.st (own_pure (own_virtual X11 hx hZ hown (own_w53 hw) (own_w54 hw) (notFace_of_selects (args := #[]) (mvT hZ (own_w56 hw))) (own_w56 hw) (own_w55 hw) (own_w12 hw) (own_w57 hw) (by decide) (rm10_S l Z a0 hw [] p4 p6 p8 k_p8 l_2 p10 k_p10 l_4 sv_COMPACT_STRINGS h0 n0 O0 E_p4 F_coder_p4 F_value_p4 V_p8 sh_l_2 E_p6 F_coder_p6 F_value_p6 V_p10 sh_l_4 ne_p4_p6 S_COMPACT_STRINGS hCS) e11 E_p4 rfl (by rw [hml]; rfl) (argsL := [(.ref p6)]) (rest := []) (lenOf own_pd12 rfl) rfl rfl (W := 0) (by exact hW0) (by decide) (by decide) (hb hby d9_36) (by decide) (by decide))) fun T12 X12 e12 => ?_
   by_cases c13 : (own_eqv l_2 l_4) = (0 : Int32)
   ·
    refine Home.go (fun _ => XS.ifYes X12.here hx rfl (pc0 := 39) (pc' := 46) rfl (hb hby d9_39) rfl ((if0 _ _).trans (teq c13).1) (by decide) (by decide)) ?_
    have bd14 : ¬ (own_eqv l_2 l_4) < (0 : Int32) ∧ ¬ (0 : Int32) < (own_eqv l_2 l_4) := ⟨(bnd_eql c13), (bnd_eqr c13)⟩
    refine Home.run X12 hx hby sg9_46_1 (pc' := 47) (L' := #[.val (.ref o0), .val (.ref o1)]) (S' := [(.int (0 : Int32))]) rfl ?_
    exact J16 X12 e12 _ (by simp only [if_neg c5, if_pos c13])
   ·
    refine Home.go (fun _ => XS.ifNo X12.here hx rfl (hb hby d9_39) rfl ((if0 _ _).trans (feq c13).1)) ?_
    have bd15 : ¬ (own_eqv l_2 l_4) < (1 : Int32) ∧ ¬ (1 : Int32) < (own_eqv l_2 l_4) := ⟨(bnd_nel (own_eqv_bnd l_2 l_4).1 c13 (by decide +kernel)), (own_eqv_bnd l_2 l_4).2⟩
    refine Home.run X12 hx hby sg9_42_2 (pc' := 47) (L' := #[.val (.ref o0), .val (.ref o1)]) (S' := [(.int (1 : Int32))]) rfl ?_
    exact J16 X12 e12 _ (by simp only [if_neg c5, if_neg c13])
 intro TJ16 XJ16 eJ16 v17 hv17
 have bv17 : ¬ v17 < (0 : Int32) ∧ ¬ (1 : Int32) < v17 := by rw [hv17]; exact (bnd_ite (bnd_mono (bnd_lit (0 : Int32)) (by decide +kernel) (by decide +kernel)) (bnd_ite (bnd_mono (bnd_lit (0 : Int32)) (by decide +kernel) (by decide +kernel)) (bnd_mono (bnd_lit (1 : Int32)) (by decide +kernel) (by decide +kernel))))
 show Home TJ16 (mkF m 47 #[.val (.ref o0), .val (.ref o1)] [(.int v17)])
 exact Home.retN XJ16 hx hlk (t := .boolean) hret (by simp) (hb hby d9_47) ⟨congrArg some (congrArg Value.int (by subst hv17; subst hr4; first | rfl | (simp only [f_rm9_0, nar_bool_id bv17 (by decide +kernel) (by decide +kernel), nar_i2c, nar_i2b] <;> rfl) | (simp [f_rm9_0, nar_bool_id bv17 (by decide +kernel) (by decide +kernel)]; done))), rfl, eJ16⟩ (by decide) (by decide)
theorem f_rm9_0_bnd (l_1 : List Int32) (l_3 : List Int32) (l_2 : List Int32) (l_4 : List Int32) : ¬ (f_rm9_0 l_1 l_3 l_2 l_4) < (0 : Int32) ∧ ¬ (1 : Int32) < (f_rm9_0 l_1 l_3 l_2 l_4) := by unfold f_rm9_0; (repeat' split) <;> first | exact bnd_mono (bnd_lit (0 : Int32)) (by decide +kernel) (by decide +kernel) | exact bnd_mono (bnd_lit (1 : Int32)) (by decide +kernel) (by decide +kernel)
theorem rm6_1 (l : Launch) (Z : State) (a0 : Array Value) (hw : HW a0 Z) (ws : List Jvm.Cond) (o0 o1 : Addr) (h0 : Heap) (n0 : Nat) (O0 : Old Z n0 h0) (E_o0 : Exa Z h0 o0 "com/example/invocant/invocant/Canonical") (F_url_o0 : Fld Z h0 o0 "com/example/invocant/invocant/Canonical" "url" "Ljava/lang/String;" .null) (g_o0 : n0 ≤ o0) (F_version_o0 : Fld Z h0 o0 "com/example/invocant/invocant/Canonical" "version" "Ljava/lang/String;" .null) :
    Con l Z (⟨"com/example/invocant/invocant/Canonical", "<init>", "(Ljava/lang/String;Ljava/lang/String;)V"⟩ : MethodName) prog_3_method_1_code 3 none ws ({ frames := 2, cells := 0, slots := 0, locals := 24 } : Room) #[(.ref o0), (.ref o1), .null] h0 (fun v h L => v = none ∧ Fr n0 L ∧ Keep h0 h [o0] ∧ Exa Z h o0 "com/example/invocant/invocant/Canonical" ∧ Fld Z h o0 "com/example/invocant/invocant/Canonical" "url" "Ljava/lang/String;" (.ref o1) ∧ Fld Z h o0 "com/example/invocant/invocant/Canonical" "version" "Ljava/lang/String;" .null) := by
 refine own_body (plainFor_of_name own_pn4) (fun m => ef_rm6_1 m o0 o1) ?_
 intro p e s m below meth c s₁ hx hby hlk hml hret hZ hown hnm X0 e0
 have N0 := Fr.nil n0
 refine Home.run X0 hx hby sg6_0_1 (pc' := 1) (L' := #[.val (.ref o0), .val (.ref o1), .val .null]) (S' := [(.ref o0)]) rfl ?_
 refine Home.st (own_pure (own_special X0 hx hZ hown rfl (own_w35 hw) (own_w36 hw) (own_w38 hw) (own_w39 hw) (by decide) (rm7_0 l Z a0 hw [] o0 h0 n0 O0) e0 rfl (by rw [hml]; rfl) (a := o0) (argsL := []) (rest := []) (lenOf own_pd8 rfl) rfl rfl (W := 0) (by exact hW0) (by decide) (by decide) (hb hby d6_1) (by decide) (by decide))) fun T1 X1 e1 => ?_
 refine Home.run X1 hx hby sg6_4_2 (pc' := 6) (L' := #[.val (.ref o0), .val (.ref o1), .val .null]) (S' := [(.ref o1), (.ref o0)]) rfl ?_
 refine Home.wr (putF X1 hx hZ hown (host := "") (Or.inl (own_w41 hw)) Via.refl e1 F_url_o0 E_o0 (Or.inr ⟨(own_w42 hw), rfl, hnm⟩) (own_w1 hw) (ty := (.object "java/lang/String")) (by decide) rfl rfl rfl rfl (hb hby d6_6)) fun T2 h2 X2 e2 W2 => ?_
 have Fw2 := F_url_o0.same W2
 have O2 := O0.wr W2 g_o0
 have K2 : Keep h0 h2 ([o0] : List Addr) := Keep.wr (Keep.refl h0 ([o0] : List Addr)) W2 (Or.inl (List.mem_of_getElem? (i := 0) rfl))
 have N2 := Fr.snoc X2 N0 g_o0
 show Home T2 (mkF m 9 #[.val (.ref o0), .val (.ref o1), .val .null] [])
 refine Home.run X2 hx hby sg6_9_2 (pc' := 11) (L' := #[.val (.ref o0), .val (.ref o1), .val .null]) (S' := [.null, (.ref o0)]) rfl ?_
 have q3 := (F_version_o0.other W2 (Or.inr (slot_ne (Or.inr (own_w44 hw)) (Or.inr (own_w42 hw)) (by decide) (t := (.object "java/lang/String")) (t' := (.object "java/lang/String")) (by decide) (by decide))))
 refine Home.wr (putF X2 hx hZ hown (host := "") (Or.inl (own_w43 hw)) Via.refl e2 q3 (E_o0.keep K2) (Or.inr ⟨(own_w44 hw), rfl, hnm⟩) (own_w1 hw) (ty := (.object "java/lang/String")) (by decide) rfl rfl rfl rfl (hb hby d6_11)) fun T4 h4 X4 e4 W4 => ?_
 have Fw4 := q3.same W4
 have O4 := O2.wr W4 g_o0
 have K4 : Keep h0 h4 ([o0] : List Addr) := Keep.wr K2 W4 (Or.inl (List.mem_of_getElem? (i := 0) rfl))
 have N4 := Fr.snoc X4 N2 g_o0
 have q5 := (Fw2.other W4 (Or.inr (slot_ne (Or.inr (own_w42 hw)) (Or.inr (own_w44 hw)) (by decide) (t := (.object "java/lang/String")) (t' := (.object "java/lang/String")) (by decide) (by decide))))
 exact Home.ret0 X4 hx hlk hret (hb hby d6_14) (by rw [show T4.heap = h4 from e4]; exact ⟨rfl, N4, K4, (E_o0.keep K4), q5, Fw4⟩) (by decide) (by decide)
theorem rm9_1 (l : Launch) (Z : State) (a0 : Array Value) (hw : HW a0 Z) (ws : List Jvm.Cond) (o0 o1 p3 p5 p6 : Addr) (k_p6 : ClassId) (l_1 : List Int32) (p8 : Addr) (k_p8 : ClassId) (l_3 : List Int32) (sv_COMPACT_STRINGS : Int32) (p4 : Addr) (h0 : Heap) (n0 : Nat) (O0 : Old Z n0 h0) (F_url_o0 : Fld Z h0 o0 "com/example/invocant/invocant/Canonical" "url" "Ljava/lang/String;" (.ref p3)) (F_url_o1 : Fld Z h0 o1 "com/example/invocant/invocant/Canonical" "url" "Ljava/lang/String;" (.ref p5)) (E_p3 : Exa Z h0 p3 "java/lang/String") (F_coder_p3 : Fld Z h0 p3 "java/lang/String" "coder" "B" (.int (0 : Int32))) (F_value_p3 : Fld Z h0 p3 "java/lang/String" "value" "[B" (.ref p6)) (V_p6 : Arv Z h0 p6 k_p6 .byte (own_n l_1) (List.map Value.int l_1) (.int (0 : Int32))) (E_p5 : Exa Z h0 p5 "java/lang/String") (F_coder_p5 : Fld Z h0 p5 "java/lang/String" "coder" "B" (.int (0 : Int32))) (F_value_p5 : Fld Z h0 p5 "java/lang/String" "value" "[B" (.ref p8)) (V_p8 : Arv Z h0 p8 k_p8 .byte (own_n l_3) (List.map Value.int l_3) (.int (0 : Int32))) (S_COMPACT_STRINGS : Sta Z Z.heap "java/lang/String" "COMPACT_STRINGS" "Z" (.int sv_COMPACT_STRINGS)) (ne_p3_p5 : p3 ≠ p5) (sh_l_1 : l_1.length ≤ 2) (sh_l_3 : l_3.length ≤ 2) (hCS : ¬ (sv_COMPACT_STRINGS = (0 : Int32))) (F_version_o0 : Fld Z h0 o0 "com/example/invocant/invocant/Canonical" "version" "Ljava/lang/String;" (.ref p4)) (F_version_o1 : Fld Z h0 o1 "com/example/invocant/invocant/Canonical" "version" "Ljava/lang/String;" .null) :
    Con l Z (⟨"com/example/invocant/invocant/Canonical", "matches", "(Lcom/example/invocant/invocant/Canonical;)Z"⟩ : MethodName) prog_3_method_3_code 2 (some .boolean) ws ({ frames := 2, cells := 0, slots := 0, locals := 28 } : Room) #[(.ref o0), (.ref o1)] h0 (Pur (some (.int (f_rm9_1 l_1 l_3))) h0) := by
 refine own_body (plainFor_of_name own_pn4) (fun m => ef_rm9_1 m o0 o1) ?_
 intro p e s m below meth c s₁ hx hby hlk hml hret hZ hown hnm X0 e0
 have N0 := Fr.nil n0
 refine Home.run X0 hx hby sg9_0_1 (pc' := 1) (L' := #[.val (.ref o0), .val (.ref o1)]) (S' := [(.ref o0)]) rfl ?_
 refine Home.st (getF X0 hx hZ hown (host := "") (Or.inl (own_w41 hw)) Via.refl e0 F_url_o0 rfl rfl (hb hby d9_1)) fun T1 X1 e1 => ?_
 refine Home.run X1 hx hby sg9_4_1 (pc' := 5) (L' := #[.val (.ref o0), .val (.ref o1)]) (S' := [(.ref o1), (.ref p3)]) rfl ?_
 refine Home.st (getF X1 hx hZ hown (host := "") (Or.inl (own_w41 hw)) Via.refl e1 F_url_o1 rfl rfl (hb hby d9_5)) fun T2 X2 e2 => ?_
 refine Home.st (own_pure (own_virtual X2 hx hZ hown (own_w53 hw) (own_w54 hw) (notFace_of_selects (args := #[]) (mvT hZ (own_w56 hw))) (own_w56 hw) (own_w55 hw) (own_w12 hw) (own_w57 hw) (by decide) (rm10_S l Z a0 hw [] p3 p5 p6 k_p6 l_1 p8 k_p8 l_3 sv_COMPACT_STRINGS h0 n0 O0 E_p3 F_coder_p3 F_value_p3 V_p6 sh_l_1 E_p5 F_coder_p5 F_value_p5 V_p8 sh_l_3 ne_p3_p5 S_COMPACT_STRINGS hCS) e2 E_p3 rfl (by rw [hml]; rfl) (argsL := [(.ref p5)]) (rest := []) (lenOf own_pd12 rfl) rfl rfl (W := 0) (by exact hW0) (by decide) (by decide) (hb hby d9_8) (by decide) (by decide))) fun T3 X3 e3 => ?_
 show Home T3 (mkF m 11 #[.val (.ref o0), .val (.ref o1)] [(.int (own_eqv l_1 l_3))])
 obtain ⟨r4, hr4⟩ : ∃ z, z = (own_eqv l_1 l_3) := ⟨_, rfl⟩
 rw [← hr4]
 have br4 : ¬ r4 < (0 : Int32) ∧ ¬ (1 : Int32) < r4 := by rw [hr4]; exact own_eqv_bnd l_1 l_3
 suffices J10 : ∀ {T : State} (X : Stand p l e ({ frames := 2, cells := 0, slots := 0, locals := 28 } : Room) s m #[(.ref o0), (.ref o1)] below meth c T [] 0 0) (eT : T.heap = h0) (v11 : Int32) (hv11 : v11 = (if r4 = (0 : Int32) then (0 : Int32) else (1 : Int32))), @Home p e below _ T (mkF m 47 #[.val (.ref o0), .val (.ref o1)] [(.int v11)]) by
  by_cases c5 : r4 = (0 : Int32)
  ·
   refine Home.go (fun _ => XS.ifYes X3.here hx rfl (pc0 := 11) (pc' := 46) rfl (hb hby d9_11) rfl ((if0 _ _).trans (teq c5).1) (by decide) (by decide)) ?_
   have bd6 : ¬ r4 < (0 : Int32) ∧ ¬ (0 : Int32) < r4 := ⟨(bnd_eql c5), (bnd_eqr c5)⟩
   refine Home.run X3 hx hby sg9_46_1 (pc' := 47) (L' := #[.val (.ref o0), .val (.ref o1)]) (S' := [(.int (0 : Int32))]) rfl ?_
   exact J10 X3 e3 _ (by simp only [if_pos c5])
  ·
   refine Home.go (fun _ => XS.ifNo X3.here hx rfl (hb hby d9_11) rfl ((if0 _ _).trans (feq c5).1)) ?_
   have bd7 : ¬ r4 < (1 : Int32) ∧ ¬ (1 : Int32) < r4 := ⟨(bnd_nel br4.1 c5 (by decide +kernel)), br4.2⟩
   refine Home.run X3 hx hby sg9_14_1 (pc' := 15) (L' := #[.val (.ref o0), .val (.ref o1)]) (S' := [(.ref o0)]) rfl ?_
   refine Home.st (getF X3 hx hZ hown (host := "") (Or.inl (own_w43 hw)) Via.refl e3 F_version_o0 rfl rfl (hb hby d9_15)) fun T8 X8 e8 => ?_
   refine Home.go (fun _ => XS.ifnullNo X8.here hx rfl (hb hby d9_18) rfl) ?_
   show Home T8 (mkF m 21 #[.val (.ref o0), .val (.ref o1)] [])
   refine Home.run X8 hx hby sg9_21_1 (pc' := 22) (L' := #[.val (.ref o0), .val (.ref o1)]) (S' := [(.ref o1)]) rfl ?_
   refine Home.st (getF X8 hx hZ hown (host := "") (Or.inl (own_w43 hw)) Via.refl e8 F_version_o1 rfl rfl (hb hby d9_22)) fun T9 X9 e9 => ?_
   refine Home.go (fun _ => XS.ifnullYes X9.here hx rfl (pc0 := 25) (pc' := 42) rfl (hb hby d9_25) rfl (by decide) (by decide)) ?_
   show Home T9 (mkF m 42 #[.val (.ref o0), .val (.ref o1)] [])
   refine Home.run X9 hx hby sg9_42_2 (pc' := 47) (L' := #[.val (.ref o0), .val (.ref o1)]) (S' := [(.int (1 : Int32))]) rfl ?_
   exact J10 X9 e9 _ (by simp only [if_neg c5])
 intro TJ10 XJ10 eJ10 v11 hv11
 have bv11 : ¬ v11 < (0 : Int32) ∧ ¬ (1 : Int32) < v11 := by rw [hv11]; exact (bnd_ite (bnd_mono (bnd_lit (0 : Int32)) (by decide +kernel) (by decide +kernel)) (bnd_mono (bnd_lit (1 : Int32)) (by decide +kernel) (by decide +kernel)))
 show Home TJ10 (mkF m 47 #[.val (.ref o0), .val (.ref o1)] [(.int v11)])
 exact Home.retN XJ10 hx hlk (t := .boolean) hret (by simp) (hb hby d9_47) ⟨congrArg some (congrArg Value.int (by subst hv11; subst hr4; first | rfl | (simp only [f_rm9_1, nar_bool_id bv11 (by decide +kernel) (by decide +kernel), nar_i2c, nar_i2b] <;> rfl) | (simp [f_rm9_1, nar_bool_id bv11 (by decide +kernel) (by decide +kernel)]; done))), rfl, eJ10⟩ (by decide) (by decide)
theorem f_rm9_1_bnd (l_1 : List Int32) (l_3 : List Int32) : ¬ (f_rm9_1 l_1 l_3) < (0 : Int32) ∧ ¬ (1 : Int32) < (f_rm9_1 l_1 l_3) := by unfold f_rm9_1; (repeat' split) <;> first | exact bnd_mono (bnd_lit (0 : Int32)) (by decide +kernel) (by decide +kernel) | exact bnd_mono (bnd_lit (1 : Int32)) (by decide +kernel) (by decide +kernel)
theorem rm9_2 (l : Launch) (Z : State) (a0 : Array Value) (hw : HW a0 Z) (ws : List Jvm.Cond) (o0 o1 p3 p4 p6 : Addr) (k_p6 : ClassId) (l_1 : List Int32) (p7 : Addr) (k_p7 : ClassId) (l_2 : List Int32) (sv_COMPACT_STRINGS : Int32) (h0 : Heap) (n0 : Nat) (O0 : Old Z n0 h0) (F_url_o0 : Fld Z h0 o0 "com/example/invocant/invocant/Canonical" "url" "Ljava/lang/String;" (.ref p3)) (F_url_o1 : Fld Z h0 o1 "com/example/invocant/invocant/Canonical" "url" "Ljava/lang/String;" (.ref p4)) (E_p3 : Exa Z h0 p3 "java/lang/String") (F_coder_p3 : Fld Z h0 p3 "java/lang/String" "coder" "B" (.int (0 : Int32))) (F_value_p3 : Fld Z h0 p3 "java/lang/String" "value" "[B" (.ref p6)) (V_p6 : Arv Z h0 p6 k_p6 .byte (own_n l_1) (List.map Value.int l_1) (.int (0 : Int32))) (E_p4 : Exa Z h0 p4 "java/lang/String") (F_coder_p4 : Fld Z h0 p4 "java/lang/String" "coder" "B" (.int (0 : Int32))) (F_value_p4 : Fld Z h0 p4 "java/lang/String" "value" "[B" (.ref p7)) (V_p7 : Arv Z h0 p7 k_p7 .byte (own_n l_2) (List.map Value.int l_2) (.int (0 : Int32))) (S_COMPACT_STRINGS : Sta Z Z.heap "java/lang/String" "COMPACT_STRINGS" "Z" (.int sv_COMPACT_STRINGS)) (ne_p3_p4 : p3 ≠ p4) (sh_l_1 : l_1.length ≤ 2) (sh_l_2 : l_2.length ≤ 2) (hCS : ¬ (sv_COMPACT_STRINGS = (0 : Int32))) (F_version_o0 : Fld Z h0 o0 "com/example/invocant/invocant/Canonical" "version" "Ljava/lang/String;" .null) :
    Con l Z (⟨"com/example/invocant/invocant/Canonical", "matches", "(Lcom/example/invocant/invocant/Canonical;)Z"⟩ : MethodName) prog_3_method_3_code 2 (some .boolean) ws ({ frames := 2, cells := 0, slots := 0, locals := 28 } : Room) #[(.ref o0), (.ref o1)] h0 (Pur (some (.int (f_rm9_2 l_1 l_2))) h0) := by
 refine own_body (plainFor_of_name own_pn4) (fun m => ef_rm9_2 m o0 o1) ?_
 intro p e s m below meth c s₁ hx hby hlk hml hret hZ hown hnm X0 e0
 have N0 := Fr.nil n0
 refine Home.run X0 hx hby sg9_0_1 (pc' := 1) (L' := #[.val (.ref o0), .val (.ref o1)]) (S' := [(.ref o0)]) rfl ?_
 refine Home.st (getF X0 hx hZ hown (host := "") (Or.inl (own_w41 hw)) Via.refl e0 F_url_o0 rfl rfl (hb hby d9_1)) fun T1 X1 e1 => ?_
 refine Home.run X1 hx hby sg9_4_1 (pc' := 5) (L' := #[.val (.ref o0), .val (.ref o1)]) (S' := [(.ref o1), (.ref p3)]) rfl ?_
 refine Home.st (getF X1 hx hZ hown (host := "") (Or.inl (own_w41 hw)) Via.refl e1 F_url_o1 rfl rfl (hb hby d9_5)) fun T2 X2 e2 => ?_
 refine Home.st (own_pure (own_virtual X2 hx hZ hown (own_w53 hw) (own_w54 hw) (notFace_of_selects (args := #[]) (mvT hZ (own_w56 hw))) (own_w56 hw) (own_w55 hw) (own_w12 hw) (own_w57 hw) (by decide) (rm10_S l Z a0 hw [] p3 p4 p6 k_p6 l_1 p7 k_p7 l_2 sv_COMPACT_STRINGS h0 n0 O0 E_p3 F_coder_p3 F_value_p3 V_p6 sh_l_1 E_p4 F_coder_p4 F_value_p4 V_p7 sh_l_2 ne_p3_p4 S_COMPACT_STRINGS hCS) e2 E_p3 rfl (by rw [hml]; rfl) (argsL := [(.ref p4)]) (rest := []) (lenOf own_pd12 rfl) rfl rfl (W := 0) (by exact hW0) (by decide) (by decide) (hb hby d9_8) (by decide) (by decide))) fun T3 X3 e3 => ?_
 show Home T3 (mkF m 11 #[.val (.ref o0), .val (.ref o1)] [(.int (own_eqv l_1 l_2))])
 obtain ⟨r4, hr4⟩ : ∃ z, z = (own_eqv l_1 l_2) := ⟨_, rfl⟩
 rw [← hr4]
 have br4 : ¬ r4 < (0 : Int32) ∧ ¬ (1 : Int32) < r4 := by rw [hr4]; exact own_eqv_bnd l_1 l_2
 suffices J9 : ∀ {T : State} (X : Stand p l e ({ frames := 2, cells := 0, slots := 0, locals := 28 } : Room) s m #[(.ref o0), (.ref o1)] below meth c T [] 0 0) (eT : T.heap = h0) (v10 : Int32) (hv10 : v10 = (if r4 = (0 : Int32) then (0 : Int32) else (1 : Int32))), @Home p e below _ T (mkF m 47 #[.val (.ref o0), .val (.ref o1)] [(.int v10)]) by
  by_cases c5 : r4 = (0 : Int32)
  ·
   refine Home.go (fun _ => XS.ifYes X3.here hx rfl (pc0 := 11) (pc' := 46) rfl (hb hby d9_11) rfl ((if0 _ _).trans (teq c5).1) (by decide) (by decide)) ?_
   have bd6 : ¬ r4 < (0 : Int32) ∧ ¬ (0 : Int32) < r4 := ⟨(bnd_eql c5), (bnd_eqr c5)⟩
   refine Home.run X3 hx hby sg9_46_1 (pc' := 47) (L' := #[.val (.ref o0), .val (.ref o1)]) (S' := [(.int (0 : Int32))]) rfl ?_
   exact J9 X3 e3 _ (by simp only [if_pos c5])
  ·
   refine Home.go (fun _ => XS.ifNo X3.here hx rfl (hb hby d9_11) rfl ((if0 _ _).trans (feq c5).1)) ?_
   have bd7 : ¬ r4 < (1 : Int32) ∧ ¬ (1 : Int32) < r4 := ⟨(bnd_nel br4.1 c5 (by decide +kernel)), br4.2⟩
   refine Home.run X3 hx hby sg9_14_1 (pc' := 15) (L' := #[.val (.ref o0), .val (.ref o1)]) (S' := [(.ref o0)]) rfl ?_
   refine Home.st (getF X3 hx hZ hown (host := "") (Or.inl (own_w43 hw)) Via.refl e3 F_version_o0 rfl rfl (hb hby d9_15)) fun T8 X8 e8 => ?_
   refine Home.go (fun _ => XS.ifnullYes X8.here hx rfl (pc0 := 18) (pc' := 42) rfl (hb hby d9_18) rfl (by decide) (by decide)) ?_
   show Home T8 (mkF m 42 #[.val (.ref o0), .val (.ref o1)] [])
   refine Home.run X8 hx hby sg9_42_2 (pc' := 47) (L' := #[.val (.ref o0), .val (.ref o1)]) (S' := [(.int (1 : Int32))]) rfl ?_
   exact J9 X8 e8 _ (by simp only [if_neg c5])
 intro TJ9 XJ9 eJ9 v10 hv10
 have bv10 : ¬ v10 < (0 : Int32) ∧ ¬ (1 : Int32) < v10 := by rw [hv10]; exact (bnd_ite (bnd_mono (bnd_lit (0 : Int32)) (by decide +kernel) (by decide +kernel)) (bnd_mono (bnd_lit (1 : Int32)) (by decide +kernel) (by decide +kernel)))
 show Home TJ9 (mkF m 47 #[.val (.ref o0), .val (.ref o1)] [(.int v10)])
 exact Home.retN XJ9 hx hlk (t := .boolean) hret (by simp) (hb hby d9_47) ⟨congrArg some (congrArg Value.int (by subst hv10; subst hr4; first | rfl | (simp only [f_rm9_2, nar_bool_id bv10 (by decide +kernel) (by decide +kernel), nar_i2c, nar_i2b] <;> rfl) | (simp [f_rm9_2, nar_bool_id bv10 (by decide +kernel) (by decide +kernel)]; done))), rfl, eJ9⟩ (by decide) (by decide)
theorem f_rm9_2_bnd (l_1 : List Int32) (l_2 : List Int32) : ¬ (f_rm9_2 l_1 l_2) < (0 : Int32) ∧ ¬ (1 : Int32) < (f_rm9_2 l_1 l_2) := by unfold f_rm9_2; (repeat' split) <;> first | exact bnd_mono (bnd_lit (0 : Int32)) (by decide +kernel) (by decide +kernel) | exact bnd_mono (bnd_lit (1 : Int32)) (by decide +kernel) (by decide +kernel)
theorem own_three {a : Int32} (h : ¬ a < (0 : Int32) ∧ ¬ (2 : Int32) < a) : a = 0 ∨ a = 1 ∨ a = 2 := by
  simp only [Int32.lt_iff_toInt_lt] at h
  have e0 : (0 : Int32).toInt = 0 := rfl
  have e1 : (1 : Int32).toInt = 1 := rfl
  have e2 : (2 : Int32).toInt = 2 := rfl
  rw [e0, e2] at h
  simp only [← Int32.toInt_inj, e0, e1, e2]
  omega
theorem own_same (p q : Int32) : f_rm8_0 p q = own_eqv (cs_rm1_0 p) (cs_rm1_0 q) := by
  have bp : ¬ ((((p.toUInt32 >>> ((16 : Int32) &&& 31).toUInt32).toInt32) &&& (32767 : Int32)) % (3 : Int32)) < (0 : Int32) ∧ ¬ (2 : Int32) < ((((p.toUInt32 >>> ((16 : Int32) &&& 31).toUInt32).toInt32) &&& (32767 : Int32)) % (3 : Int32)) := bnd_rem2 (bnd_and _ _ (by decide)) (bnd_lit 3) (by decide +kernel) (by decide +kernel) (by decide +kernel)
  have bq : ¬ ((((q.toUInt32 >>> ((16 : Int32) &&& 31).toUInt32).toInt32) &&& (32767 : Int32)) % (3 : Int32)) < (0 : Int32) ∧ ¬ (2 : Int32) < ((((q.toUInt32 >>> ((16 : Int32) &&& 31).toUInt32).toInt32) &&& (32767 : Int32)) % (3 : Int32)) := bnd_rem2 (bnd_and _ _ (by decide)) (bnd_lit 3) (by decide +kernel) (by decide +kernel) (by decide +kernel)
  have x0 := own_b2 (bnd_and p (255 : Int32) (by decide)) (bnd_and q (255 : Int32) (by decide))
  have x1 := own_b2 (bnd_and ((p.toUInt32 >>> ((8 : Int32) &&& 31).toUInt32).toInt32) (255 : Int32) (by decide)) (bnd_and ((q.toUInt32 >>> ((8 : Int32) &&& 31).toUInt32).toInt32) (255 : Int32) (by decide))
  unfold f_rm8_0 cs_rm1_0 own_eqv
  generalize ((((p.toUInt32 >>> ((16 : Int32) &&& 31).toUInt32).toInt32) &&& (32767 : Int32)) % (3 : Int32)) = a at bp ⊢
  generalize ((((q.toUInt32 >>> ((16 : Int32) &&& 31).toUInt32).toInt32) &&& (32767 : Int32)) % (3 : Int32)) = b at bq ⊢
  generalize (p &&& (255 : Int32)) = p0 at x0 ⊢
  generalize (q &&& (255 : Int32)) = q0 at x0 ⊢
  generalize (((p.toUInt32 >>> ((8 : Int32) &&& 31).toUInt32).toInt32) &&& (255 : Int32)) = p1 at x1 ⊢
  generalize (((q.toUInt32 >>> ((8 : Int32) &&& 31).toUInt32).toInt32) &&& (255 : Int32)) = q1 at x1 ⊢
  rcases own_three bp with rfl | rfl | rfl <;> rcases own_three bq with rfl | rfl | rfl <;> simp +decide [x0, x1] <;> (by_cases e0 : p0 = q0 <;> by_cases e1 : p1 = q1 <;> simp [e0, e1])
theorem own_end0 (i0 : Int32) (i1 : Int32) (i2 : Int32) (i3 : Int32) (i4 : Int32) (sv_COMPACT_STRINGS : Int32) (v5 : Int32) (hv5 : v5 = (if (i4 &&& (1 : Int32)) = (0 : Int32) then i1 else i0)) (v10 : Int32) (hv10 : v10 = (if (i4 &&& (8 : Int32)) = (0 : Int32) then i3 else i2)) (v15 : Int32) (hv15 : v15 = (if (i4 &&& (2 : Int32)) = (0 : Int32) then (0 : Int32) else (1 : Int32))) (v20 : Int32) (hv20 : v20 = (if (i4 &&& (4 : Int32)) = (0 : Int32) then (0 : Int32) else (1 : Int32))) (r49 : Int32) (hr49 : r49 = (f_rm8_0 i0 v5)) (v58 : Int32) (hv58 : v58 = (if r49 = (0 : Int32) then (0 : Int32) else (if (f_rm8_0 i2 v10) = (0 : Int32) then (0 : Int32) else (1 : Int32)))) (r100 : Int32) (hr100 : r100 = (f_rm9_0 (cs_rm1_0 i0) (cs_rm1_0 v5) (cs_rm1_0 i2) (cs_rm1_0 v10))) (v103 : Int32) (hv103 : v103 = (if r100 = v58 then (1 : Int32) else (0 : Int32))) (c23 : v15 = (0 : Int32)) (c35 : v20 = (0 : Int32)) : nar .boolean v103 = (1 : Int32) := by
  subst hv103 hr100 hv58 hr49 hv20 hv15 hv10 hv5
  simp only [f_rm9_0, f_rm9_1, f_rm9_2, own_same, if_true]
  first | done | rfl | decide
theorem own_end1 (i0 : Int32) (i1 : Int32) (i2 : Int32) (i3 : Int32) (i4 : Int32) (sv_COMPACT_STRINGS : Int32) (v5 : Int32) (hv5 : v5 = (if (i4 &&& (1 : Int32)) = (0 : Int32) then i1 else i0)) (v10 : Int32) (hv10 : v10 = (if (i4 &&& (8 : Int32)) = (0 : Int32) then i3 else i2)) (v15 : Int32) (hv15 : v15 = (if (i4 &&& (2 : Int32)) = (0 : Int32) then (0 : Int32) else (1 : Int32))) (v20 : Int32) (hv20 : v20 = (if (i4 &&& (4 : Int32)) = (0 : Int32) then (0 : Int32) else (1 : Int32))) (r112 : Int32) (hr112 : r112 = (f_rm8_0 i0 v5)) (v117 : Int32) (hv117 : v117 = (if r112 = (0 : Int32) then (0 : Int32) else (1 : Int32))) (r142 : Int32) (hr142 : r142 = (f_rm9_1 (cs_rm1_0 i0) (cs_rm1_0 v5))) (v145 : Int32) (hv145 : v145 = (if r142 = v117 then (1 : Int32) else (0 : Int32))) (c23 : v15 = (0 : Int32)) (c35 : ¬ (v20 = (0 : Int32))) : nar .boolean v145 = (1 : Int32) := by
  subst hv145 hr142 hv117 hr112 hv20 hv15 hv10 hv5
  simp only [f_rm9_0, f_rm9_1, f_rm9_2, own_same, if_true]
  first | done | rfl | decide
theorem own_end2 (i0 : Int32) (i1 : Int32) (i2 : Int32) (i3 : Int32) (i4 : Int32) (sv_COMPACT_STRINGS : Int32) (v5 : Int32) (hv5 : v5 = (if (i4 &&& (1 : Int32)) = (0 : Int32) then i1 else i0)) (v10 : Int32) (hv10 : v10 = (if (i4 &&& (8 : Int32)) = (0 : Int32) then i3 else i2)) (v15 : Int32) (hv15 : v15 = (if (i4 &&& (2 : Int32)) = (0 : Int32) then (0 : Int32) else (1 : Int32))) (v20 : Int32) (hv20 : v20 = (if (i4 &&& (4 : Int32)) = (0 : Int32) then (0 : Int32) else (1 : Int32))) (r165 : Int32) (hr165 : r165 = (f_rm8_0 i0 v5)) (v170 : Int32) (hv170 : v170 = (if r165 = (0 : Int32) then (0 : Int32) else (1 : Int32))) (r193 : Int32) (hr193 : r193 = (f_rm9_2 (cs_rm1_0 i0) (cs_rm1_0 v5))) (v196 : Int32) (hv196 : v196 = (if r193 = v170 then (1 : Int32) else (0 : Int32))) (c23 : ¬ (v15 = (0 : Int32))) (c152 : v20 = (0 : Int32)) : nar .boolean v196 = (1 : Int32) := by
  subst hv196 hr193 hv170 hr165 hv20 hv15 hv10 hv5
  simp only [f_rm9_0, f_rm9_1, f_rm9_2, own_same, if_true]
  first | done | rfl | decide
theorem own_end3 (i0 : Int32) (i1 : Int32) (i2 : Int32) (i3 : Int32) (i4 : Int32) (sv_COMPACT_STRINGS : Int32) (v5 : Int32) (hv5 : v5 = (if (i4 &&& (1 : Int32)) = (0 : Int32) then i1 else i0)) (v10 : Int32) (hv10 : v10 = (if (i4 &&& (8 : Int32)) = (0 : Int32) then i3 else i2)) (v15 : Int32) (hv15 : v15 = (if (i4 &&& (2 : Int32)) = (0 : Int32) then (0 : Int32) else (1 : Int32))) (v20 : Int32) (hv20 : v20 = (if (i4 &&& (4 : Int32)) = (0 : Int32) then (0 : Int32) else (1 : Int32))) (r204 : Int32) (hr204 : r204 = (f_rm8_0 i0 v5)) (v209 : Int32) (hv209 : v209 = (if r204 = (0 : Int32) then (0 : Int32) else (1 : Int32))) (r232 : Int32) (hr232 : r232 = (f_rm9_2 (cs_rm1_0 i0) (cs_rm1_0 v5))) (v235 : Int32) (hv235 : v235 = (if r232 = v209 then (1 : Int32) else (0 : Int32))) (c23 : ¬ (v15 = (0 : Int32))) (c152 : ¬ (v20 = (0 : Int32))) : nar .boolean v235 = (1 : Int32) := by
  subst hv235 hr232 hv209 hr204 hv20 hv15 hv10 hv5
  simp only [f_rm9_0, f_rm9_1, f_rm9_2, own_same, if_true]
  first | done | rfl | decide
theorem rm0 (l : Launch) (Z : State) (a0 : Array Value) (hw : HW a0 Z) (ws : List Jvm.Cond) (i0 i1 i2 i3 i4 sv_COMPACT_STRINGS : Int32) (h0 : Heap) (n0 : Nat) (O0 : Old Z n0 h0) (S_COMPACT_STRINGS : Sta Z Z.heap "java/lang/String" "COMPACT_STRINGS" "Z" (.int sv_COMPACT_STRINGS)) (hCS : ¬ (sv_COMPACT_STRINGS = (0 : Int32))) :
    ConW l Z own_EL ([] : List Addr) false x code maxLocals ret ws room_1 #[(.int i0), (.int i1), (.int i2), (.int i3), (.int i4)] h0 (fun v h L => v = some (.int (1 : Int32)) ∧ Fr n0 L) := by
 refine own_bodyW (plainFor_of_name own_pn0) (fun m => ef_rm0 m i0 i1 i2 i3 i4) ?_
 intro p e s m below meth c s₁ hx hby hlk hml hret hZ hown hnm X0 e0 Cd0
 have N0 := Fr.nil n0
 refine Home.run X0 hx hby sg0_0_3 (pc' := 4) (L' := #[.val (.int i0), .val (.int i1), .val (.int i2), .val (.int i3), .val (.int i4), .unset, .unset, .unset, .unset, .unset, .unset, .unset]) (S' := [(.int (i4 &&& (1 : Int32)))]) rfl ?_
 suffices J4 : ∀ {T : State} (X : Stand p l e room_1 (s.setVm s.vm) m #[(.int i0), (.int i1), (.int i2), (.int i3), (.int i4)] below meth c T [] 0 0) (eT : T.heap = h0) (v5 : Int32) (hv5 : v5 = (if (i4 &&& (1 : Int32)) = (0 : Int32) then i1 else i0)), @Home p e below _ T (mkF m 12 #[.val (.int i0), .val (.int i1), .val (.int i2), .val (.int i3), .val (.int i4), .unset, .unset, .unset, .unset, .unset, .unset, .unset] [(.int v5)]) by
  by_cases c1 : (i4 &&& (1 : Int32)) = (0 : Int32)
  ·
   refine Home.go (fun _ => XS.ifYes X0.here hx rfl (pc0 := 4) (pc' := 11) rfl (hb hby at_4) rfl ((if0 _ _).trans (teq c1).1) (by decide) (by decide)) ?_
   have bd2 : ¬ (i4 &&& (1 : Int32)) < (0 : Int32) ∧ ¬ (0 : Int32) < (i4 &&& (1 : Int32)) := ⟨(bnd_eql c1), (bnd_eqr c1)⟩
   refine Home.run X0 hx hby sg0_11_1 (pc' := 12) (L' := #[.val (.int i0), .val (.int i1), .val (.int i2), .val (.int i3), .val (.int i4), .unset, .unset, .unset, .unset, .unset, .unset, .unset]) (S' := [(.int i1)]) rfl ?_
   exact J4 X0 e0 _ (by simp only [if_pos c1])
  ·
   refine Home.go (fun _ => XS.ifNo X0.here hx rfl (hb hby at_4) rfl ((if0 _ _).trans (feq c1).1)) ?_
   have bd3 : ¬ (i4 &&& (1 : Int32)) < (1 : Int32) ∧ ¬ (1 : Int32) < (i4 &&& (1 : Int32)) := ⟨(bnd_nel (bnd_and i4 (1 : Int32) (by decide)).1 c1 (by decide +kernel)), (bnd_and i4 (1 : Int32) (by decide)).2⟩
   refine Home.run X0 hx hby sg0_7_2 (pc' := 12) (L' := #[.val (.int i0), .val (.int i1), .val (.int i2), .val (.int i3), .val (.int i4), .unset, .unset, .unset, .unset, .unset, .unset, .unset]) (S' := [(.int i0)]) rfl ?_
   exact J4 X0 e0 _ (by simp only [if_neg c1])
 intro TJ4 XJ4 eJ4 v5 hv5
 show Home TJ4 (mkF m 12 #[.val (.int i0), .val (.int i1), .val (.int i2), .val (.int i3), .val (.int i4), .unset, .unset, .unset, .unset, .unset, .unset, .unset] [(.int v5)])
 refine Home.run XJ4 hx hby sg0_12_4 (pc' := 19) (L' := #[.val (.int i0), .val (.int i1), .val (.int i2), .val (.int i3), .val (.int i4), .val (.int v5), .unset, .unset, .unset, .unset, .unset, .unset]) (S' := [(.int (i4 &&& (8 : Int32)))]) rfl ?_
 suffices J9 : ∀ {T : State} (X : Stand p l e room_1 (s.setVm s.vm) m #[(.int i0), (.int i1), (.int i2), (.int i3), (.int i4)] below meth c T [] 0 0) (eT : T.heap = h0) (v10 : Int32) (hv10 : v10 = (if (i4 &&& (8 : Int32)) = (0 : Int32) then i3 else i2)), @Home p e below _ T (mkF m 27 #[.val (.int i0), .val (.int i1), .val (.int i2), .val (.int i3), .val (.int i4), .val (.int v5), .unset, .unset, .unset, .unset, .unset, .unset] [(.int v10)]) by
  by_cases c6 : (i4 &&& (8 : Int32)) = (0 : Int32)
  ·
   refine Home.go (fun _ => XS.ifYes XJ4.here hx rfl (pc0 := 19) (pc' := 26) rfl (hb hby at_19) rfl ((if0 _ _).trans (teq c6).1) (by decide) (by decide)) ?_
   have bd7 : ¬ (i4 &&& (8 : Int32)) < (0 : Int32) ∧ ¬ (0 : Int32) < (i4 &&& (8 : Int32)) := ⟨(bnd_eql c6), (bnd_eqr c6)⟩
   refine Home.run XJ4 hx hby sg0_26_1 (pc' := 27) (L' := #[.val (.int i0), .val (.int i1), .val (.int i2), .val (.int i3), .val (.int i4), .val (.int v5), .unset, .unset, .unset, .unset, .unset, .unset]) (S' := [(.int i3)]) rfl ?_
   exact J9 XJ4 eJ4 _ (by simp only [if_pos c6])
  ·
   refine Home.go (fun _ => XS.ifNo XJ4.here hx rfl (hb hby at_19) rfl ((if0 _ _).trans (feq c6).1)) ?_
   have bd8 : ¬ (i4 &&& (8 : Int32)) < (1 : Int32) ∧ ¬ (8 : Int32) < (i4 &&& (8 : Int32)) := ⟨(bnd_nel (bnd_and i4 (8 : Int32) (by decide)).1 c6 (by decide +kernel)), (bnd_and i4 (8 : Int32) (by decide)).2⟩
   refine Home.run XJ4 hx hby sg0_22_2 (pc' := 27) (L' := #[.val (.int i0), .val (.int i1), .val (.int i2), .val (.int i3), .val (.int i4), .val (.int v5), .unset, .unset, .unset, .unset, .unset, .unset]) (S' := [(.int i2)]) rfl ?_
   exact J9 XJ4 eJ4 _ (by simp only [if_neg c6])
 intro TJ9 XJ9 eJ9 v10 hv10
 show Home TJ9 (mkF m 27 #[.val (.int i0), .val (.int i1), .val (.int i2), .val (.int i3), .val (.int i4), .val (.int v5), .unset, .unset, .unset, .unset, .unset, .unset] [(.int v10)])
 refine Home.run XJ9 hx hby sg0_27_4 (pc' := 33) (L' := #[.val (.int i0), .val (.int i1), .val (.int i2), .val (.int i3), .val (.int i4), .val (.int v5), .val (.int v10), .unset, .unset, .unset, .unset, .unset]) (S' := [(.int (i4 &&& (2 : Int32)))]) rfl ?_
 suffices J14 : ∀ {T : State} (X : Stand p l e room_1 (s.setVm s.vm) m #[(.int i0), (.int i1), (.int i2), (.int i3), (.int i4)] below meth c T [] 0 0) (eT : T.heap = h0) (v15 : Int32) (hv15 : v15 = (if (i4 &&& (2 : Int32)) = (0 : Int32) then (0 : Int32) else (1 : Int32))), @Home p e below _ T (mkF m 41 #[.val (.int i0), .val (.int i1), .val (.int i2), .val (.int i3), .val (.int i4), .val (.int v5), .val (.int v10), .unset, .unset, .unset, .unset, .unset] [(.int v15)]) by
  by_cases c11 : (i4 &&& (2 : Int32)) = (0 : Int32)
  ·
   refine Home.go (fun _ => XS.ifYes XJ9.here hx rfl (pc0 := 33) (pc' := 40) rfl (hb hby at_33) rfl ((if0 _ _).trans (teq c11).1) (by decide) (by decide)) ?_
   have bd12 : ¬ (i4 &&& (2 : Int32)) < (0 : Int32) ∧ ¬ (0 : Int32) < (i4 &&& (2 : Int32)) := ⟨(bnd_eql c11), (bnd_eqr c11)⟩
   refine Home.run XJ9 hx hby sg0_40_1 (pc' := 41) (L' := #[.val (.int i0), .val (.int i1), .val (.int i2), .val (.int i3), .val (.int i4), .val (.int v5), .val (.int v10), .unset, .unset, .unset, .unset, .unset]) (S' := [(.int (0 : Int32))]) rfl ?_
   exact J14 XJ9 eJ9 _ (by simp only [if_pos c11])
  ·
   refine Home.go (fun _ => XS.ifNo XJ9.here hx rfl (hb hby at_33) rfl ((if0 _ _).trans (feq c11).1)) ?_
   have bd13 : ¬ (i4 &&& (2 : Int32)) < (1 : Int32) ∧ ¬ (2 : Int32) < (i4 &&& (2 : Int32)) := ⟨(bnd_nel (bnd_and i4 (2 : Int32) (by decide)).1 c11 (by decide +kernel)), (bnd_and i4 (2 : Int32) (by decide)).2⟩
   refine Home.run XJ9 hx hby sg0_36_2 (pc' := 41) (L' := #[.val (.int i0), .val (.int i1), .val (.int i2), .val (.int i3), .val (.int i4), .val (.int v5), .val (.int v10), .unset, .unset, .unset, .unset, .unset]) (S' := [(.int (1 : Int32))]) rfl ?_
   exact J14 XJ9 eJ9 _ (by simp only [if_neg c11])
 intro TJ14 XJ14 eJ14 v15 hv15
 have bv15 : ¬ v15 < (0 : Int32) ∧ ¬ (1 : Int32) < v15 := by rw [hv15]; exact (bnd_ite (bnd_mono (bnd_lit (0 : Int32)) (by decide +kernel) (by decide +kernel)) (bnd_mono (bnd_lit (1 : Int32)) (by decide +kernel) (by decide +kernel)))
 show Home TJ14 (mkF m 41 #[.val (.int i0), .val (.int i1), .val (.int i2), .val (.int i3), .val (.int i4), .val (.int v5), .val (.int v10), .unset, .unset, .unset, .unset, .unset] [(.int v15)])
 refine Home.run XJ14 hx hby sg0_41_4 (pc' := 47) (L' := #[.val (.int i0), .val (.int i1), .val (.int i2), .val (.int i3), .val (.int i4), .val (.int v5), .val (.int v10), .val (.int v15), .unset, .unset, .unset, .unset]) (S' := [(.int (i4 &&& (4 : Int32)))]) rfl ?_
 suffices J19 : ∀ {T : State} (X : Stand p l e room_1 (s.setVm s.vm) m #[(.int i0), (.int i1), (.int i2), (.int i3), (.int i4)] below meth c T [] 0 0) (eT : T.heap = h0) (v20 : Int32) (hv20 : v20 = (if (i4 &&& (4 : Int32)) = (0 : Int32) then (0 : Int32) else (1 : Int32))), @Home p e below _ T (mkF m 55 #[.val (.int i0), .val (.int i1), .val (.int i2), .val (.int i3), .val (.int i4), .val (.int v5), .val (.int v10), .val (.int v15), .unset, .unset, .unset, .unset] [(.int v20)]) by
  by_cases c16 : (i4 &&& (4 : Int32)) = (0 : Int32)
  ·
   refine Home.go (fun _ => XS.ifYes XJ14.here hx rfl (pc0 := 47) (pc' := 54) rfl (hb hby at_47) rfl ((if0 _ _).trans (teq c16).1) (by decide) (by decide)) ?_
   have bd17 : ¬ (i4 &&& (4 : Int32)) < (0 : Int32) ∧ ¬ (0 : Int32) < (i4 &&& (4 : Int32)) := ⟨(bnd_eql c16), (bnd_eqr c16)⟩
   refine Home.run XJ14 hx hby sg0_54_1 (pc' := 55) (L' := #[.val (.int i0), .val (.int i1), .val (.int i2), .val (.int i3), .val (.int i4), .val (.int v5), .val (.int v10), .val (.int v15), .unset, .unset, .unset, .unset]) (S' := [(.int (0 : Int32))]) rfl ?_
   exact J19 XJ14 eJ14 _ (by simp only [if_pos c16])
  ·
   refine Home.go (fun _ => XS.ifNo XJ14.here hx rfl (hb hby at_47) rfl ((if0 _ _).trans (feq c16).1)) ?_
   have bd18 : ¬ (i4 &&& (4 : Int32)) < (1 : Int32) ∧ ¬ (4 : Int32) < (i4 &&& (4 : Int32)) := ⟨(bnd_nel (bnd_and i4 (4 : Int32) (by decide)).1 c16 (by decide +kernel)), (bnd_and i4 (4 : Int32) (by decide)).2⟩
   refine Home.run XJ14 hx hby sg0_50_2 (pc' := 55) (L' := #[.val (.int i0), .val (.int i1), .val (.int i2), .val (.int i3), .val (.int i4), .val (.int v5), .val (.int v10), .val (.int v15), .unset, .unset, .unset, .unset]) (S' := [(.int (1 : Int32))]) rfl ?_
   exact J19 XJ14 eJ14 _ (by simp only [if_neg c16])
 intro TJ19 XJ19 eJ19 v20 hv20
 have bv20 : ¬ v20 < (0 : Int32) ∧ ¬ (1 : Int32) < v20 := by rw [hv20]; exact (bnd_ite (bnd_mono (bnd_lit (0 : Int32)) (by decide +kernel) (by decide +kernel)) (bnd_mono (bnd_lit (1 : Int32)) (by decide +kernel) (by decide +kernel)))
 show Home TJ19 (mkF m 55 #[.val (.int i0), .val (.int i1), .val (.int i2), .val (.int i3), .val (.int i4), .val (.int v5), .val (.int v10), .val (.int v15), .unset, .unset, .unset, .unset] [(.int v20)])
 refine Home.run XJ19 hx hby sg0_55_1 (pc' := 57) (L' := #[.val (.int i0), .val (.int i1), .val (.int i2), .val (.int i3), .val (.int i4), .val (.int v5), .val (.int v10), .val (.int v15), .val (.int v20), .unset, .unset, .unset]) (S' := []) rfl ?_
 refine Home.nw (own_newO XJ19 hx hZ hown (own_w0 hw) (own_w1 hw) (own_w2 hw) eJ19 rfl (hb hby at_57) (by decide) (by decide)) fun T21 h21 b21 g21 X21 e21 E21 A21 D21 => ?_
 have g_b21 : n0 ≤ b21 := Nat.le_trans (Old.le O0) (Nat.le_of_eq g21.symm)
 have F_url_b21 : Fld Z h21 b21 "com/example/invocant/invocant/Canonical" "url" "Ljava/lang/String;" .null := D21 (Or.inr (own_w42 hw)) (ty := (.object "java/lang/String")) (by decide)
 have F_version_b21 : Fld Z h21 b21 "com/example/invocant/invocant/Canonical" "version" "Ljava/lang/String;" .null := D21 (Or.inr (own_w44 hw)) (ty := (.object "java/lang/String")) (by decide)
 have O21 := O0.ext E21
 have K21 : Keep h0 h21 ([] : List Addr) := Keep.ext (Keep.refl h0 ([] : List Addr)) E21
 have Cd21 := Cold.ext Cd0 E21
 show Home T21 (mkF m 60 #[.val (.int i0), .val (.int i1), .val (.int i2), .val (.int i3), .val (.int i4), .val (.int v5), .val (.int v10), .val (.int v15), .val (.int v20), .unset, .unset, .unset] [(.ref b21)])
 refine Home.run X21 hx hby sg0_60_2 (pc' := 62) (L' := #[.val (.int i0), .val (.int i1), .val (.int i2), .val (.int i3), .val (.int i4), .val (.int v5), .val (.int v10), .val (.int v15), .val (.int v20), .unset, .unset, .unset]) (S' := [(.int i0), (.ref b21), (.ref b21)]) rfl ?_
 refine Home.call (own_staticW X21 hx hZ hown (own_hEL hw) Cd21 all0 (own_w3 hw) (own_w4 hw) (own_w5 hw) (own_w6 hw) (by decide) (rm1_0 l Z a0 hw [] i0 sv_COMPACT_STRINGS h21 n0 O21 S_COMPACT_STRINGS hCS) e21 rfl (by rw [hml]; rfl) (argsL := [(.int i0)]) (rest := [(.ref b21), (.ref b21)]) (lenOf own_pd7 rfl) rfl rfl (W := 2) (by exact hW0) (by decide) (by decide) (hb hby at_62) (by decide) (by decide)) ?_
 rintro _ T22 L22 X22 ⟨⟨rs_22, rb_22, rk_22, rfl, N22q, sz_rs_22, K22q, P22_0, P22_1, P22_2, P22_3⟩, hZ, hown, Cd22, sR22⟩
 have Ce22 := Cold.put Cd22 (sR22 rfl _ rfl)
 have g_rs_22 : n0 ≤ rs_22 := Nat.le_trans (Old.le O21) sz_rs_22
 have O22 := Old.keep O21 K22q all0
 have K22 : Keep h0 T22.heap ([] : List Addr) := Keep.trans K21 K22q all0
 have N22 := Fr.app N0 N22q
 show Home T22 (mkF m 65 #[.val (.int i0), .val (.int i1), .val (.int i2), .val (.int i3), .val (.int i4), .val (.int v5), .val (.int v10), .val (.int v15), .val (.int v20), .unset, .unset, .unset] [(.ref rs_22), (.ref b21), (.ref b21)])
 refine Home.run X22 hx hby sg0_65_1 (pc' := 67) (L' := #[.val (.int i0), .val (.int i1), .val (.int i2), .val (.int i3), .val (.int i4), .val (.int v5), .val (.int v10), .val (.int v15), .val (.int v20), .unset, .unset, .unset]) (S' := [(.int v15), (.ref rs_22), (.ref b21), (.ref b21)]) rfl ?_
 by_cases c23 : v15 = (0 : Int32)
 ·
  refine Home.go (fun _ => XS.ifYes X22.here hx rfl (pc0 := 67) (pc' := 74) rfl (hb hby at_67) rfl ((if0 _ _).trans (teq c23).1) (by decide) (by decide)) ?_
  have bd24 : ¬ v15 < (0 : Int32) ∧ ¬ (0 : Int32) < v15 := ⟨(bnd_eql c23), (bnd_eqr c23)⟩
  have fx25 : v15 = (0 : Int32) := bnd_fix bd24
  try rw [fx25]
  show Home T22 (mkF m 74 #[.val (.int i0), .val (.int i1), .val (.int i2), .val (.int i3), .val (.int i4), .val (.int v5), .val (.int v10), .val (.int (0 : Int32)), .val (.int v20), .unset, .unset, .unset] [(.ref rs_22), (.ref b21), (.ref b21)])
  refine Home.run X22 hx hby sg0_74_1 (pc' := 75) (L' := #[.val (.int i0), .val (.int i1), .val (.int i2), .val (.int i3), .val (.int i4), .val (.int v5), .val (.int v10), .val (.int (0 : Int32)), .val (.int v20), .unset, .unset, .unset]) (S' := [(.int i2), (.ref rs_22), (.ref b21), (.ref b21)]) rfl ?_
  refine Home.call (own_staticW X22 hx hZ hown (own_hEL hw) Ce22 all0 (own_w3 hw) (own_w4 hw) (own_w5 hw) (own_w6 hw) (by decide) (rm1_0 l Z a0 hw [] i2 sv_COMPACT_STRINGS T22.heap n0 O22 S_COMPACT_STRINGS hCS) rfl rfl (by rw [hml]; rfl) (argsL := [(.int i2)]) (rest := [(.ref rs_22), (.ref b21), (.ref b21)]) (lenOf own_pd7 rfl) rfl rfl (W := 3) (by exact hW0) (by decide) (by decide) (hb hby at_75) (by decide) (by decide)) ?_
  rintro _ T28 L28 X28 ⟨⟨rs_28, rb_28, rk_28, rfl, N28q, sz_rs_28, K28q, P28_0, P28_1, P28_2, P28_3⟩, hZ, hown, Cd28, sR28⟩
  have Ce28 := Cold.put Cd28 (sR28 rfl _ rfl)
  have g_rs_28 : n0 ≤ rs_28 := Nat.le_trans (Old.le O22) sz_rs_28
  have O28 := Old.keep O22 K28q all0
  have K28 : Keep h0 T28.heap ([] : List Addr) := Keep.trans K22 K28q all0
  have N28 := Fr.app N22 N28q
  show Home T28 (mkF m 78 #[.val (.int i0), .val (.int i1), .val (.int i2), .val (.int i3), .val (.int i4), .val (.int v5), .val (.int v10), .val (.int (0 : Int32)), .val (.int v20), .unset, .unset, .unset] [(.ref rs_28), (.ref rs_22), (.ref b21), (.ref b21)])
  have q29 := ((A21.keep K22q).keep K28q)
  have q30 := ((F_url_b21.keep K22q nin0).keep K28q nin0)
  have q31 := ((F_version_b21.keep K22q nin0).keep K28q nin0)
  refine Home.call (own_special X28 hx hZ hown rfl (own_w32 hw) (own_w33 hw) (own_w2 hw) (own_w34 hw) (by decide) (rm6_0 l Z a0 hw [] b21 rs_22 rs_28 T28.heap n0 O28 q29 q30 g_b21 q31) rfl rfl (by rw [hml]; rfl) (a := b21) (argsL := [(.ref rs_22), (.ref rs_28)]) (rest := [(.ref b21)]) (lenOf own_pd9 rfl) rfl rfl (W := 1) (by exact hW0) (by decide) (by decide) (hb hby at_78) (by decide) (by decide)) ?_
  rintro _ T32 L32 X32 ⟨rfl, N32q, K32q, P32_0, P32_1, P32_2⟩
  have Cd32 := Cold.keep Ce28 K32q (allS (Safe.exa hZ.alike q29 (by decide) (by decide)) all0)
  have O32 := Old.keep O28 K32q (allS g_b21 all0)
  have K32 : Keep h0 T32.heap ([] : List Addr) := Keep.trans K28 K32q (allS (Or.inr (Nat.le_trans (Nat.le_refl _) (Nat.le_of_eq g21.symm))) all0)
  have N32 := Fr.app N28 N32q
  show Home T32 (mkF m 81 #[.val (.int i0), .val (.int i1), .val (.int i2), .val (.int i3), .val (.int i4), .val (.int v5), .val (.int v10), .val (.int (0 : Int32)), .val (.int v20), .unset, .unset, .unset] [(.ref b21)])
  refine Home.run X32 hx hby sg0_81_1 (pc' := 83) (L' := #[.val (.int i0), .val (.int i1), .val (.int i2), .val (.int i3), .val (.int i4), .val (.int v5), .val (.int v10), .val (.int (0 : Int32)), .val (.int v20), .val (.ref b21), .unset, .unset]) (S' := []) rfl ?_
  refine Home.nw (own_newO X32 hx hZ hown (own_w0 hw) (own_w1 hw) (own_w2 hw) rfl rfl (hb hby at_83) (by decide) (by decide)) fun T33 h33 b33 g33 X33 e33 E33 A33 D33 => ?_
  have g_b33 : n0 ≤ b33 := Nat.le_trans (Old.le O32) (Nat.le_of_eq g33.symm)
  have F_url_b33 : Fld Z h33 b33 "com/example/invocant/invocant/Canonical" "url" "Ljava/lang/String;" .null := D33 (Or.inr (own_w42 hw)) (ty := (.object "java/lang/String")) (by decide)
  have F_version_b33 : Fld Z h33 b33 "com/example/invocant/invocant/Canonical" "version" "Ljava/lang/String;" .null := D33 (Or.inr (own_w44 hw)) (ty := (.object "java/lang/String")) (by decide)
  have O33 := O32.ext E33
  have K33 : Keep h0 h33 ([] : List Addr) := Keep.ext K32 E33
  have Cd33 := Cold.ext Cd32 E33
  show Home T33 (mkF m 86 #[.val (.int i0), .val (.int i1), .val (.int i2), .val (.int i3), .val (.int i4), .val (.int v5), .val (.int v10), .val (.int (0 : Int32)), .val (.int v20), .val (.ref b21), .unset, .unset] [(.ref b33)])
  refine Home.run X33 hx hby sg0_86_2 (pc' := 89) (L' := #[.val (.int i0), .val (.int i1), .val (.int i2), .val (.int i3), .val (.int i4), .val (.int v5), .val (.int v10), .val (.int (0 : Int32)), .val (.int v20), .val (.ref b21), .unset, .unset]) (S' := [(.int v5), (.ref b33), (.ref b33)]) rfl ?_
  refine Home.call (own_staticW X33 hx hZ hown (own_hEL hw) Cd33 all0 (own_w3 hw) (own_w4 hw) (own_w5 hw) (own_w6 hw) (by decide) (rm1_0 l Z a0 hw [] v5 sv_COMPACT_STRINGS h33 n0 O33 S_COMPACT_STRINGS hCS) e33 rfl (by rw [hml]; rfl) (argsL := [(.int v5)]) (rest := [(.ref b33), (.ref b33)]) (lenOf own_pd7 rfl) rfl rfl (W := 2) (by exact hW0) (by decide) (by decide) (hb hby at_89) (by decide) (by decide)) ?_
  rintro _ T34 L34 X34 ⟨⟨rs_34, rb_34, rk_34, rfl, N34q, sz_rs_34, K34q, P34_0, P34_1, P34_2, P34_3⟩, hZ, hown, Cd34, sR34⟩
  have Ce34 := Cold.put Cd34 (sR34 rfl _ rfl)
  have g_rs_34 : n0 ≤ rs_34 := Nat.le_trans (Old.le O33) sz_rs_34
  have O34 := Old.keep O33 K34q all0
  have K34 : Keep h0 T34.heap ([] : List Addr) := Keep.trans K33 K34q all0
  have N34 := Fr.app N32 N34q
  show Home T34 (mkF m 92 #[.val (.int i0), .val (.int i1), .val (.int i2), .val (.int i3), .val (.int i4), .val (.int v5), .val (.int v10), .val (.int (0 : Int32)), .val (.int v20), .val (.ref b21), .unset, .unset] [(.ref rs_34), (.ref b33), (.ref b33)])
  refine Home.run X34 hx hby sg0_92_1 (pc' := 94) (L' := #[.val (.int i0), .val (.int i1), .val (.int i2), .val (.int i3), .val (.int i4), .val (.int v5), .val (.int v10), .val (.int (0 : Int32)), .val (.int v20), .val (.ref b21), .unset, .unset]) (S' := [(.int v20), (.ref rs_34), (.ref b33), (.ref b33)]) rfl ?_
  by_cases c35 : v20 = (0 : Int32)
  ·
   refine Home.go (fun _ => XS.ifYes X34.here hx rfl (pc0 := 94) (pc' := 101) rfl (hb hby at_94) rfl ((if0 _ _).trans (teq c35).1) (by decide) (by decide)) ?_
   have bd36 : ¬ v20 < (0 : Int32) ∧ ¬ (0 : Int32) < v20 := ⟨(bnd_eql c35), (bnd_eqr c35)⟩
   have fx37 : v20 = (0 : Int32) := bnd_fix bd36
   try rw [fx37]
   show Home T34 (mkF m 101 #[.val (.int i0), .val (.int i1), .val (.int i2), .val (.int i3), .val (.int i4), .val (.int v5), .val (.int v10), .val (.int (0 : Int32)), .val (.int (0 : Int32)), .val (.ref b21), .unset, .unset] [(.ref rs_34), (.ref b33), (.ref b33)])
   refine Home.run X34 hx hby sg0_101_1 (pc' := 103) (L' := #[.val (.int i0), .val (.int i1), .val (.int i2), .val (.int i3), .val (.int i4), .val (.int v5), .val (.int v10), .val (.int (0 : Int32)), .val (.int (0 : Int32)), .val (.ref b21), .unset, .unset]) (S' := [(.int v10), (.ref rs_34), (.ref b33), (.ref b33)]) rfl ?_
   refine Home.call (own_staticW X34 hx hZ hown (own_hEL hw) Ce34 all0 (own_w3 hw) (own_w4 hw) (own_w5 hw) (own_w6 hw) (by decide) (rm1_0 l Z a0 hw [] v10 sv_COMPACT_STRINGS T34.heap n0 O34 S_COMPACT_STRINGS hCS) rfl rfl (by rw [hml]; rfl) (argsL := [(.int v10)]) (rest := [(.ref rs_34), (.ref b33), (.ref b33)]) (lenOf own_pd7 rfl) rfl rfl (W := 3) (by exact hW0) (by decide) (by decide) (hb hby at_103) (by decide) (by decide)) ?_
   rintro _ T40 L40 X40 ⟨⟨rs_40, rb_40, rk_40, rfl, N40q, sz_rs_40, K40q, P40_0, P40_1, P40_2, P40_3⟩, hZ, hown, Cd40, sR40⟩
   have Ce40 := Cold.put Cd40 (sR40 rfl _ rfl)
   have g_rs_40 : n0 ≤ rs_40 := Nat.le_trans (Old.le O34) sz_rs_40
   have O40 := Old.keep O34 K40q all0
   have K40 : Keep h0 T40.heap ([] : List Addr) := Keep.trans K34 K40q all0
   have N40 := Fr.app N34 N40q
   show Home T40 (mkF m 106 #[.val (.int i0), .val (.int i1), .val (.int i2), .val (.int i3), .val (.int i4), .val (.int v5), .val (.int v10), .val (.int (0 : Int32)), .val (.int (0 : Int32)), .val (.ref b21), .unset, .unset] [(.ref rs_40), (.ref rs_34), (.ref b33), (.ref b33)])
   have q41 := ((A33.keep K34q).keep K40q)
   have q42 := ((F_url_b33.keep K34q nin0).keep K40q nin0)
   have q43 := ((F_version_b33.keep K34q nin0).keep K40q nin0)
   refine Home.call (own_special X40 hx hZ hown rfl (own_w32 hw) (own_w33 hw) (own_w2 hw) (own_w34 hw) (by decide) (rm6_0 l Z a0 hw [] b33 rs_34 rs_40 T40.heap n0 O40 q41 q42 g_b33 q43) rfl rfl (by rw [hml]; rfl) (a := b33) (argsL := [(.ref rs_34), (.ref rs_40)]) (rest := [(.ref b33)]) (lenOf own_pd9 rfl) rfl rfl (W := 1) (by exact hW0) (by decide) (by decide) (hb hby at_106) (by decide) (by decide)) ?_
   rintro _ T44 L44 X44 ⟨rfl, N44q, K44q, P44_0, P44_1, P44_2⟩
   have Cd44 := Cold.keep Ce40 K44q (allS (Safe.exa hZ.alike q41 (by decide) (by decide)) all0)
   have le45 : h0.size ≤ T22.heap.size := Nat.le_trans E21.1 K22q.1
   have le46 : h0.size ≤ T28.heap.size := Nat.le_trans le45 K28q.1
   have le47 : h0.size ≤ T32.heap.size := Nat.le_trans le46 K32q.1
   have O44 := Old.keep O40 K44q (allS g_b33 all0)
   have K44 : Keep h0 T44.heap ([] : List Addr) := Keep.trans K40 K44q (allS (Or.inr (Nat.le_trans le47 (Nat.le_of_eq g33.symm))) all0)
   have N44 := Fr.app N40 N44q
   show Home T44 (mkF m 109 #[.val (.int i0), .val (.int i1), .val (.int i2), .val (.int i3), .val (.int i4), .val (.int v5), .val (.int v10), .val (.int (0 : Int32)), .val (.int (0 : Int32)), .val (.ref b21), .unset, .unset] [(.ref b33)])
   refine Home.run X44 hx hby sg0_109_3 (pc' := 114) (L' := #[.val (.int i0), .val (.int i1), .val (.int i2), .val (.int i3), .val (.int i4), .val (.int v5), .val (.int v10), .val (.int (0 : Int32)), .val (.int (0 : Int32)), .val (.ref b21), .val (.ref b33), .unset]) (S' := [(.int v5), (.int i0)]) rfl ?_
   refine Home.st (own_pure (own_static X44 hx hZ hown (own_w45 hw) (own_w46 hw) (own_w5 hw) (own_w47 hw) (by decide) (rm8_0 l Z a0 hw [] i0 v5 T44.heap n0 O44) rfl rfl (by rw [hml]; rfl) (argsL := [(.int i0), (.int v5)]) (rest := []) (lenOf own_pd10 rfl) rfl rfl (W := 0) (by exact hW0) (by decide) (by decide) (hb hby at_114) (by decide) (by decide))) fun T48 X48 e48 => ?_
   show Home T48 (mkF m 117 #[.val (.int i0), .val (.int i1), .val (.int i2), .val (.int i3), .val (.int i4), .val (.int v5), .val (.int v10), .val (.int (0 : Int32)), .val (.int (0 : Int32)), .val (.ref b21), .val (.ref b33), .unset] [(.int (f_rm8_0 i0 v5))])
   obtain ⟨r49, hr49⟩ : ∃ z, z = (f_rm8_0 i0 v5) := ⟨_, rfl⟩
   rw [← hr49]
   have br49 : ¬ r49 < (0 : Int32) ∧ ¬ (1 : Int32) < r49 := by rw [hr49]; exact f_rm8_0_bnd i0 v5
   suffices J57 : ∀ {T : State} {lc : List Loc} (X : Stand p l e room_1 (s.setVm T40.vm) m #[(.int i0), (.int i1), (.int i2), (.int i3), (.int i4)] below meth c T lc 26 52) (N : Fr n0 lc) (eT : T.heap = T44.heap) (v58 : Int32) (hv58 : v58 = (if r49 = (0 : Int32) then (0 : Int32) else (if (f_rm8_0 i2 v10) = (0 : Int32) then (0 : Int32) else (1 : Int32)))), @Home p e below _ T (mkF m 144 #[.val (.int i0), .val (.int i1), .val (.int i2), .val (.int i3), .val (.int i4), .val (.int v5), .val (.int v10), .val (.int (0 : Int32)), .val (.int (0 : Int32)), .val (.ref b21), .val (.ref b33), .unset] [(.int v58)]) by
    by_cases c50 : r49 = (0 : Int32)
    ·
     refine Home.go (fun _ => XS.ifYes X48.here hx rfl (pc0 := 117) (pc' := 143) rfl (hb hby at_117) rfl ((if0 _ _).trans (teq c50).1) (by decide) (by decide)) ?_
     have bd51 : ¬ r49 < (0 : Int32) ∧ ¬ (0 : Int32) < r49 := ⟨(bnd_eql c50), (bnd_eqr c50)⟩
     refine Home.run X48 hx hby sg0_143_1 (pc' := 144) (L' := #[.val (.int i0), .val (.int i1), .val (.int i2), .val (.int i3), .val (.int i4), .val (.int v5), .val (.int v10), .val (.int (0 : Int32)), .val (.int (0 : Int32)), .val (.ref b21), .val (.ref b33), .unset]) (S' := [(.int (0 : Int32))]) rfl ?_
     exact J57 X48 N44 e48 _ (by simp only [if_pos c50])
    ·
     refine Home.go (fun _ => XS.ifNo X48.here hx rfl (hb hby at_117) rfl ((if0 _ _).trans (feq c50).1)) ?_
     have bd52 : ¬ r49 < (1 : Int32) ∧ ¬ (1 : Int32) < r49 := ⟨(bnd_nel br49.1 c50 (by decide +kernel)), br49.2⟩
     refine Home.run X48 hx hby sg0_120_1 (pc' := 122) (L' := #[.val (.int i0), .val (.int i1), .val (.int i2), .val (.int i3), .val (.int i4), .val (.int v5), .val (.int v10), .val (.int (0 : Int32)), .val (.int (0 : Int32)), .val (.ref b21), .val (.ref b33), .unset]) (S' := [(.int (0 : Int32))]) rfl ?_
     refine Home.go (fun _ => XS.ifNo X48.here hx rfl (hb hby at_122) rfl ((if0 _ _).trans (teq (by decide)).2)) ?_
     refine Home.run X48 hx hby sg0_125_1 (pc' := 127) (L' := #[.val (.int i0), .val (.int i1), .val (.int i2), .val (.int i3), .val (.int i4), .val (.int v5), .val (.int v10), .val (.int (0 : Int32)), .val (.int (0 : Int32)), .val (.ref b21), .val (.ref b33), .unset]) (S' := [(.int (0 : Int32))]) rfl ?_
     refine Home.go (fun _ => XS.ifNo X48.here hx rfl (hb hby at_127) rfl ((if0 _ _).trans (teq (by decide)).2)) ?_
     refine Home.run X48 hx hby sg0_130_2 (pc' := 133) (L' := #[.val (.int i0), .val (.int i1), .val (.int i2), .val (.int i3), .val (.int i4), .val (.int v5), .val (.int v10), .val (.int (0 : Int32)), .val (.int (0 : Int32)), .val (.ref b21), .val (.ref b33), .unset]) (S' := [(.int v10), (.int i2)]) rfl ?_
     refine Home.st (own_pure (own_static X48 hx hZ hown (own_w45 hw) (own_w46 hw) (own_w5 hw) (own_w47 hw) (by decide) (rm8_0 l Z a0 hw [] i2 v10 T44.heap n0 O44) e48 rfl (by rw [hml]; rfl) (argsL := [(.int i2), (.int v10)]) (rest := []) (lenOf own_pd10 rfl) rfl rfl (W := 0) (by exact hW0) (by decide) (by decide) (hb hby at_133) (by decide) (by decide))) fun T53 X53 e53 => ?_
     by_cases c54 : (f_rm8_0 i2 v10) = (0 : Int32)
     ·
      refine Home.go (fun _ => XS.ifYes X53.here hx rfl (pc0 := 136) (pc' := 143) rfl (hb hby at_136) rfl ((if0 _ _).trans (teq c54).1) (by decide) (by decide)) ?_
      have bd55 : ¬ (f_rm8_0 i2 v10) < (0 : Int32) ∧ ¬ (0 : Int32) < (f_rm8_0 i2 v10) := ⟨(bnd_eql c54), (bnd_eqr c54)⟩
      refine Home.run X53 hx hby sg0_143_1 (pc' := 144) (L' := #[.val (.int i0), .val (.int i1), .val (.int i2), .val (.int i3), .val (.int i4), .val (.int v5), .val (.int v10), .val (.int (0 : Int32)), .val (.int (0 : Int32)), .val (.ref b21), .val (.ref b33), .unset]) (S' := [(.int (0 : Int32))]) rfl ?_
      exact J57 X53 N44 e53 _ (by simp only [if_neg c50, if_pos c54])
     ·
      refine Home.go (fun _ => XS.ifNo X53.here hx rfl (hb hby at_136) rfl ((if0 _ _).trans (feq c54).1)) ?_
      have bd56 : ¬ (f_rm8_0 i2 v10) < (1 : Int32) ∧ ¬ (1 : Int32) < (f_rm8_0 i2 v10) := ⟨(bnd_nel (f_rm8_0_bnd i2 v10).1 c54 (by decide +kernel)), (f_rm8_0_bnd i2 v10).2⟩
      refine Home.run X53 hx hby sg0_139_2 (pc' := 144) (L' := #[.val (.int i0), .val (.int i1), .val (.int i2), .val (.int i3), .val (.int i4), .val (.int v5), .val (.int v10), .val (.int (0 : Int32)), .val (.int (0 : Int32)), .val (.ref b21), .val (.ref b33), .unset]) (S' := [(.int (1 : Int32))]) rfl ?_
      exact J57 X53 N44 e53 _ (by simp only [if_neg c50, if_neg c54])
   intro TJ57 lcJ57 XJ57 NJ57 eJ57 v58 hv58
   have bv58 : ¬ v58 < (0 : Int32) ∧ ¬ (1 : Int32) < v58 := by rw [hv58]; exact (bnd_ite (bnd_mono (bnd_lit (0 : Int32)) (by decide +kernel) (by decide +kernel)) (bnd_ite (bnd_mono (bnd_lit (0 : Int32)) (by decide +kernel) (by decide +kernel)) (bnd_mono (bnd_lit (1 : Int32)) (by decide +kernel) (by decide +kernel))))
   show Home TJ57 (mkF m 144 #[.val (.int i0), .val (.int i1), .val (.int i2), .val (.int i3), .val (.int i4), .val (.int v5), .val (.int v10), .val (.int (0 : Int32)), .val (.int (0 : Int32)), .val (.ref b21), .val (.ref b33), .unset] [(.int v58)])
   refine Home.run XJ57 hx hby sg0_144_3 (pc' := 150) (L' := #[.val (.int i0), .val (.int i1), .val (.int i2), .val (.int i3), .val (.int i4), .val (.int v5), .val (.int v10), .val (.int (0 : Int32)), .val (.int (0 : Int32)), .val (.ref b21), .val (.ref b33), .val (.int v58)]) (S' := [(.ref b33), (.ref b21)]) rfl ?_
   have q59 := ((((P32_0.ext E33).keep K34q).keep K40q).keep K44q)
   have le60 : h21.size ≤ T28.heap.size := Nat.le_trans K22q.1 K28q.1
   have le61 : h21.size ≤ T32.heap.size := Nat.le_trans le60 K32q.1
   have ne62 : b21 ≠ b33 := (Nat.ne_of_lt (Nat.lt_of_lt_of_le A21.lt (Nat.le_trans le61 (Nat.le_of_eq g33.symm))))
   have q63 := ((((P32_1.ext E33).keep K34q nin0).keep K40q nin0).keep K44q (ninS ne62 nin0))
   have q64 := ((((((P22_0.keep K28q).keep K32q).ext E33).keep K34q).keep K40q).keep K44q)
   have ne65 : rs_22 ≠ b21 := (Ne.symm (Nat.ne_of_lt (Nat.lt_of_lt_of_le A21.lt (Nat.le_trans (Nat.le_refl _) sz_rs_22))))
   have le66 : T22.heap.size ≤ T32.heap.size := Nat.le_trans K28q.1 K32q.1
   have ne67 : rs_22 ≠ b33 := (Nat.ne_of_lt (Nat.lt_of_lt_of_le P22_0.lt (Nat.le_trans le66 (Nat.le_of_eq g33.symm))))
   have q68 := ((((((P22_1.keep K28q nin0).keep K32q (ninS ne65 nin0)).ext E33).keep K34q nin0).keep K40q nin0).keep K44q (ninS ne67 nin0))
   have q69 := ((((((P22_2.keep K28q nin0).keep K32q (ninS ne65 nin0)).ext E33).keep K34q nin0).keep K40q nin0).keep K44q (ninS ne67 nin0))
   have ne70 : rb_22 ≠ b21 := (Ne.symm (own_neAV (A21.keep K22q) (own_w1 hw) P22_3))
   have ne71 : rb_22 ≠ b33 := (Nat.ne_of_lt (Nat.lt_of_lt_of_le P22_3.lt (Nat.le_trans le66 (Nat.le_of_eq g33.symm))))
   have q72 := ((((((P22_3.keep K28q nin0).keep K32q (ninS ne70 nin0)).ext E33).keep K34q nin0).keep K40q nin0).keep K44q (ninS ne71 nin0))
   have q73 := ((P34_0.keep K40q).keep K44q)
   have ne74 : rs_34 ≠ b33 := (Ne.symm (Nat.ne_of_lt (Nat.lt_of_lt_of_le A33.lt (Nat.le_trans (Nat.le_refl _) sz_rs_34))))
   have q75 := ((P34_1.keep K40q nin0).keep K44q (ninS ne74 nin0))
   have q76 := ((P34_2.keep K40q nin0).keep K44q (ninS ne74 nin0))
   have ne77 : rb_34 ≠ b33 := (Ne.symm (own_neAV (A33.keep K34q) (own_w1 hw) P34_3))
   have q78 := ((P34_3.keep K40q nin0).keep K44q (ninS ne77 nin0))
   have q79 := ((((P32_2.ext E33).keep K34q nin0).keep K40q nin0).keep K44q (ninS ne62 nin0))
   have q80 := (((((P28_0.keep K32q).ext E33).keep K34q).keep K40q).keep K44q)
   have ne81 : rs_28 ≠ b21 := (Ne.symm (Nat.ne_of_lt (Nat.lt_of_lt_of_le A21.lt (Nat.le_trans K22q.1 sz_rs_28))))
   have ne82 : rs_28 ≠ b33 := (Nat.ne_of_lt (Nat.lt_of_lt_of_le P28_0.lt (Nat.le_trans K32q.1 (Nat.le_of_eq g33.symm))))
   have q83 := (((((P28_1.keep K32q (ninS ne81 nin0)).ext E33).keep K34q nin0).keep K40q nin0).keep K44q (ninS ne82 nin0))
   have q84 := (((((P28_2.keep K32q (ninS ne81 nin0)).ext E33).keep K34q nin0).keep K40q nin0).keep K44q (ninS ne82 nin0))
   have ne85 : rb_28 ≠ b21 := (Ne.symm (own_neAV ((A21.keep K22q).keep K28q) (own_w1 hw) P28_3))
   have ne86 : rb_28 ≠ b33 := (Nat.ne_of_lt (Nat.lt_of_lt_of_le P28_3.lt (Nat.le_trans K32q.1 (Nat.le_of_eq g33.symm))))
   have q87 := (((((P28_3.keep K32q (ninS ne85 nin0)).ext E33).keep K34q nin0).keep K40q nin0).keep K44q (ninS ne86 nin0))
   have q88 := (P40_0.keep K44q)
   have ne89 : rs_40 ≠ b33 := (Ne.symm (Nat.ne_of_lt (Nat.lt_of_lt_of_le A33.lt (Nat.le_trans K34q.1 sz_rs_40))))
   have q90 := (P40_1.keep K44q (ninS ne89 nin0))
   have q91 := (P40_2.keep K44q (ninS ne89 nin0))
   have ne92 : rb_40 ≠ b33 := (Ne.symm (own_neAV ((A33.keep K34q).keep K40q) (own_w1 hw) P40_3))
   have q93 := (P40_3.keep K44q (ninS ne92 nin0))
   have le94 : T22.heap.size ≤ h33.size := Nat.le_trans le66 E33.1
   have ne95 : rs_22 ≠ rs_34 := (Nat.ne_of_lt (Nat.lt_of_lt_of_le P22_0.lt (Nat.le_trans le94 sz_rs_34)))
   have le96 : T28.heap.size ≤ h33.size := Nat.le_trans K32q.1 E33.1
   have le97 : T28.heap.size ≤ T34.heap.size := Nat.le_trans le96 K34q.1
   have ne98 : rs_28 ≠ rs_40 := (Nat.ne_of_lt (Nat.lt_of_lt_of_le P28_0.lt (Nat.le_trans le97 sz_rs_40)))
   refine Home.st (own_pure (own_virtual XJ57 hx hZ hown (own_w48 hw) (own_w49 hw) (notFace_of_selects (args := #[]) (mvT hZ (own_w51 hw))) (own_w51 hw) (own_w50 hw) (own_w2 hw) (own_w52 hw) (by decide) (rm9_0 l Z a0 hw [] b21 b33 rs_22 rs_34 rb_22 rk_22 (cs_rm1_0 i0) rb_34 rk_34 (cs_rm1_0 v5) sv_COMPACT_STRINGS rs_28 rs_40 rb_28 rk_28 (cs_rm1_0 i2) rb_40 rk_40 (cs_rm1_0 v10) T44.heap n0 O44 q63 P44_1 q64 q68 q69 q72 q73 q75 q76 q78 S_COMPACT_STRINGS ne95 (cs_rm1_0_short i0) (cs_rm1_0_short v5) hCS q79 P44_2 q80 q83 q84 q87 q88 q90 q91 q93 ne98 (cs_rm1_0_short i2) (cs_rm1_0_short v10)) eJ57 q59 rfl (by rw [hml]; rfl) (argsL := [(.ref b33)]) (rest := []) (lenOf own_pd13 rfl) rfl rfl (W := 0) (by exact hW0) (by decide) (by decide) (hb hby at_150) (by decide) (by decide))) fun T99 X99 e99 => ?_
   show Home T99 (mkF m 153 #[.val (.int i0), .val (.int i1), .val (.int i2), .val (.int i3), .val (.int i4), .val (.int v5), .val (.int v10), .val (.int (0 : Int32)), .val (.int (0 : Int32)), .val (.ref b21), .val (.ref b33), .val (.int v58)] [(.int (f_rm9_0 (cs_rm1_0 i0) (cs_rm1_0 v5) (cs_rm1_0 i2) (cs_rm1_0 v10)))])
   obtain ⟨r100, hr100⟩ : ∃ z, z = (f_rm9_0 (cs_rm1_0 i0) (cs_rm1_0 v5) (cs_rm1_0 i2) (cs_rm1_0 v10)) := ⟨_, rfl⟩
   rw [← hr100]
   have br100 : ¬ r100 < (0 : Int32) ∧ ¬ (1 : Int32) < r100 := by rw [hr100]; exact f_rm9_0_bnd (cs_rm1_0 i0) (cs_rm1_0 v5) (cs_rm1_0 i2) (cs_rm1_0 v10)
   refine Home.run X99 hx hby sg0_153_1 (pc' := 155) (L' := #[.val (.int i0), .val (.int i1), .val (.int i2), .val (.int i3), .val (.int i4), .val (.int v5), .val (.int v10), .val (.int (0 : Int32)), .val (.int (0 : Int32)), .val (.ref b21), .val (.ref b33), .val (.int v58)]) (S' := [(.int v58), (.int r100)]) rfl ?_
   suffices J102 : ∀ {T : State} {lc : List Loc} (X : Stand p l e room_1 (s.setVm T40.vm) m #[(.int i0), (.int i1), (.int i2), (.int i3), (.int i4)] below meth c T lc 26 52) (N : Fr n0 lc) (eT : T.heap = T44.heap) (v103 : Int32) (hv103 : v103 = (if r100 = v58 then (1 : Int32) else (0 : Int32))), @Home p e below _ T (mkF m 163 #[.val (.int i0), .val (.int i1), .val (.int i2), .val (.int i3), .val (.int i4), .val (.int v5), .val (.int v10), .val (.int (0 : Int32)), .val (.int (0 : Int32)), .val (.ref b21), .val (.ref b33), .val (.int v58)] [(.int v103)]) by
    by_cases c101 : r100 = v58
    ·
     refine Home.go (fun _ => XS.icmpNo X99.here hx rfl (hb hby at_155) rfl (teq c101).2) ?_
     refine Home.run X99 hx hby sg0_158_2 (pc' := 163) (L' := #[.val (.int i0), .val (.int i1), .val (.int i2), .val (.int i3), .val (.int i4), .val (.int v5), .val (.int v10), .val (.int (0 : Int32)), .val (.int (0 : Int32)), .val (.ref b21), .val (.ref b33), .val (.int v58)]) (S' := [(.int (1 : Int32))]) rfl ?_
     exact J102 X99 NJ57 e99 _ (by simp only [if_pos c101])
    ·
     refine Home.go (fun _ => XS.icmpYes X99.here hx rfl (pc0 := 155) (pc' := 162) rfl (hb hby at_155) rfl (feq c101).2 (by decide) (by decide)) ?_
     refine Home.run X99 hx hby sg0_162_1 (pc' := 163) (L' := #[.val (.int i0), .val (.int i1), .val (.int i2), .val (.int i3), .val (.int i4), .val (.int v5), .val (.int v10), .val (.int (0 : Int32)), .val (.int (0 : Int32)), .val (.ref b21), .val (.ref b33), .val (.int v58)]) (S' := [(.int (0 : Int32))]) rfl ?_
     exact J102 X99 NJ57 e99 _ (by simp only [if_neg c101])
   intro TJ102 lcJ102 XJ102 NJ102 eJ102 v103 hv103
   have bv103 : ¬ v103 < (0 : Int32) ∧ ¬ (1 : Int32) < v103 := by rw [hv103]; exact (bnd_ite (bnd_mono (bnd_lit (1 : Int32)) (by decide +kernel) (by decide +kernel)) (bnd_mono (bnd_lit (0 : Int32)) (by decide +kernel) (by decide +kernel)))
   show Home TJ102 (mkF m 163 #[.val (.int i0), .val (.int i1), .val (.int i2), .val (.int i3), .val (.int i4), .val (.int v5), .val (.int v10), .val (.int (0 : Int32)), .val (.int (0 : Int32)), .val (.ref b21), .val (.ref b33), .val (.int v58)] [(.int v103)])
   exact HomeW.retN XJ102 hx hlk hZ (own_hEL hw) eJ102 Cd44 (t := .boolean) hret (by simp) (hb hby at_163) ⟨congrArg some (congrArg Value.int (own_end0 i0 i1 i2 i3 i4 sv_COMPACT_STRINGS v5 hv5 v10 hv10 v15 hv15 v20 hv20 r49 hr49 v58 hv58 r100 hr100 v103 hv103 c23 c35)), NJ102⟩ (by decide) (by decide)
  ·
   refine Home.go (fun _ => XS.ifNo X34.here hx rfl (hb hby at_94) rfl ((if0 _ _).trans (feq c35).1)) ?_
   have bd38 : ¬ v20 < (1 : Int32) ∧ ¬ (1 : Int32) < v20 := ⟨(bnd_nel bv20.1 c35 (by decide +kernel)), bv20.2⟩
   have fx39 : v20 = (1 : Int32) := bnd_fix bd38
   try rw [fx39]
   show Home T34 (mkF m 97 #[.val (.int i0), .val (.int i1), .val (.int i2), .val (.int i3), .val (.int i4), .val (.int v5), .val (.int v10), .val (.int (0 : Int32)), .val (.int (1 : Int32)), .val (.ref b21), .unset, .unset] [(.ref rs_34), (.ref b33), (.ref b33)])
   refine Home.run X34 hx hby sg0_97_2 (pc' := 106) (L' := #[.val (.int i0), .val (.int i1), .val (.int i2), .val (.int i3), .val (.int i4), .val (.int v5), .val (.int v10), .val (.int (0 : Int32)), .val (.int (1 : Int32)), .val (.ref b21), .unset, .unset]) (S' := [.null, (.ref rs_34), (.ref b33), (.ref b33)]) rfl ?_
   have q104 := (A33.keep K34q)
   have q105 := (F_url_b33.keep K34q nin0)
   have q106 := (F_version_b33.keep K34q nin0)
   refine Home.call (own_special X34 hx hZ hown rfl (own_w32 hw) (own_w33 hw) (own_w2 hw) (own_w34 hw) (by decide) (rm6_1 l Z a0 hw [] b33 rs_34 T34.heap n0 O34 q104 q105 g_b33 q106) rfl rfl (by rw [hml]; rfl) (a := b33) (argsL := [(.ref rs_34), .null]) (rest := [(.ref b33)]) (lenOf own_pd9 rfl) rfl rfl (W := 1) (by exact hW0) (by decide) (by decide) (hb hby at_106) (by decide) (by decide)) ?_
   rintro _ T107 L107 X107 ⟨rfl, N107q, K107q, P107_0, P107_1, P107_2⟩
   have Cd107 := Cold.keep Ce34 K107q (allS (Safe.exa hZ.alike q104 (by decide) (by decide)) all0)
   have le108 : h0.size ≤ T22.heap.size := Nat.le_trans E21.1 K22q.1
   have le109 : h0.size ≤ T28.heap.size := Nat.le_trans le108 K28q.1
   have le110 : h0.size ≤ T32.heap.size := Nat.le_trans le109 K32q.1
   have O107 := Old.keep O34 K107q (allS g_b33 all0)
   have K107 : Keep h0 T107.heap ([] : List Addr) := Keep.trans K34 K107q (allS (Or.inr (Nat.le_trans le110 (Nat.le_of_eq g33.symm))) all0)
   have N107 := Fr.app N34 N107q
   show Home T107 (mkF m 109 #[.val (.int i0), .val (.int i1), .val (.int i2), .val (.int i3), .val (.int i4), .val (.int v5), .val (.int v10), .val (.int (0 : Int32)), .val (.int (1 : Int32)), .val (.ref b21), .unset, .unset] [(.ref b33)])
   refine Home.run X107 hx hby sg0_109_3 (pc' := 114) (L' := #[.val (.int i0), .val (.int i1), .val (.int i2), .val (.int i3), .val (.int i4), .val (.int v5), .val (.int v10), .val (.int (0 : Int32)), .val (.int (1 : Int32)), .val (.ref b21), .val (.ref b33), .unset]) (S' := [(.int v5), (.int i0)]) rfl ?_
   refine Home.st (own_pure (own_static X107 hx hZ hown (own_w45 hw) (own_w46 hw) (own_w5 hw) (own_w47 hw) (by decide) (rm8_0 l Z a0 hw [] i0 v5 T107.heap n0 O107) rfl rfl (by rw [hml]; rfl) (argsL := [(.int i0), (.int v5)]) (rest := []) (lenOf own_pd10 rfl) rfl rfl (W := 0) (by exact hW0) (by decide) (by decide) (hb hby at_114) (by decide) (by decide))) fun T111 X111 e111 => ?_
   show Home T111 (mkF m 117 #[.val (.int i0), .val (.int i1), .val (.int i2), .val (.int i3), .val (.int i4), .val (.int v5), .val (.int v10), .val (.int (0 : Int32)), .val (.int (1 : Int32)), .val (.ref b21), .val (.ref b33), .unset] [(.int (f_rm8_0 i0 v5))])
   obtain ⟨r112, hr112⟩ : ∃ z, z = (f_rm8_0 i0 v5) := ⟨_, rfl⟩
   rw [← hr112]
   have br112 : ¬ r112 < (0 : Int32) ∧ ¬ (1 : Int32) < r112 := by rw [hr112]; exact f_rm8_0_bnd i0 v5
   suffices J116 : ∀ {T : State} {lc : List Loc} (X : Stand p l e room_1 (s.setVm T34.vm) m #[(.int i0), (.int i1), (.int i2), (.int i3), (.int i4)] below meth c T lc 20 40) (N : Fr n0 lc) (eT : T.heap = T107.heap) (v117 : Int32) (hv117 : v117 = (if r112 = (0 : Int32) then (0 : Int32) else (1 : Int32))), @Home p e below _ T (mkF m 144 #[.val (.int i0), .val (.int i1), .val (.int i2), .val (.int i3), .val (.int i4), .val (.int v5), .val (.int v10), .val (.int (0 : Int32)), .val (.int (1 : Int32)), .val (.ref b21), .val (.ref b33), .unset] [(.int v117)]) by
    by_cases c113 : r112 = (0 : Int32)
    ·
     refine Home.go (fun _ => XS.ifYes X111.here hx rfl (pc0 := 117) (pc' := 143) rfl (hb hby at_117) rfl ((if0 _ _).trans (teq c113).1) (by decide) (by decide)) ?_
     have bd114 : ¬ r112 < (0 : Int32) ∧ ¬ (0 : Int32) < r112 := ⟨(bnd_eql c113), (bnd_eqr c113)⟩
     refine Home.run X111 hx hby sg0_143_1 (pc' := 144) (L' := #[.val (.int i0), .val (.int i1), .val (.int i2), .val (.int i3), .val (.int i4), .val (.int v5), .val (.int v10), .val (.int (0 : Int32)), .val (.int (1 : Int32)), .val (.ref b21), .val (.ref b33), .unset]) (S' := [(.int (0 : Int32))]) rfl ?_
     exact J116 X111 N107 e111 _ (by simp only [if_pos c113])
    ·
     refine Home.go (fun _ => XS.ifNo X111.here hx rfl (hb hby at_117) rfl ((if0 _ _).trans (feq c113).1)) ?_
     have bd115 : ¬ r112 < (1 : Int32) ∧ ¬ (1 : Int32) < r112 := ⟨(bnd_nel br112.1 c113 (by decide +kernel)), br112.2⟩
     refine Home.run X111 hx hby sg0_120_1 (pc' := 122) (L' := #[.val (.int i0), .val (.int i1), .val (.int i2), .val (.int i3), .val (.int i4), .val (.int v5), .val (.int v10), .val (.int (0 : Int32)), .val (.int (1 : Int32)), .val (.ref b21), .val (.ref b33), .unset]) (S' := [(.int (0 : Int32))]) rfl ?_
     refine Home.go (fun _ => XS.ifNo X111.here hx rfl (hb hby at_122) rfl ((if0 _ _).trans (teq (by decide)).2)) ?_
     refine Home.run X111 hx hby sg0_125_1 (pc' := 127) (L' := #[.val (.int i0), .val (.int i1), .val (.int i2), .val (.int i3), .val (.int i4), .val (.int v5), .val (.int v10), .val (.int (0 : Int32)), .val (.int (1 : Int32)), .val (.ref b21), .val (.ref b33), .unset]) (S' := [(.int (1 : Int32))]) rfl ?_
     refine Home.go (fun _ => XS.ifYes X111.here hx rfl (pc0 := 127) (pc' := 139) rfl (hb hby at_127) rfl ((if0 _ _).trans (feq (by decide)).2) (by decide) (by decide)) ?_
     refine Home.run X111 hx hby sg0_139_2 (pc' := 144) (L' := #[.val (.int i0), .val (.int i1), .val (.int i2), .val (.int i3), .val (.int i4), .val (.int v5), .val (.int v10), .val (.int (0 : Int32)), .val (.int (1 : Int32)), .val (.ref b21), .val (.ref b33), .unset]) (S' := [(.int (1 : Int32))]) rfl ?_
     exact J116 X111 N107 e111 _ (by simp only [if_neg c113])
   intro TJ116 lcJ116 XJ116 NJ116 eJ116 v117 hv117
   have bv117 : ¬ v117 < (0 : Int32) ∧ ¬ (1 : Int32) < v117 := by rw [hv117]; exact (bnd_ite (bnd_mono (bnd_lit (0 : Int32)) (by decide +kernel) (by decide +kernel)) (bnd_mono (bnd_lit (1 : Int32)) (by decide +kernel) (by decide +kernel)))
   show Home TJ116 (mkF m 144 #[.val (.int i0), .val (.int i1), .val (.int i2), .val (.int i3), .val (.int i4), .val (.int v5), .val (.int v10), .val (.int (0 : Int32)), .val (.int (1 : Int32)), .val (.ref b21), .val (.ref b33), .unset] [(.int v117)])
   refine Home.run XJ116 hx hby sg0_144_3 (pc' := 150) (L' := #[.val (.int i0), .val (.int i1), .val (.int i2), .val (.int i3), .val (.int i4), .val (.int v5), .val (.int v10), .val (.int (0 : Int32)), .val (.int (1 : Int32)), .val (.ref b21), .val (.ref b33), .val (.int v117)]) (S' := [(.ref b33), (.ref b21)]) rfl ?_
   have q118 := (((P32_0.ext E33).keep K34q).keep K107q)
   have le119 : h21.size ≤ T28.heap.size := Nat.le_trans K22q.1 K28q.1
   have le120 : h21.size ≤ T32.heap.size := Nat.le_trans le119 K32q.1
   have ne121 : b21 ≠ b33 := (Nat.ne_of_lt (Nat.lt_of_lt_of_le A21.lt (Nat.le_trans le120 (Nat.le_of_eq g33.symm))))
   have q122 := (((P32_1.ext E33).keep K34q nin0).keep K107q (ninS ne121 nin0))
   have q123 := (((((P22_0.keep K28q).keep K32q).ext E33).keep K34q).keep K107q)
   have ne124 : rs_22 ≠ b21 := (Ne.symm (Nat.ne_of_lt (Nat.lt_of_lt_of_le A21.lt (Nat.le_trans (Nat.le_refl _) sz_rs_22))))
   have le125 : T22.heap.size ≤ T32.heap.size := Nat.le_trans K28q.1 K32q.1
   have ne126 : rs_22 ≠ b33 := (Nat.ne_of_lt (Nat.lt_of_lt_of_le P22_0.lt (Nat.le_trans le125 (Nat.le_of_eq g33.symm))))
   have q127 := (((((P22_1.keep K28q nin0).keep K32q (ninS ne124 nin0)).ext E33).keep K34q nin0).keep K107q (ninS ne126 nin0))
   have q128 := (((((P22_2.keep K28q nin0).keep K32q (ninS ne124 nin0)).ext E33).keep K34q nin0).keep K107q (ninS ne126 nin0))
   have ne129 : rb_22 ≠ b21 := (Ne.symm (own_neAV (A21.keep K22q) (own_w1 hw) P22_3))
   have ne130 : rb_22 ≠ b33 := (Nat.ne_of_lt (Nat.lt_of_lt_of_le P22_3.lt (Nat.le_trans le125 (Nat.le_of_eq g33.symm))))
   have q131 := (((((P22_3.keep K28q nin0).keep K32q (ninS ne129 nin0)).ext E33).keep K34q nin0).keep K107q (ninS ne130 nin0))
   have q132 := (P34_0.keep K107q)
   have ne133 : rs_34 ≠ b33 := (Ne.symm (Nat.ne_of_lt (Nat.lt_of_lt_of_le A33.lt (Nat.le_trans (Nat.le_refl _) sz_rs_34))))
   have q134 := (P34_1.keep K107q (ninS ne133 nin0))
   have q135 := (P34_2.keep K107q (ninS ne133 nin0))
   have ne136 : rb_34 ≠ b33 := (Ne.symm (own_neAV (A33.keep K34q) (own_w1 hw) P34_3))
   have q137 := (P34_3.keep K107q (ninS ne136 nin0))
   have q138 := (((P32_2.ext E33).keep K34q nin0).keep K107q (ninS ne121 nin0))
   have le139 : T22.heap.size ≤ h33.size := Nat.le_trans le125 E33.1
   have ne140 : rs_22 ≠ rs_34 := (Nat.ne_of_lt (Nat.lt_of_lt_of_le P22_0.lt (Nat.le_trans le139 sz_rs_34)))
   refine Home.st (own_pure (own_virtual XJ116 hx hZ hown (own_w48 hw) (own_w49 hw) (notFace_of_selects (args := #[]) (mvT hZ (own_w51 hw))) (own_w51 hw) (own_w50 hw) (own_w2 hw) (own_w52 hw) (by decide) (rm9_1 l Z a0 hw [] b21 b33 rs_22 rs_34 rb_22 rk_22 (cs_rm1_0 i0) rb_34 rk_34 (cs_rm1_0 v5) sv_COMPACT_STRINGS rs_28 T107.heap n0 O107 q122 P107_1 q123 q127 q128 q131 q132 q134 q135 q137 S_COMPACT_STRINGS ne140 (cs_rm1_0_short i0) (cs_rm1_0_short v5) hCS q138 P107_2) eJ116 q118 rfl (by rw [hml]; rfl) (argsL := [(.ref b33)]) (rest := []) (lenOf own_pd13 rfl) rfl rfl (W := 0) (by exact hW0) (by decide) (by decide) (hb hby at_150) (by decide) (by decide))) fun T141 X141 e141 => ?_
   show Home T141 (mkF m 153 #[.val (.int i0), .val (.int i1), .val (.int i2), .val (.int i3), .val (.int i4), .val (.int v5), .val (.int v10), .val (.int (0 : Int32)), .val (.int (1 : Int32)), .val (.ref b21), .val (.ref b33), .val (.int v117)] [(.int (f_rm9_1 (cs_rm1_0 i0) (cs_rm1_0 v5)))])
   obtain ⟨r142, hr142⟩ : ∃ z, z = (f_rm9_1 (cs_rm1_0 i0) (cs_rm1_0 v5)) := ⟨_, rfl⟩
   rw [← hr142]
   have br142 : ¬ r142 < (0 : Int32) ∧ ¬ (1 : Int32) < r142 := by rw [hr142]; exact f_rm9_1_bnd (cs_rm1_0 i0) (cs_rm1_0 v5)
   refine Home.run X141 hx hby sg0_153_1 (pc' := 155) (L' := #[.val (.int i0), .val (.int i1), .val (.int i2), .val (.int i3), .val (.int i4), .val (.int v5), .val (.int v10), .val (.int (0 : Int32)), .val (.int (1 : Int32)), .val (.ref b21), .val (.ref b33), .val (.int v117)]) (S' := [(.int v117), (.int r142)]) rfl ?_
   suffices J144 : ∀ {T : State} {lc : List Loc} (X : Stand p l e room_1 (s.setVm T34.vm) m #[(.int i0), (.int i1), (.int i2), (.int i3), (.int i4)] below meth c T lc 20 40) (N : Fr n0 lc) (eT : T.heap = T107.heap) (v145 : Int32) (hv145 : v145 = (if r142 = v117 then (1 : Int32) else (0 : Int32))), @Home p e below _ T (mkF m 163 #[.val (.int i0), .val (.int i1), .val (.int i2), .val (.int i3), .val (.int i4), .val (.int v5), .val (.int v10), .val (.int (0 : Int32)), .val (.int (1 : Int32)), .val (.ref b21), .val (.ref b33), .val (.int v117)] [(.int v145)]) by
    by_cases c143 : r142 = v117
    ·
     refine Home.go (fun _ => XS.icmpNo X141.here hx rfl (hb hby at_155) rfl (teq c143).2) ?_
     refine Home.run X141 hx hby sg0_158_2 (pc' := 163) (L' := #[.val (.int i0), .val (.int i1), .val (.int i2), .val (.int i3), .val (.int i4), .val (.int v5), .val (.int v10), .val (.int (0 : Int32)), .val (.int (1 : Int32)), .val (.ref b21), .val (.ref b33), .val (.int v117)]) (S' := [(.int (1 : Int32))]) rfl ?_
     exact J144 X141 NJ116 e141 _ (by simp only [if_pos c143])
    ·
     refine Home.go (fun _ => XS.icmpYes X141.here hx rfl (pc0 := 155) (pc' := 162) rfl (hb hby at_155) rfl (feq c143).2 (by decide) (by decide)) ?_
     refine Home.run X141 hx hby sg0_162_1 (pc' := 163) (L' := #[.val (.int i0), .val (.int i1), .val (.int i2), .val (.int i3), .val (.int i4), .val (.int v5), .val (.int v10), .val (.int (0 : Int32)), .val (.int (1 : Int32)), .val (.ref b21), .val (.ref b33), .val (.int v117)]) (S' := [(.int (0 : Int32))]) rfl ?_
     exact J144 X141 NJ116 e141 _ (by simp only [if_neg c143])
   intro TJ144 lcJ144 XJ144 NJ144 eJ144 v145 hv145
   have bv145 : ¬ v145 < (0 : Int32) ∧ ¬ (1 : Int32) < v145 := by rw [hv145]; exact (bnd_ite (bnd_mono (bnd_lit (1 : Int32)) (by decide +kernel) (by decide +kernel)) (bnd_mono (bnd_lit (0 : Int32)) (by decide +kernel) (by decide +kernel)))
   show Home TJ144 (mkF m 163 #[.val (.int i0), .val (.int i1), .val (.int i2), .val (.int i3), .val (.int i4), .val (.int v5), .val (.int v10), .val (.int (0 : Int32)), .val (.int (1 : Int32)), .val (.ref b21), .val (.ref b33), .val (.int v117)] [(.int v145)])
   exact HomeW.retN XJ144 hx hlk hZ (own_hEL hw) eJ144 Cd107 (t := .boolean) hret (by simp) (hb hby at_163) ⟨congrArg some (congrArg Value.int (own_end1 i0 i1 i2 i3 i4 sv_COMPACT_STRINGS v5 hv5 v10 hv10 v15 hv15 v20 hv20 r112 hr112 v117 hv117 r142 hr142 v145 hv145 c23 c35)), NJ144⟩ (by decide) (by decide)
 ·
  refine Home.go (fun _ => XS.ifNo X22.here hx rfl (hb hby at_67) rfl ((if0 _ _).trans (feq c23).1)) ?_
  have bd26 : ¬ v15 < (1 : Int32) ∧ ¬ (1 : Int32) < v15 := ⟨(bnd_nel bv15.1 c23 (by decide +kernel)), bv15.2⟩
  have fx27 : v15 = (1 : Int32) := bnd_fix bd26
  try rw [fx27]
  show Home T22 (mkF m 70 #[.val (.int i0), .val (.int i1), .val (.int i2), .val (.int i3), .val (.int i4), .val (.int v5), .val (.int v10), .val (.int (1 : Int32)), .val (.int v20), .unset, .unset, .unset] [(.ref rs_22), (.ref b21), (.ref b21)])
  refine Home.run X22 hx hby sg0_70_2 (pc' := 78) (L' := #[.val (.int i0), .val (.int i1), .val (.int i2), .val (.int i3), .val (.int i4), .val (.int v5), .val (.int v10), .val (.int (1 : Int32)), .val (.int v20), .unset, .unset, .unset]) (S' := [.null, (.ref rs_22), (.ref b21), (.ref b21)]) rfl ?_
  have q146 := (A21.keep K22q)
  have q147 := (F_url_b21.keep K22q nin0)
  have q148 := (F_version_b21.keep K22q nin0)
  refine Home.call (own_special X22 hx hZ hown rfl (own_w32 hw) (own_w33 hw) (own_w2 hw) (own_w34 hw) (by decide) (rm6_1 l Z a0 hw [] b21 rs_22 T22.heap n0 O22 q146 q147 g_b21 q148) rfl rfl (by rw [hml]; rfl) (a := b21) (argsL := [(.ref rs_22), .null]) (rest := [(.ref b21)]) (lenOf own_pd9 rfl) rfl rfl (W := 1) (by exact hW0) (by decide) (by decide) (hb hby at_78) (by decide) (by decide)) ?_
  rintro _ T149 L149 X149 ⟨rfl, N149q, K149q, P149_0, P149_1, P149_2⟩
  have Cd149 := Cold.keep Ce22 K149q (allS (Safe.exa hZ.alike q146 (by decide) (by decide)) all0)
  have O149 := Old.keep O22 K149q (allS g_b21 all0)
  have K149 : Keep h0 T149.heap ([] : List Addr) := Keep.trans K22 K149q (allS (Or.inr (Nat.le_trans (Nat.le_refl _) (Nat.le_of_eq g21.symm))) all0)
  have N149 := Fr.app N22 N149q
  show Home T149 (mkF m 81 #[.val (.int i0), .val (.int i1), .val (.int i2), .val (.int i3), .val (.int i4), .val (.int v5), .val (.int v10), .val (.int (1 : Int32)), .val (.int v20), .unset, .unset, .unset] [(.ref b21)])
  refine Home.run X149 hx hby sg0_81_1 (pc' := 83) (L' := #[.val (.int i0), .val (.int i1), .val (.int i2), .val (.int i3), .val (.int i4), .val (.int v5), .val (.int v10), .val (.int (1 : Int32)), .val (.int v20), .val (.ref b21), .unset, .unset]) (S' := []) rfl ?_
  refine Home.nw (own_newO X149 hx hZ hown (own_w0 hw) (own_w1 hw) (own_w2 hw) rfl rfl (hb hby at_83) (by decide) (by decide)) fun T150 h150 b150 g150 X150 e150 E150 A150 D150 => ?_
  have g_b150 : n0 ≤ b150 := Nat.le_trans (Old.le O149) (Nat.le_of_eq g150.symm)
  have F_url_b150 : Fld Z h150 b150 "com/example/invocant/invocant/Canonical" "url" "Ljava/lang/String;" .null := D150 (Or.inr (own_w42 hw)) (ty := (.object "java/lang/String")) (by decide)
  have F_version_b150 : Fld Z h150 b150 "com/example/invocant/invocant/Canonical" "version" "Ljava/lang/String;" .null := D150 (Or.inr (own_w44 hw)) (ty := (.object "java/lang/String")) (by decide)
  have O150 := O149.ext E150
  have K150 : Keep h0 h150 ([] : List Addr) := Keep.ext K149 E150
  have Cd150 := Cold.ext Cd149 E150
  show Home T150 (mkF m 86 #[.val (.int i0), .val (.int i1), .val (.int i2), .val (.int i3), .val (.int i4), .val (.int v5), .val (.int v10), .val (.int (1 : Int32)), .val (.int v20), .val (.ref b21), .unset, .unset] [(.ref b150)])
  refine Home.run X150 hx hby sg0_86_2 (pc' := 89) (L' := #[.val (.int i0), .val (.int i1), .val (.int i2), .val (.int i3), .val (.int i4), .val (.int v5), .val (.int v10), .val (.int (1 : Int32)), .val (.int v20), .val (.ref b21), .unset, .unset]) (S' := [(.int v5), (.ref b150), (.ref b150)]) rfl ?_
  refine Home.call (own_staticW X150 hx hZ hown (own_hEL hw) Cd150 all0 (own_w3 hw) (own_w4 hw) (own_w5 hw) (own_w6 hw) (by decide) (rm1_0 l Z a0 hw [] v5 sv_COMPACT_STRINGS h150 n0 O150 S_COMPACT_STRINGS hCS) e150 rfl (by rw [hml]; rfl) (argsL := [(.int v5)]) (rest := [(.ref b150), (.ref b150)]) (lenOf own_pd7 rfl) rfl rfl (W := 2) (by exact hW0) (by decide) (by decide) (hb hby at_89) (by decide) (by decide)) ?_
  rintro _ T151 L151 X151 ⟨⟨rs_151, rb_151, rk_151, rfl, N151q, sz_rs_151, K151q, P151_0, P151_1, P151_2, P151_3⟩, hZ, hown, Cd151, sR151⟩
  have Ce151 := Cold.put Cd151 (sR151 rfl _ rfl)
  have g_rs_151 : n0 ≤ rs_151 := Nat.le_trans (Old.le O150) sz_rs_151
  have O151 := Old.keep O150 K151q all0
  have K151 : Keep h0 T151.heap ([] : List Addr) := Keep.trans K150 K151q all0
  have N151 := Fr.app N149 N151q
  show Home T151 (mkF m 92 #[.val (.int i0), .val (.int i1), .val (.int i2), .val (.int i3), .val (.int i4), .val (.int v5), .val (.int v10), .val (.int (1 : Int32)), .val (.int v20), .val (.ref b21), .unset, .unset] [(.ref rs_151), (.ref b150), (.ref b150)])
  refine Home.run X151 hx hby sg0_92_1 (pc' := 94) (L' := #[.val (.int i0), .val (.int i1), .val (.int i2), .val (.int i3), .val (.int i4), .val (.int v5), .val (.int v10), .val (.int (1 : Int32)), .val (.int v20), .val (.ref b21), .unset, .unset]) (S' := [(.int v20), (.ref rs_151), (.ref b150), (.ref b150)]) rfl ?_
  by_cases c152 : v20 = (0 : Int32)
  ·
   refine Home.go (fun _ => XS.ifYes X151.here hx rfl (pc0 := 94) (pc' := 101) rfl (hb hby at_94) rfl ((if0 _ _).trans (teq c152).1) (by decide) (by decide)) ?_
   have bd153 : ¬ v20 < (0 : Int32) ∧ ¬ (0 : Int32) < v20 := ⟨(bnd_eql c152), (bnd_eqr c152)⟩
   have fx154 : v20 = (0 : Int32) := bnd_fix bd153
   try rw [fx154]
   show Home T151 (mkF m 101 #[.val (.int i0), .val (.int i1), .val (.int i2), .val (.int i3), .val (.int i4), .val (.int v5), .val (.int v10), .val (.int (1 : Int32)), .val (.int (0 : Int32)), .val (.ref b21), .unset, .unset] [(.ref rs_151), (.ref b150), (.ref b150)])
   refine Home.run X151 hx hby sg0_101_1 (pc' := 103) (L' := #[.val (.int i0), .val (.int i1), .val (.int i2), .val (.int i3), .val (.int i4), .val (.int v5), .val (.int v10), .val (.int (1 : Int32)), .val (.int (0 : Int32)), .val (.ref b21), .unset, .unset]) (S' := [(.int v10), (.ref rs_151), (.ref b150), (.ref b150)]) rfl ?_
   refine Home.call (own_staticW X151 hx hZ hown (own_hEL hw) Ce151 all0 (own_w3 hw) (own_w4 hw) (own_w5 hw) (own_w6 hw) (by decide) (rm1_0 l Z a0 hw [] v10 sv_COMPACT_STRINGS T151.heap n0 O151 S_COMPACT_STRINGS hCS) rfl rfl (by rw [hml]; rfl) (argsL := [(.int v10)]) (rest := [(.ref rs_151), (.ref b150), (.ref b150)]) (lenOf own_pd7 rfl) rfl rfl (W := 3) (by exact hW0) (by decide) (by decide) (hb hby at_103) (by decide) (by decide)) ?_
   rintro _ T157 L157 X157 ⟨⟨rs_157, rb_157, rk_157, rfl, N157q, sz_rs_157, K157q, P157_0, P157_1, P157_2, P157_3⟩, hZ, hown, Cd157, sR157⟩
   have Ce157 := Cold.put Cd157 (sR157 rfl _ rfl)
   have g_rs_157 : n0 ≤ rs_157 := Nat.le_trans (Old.le O151) sz_rs_157
   have O157 := Old.keep O151 K157q all0
   have K157 : Keep h0 T157.heap ([] : List Addr) := Keep.trans K151 K157q all0
   have N157 := Fr.app N151 N157q
   show Home T157 (mkF m 106 #[.val (.int i0), .val (.int i1), .val (.int i2), .val (.int i3), .val (.int i4), .val (.int v5), .val (.int v10), .val (.int (1 : Int32)), .val (.int (0 : Int32)), .val (.ref b21), .unset, .unset] [(.ref rs_157), (.ref rs_151), (.ref b150), (.ref b150)])
   have q158 := ((A150.keep K151q).keep K157q)
   have q159 := ((F_url_b150.keep K151q nin0).keep K157q nin0)
   have q160 := ((F_version_b150.keep K151q nin0).keep K157q nin0)
   refine Home.call (own_special X157 hx hZ hown rfl (own_w32 hw) (own_w33 hw) (own_w2 hw) (own_w34 hw) (by decide) (rm6_0 l Z a0 hw [] b150 rs_151 rs_157 T157.heap n0 O157 q158 q159 g_b150 q160) rfl rfl (by rw [hml]; rfl) (a := b150) (argsL := [(.ref rs_151), (.ref rs_157)]) (rest := [(.ref b150)]) (lenOf own_pd9 rfl) rfl rfl (W := 1) (by exact hW0) (by decide) (by decide) (hb hby at_106) (by decide) (by decide)) ?_
   rintro _ T161 L161 X161 ⟨rfl, N161q, K161q, P161_0, P161_1, P161_2⟩
   have Cd161 := Cold.keep Ce157 K161q (allS (Safe.exa hZ.alike q158 (by decide) (by decide)) all0)
   have le162 : h0.size ≤ T22.heap.size := Nat.le_trans E21.1 K22q.1
   have le163 : h0.size ≤ T149.heap.size := Nat.le_trans le162 K149q.1
   have O161 := Old.keep O157 K161q (allS g_b150 all0)
   have K161 : Keep h0 T161.heap ([] : List Addr) := Keep.trans K157 K161q (allS (Or.inr (Nat.le_trans le163 (Nat.le_of_eq g150.symm))) all0)
   have N161 := Fr.app N157 N161q
   show Home T161 (mkF m 109 #[.val (.int i0), .val (.int i1), .val (.int i2), .val (.int i3), .val (.int i4), .val (.int v5), .val (.int v10), .val (.int (1 : Int32)), .val (.int (0 : Int32)), .val (.ref b21), .unset, .unset] [(.ref b150)])
   refine Home.run X161 hx hby sg0_109_3 (pc' := 114) (L' := #[.val (.int i0), .val (.int i1), .val (.int i2), .val (.int i3), .val (.int i4), .val (.int v5), .val (.int v10), .val (.int (1 : Int32)), .val (.int (0 : Int32)), .val (.ref b21), .val (.ref b150), .unset]) (S' := [(.int v5), (.int i0)]) rfl ?_
   refine Home.st (own_pure (own_static X161 hx hZ hown (own_w45 hw) (own_w46 hw) (own_w5 hw) (own_w47 hw) (by decide) (rm8_0 l Z a0 hw [] i0 v5 T161.heap n0 O161) rfl rfl (by rw [hml]; rfl) (argsL := [(.int i0), (.int v5)]) (rest := []) (lenOf own_pd10 rfl) rfl rfl (W := 0) (by exact hW0) (by decide) (by decide) (hb hby at_114) (by decide) (by decide))) fun T164 X164 e164 => ?_
   show Home T164 (mkF m 117 #[.val (.int i0), .val (.int i1), .val (.int i2), .val (.int i3), .val (.int i4), .val (.int v5), .val (.int v10), .val (.int (1 : Int32)), .val (.int (0 : Int32)), .val (.ref b21), .val (.ref b150), .unset] [(.int (f_rm8_0 i0 v5))])
   obtain ⟨r165, hr165⟩ : ∃ z, z = (f_rm8_0 i0 v5) := ⟨_, rfl⟩
   rw [← hr165]
   have br165 : ¬ r165 < (0 : Int32) ∧ ¬ (1 : Int32) < r165 := by rw [hr165]; exact f_rm8_0_bnd i0 v5
   suffices J169 : ∀ {T : State} {lc : List Loc} (X : Stand p l e room_1 (s.setVm T157.vm) m #[(.int i0), (.int i1), (.int i2), (.int i3), (.int i4)] below meth c T lc 20 40) (N : Fr n0 lc) (eT : T.heap = T161.heap) (v170 : Int32) (hv170 : v170 = (if r165 = (0 : Int32) then (0 : Int32) else (1 : Int32))), @Home p e below _ T (mkF m 144 #[.val (.int i0), .val (.int i1), .val (.int i2), .val (.int i3), .val (.int i4), .val (.int v5), .val (.int v10), .val (.int (1 : Int32)), .val (.int (0 : Int32)), .val (.ref b21), .val (.ref b150), .unset] [(.int v170)]) by
    by_cases c166 : r165 = (0 : Int32)
    ·
     refine Home.go (fun _ => XS.ifYes X164.here hx rfl (pc0 := 117) (pc' := 143) rfl (hb hby at_117) rfl ((if0 _ _).trans (teq c166).1) (by decide) (by decide)) ?_
     have bd167 : ¬ r165 < (0 : Int32) ∧ ¬ (0 : Int32) < r165 := ⟨(bnd_eql c166), (bnd_eqr c166)⟩
     refine Home.run X164 hx hby sg0_143_1 (pc' := 144) (L' := #[.val (.int i0), .val (.int i1), .val (.int i2), .val (.int i3), .val (.int i4), .val (.int v5), .val (.int v10), .val (.int (1 : Int32)), .val (.int (0 : Int32)), .val (.ref b21), .val (.ref b150), .unset]) (S' := [(.int (0 : Int32))]) rfl ?_
     exact J169 X164 N161 e164 _ (by simp only [if_pos c166])
    ·
     refine Home.go (fun _ => XS.ifNo X164.here hx rfl (hb hby at_117) rfl ((if0 _ _).trans (feq c166).1)) ?_
     have bd168 : ¬ r165 < (1 : Int32) ∧ ¬ (1 : Int32) < r165 := ⟨(bnd_nel br165.1 c166 (by decide +kernel)), br165.2⟩
     refine Home.run X164 hx hby sg0_120_1 (pc' := 122) (L' := #[.val (.int i0), .val (.int i1), .val (.int i2), .val (.int i3), .val (.int i4), .val (.int v5), .val (.int v10), .val (.int (1 : Int32)), .val (.int (0 : Int32)), .val (.ref b21), .val (.ref b150), .unset]) (S' := [(.int (1 : Int32))]) rfl ?_
     refine Home.go (fun _ => XS.ifYes X164.here hx rfl (pc0 := 122) (pc' := 139) rfl (hb hby at_122) rfl ((if0 _ _).trans (feq (by decide)).2) (by decide) (by decide)) ?_
     refine Home.run X164 hx hby sg0_139_2 (pc' := 144) (L' := #[.val (.int i0), .val (.int i1), .val (.int i2), .val (.int i3), .val (.int i4), .val (.int v5), .val (.int v10), .val (.int (1 : Int32)), .val (.int (0 : Int32)), .val (.ref b21), .val (.ref b150), .unset]) (S' := [(.int (1 : Int32))]) rfl ?_
     exact J169 X164 N161 e164 _ (by simp only [if_neg c166])
   intro TJ169 lcJ169 XJ169 NJ169 eJ169 v170 hv170
   have bv170 : ¬ v170 < (0 : Int32) ∧ ¬ (1 : Int32) < v170 := by rw [hv170]; exact (bnd_ite (bnd_mono (bnd_lit (0 : Int32)) (by decide +kernel) (by decide +kernel)) (bnd_mono (bnd_lit (1 : Int32)) (by decide +kernel) (by decide +kernel)))
   show Home TJ169 (mkF m 144 #[.val (.int i0), .val (.int i1), .val (.int i2), .val (.int i3), .val (.int i4), .val (.int v5), .val (.int v10), .val (.int (1 : Int32)), .val (.int (0 : Int32)), .val (.ref b21), .val (.ref b150), .unset] [(.int v170)])
   refine Home.run XJ169 hx hby sg0_144_3 (pc' := 150) (L' := #[.val (.int i0), .val (.int i1), .val (.int i2), .val (.int i3), .val (.int i4), .val (.int v5), .val (.int v10), .val (.int (1 : Int32)), .val (.int (0 : Int32)), .val (.ref b21), .val (.ref b150), .val (.int v170)]) (S' := [(.ref b150), (.ref b21)]) rfl ?_
   have q171 := ((((P149_0.ext E150).keep K151q).keep K157q).keep K161q)
   have le172 : h21.size ≤ T149.heap.size := Nat.le_trans K22q.1 K149q.1
   have ne173 : b21 ≠ b150 := (Nat.ne_of_lt (Nat.lt_of_lt_of_le A21.lt (Nat.le_trans le172 (Nat.le_of_eq g150.symm))))
   have q174 := ((((P149_1.ext E150).keep K151q nin0).keep K157q nin0).keep K161q (ninS ne173 nin0))
   have q175 := (((((P22_0.keep K149q).ext E150).keep K151q).keep K157q).keep K161q)
   have ne176 : rs_22 ≠ b21 := (Ne.symm (Nat.ne_of_lt (Nat.lt_of_lt_of_le A21.lt (Nat.le_trans (Nat.le_refl _) sz_rs_22))))
   have ne177 : rs_22 ≠ b150 := (Nat.ne_of_lt (Nat.lt_of_lt_of_le P22_0.lt (Nat.le_trans K149q.1 (Nat.le_of_eq g150.symm))))
   have q178 := (((((P22_1.keep K149q (ninS ne176 nin0)).ext E150).keep K151q nin0).keep K157q nin0).keep K161q (ninS ne177 nin0))
   have q179 := (((((P22_2.keep K149q (ninS ne176 nin0)).ext E150).keep K151q nin0).keep K157q nin0).keep K161q (ninS ne177 nin0))
   have ne180 : rb_22 ≠ b21 := (Ne.symm (own_neAV (A21.keep K22q) (own_w1 hw) P22_3))
   have ne181 : rb_22 ≠ b150 := (Nat.ne_of_lt (Nat.lt_of_lt_of_le P22_3.lt (Nat.le_trans K149q.1 (Nat.le_of_eq g150.symm))))
   have q182 := (((((P22_3.keep K149q (ninS ne180 nin0)).ext E150).keep K151q nin0).keep K157q nin0).keep K161q (ninS ne181 nin0))
   have q183 := ((P151_0.keep K157q).keep K161q)
   have ne184 : rs_151 ≠ b150 := (Ne.symm (Nat.ne_of_lt (Nat.lt_of_lt_of_le A150.lt (Nat.le_trans (Nat.le_refl _) sz_rs_151))))
   have q185 := ((P151_1.keep K157q nin0).keep K161q (ninS ne184 nin0))
   have q186 := ((P151_2.keep K157q nin0).keep K161q (ninS ne184 nin0))
   have ne187 : rb_151 ≠ b150 := (Ne.symm (own_neAV (A150.keep K151q) (own_w1 hw) P151_3))
   have q188 := ((P151_3.keep K157q nin0).keep K161q (ninS ne187 nin0))
   have q189 := ((((P149_2.ext E150).keep K151q nin0).keep K157q nin0).keep K161q (ninS ne173 nin0))
   have le190 : T22.heap.size ≤ h150.size := Nat.le_trans K149q.1 E150.1
   have ne191 : rs_22 ≠ rs_151 := (Nat.ne_of_lt (Nat.lt_of_lt_of_le P22_0.lt (Nat.le_trans le190 sz_rs_151)))
   refine Home.st (own_pure (own_virtual XJ169 hx hZ hown (own_w48 hw) (own_w49 hw) (notFace_of_selects (args := #[]) (mvT hZ (own_w51 hw))) (own_w51 hw) (own_w50 hw) (own_w2 hw) (own_w52 hw) (by decide) (rm9_2 l Z a0 hw [] b21 b150 rs_22 rs_151 rb_22 rk_22 (cs_rm1_0 i0) rb_151 rk_151 (cs_rm1_0 v5) sv_COMPACT_STRINGS T161.heap n0 O161 q174 P161_1 q175 q178 q179 q182 q183 q185 q186 q188 S_COMPACT_STRINGS ne191 (cs_rm1_0_short i0) (cs_rm1_0_short v5) hCS q189) eJ169 q171 rfl (by rw [hml]; rfl) (argsL := [(.ref b150)]) (rest := []) (lenOf own_pd13 rfl) rfl rfl (W := 0) (by exact hW0) (by decide) (by decide) (hb hby at_150) (by decide) (by decide))) fun T192 X192 e192 => ?_
   show Home T192 (mkF m 153 #[.val (.int i0), .val (.int i1), .val (.int i2), .val (.int i3), .val (.int i4), .val (.int v5), .val (.int v10), .val (.int (1 : Int32)), .val (.int (0 : Int32)), .val (.ref b21), .val (.ref b150), .val (.int v170)] [(.int (f_rm9_2 (cs_rm1_0 i0) (cs_rm1_0 v5)))])
   obtain ⟨r193, hr193⟩ : ∃ z, z = (f_rm9_2 (cs_rm1_0 i0) (cs_rm1_0 v5)) := ⟨_, rfl⟩
   rw [← hr193]
   have br193 : ¬ r193 < (0 : Int32) ∧ ¬ (1 : Int32) < r193 := by rw [hr193]; exact f_rm9_2_bnd (cs_rm1_0 i0) (cs_rm1_0 v5)
   refine Home.run X192 hx hby sg0_153_1 (pc' := 155) (L' := #[.val (.int i0), .val (.int i1), .val (.int i2), .val (.int i3), .val (.int i4), .val (.int v5), .val (.int v10), .val (.int (1 : Int32)), .val (.int (0 : Int32)), .val (.ref b21), .val (.ref b150), .val (.int v170)]) (S' := [(.int v170), (.int r193)]) rfl ?_
   suffices J195 : ∀ {T : State} {lc : List Loc} (X : Stand p l e room_1 (s.setVm T157.vm) m #[(.int i0), (.int i1), (.int i2), (.int i3), (.int i4)] below meth c T lc 20 40) (N : Fr n0 lc) (eT : T.heap = T161.heap) (v196 : Int32) (hv196 : v196 = (if r193 = v170 then (1 : Int32) else (0 : Int32))), @Home p e below _ T (mkF m 163 #[.val (.int i0), .val (.int i1), .val (.int i2), .val (.int i3), .val (.int i4), .val (.int v5), .val (.int v10), .val (.int (1 : Int32)), .val (.int (0 : Int32)), .val (.ref b21), .val (.ref b150), .val (.int v170)] [(.int v196)]) by
    by_cases c194 : r193 = v170
    ·
     refine Home.go (fun _ => XS.icmpNo X192.here hx rfl (hb hby at_155) rfl (teq c194).2) ?_
     refine Home.run X192 hx hby sg0_158_2 (pc' := 163) (L' := #[.val (.int i0), .val (.int i1), .val (.int i2), .val (.int i3), .val (.int i4), .val (.int v5), .val (.int v10), .val (.int (1 : Int32)), .val (.int (0 : Int32)), .val (.ref b21), .val (.ref b150), .val (.int v170)]) (S' := [(.int (1 : Int32))]) rfl ?_
     exact J195 X192 NJ169 e192 _ (by simp only [if_pos c194])
    ·
     refine Home.go (fun _ => XS.icmpYes X192.here hx rfl (pc0 := 155) (pc' := 162) rfl (hb hby at_155) rfl (feq c194).2 (by decide) (by decide)) ?_
     refine Home.run X192 hx hby sg0_162_1 (pc' := 163) (L' := #[.val (.int i0), .val (.int i1), .val (.int i2), .val (.int i3), .val (.int i4), .val (.int v5), .val (.int v10), .val (.int (1 : Int32)), .val (.int (0 : Int32)), .val (.ref b21), .val (.ref b150), .val (.int v170)]) (S' := [(.int (0 : Int32))]) rfl ?_
     exact J195 X192 NJ169 e192 _ (by simp only [if_neg c194])
   intro TJ195 lcJ195 XJ195 NJ195 eJ195 v196 hv196
   have bv196 : ¬ v196 < (0 : Int32) ∧ ¬ (1 : Int32) < v196 := by rw [hv196]; exact (bnd_ite (bnd_mono (bnd_lit (1 : Int32)) (by decide +kernel) (by decide +kernel)) (bnd_mono (bnd_lit (0 : Int32)) (by decide +kernel) (by decide +kernel)))
   show Home TJ195 (mkF m 163 #[.val (.int i0), .val (.int i1), .val (.int i2), .val (.int i3), .val (.int i4), .val (.int v5), .val (.int v10), .val (.int (1 : Int32)), .val (.int (0 : Int32)), .val (.ref b21), .val (.ref b150), .val (.int v170)] [(.int v196)])
   exact HomeW.retN XJ195 hx hlk hZ (own_hEL hw) eJ195 Cd161 (t := .boolean) hret (by simp) (hb hby at_163) ⟨congrArg some (congrArg Value.int (own_end2 i0 i1 i2 i3 i4 sv_COMPACT_STRINGS v5 hv5 v10 hv10 v15 hv15 v20 hv20 r165 hr165 v170 hv170 r193 hr193 v196 hv196 c23 c152)), NJ195⟩ (by decide) (by decide)
  ·
   refine Home.go (fun _ => XS.ifNo X151.here hx rfl (hb hby at_94) rfl ((if0 _ _).trans (feq c152).1)) ?_
   have bd155 : ¬ v20 < (1 : Int32) ∧ ¬ (1 : Int32) < v20 := ⟨(bnd_nel bv20.1 c152 (by decide +kernel)), bv20.2⟩
   have fx156 : v20 = (1 : Int32) := bnd_fix bd155
   try rw [fx156]
   show Home T151 (mkF m 97 #[.val (.int i0), .val (.int i1), .val (.int i2), .val (.int i3), .val (.int i4), .val (.int v5), .val (.int v10), .val (.int (1 : Int32)), .val (.int (1 : Int32)), .val (.ref b21), .unset, .unset] [(.ref rs_151), (.ref b150), (.ref b150)])
   refine Home.run X151 hx hby sg0_97_2 (pc' := 106) (L' := #[.val (.int i0), .val (.int i1), .val (.int i2), .val (.int i3), .val (.int i4), .val (.int v5), .val (.int v10), .val (.int (1 : Int32)), .val (.int (1 : Int32)), .val (.ref b21), .unset, .unset]) (S' := [.null, (.ref rs_151), (.ref b150), (.ref b150)]) rfl ?_
   have q197 := (A150.keep K151q)
   have q198 := (F_url_b150.keep K151q nin0)
   have q199 := (F_version_b150.keep K151q nin0)
   refine Home.call (own_special X151 hx hZ hown rfl (own_w32 hw) (own_w33 hw) (own_w2 hw) (own_w34 hw) (by decide) (rm6_1 l Z a0 hw [] b150 rs_151 T151.heap n0 O151 q197 q198 g_b150 q199) rfl rfl (by rw [hml]; rfl) (a := b150) (argsL := [(.ref rs_151), .null]) (rest := [(.ref b150)]) (lenOf own_pd9 rfl) rfl rfl (W := 1) (by exact hW0) (by decide) (by decide) (hb hby at_106) (by decide) (by decide)) ?_
   rintro _ T200 L200 X200 ⟨rfl, N200q, K200q, P200_0, P200_1, P200_2⟩
   have Cd200 := Cold.keep Ce151 K200q (allS (Safe.exa hZ.alike q197 (by decide) (by decide)) all0)
   have le201 : h0.size ≤ T22.heap.size := Nat.le_trans E21.1 K22q.1
   have le202 : h0.size ≤ T149.heap.size := Nat.le_trans le201 K149q.1
   have O200 := Old.keep O151 K200q (allS g_b150 all0)
   have K200 : Keep h0 T200.heap ([] : List Addr) := Keep.trans K151 K200q (allS (Or.inr (Nat.le_trans le202 (Nat.le_of_eq g150.symm))) all0)
   have N200 := Fr.app N151 N200q
   show Home T200 (mkF m 109 #[.val (.int i0), .val (.int i1), .val (.int i2), .val (.int i3), .val (.int i4), .val (.int v5), .val (.int v10), .val (.int (1 : Int32)), .val (.int (1 : Int32)), .val (.ref b21), .unset, .unset] [(.ref b150)])
   refine Home.run X200 hx hby sg0_109_3 (pc' := 114) (L' := #[.val (.int i0), .val (.int i1), .val (.int i2), .val (.int i3), .val (.int i4), .val (.int v5), .val (.int v10), .val (.int (1 : Int32)), .val (.int (1 : Int32)), .val (.ref b21), .val (.ref b150), .unset]) (S' := [(.int v5), (.int i0)]) rfl ?_
   refine Home.st (own_pure (own_static X200 hx hZ hown (own_w45 hw) (own_w46 hw) (own_w5 hw) (own_w47 hw) (by decide) (rm8_0 l Z a0 hw [] i0 v5 T200.heap n0 O200) rfl rfl (by rw [hml]; rfl) (argsL := [(.int i0), (.int v5)]) (rest := []) (lenOf own_pd10 rfl) rfl rfl (W := 0) (by exact hW0) (by decide) (by decide) (hb hby at_114) (by decide) (by decide))) fun T203 X203 e203 => ?_
   show Home T203 (mkF m 117 #[.val (.int i0), .val (.int i1), .val (.int i2), .val (.int i3), .val (.int i4), .val (.int v5), .val (.int v10), .val (.int (1 : Int32)), .val (.int (1 : Int32)), .val (.ref b21), .val (.ref b150), .unset] [(.int (f_rm8_0 i0 v5))])
   obtain ⟨r204, hr204⟩ : ∃ z, z = (f_rm8_0 i0 v5) := ⟨_, rfl⟩
   rw [← hr204]
   have br204 : ¬ r204 < (0 : Int32) ∧ ¬ (1 : Int32) < r204 := by rw [hr204]; exact f_rm8_0_bnd i0 v5
   suffices J208 : ∀ {T : State} {lc : List Loc} (X : Stand p l e room_1 (s.setVm T151.vm) m #[(.int i0), (.int i1), (.int i2), (.int i3), (.int i4)] below meth c T lc 14 28) (N : Fr n0 lc) (eT : T.heap = T200.heap) (v209 : Int32) (hv209 : v209 = (if r204 = (0 : Int32) then (0 : Int32) else (1 : Int32))), @Home p e below _ T (mkF m 144 #[.val (.int i0), .val (.int i1), .val (.int i2), .val (.int i3), .val (.int i4), .val (.int v5), .val (.int v10), .val (.int (1 : Int32)), .val (.int (1 : Int32)), .val (.ref b21), .val (.ref b150), .unset] [(.int v209)]) by
    by_cases c205 : r204 = (0 : Int32)
    ·
     refine Home.go (fun _ => XS.ifYes X203.here hx rfl (pc0 := 117) (pc' := 143) rfl (hb hby at_117) rfl ((if0 _ _).trans (teq c205).1) (by decide) (by decide)) ?_
     have bd206 : ¬ r204 < (0 : Int32) ∧ ¬ (0 : Int32) < r204 := ⟨(bnd_eql c205), (bnd_eqr c205)⟩
     refine Home.run X203 hx hby sg0_143_1 (pc' := 144) (L' := #[.val (.int i0), .val (.int i1), .val (.int i2), .val (.int i3), .val (.int i4), .val (.int v5), .val (.int v10), .val (.int (1 : Int32)), .val (.int (1 : Int32)), .val (.ref b21), .val (.ref b150), .unset]) (S' := [(.int (0 : Int32))]) rfl ?_
     exact J208 X203 N200 e203 _ (by simp only [if_pos c205])
    ·
     refine Home.go (fun _ => XS.ifNo X203.here hx rfl (hb hby at_117) rfl ((if0 _ _).trans (feq c205).1)) ?_
     have bd207 : ¬ r204 < (1 : Int32) ∧ ¬ (1 : Int32) < r204 := ⟨(bnd_nel br204.1 c205 (by decide +kernel)), br204.2⟩
     refine Home.run X203 hx hby sg0_120_1 (pc' := 122) (L' := #[.val (.int i0), .val (.int i1), .val (.int i2), .val (.int i3), .val (.int i4), .val (.int v5), .val (.int v10), .val (.int (1 : Int32)), .val (.int (1 : Int32)), .val (.ref b21), .val (.ref b150), .unset]) (S' := [(.int (1 : Int32))]) rfl ?_
     refine Home.go (fun _ => XS.ifYes X203.here hx rfl (pc0 := 122) (pc' := 139) rfl (hb hby at_122) rfl ((if0 _ _).trans (feq (by decide)).2) (by decide) (by decide)) ?_
     refine Home.run X203 hx hby sg0_139_2 (pc' := 144) (L' := #[.val (.int i0), .val (.int i1), .val (.int i2), .val (.int i3), .val (.int i4), .val (.int v5), .val (.int v10), .val (.int (1 : Int32)), .val (.int (1 : Int32)), .val (.ref b21), .val (.ref b150), .unset]) (S' := [(.int (1 : Int32))]) rfl ?_
     exact J208 X203 N200 e203 _ (by simp only [if_neg c205])
   intro TJ208 lcJ208 XJ208 NJ208 eJ208 v209 hv209
   have bv209 : ¬ v209 < (0 : Int32) ∧ ¬ (1 : Int32) < v209 := by rw [hv209]; exact (bnd_ite (bnd_mono (bnd_lit (0 : Int32)) (by decide +kernel) (by decide +kernel)) (bnd_mono (bnd_lit (1 : Int32)) (by decide +kernel) (by decide +kernel)))
   show Home TJ208 (mkF m 144 #[.val (.int i0), .val (.int i1), .val (.int i2), .val (.int i3), .val (.int i4), .val (.int v5), .val (.int v10), .val (.int (1 : Int32)), .val (.int (1 : Int32)), .val (.ref b21), .val (.ref b150), .unset] [(.int v209)])
   refine Home.run XJ208 hx hby sg0_144_3 (pc' := 150) (L' := #[.val (.int i0), .val (.int i1), .val (.int i2), .val (.int i3), .val (.int i4), .val (.int v5), .val (.int v10), .val (.int (1 : Int32)), .val (.int (1 : Int32)), .val (.ref b21), .val (.ref b150), .val (.int v209)]) (S' := [(.ref b150), (.ref b21)]) rfl ?_
   have q210 := (((P149_0.ext E150).keep K151q).keep K200q)
   have le211 : h21.size ≤ T149.heap.size := Nat.le_trans K22q.1 K149q.1
   have ne212 : b21 ≠ b150 := (Nat.ne_of_lt (Nat.lt_of_lt_of_le A21.lt (Nat.le_trans le211 (Nat.le_of_eq g150.symm))))
   have q213 := (((P149_1.ext E150).keep K151q nin0).keep K200q (ninS ne212 nin0))
   have q214 := ((((P22_0.keep K149q).ext E150).keep K151q).keep K200q)
   have ne215 : rs_22 ≠ b21 := (Ne.symm (Nat.ne_of_lt (Nat.lt_of_lt_of_le A21.lt (Nat.le_trans (Nat.le_refl _) sz_rs_22))))
   have ne216 : rs_22 ≠ b150 := (Nat.ne_of_lt (Nat.lt_of_lt_of_le P22_0.lt (Nat.le_trans K149q.1 (Nat.le_of_eq g150.symm))))
   have q217 := ((((P22_1.keep K149q (ninS ne215 nin0)).ext E150).keep K151q nin0).keep K200q (ninS ne216 nin0))
   have q218 := ((((P22_2.keep K149q (ninS ne215 nin0)).ext E150).keep K151q nin0).keep K200q (ninS ne216 nin0))
   have ne219 : rb_22 ≠ b21 := (Ne.symm (own_neAV (A21.keep K22q) (own_w1 hw) P22_3))
   have ne220 : rb_22 ≠ b150 := (Nat.ne_of_lt (Nat.lt_of_lt_of_le P22_3.lt (Nat.le_trans K149q.1 (Nat.le_of_eq g150.symm))))
   have q221 := ((((P22_3.keep K149q (ninS ne219 nin0)).ext E150).keep K151q nin0).keep K200q (ninS ne220 nin0))
   have q222 := (P151_0.keep K200q)
   have ne223 : rs_151 ≠ b150 := (Ne.symm (Nat.ne_of_lt (Nat.lt_of_lt_of_le A150.lt (Nat.le_trans (Nat.le_refl _) sz_rs_151))))
   have q224 := (P151_1.keep K200q (ninS ne223 nin0))
   have q225 := (P151_2.keep K200q (ninS ne223 nin0))
   have ne226 : rb_151 ≠ b150 := (Ne.symm (own_neAV (A150.keep K151q) (own_w1 hw) P151_3))
   have q227 := (P151_3.keep K200q (ninS ne226 nin0))
   have q228 := (((P149_2.ext E150).keep K151q nin0).keep K200q (ninS ne212 nin0))
   have le229 : T22.heap.size ≤ h150.size := Nat.le_trans K149q.1 E150.1
   have ne230 : rs_22 ≠ rs_151 := (Nat.ne_of_lt (Nat.lt_of_lt_of_le P22_0.lt (Nat.le_trans le229 sz_rs_151)))
   refine Home.st (own_pure (own_virtual XJ208 hx hZ hown (own_w48 hw) (own_w49 hw) (notFace_of_selects (args := #[]) (mvT hZ (own_w51 hw))) (own_w51 hw) (own_w50 hw) (own_w2 hw) (own_w52 hw) (by decide) (rm9_2 l Z a0 hw [] b21 b150 rs_22 rs_151 rb_22 rk_22 (cs_rm1_0 i0) rb_151 rk_151 (cs_rm1_0 v5) sv_COMPACT_STRINGS T200.heap n0 O200 q213 P200_1 q214 q217 q218 q221 q222 q224 q225 q227 S_COMPACT_STRINGS ne230 (cs_rm1_0_short i0) (cs_rm1_0_short v5) hCS q228) eJ208 q210 rfl (by rw [hml]; rfl) (argsL := [(.ref b150)]) (rest := []) (lenOf own_pd13 rfl) rfl rfl (W := 0) (by exact hW0) (by decide) (by decide) (hb hby at_150) (by decide) (by decide))) fun T231 X231 e231 => ?_
   show Home T231 (mkF m 153 #[.val (.int i0), .val (.int i1), .val (.int i2), .val (.int i3), .val (.int i4), .val (.int v5), .val (.int v10), .val (.int (1 : Int32)), .val (.int (1 : Int32)), .val (.ref b21), .val (.ref b150), .val (.int v209)] [(.int (f_rm9_2 (cs_rm1_0 i0) (cs_rm1_0 v5)))])
   obtain ⟨r232, hr232⟩ : ∃ z, z = (f_rm9_2 (cs_rm1_0 i0) (cs_rm1_0 v5)) := ⟨_, rfl⟩
   rw [← hr232]
   have br232 : ¬ r232 < (0 : Int32) ∧ ¬ (1 : Int32) < r232 := by rw [hr232]; exact f_rm9_2_bnd (cs_rm1_0 i0) (cs_rm1_0 v5)
   refine Home.run X231 hx hby sg0_153_1 (pc' := 155) (L' := #[.val (.int i0), .val (.int i1), .val (.int i2), .val (.int i3), .val (.int i4), .val (.int v5), .val (.int v10), .val (.int (1 : Int32)), .val (.int (1 : Int32)), .val (.ref b21), .val (.ref b150), .val (.int v209)]) (S' := [(.int v209), (.int r232)]) rfl ?_
   suffices J234 : ∀ {T : State} {lc : List Loc} (X : Stand p l e room_1 (s.setVm T151.vm) m #[(.int i0), (.int i1), (.int i2), (.int i3), (.int i4)] below meth c T lc 14 28) (N : Fr n0 lc) (eT : T.heap = T200.heap) (v235 : Int32) (hv235 : v235 = (if r232 = v209 then (1 : Int32) else (0 : Int32))), @Home p e below _ T (mkF m 163 #[.val (.int i0), .val (.int i1), .val (.int i2), .val (.int i3), .val (.int i4), .val (.int v5), .val (.int v10), .val (.int (1 : Int32)), .val (.int (1 : Int32)), .val (.ref b21), .val (.ref b150), .val (.int v209)] [(.int v235)]) by
    by_cases c233 : r232 = v209
    ·
     refine Home.go (fun _ => XS.icmpNo X231.here hx rfl (hb hby at_155) rfl (teq c233).2) ?_
     refine Home.run X231 hx hby sg0_158_2 (pc' := 163) (L' := #[.val (.int i0), .val (.int i1), .val (.int i2), .val (.int i3), .val (.int i4), .val (.int v5), .val (.int v10), .val (.int (1 : Int32)), .val (.int (1 : Int32)), .val (.ref b21), .val (.ref b150), .val (.int v209)]) (S' := [(.int (1 : Int32))]) rfl ?_
     exact J234 X231 NJ208 e231 _ (by simp only [if_pos c233])
    ·
     refine Home.go (fun _ => XS.icmpYes X231.here hx rfl (pc0 := 155) (pc' := 162) rfl (hb hby at_155) rfl (feq c233).2 (by decide) (by decide)) ?_
     refine Home.run X231 hx hby sg0_162_1 (pc' := 163) (L' := #[.val (.int i0), .val (.int i1), .val (.int i2), .val (.int i3), .val (.int i4), .val (.int v5), .val (.int v10), .val (.int (1 : Int32)), .val (.int (1 : Int32)), .val (.ref b21), .val (.ref b150), .val (.int v209)]) (S' := [(.int (0 : Int32))]) rfl ?_
     exact J234 X231 NJ208 e231 _ (by simp only [if_neg c233])
   intro TJ234 lcJ234 XJ234 NJ234 eJ234 v235 hv235
   have bv235 : ¬ v235 < (0 : Int32) ∧ ¬ (1 : Int32) < v235 := by rw [hv235]; exact (bnd_ite (bnd_mono (bnd_lit (1 : Int32)) (by decide +kernel) (by decide +kernel)) (bnd_mono (bnd_lit (0 : Int32)) (by decide +kernel) (by decide +kernel)))
   show Home TJ234 (mkF m 163 #[.val (.int i0), .val (.int i1), .val (.int i2), .val (.int i3), .val (.int i4), .val (.int v5), .val (.int v10), .val (.int (1 : Int32)), .val (.int (1 : Int32)), .val (.ref b21), .val (.ref b150), .val (.int v209)] [(.int v235)])
   exact HomeW.retN XJ234 hx hlk hZ (own_hEL hw) eJ234 Cd200 (t := .boolean) hret (by simp) (hb hby at_163) ⟨congrArg some (congrArg Value.int (own_end3 i0 i1 i2 i3 i4 sv_COMPACT_STRINGS v5 hv5 v10 hv10 v15 hv15 v20 hv20 r204 hr204 v209 hv209 r232 hr232 v235 hv235 c23 c152)), NJ234⟩ (by decide) (by decide)
theorem comes_1 {Post : Tables → Env → Array Value → State → Outcome → State → Prop} (hpost : ∀ tb e args s v u, (limb_1_1.after args s (.returned v) u = true ∧ limb_1_2.after args s (.returned v) u = true ∧ True) → ReturnedEndW s (.returned v) u (Jvm.fieldLocs frame_1_writes args s ++ Jvm.arrayLocs frame_1_arrays args s ++ Jvm.staticLocs frame_1_statics s) 40 1216 → Post tb e args s (.returned v) u) :
    ArmFor flags0 classFile x code maxLocals ret World_1 tables_1 room_1 Calls_1 rest_1 Pre_1 Post := by
  intro l hfl _ _ p e ha hc hk s m args below hf hA hF happ hP
  obtain ⟨hcalls, hrest, hpre⟩ := hP
  obtain ⟨-, -, -, hnamed, -, -, -, hat⟩ := (Spec.applies_iff hf).mp happ
  obtain ⟨hg, hn⟩ := and_e (Cond.before_iff.mp (show (Jvm.Cond.and given_1 narrow_1).before args s = true from hpre))
  obtain ⟨gg1, gg2⟩ := and_e hg
  obtain ⟨gg3, gg4⟩ := and_e gg2
  obtain ⟨gg5, gg6⟩ := and_e gg4
  obtain ⟨gg7, gg8⟩ := and_e gg6
  obtain ⟨gg9, gg10⟩ := and_e gg8
  obtain ⟨w0, w1, w2, w3, w4, rfl⟩ : ∃ w0 w1 w2 w3 w4 : Value, args = #[w0, w1, w2, w3, w4] := by
    have hs : args.size = 5 := by simpa [Cond.value, given_1] using gg1
    obtain ⟨L⟩ := args
    match L, hs with
    | [w0, w1, w2, w3, w4], _ => exact ⟨w0, w1, w2, w3, w4, rfl⟩
  have hw := fun d (hd : d ∈ tables_1) => atoms_spec (ws := Jvm.Cond.code x code maxLocals ret :: tables_1) hat d (List.mem_cons_of_mem _ hd)
  have hfit : Fit s := fun {y c} hc i hi => by
    obtain ⟨ha, rfl⟩ := Array.getElem?_eq_some_iff.mp hc
    have q := List.all_eq_true.mp ((Array.all_eq_true_iff_forall_mem.mp hF) _ (Array.getElem_mem ha)) i (List.mem_range.mpr hi)
    simpa [Array.getElem?_eq_getElem hi] using q
  obtain ⟨hsets, hown0⟩ := atoms_of _ (rest_1_c_eq ▸ (show rest_1_c.before _ s = true from hrest))
  have hr0 := Cond.before_iff.mp hown0
  obtain ⟨i0, ei0⟩ := is_v gg3
  obtain rfl : w0 = (.int i0) := Option.some.inj ei0
  obtain ⟨i1, ei1⟩ := is_v gg5
  obtain rfl : w1 = (.int i1) := Option.some.inj ei1
  obtain ⟨i2, ei2⟩ := is_v gg7
  obtain rfl : w2 = (.int i2) := Option.some.inj ei2
  obtain ⟨i3, ei3⟩ := is_v gg9
  obtain rfl : w3 = (.int i3) := Option.some.inj ei3
  obtain ⟨i4, ei4⟩ := is_v gg10
  obtain rfl : w4 = (.int i4) := Option.some.inj ei4
  obtain ⟨sv_COMPACT_STRINGS, v_cs⟩ := is_v (Cond.before_iff.mp (hsets _ (List.mem_of_getElem? (i := 1) rfl)))
  have S_COMPACT_STRINGS := Sta.start v_cs (Or.inl (hsets _ (List.mem_of_getElem? (i := 0) rfl)))
  have hCS : ¬ (sv_COMPACT_STRINGS = (0 : Int32)) := gotF (Cond.eq_ints v_cs (Term.int_eval 0)) (not_v (Cond.before_iff.mp (hsets _ (List.mem_of_getElem? (i := 2) rfl))))
  have hCH : CHv s own_EL s.vm s.heap := CHv.start (own_hEL hw) (fun p hp => hcalls.1 p hp) (hsets _ (List.mem_of_getElem? (i := 2) rfl)) (own_w25 hw) (own_w11 hw)
  obtain ⟨n, o, h1, h2, h3, _, L, rfl, ⟨rfl, N⟩, -, -, hq⟩ := rm0 l s _ hw tables_1 i0 i1 i2 i3 i4 sv_COMPACT_STRINGS s.heap s.heap.size (Old.start s) S_COMPACT_STRINGS hCS p e ha hc hk s m _ below hf ((Spec.applies_iff_loose hf).mp happ).1 ⟨rfl, State.Warmed39.refl s, rfl, hCH, fun _ hx => nomatch hx⟩ trivial
  refine ⟨n, _, h1, h2, h3, hpost _ _ _ _ _ _ ⟨Cond.after_iff.mpr rfl, Cond.after_iff.mpr (eq_i res_at (Term.int_eval (1)) rfl), trivial⟩ ⟨hq.1, hq.2.1, hq.2.2.1, (hq.2.2.2.sift fun y hy => Or.inr (N y hy)).mono (by decide) (by decide)⟩⟩
theorem main_1_1 : Claimed_1_1 := comes_1 fun _ _ _ _ _ _ h hF => ⟨h.1, hF⟩
theorem main_1_2 : Claimed_1_2 := comes_1 fun _ _ _ _ _ _ h hF => ⟨h.2.1, hF⟩
end Jvm.Pilot.@@N@@
namespace Jvm.Pilot.@@N@@
open Jvm Jvm.ClassFile Sem Op Lib Jvm.Free Jvm.Stand Jvm.Pilot.@@N@@.Jvm.D
/-! MADE BY PROGRAM (witnessworld.py) out of the Statement's table words and the real class files: 21 classes; the members and pool entries that the words name. The judged class is class 1, her method 6. -/
namespace start1
open Jvm.ClassFile
def u (s : String) : CpInfo := .utf8 (stringToUtf16 s)
/-- a pool by its gaps: so many unusable entries, then the entry; so many at the end -/
def gap : Nat → List CpInfo → List CpInfo
  | 0, r => r
  | n + 1, r => .unusable :: gap n r
def poolList (es : List (Nat × CpInfo)) (last : Nat) : List CpInfo := es.foldr (fun e r => gap e.1 (e.2 :: r)) (gap last [])
def pool (es : List (Nat × CpInfo)) (last : Nat) : Array CpInfo := ⟨poolList es last⟩
def fileOf (pool : Array CpInfo) (this : Nat) (attrs : Array Attribute := #[]) (ms : Array MethodInfo := #[]) (fl : Nat := 33) (sup : Nat := 0) (ifs : Array Nat := #[]) (fds : Array FieldInfo := #[]) : ClassFile where
  minorVersion := 0
  majorVersion := 65
  constantPool := pool
  accessFlags := fl
  thisClass := this
  superClass := sup
  interfaces := ifs
  fields := fds
  methods := ms
  attributes := attrs
def plain (name : String) (sup : Option ClassId) : Class where
  name := name
  kind := .ordinary
  loader := none
  accessFlags := 33
  super := sup
  interfaces := #[]
  cf := none
  fields := #[]
  methods := #[]
  instanceTypes := #[]
  staticTypes := #[]
  resolved := #[]
  callSites := []
  init := .initialized
  statics := none
  mirror := none

def pool0 : Array CpInfo := pool [(5, u "<init>"), (0, u "()V"), (1, .class_ 10), (1, u "java/lang/Object")] 113

def k0c0 : Code := { maxStack := 0, maxLocals := 1, code := object_method_1_code, exceptionTable := #[], attributes := #[] }
def k0m0 : Method := { name := "<init>", desc := "()V", sig := { parameters := [], returnType := none }, accessFlags := 1, code := some k0c0 }
/-- java/lang/Object -/
def k0 : Class := { plain "java/lang/Object" none with
  accessFlags := 33
  interfaces := #[]
  cf := some (fileOf pool0 8 #[] #[{ accessFlags := 1, nameIndex := 5, descriptorIndex := 6, attributes := #[] }] 33 0 #[] #[])
  fields := #[]
  methods := #[k0m0]
  instanceTypes := #[]
  staticTypes := #[]
  resolved := Array.replicate 124 none
  statics := none }

def pool1 : Array CpInfo := pool [(2, .class_ 4), (1, u "java/lang/Object"), (0, u "<init>"), (0, u "()V"), (0, .methodref 8 9), (0, .class_ 10), (0, .nameAndType 11 12), (0, u "com/example/invocant/invocant/CanonicalMatchesPinLaw"), (0, u "len"), (0, u "(I)I"), (0, .class_ 14), (0, u "java/lang/String"), (0, .methodref 13 16), (0, .nameAndType 5 17), (0, u "([C)V"), (0, .methodref 8 19), (0, .nameAndType 20 21), (0, u "c0"), (0, u "(I)C"), (0, .methodref 8 23), (0, .nameAndType 24 21), (0, u "c1"), (0, .class_ 26), (0, u "com/example/invocant/invocant/Canonical"), (0, .methodref 8 28), (0, .nameAndType 29 30), (0, u "mk"), (0, u "(I)Ljava/lang/String;"), (0, .methodref 25 32), (0, .nameAndType 5 33), (0, u "(Ljava/lang/String;Ljava/lang/String;)V"), (0, .methodref 8 35), (0, .nameAndType 36 37), (0, u "same"), (0, u "(II)Z"), (0, .methodref 25 39), (0, .nameAndType 40 41), (0, u "matches"), (0, u "(Lcom/example/invocant/invocant/Canonical;)Z"), (3, u "law"), (0, u "(IIIII)Z")] 2

def k1m0 : Method := { name := "<init>", desc := "()V", sig := { parameters := [], returnType := none }, accessFlags := 1, code := none }
def k1c1 : Code := { maxStack := 2, maxLocals := 1, code := method_2_code, exceptionTable := #[], attributes := #[] }
def k1m1 : Method := { name := "len", desc := "(I)I", sig := { parameters := [.int], returnType := some .int }, accessFlags := 10, code := some k1c1 }
def k1c2 : Code := { maxStack := 2, maxLocals := 1, code := method_3_code, exceptionTable := #[], attributes := #[] }
def k1m2 : Method := { name := "c0", desc := "(I)C", sig := { parameters := [.int], returnType := some .char }, accessFlags := 10, code := some k1c2 }
def k1c3 : Code := { maxStack := 2, maxLocals := 1, code := method_4_code, exceptionTable := #[], attributes := #[] }
def k1m3 : Method := { name := "c1", desc := "(I)C", sig := { parameters := [.int], returnType := some .char }, accessFlags := 10, code := some k1c3 }
def k1c4 : Code := { maxStack := 6, maxLocals := 2, code := method_5_code, exceptionTable := #[], attributes := #[] }
def k1m4 : Method := { name := "mk", desc := "(I)Ljava/lang/String;", sig := { parameters := [.int], returnType := some (.object "java/lang/String") }, accessFlags := 10, code := some k1c4 }
def k1c5 : Code := { maxStack := 2, maxLocals := 3, code := method_6_code, exceptionTable := #[], attributes := #[] }
def k1m5 : Method := { name := "same", desc := "(II)Z", sig := { parameters := [.int, .int], returnType := some .boolean }, accessFlags := 10, code := some k1c5 }
def k1c6 : Code := { maxStack := 4, maxLocals := 12, code := code, exceptionTable := #[], attributes := #[] }
def k1m6 : Method := { name := "law", desc := "(IIIII)Z", sig := { parameters := [.int, .int, .int, .int, .int], returnType := some .boolean }, accessFlags := 9, code := some k1c6 }
/-- com/example/invocant/invocant/CanonicalMatchesPinLaw -/
def k1 : Class := { plain "com/example/invocant/invocant/CanonicalMatchesPinLaw" (some 0) with
  accessFlags := 49
  interfaces := #[]
  cf := some (fileOf pool1 8 #[] #[{ accessFlags := 1, nameIndex := 5, descriptorIndex := 6, attributes := #[] }, { accessFlags := 10, nameIndex := 11, descriptorIndex := 12, attributes := #[] }, { accessFlags := 10, nameIndex := 20, descriptorIndex := 21, attributes := #[] }, { accessFlags := 10, nameIndex := 24, descriptorIndex := 21, attributes := #[] }, { accessFlags := 10, nameIndex := 29, descriptorIndex := 30, attributes := #[] }, { accessFlags := 10, nameIndex := 36, descriptorIndex := 37, attributes := #[] }, { accessFlags := 9, nameIndex := 45, descriptorIndex := 46, attributes := #[] }] 49 2 #[] #[])
  fields := #[]
  methods := #[k1m0, k1m1, k1m2, k1m3, k1m4, k1m5, k1m6]
  instanceTypes := #[]
  staticTypes := #[]
  resolved := Array.replicate 49 none
  statics := none }

def pool2 : Array CpInfo := pool [(1, .methodref 2 3), (0, .class_ 4), (0, .nameAndType 5 6), (0, u "java/lang/Object"), (0, u "<init>"), (0, u "()V"), (0, .class_ 8), (0, u "java/lang/Record")] 13

def k2c0 : Code := { maxStack := 1, maxLocals := 1, code := jdk_30_method_1_code, exceptionTable := #[], attributes := #[] }
def k2m0 : Method := { name := "<init>", desc := "()V", sig := { parameters := [], returnType := none }, accessFlags := 4, code := some k2c0 }
/-- java/lang/Record -/
def k2 : Class := { plain "java/lang/Record" (some 0) with
  accessFlags := 1057
  interfaces := #[]
  cf := some (fileOf pool2 7 #[] #[{ accessFlags := 4, nameIndex := 5, descriptorIndex := 6, attributes := #[] }] 1057 2 #[] #[])
  fields := #[]
  methods := #[k2m0]
  instanceTypes := #[]
  staticTypes := #[]
  resolved := Array.replicate 22 none
  statics := none }

def pool3 : Array CpInfo := pool [(1, .methodref 2 3), (0, .class_ 4), (0, .nameAndType 5 6), (0, u "java/lang/Record"), (0, u "<init>"), (0, u "()V"), (0, .fieldref 8 9), (0, .class_ 10), (0, .nameAndType 11 12), (0, u "com/example/invocant/invocant/Canonical"), (0, u "url"), (0, u "Ljava/lang/String;"), (0, .fieldref 8 14), (0, .nameAndType 15 12), (0, u "version"), (1, .class_ 19), (1, u "java/lang/String"), (4, u "(Ljava/lang/String;Ljava/lang/String;)V"), (7, .methodref 17 33), (0, .nameAndType 34 35), (0, u "equals"), (0, u "(Ljava/lang/Object;)Z"), (15, u "VERSION_SEPARATOR"), (0, u "C"), (8, u "matches"), (0, u "(Lcom/example/invocant/invocant/Canonical;)Z")] 24

def k3c0 : Code := { maxStack := 2, maxLocals := 3, code := prog_3_method_1_code, exceptionTable := #[], attributes := #[] }
def k3m0 : Method := { name := "<init>", desc := "(Ljava/lang/String;Ljava/lang/String;)V", sig := { parameters := [(.object "java/lang/String"), (.object "java/lang/String")], returnType := none }, accessFlags := 0, code := some k3c0 }
def k3c1 : Code := { maxStack := 2, maxLocals := 2, code := prog_3_method_3_code, exceptionTable := #[], attributes := #[] }
def k3m1 : Method := { name := "matches", desc := "(Lcom/example/invocant/invocant/Canonical;)Z", sig := { parameters := [(.object "com/example/invocant/invocant/Canonical")], returnType := some .boolean }, accessFlags := 0, code := some k3c1 }
/-- com/example/invocant/invocant/Canonical -/
def k3 : Class := { plain "com/example/invocant/invocant/Canonical" (some 2) with
  accessFlags := 48
  interfaces := #[]
  cf := some (fileOf pool3 8 #[] #[{ accessFlags := 0, nameIndex := 5, descriptorIndex := 24, attributes := #[] }, { accessFlags := 0, nameIndex := 61, descriptorIndex := 62, attributes := #[] }] 48 2 #[] #[{ accessFlags := 18, nameIndex := 11, descriptorIndex := 12, attributes := #[] }, { accessFlags := 18, nameIndex := 15, descriptorIndex := 12, attributes := #[] }, { accessFlags := 26, nameIndex := 51, descriptorIndex := 52, attributes := #[] }])
  fields := #[{ name := "url", type := (.object "java/lang/String"), accessFlags := 18, slot := 0, constantValue := 0 }, { name := "version", type := (.object "java/lang/String"), accessFlags := 18, slot := 1, constantValue := 0 }, { name := "VERSION_SEPARATOR", type := .char, accessFlags := 26, slot := 0, constantValue := 0 }]
  methods := #[k3m0, k3m1]
  instanceTypes := #[(.object "java/lang/String"), (.object "java/lang/String")]
  staticTypes := #[.char]
  resolved := Array.replicate 87 none
  statics := none }

def pool4 : Array CpInfo := pool [(1, .class_ 2), (0, u "java/io/Serializable"), (0, .class_ 4), (0, u "java/lang/Object")] 2

/-- java/io/Serializable -/
def k4 : Class := { plain "java/io/Serializable" (some 0) with
  accessFlags := 1537
  interfaces := #[]
  cf := some (fileOf pool4 1 #[] #[] 1537 3 #[] #[])
  fields := #[]
  methods := #[]
  instanceTypes := #[]
  staticTypes := #[]
  resolved := Array.replicate 7 none
  statics := none }

def pool5 : Array CpInfo := pool [(1, .class_ 2), (0, u "java/lang/Comparable"), (0, .class_ 4), (0, u "java/lang/Object")] 7

/-- java/lang/Comparable -/
def k5 : Class := { plain "java/lang/Comparable" (some 0) with
  accessFlags := 1537
  interfaces := #[]
  cf := some (fileOf pool5 1 #[] #[] 1537 3 #[] #[])
  fields := #[]
  methods := #[]
  instanceTypes := #[]
  staticTypes := #[]
  resolved := Array.replicate 12 none
  statics := none }

def pool6 : Array CpInfo := pool [(2, .class_ 4), (1, u "java/lang/CharSequence"), (42, .class_ 48), (0, u "java/lang/CharSequence$1CodePointIterator"), (10, .class_ 60), (0, u "java/lang/CharSequence$1CharIterator"), (5, .class_ 67), (0, u "java/lang/Object")] 63

/-- java/lang/CharSequence -/
def k6 : Class := { plain "java/lang/CharSequence" (some 0) with
  accessFlags := 1537
  interfaces := #[]
  cf := some (fileOf pool6 2 #[.nestMembers #[47, 59]] #[] 1537 66 #[] #[])
  fields := #[]
  methods := #[]
  instanceTypes := #[]
  staticTypes := #[]
  resolved := Array.replicate 131 none
  statics := none }

def pool7 : Array CpInfo := pool [(1, .class_ 2), (0, u "java/lang/constant/Constable"), (0, .class_ 4), (0, u "java/lang/Object")] 6

/-- java/lang/constant/Constable -/
def k7 : Class := { plain "java/lang/constant/Constable" (some 0) with
  accessFlags := 1537
  interfaces := #[]
  cf := some (fileOf pool7 1 #[] #[] 1537 3 #[] #[])
  fields := #[]
  methods := #[]
  instanceTypes := #[]
  staticTypes := #[]
  resolved := Array.replicate 11 none
  statics := none }

def pool8 : Array CpInfo := pool [(1, .class_ 2), (0, u "java/lang/constant/ConstantDesc"), (0, .class_ 4), (0, u "java/lang/Object")] 32

/-- java/lang/constant/ConstantDesc -/
def k8 : Class := { plain "java/lang/constant/ConstantDesc" (some 0) with
  accessFlags := 1537
  interfaces := #[]
  cf := some (fileOf pool8 1 #[] #[] 1537 3 #[] #[])
  fields := #[]
  methods := #[]
  instanceTypes := #[]
  staticTypes := #[]
  resolved := Array.replicate 37 none
  statics := none }

def pool9 : Array CpInfo := pool [(1, .methodref 2 3), (0, .class_ 4), (0, .nameAndType 5 6), (0, u "java/lang/Object"), (0, u "<init>"), (0, u "()V"), (0, .string 8), (0, u ""), (0, .fieldref 10 11), (0, .class_ 12), (0, .nameAndType 13 14), (0, u "java/lang/String"), (0, u "value"), (0, u "[B"), (0, .fieldref 10 16), (0, .nameAndType 17 18), (0, u "coder"), (0, u "B"), (2, u "hash"), (0, u "I"), (2, u "hashIsZero"), (0, u "Z"), (0, .methodref 10 28), (0, .nameAndType 5 29), (0, u "([CIILjava/lang/Void;)V"), (8, .fieldref 10 39), (0, .nameAndType 40 26), (0, u "COMPACT_STRINGS"), (1, .class_ 44), (1, u "java/lang/StringUTF16"), (0, u "compress"), (1, .methodref 42 48), (0, .nameAndType 49 50), (0, u "coderFromArrayLen"), (0, u "([BI)B"), (56, .class_ 109), (1, u "java/lang/StringLatin1"), (67, .methodref 42 178), (0, .nameAndType 45 179), (0, u "([CII)[B"), (361, .methodref 107 542), (0, .nameAndType 543 544), (0, u "equals"), (0, u "([B[B)Z"), (28, u "(Ljava/lang/Object;)Z"), (1, .class_ 576), (0, u "java/lang/CharSequence"), (22, u "CASE_INSENSITIVE_ORDER"), (0, u "Ljava/util/Comparator;"), (409, u "([C)V"), (90, u "serialPersistentFields"), (0, u "[Ljava/io/ObjectStreamField;"), (0, .class_ 1104), (0, u "java/lang/String$CaseInsensitiveComparator"), (1, .class_ 1107), (0, u "java/io/Serializable"), (0, .class_ 1109), (0, u "java/lang/Comparable"), (0, .class_ 1111), (0, u "java/lang/constant/Constable"), (0, .class_ 1113), (0, u "java/lang/constant/ConstantDesc"), (2, u "serialVersionUID"), (0, u "J"), (3, u "REPL"), (0, u "C"), (2, u "LATIN1"), (1, u "UTF16")] 323

def k9m0 : Method := { name := "<init>", desc := "()V", sig := { parameters := [], returnType := none }, accessFlags := 1, code := none }
def k9c1 : Code := { maxStack := 5, maxLocals := 2, code := jdk_42_method_3_code, exceptionTable := #[], attributes := #[] }
def k9m1 : Method := { name := "<init>", desc := "([C)V", sig := { parameters := [(.array .char)], returnType := none }, accessFlags := 1, code := some k9c1 }
def k9c2 : Code := { maxStack := 2, maxLocals := 3, code := jdk_42_method_66_code, exceptionTable := #[], attributes := #[] }
def k9m2 : Method := { name := "equals", desc := "(Ljava/lang/Object;)Z", sig := { parameters := [(.object "java/lang/Object")], returnType := some .boolean }, accessFlags := 1, code := some k9c2 }
def k9c3 : Code := { maxStack := 4, maxLocals := 6, code := jdk_42_method_149_code, exceptionTable := #[], attributes := #[] }
def k9m3 : Method := { name := "<init>", desc := "([CIILjava/lang/Void;)V", sig := { parameters := [(.array .char), .int, .int, (.object "java/lang/Void")], returnType := none }, accessFlags := 2, code := some k9c3 }
/-- java/lang/String -/
def k9 : Class := { plain "java/lang/String" (some 0) with
  accessFlags := 49
  interfaces := #[4, 5, 6, 7, 8]
  cf := some (fileOf pool9 10 #[.nestMembers #[1103]] #[{ accessFlags := 1, nameIndex := 5, descriptorIndex := 6, attributes := #[] }, { accessFlags := 1, nameIndex := 5, descriptorIndex := 1010, attributes := #[] }, { accessFlags := 1, nameIndex := 543, descriptorIndex := 573, attributes := #[] }, { accessFlags := 2, nameIndex := 5, descriptorIndex := 29, attributes := #[] }] 49 2 #[1106, 1108, 575, 1110, 1112] #[{ accessFlags := 18, nameIndex := 13, descriptorIndex := 14, attributes := #[] }, { accessFlags := 18, nameIndex := 17, descriptorIndex := 18, attributes := #[] }, { accessFlags := 2, nameIndex := 21, descriptorIndex := 22, attributes := #[] }, { accessFlags := 2, nameIndex := 25, descriptorIndex := 26, attributes := #[] }, { accessFlags := 26, nameIndex := 1116, descriptorIndex := 1117, attributes := #[] }, { accessFlags := 24, nameIndex := 40, descriptorIndex := 26, attributes := #[] }, { accessFlags := 26, nameIndex := 1101, descriptorIndex := 1102, attributes := #[] }, { accessFlags := 26, nameIndex := 1121, descriptorIndex := 1122, attributes := #[] }, { accessFlags := 25, nameIndex := 599, descriptorIndex := 600, attributes := #[] }, { accessFlags := 24, nameIndex := 1125, descriptorIndex := 18, attributes := #[] }, { accessFlags := 24, nameIndex := 1127, descriptorIndex := 18, attributes := #[] }])
  fields := #[{ name := "value", type := (.array .byte), accessFlags := 18, slot := 0, constantValue := 0 }, { name := "coder", type := .byte, accessFlags := 18, slot := 1, constantValue := 0 }, { name := "hash", type := .int, accessFlags := 2, slot := 2, constantValue := 0 }, { name := "hashIsZero", type := .boolean, accessFlags := 2, slot := 3, constantValue := 0 }, { name := "serialVersionUID", type := .long, accessFlags := 26, slot := 0, constantValue := 0 }, { name := "COMPACT_STRINGS", type := .boolean, accessFlags := 24, slot := 1, constantValue := 0 }, { name := "serialPersistentFields", type := (.array (.object "java/io/ObjectStreamField")), accessFlags := 26, slot := 2, constantValue := 0 }, { name := "REPL", type := .char, accessFlags := 26, slot := 3, constantValue := 0 }, { name := "CASE_INSENSITIVE_ORDER", type := (.object "java/util/Comparator"), accessFlags := 25, slot := 4, constantValue := 0 }, { name := "LATIN1", type := .byte, accessFlags := 24, slot := 5, constantValue := 0 }, { name := "UTF16", type := .byte, accessFlags := 24, slot := 6, constantValue := 0 }]
  methods := #[k9m0, k9m1, k9m2, k9m3]
  instanceTypes := #[(.array .byte), .byte, .int, .boolean]
  staticTypes := #[.long, .boolean, (.array (.object "java/io/ObjectStreamField")), .char, (.object "java/util/Comparator"), .byte, .byte]
  resolved := Array.replicate 1451 none
  statics := some 0 }

def pool10 : Array CpInfo := pool [(4, .class_ 6), (1, u "java/lang/Object"), (0, u "<init>"), (0, u "()V"), (5, .class_ 16), (1, u "java/lang/StringLatin1"), (104, u "$assertionsDisabled"), (0, u "Z"), (98, .class_ 223), (1, u "java/lang/StringLatin1$LinesSpliterator"), (57, u "equals"), (0, u "([B[B)Z"), (107, .class_ 391), (0, u "java/lang/StringLatin1$CharsSpliterator")] 3

def k10m0 : Method := { name := "<init>", desc := "()V", sig := { parameters := [], returnType := none }, accessFlags := 0, code := none }
def k10c1 : Code := { maxStack := 3, maxLocals := 3, code := jdk_43_method_13_code, exceptionTable := #[], attributes := #[] }
def k10m1 : Method := { name := "equals", desc := "([B[B)Z", sig := { parameters := [(.array .byte), (.array .byte)], returnType := some .boolean }, accessFlags := 9, code := some k10c1 }
/-- java/lang/StringLatin1 -/
def k10 : Class := { plain "java/lang/StringLatin1" (some 0) with
  accessFlags := 48
  interfaces := #[]
  cf := some (fileOf pool10 14 #[.nestMembers #[390, 221]] #[{ accessFlags := 0, nameIndex := 7, descriptorIndex := 8, attributes := #[] }, { accessFlags := 9, nameIndex := 281, descriptorIndex := 282, attributes := #[] }] 48 4 #[] #[{ accessFlags := 4120, nameIndex := 121, descriptorIndex := 122, attributes := #[] }])
  fields := #[{ name := "$assertionsDisabled", type := .boolean, accessFlags := 4120, slot := 0, constantValue := 0 }]
  methods := #[k10m0, k10m1]
  instanceTypes := #[]
  staticTypes := #[.boolean]
  resolved := Array.replicate 395 none
  statics := none }

def pool11 : Array CpInfo := pool [(6, .class_ 8), (1, u "java/lang/Object"), (0, u "<init>"), (0, u "()V"), (1, .class_ 14), (1, u "java/lang/StringUTF16"), (31, u "$assertionsDisabled"), (0, u "Z"), (13, u "HI_BYTE_SHIFT"), (0, u "I"), (2, u "LO_BYTE_SHIFT"), (49, .methodref 12 116), (0, .nameAndType 117 118), (0, u "compress"), (0, u "([CI[BII)I"), (3, u "([CII)[B"), (138, u "coderFromArrayLen"), (0, u "([BI)B"), (106, .class_ 371), (1, u "java/lang/StringUTF16$LinesSpliterator"), (58, u "MAX_LENGTH"), (196, .class_ 628), (0, u "java/lang/StringUTF16$CodePointsSpliterator"), (0, .class_ 630), (0, u "java/lang/StringUTF16$CharsSpliterator")] 4

def k11m0 : Method := { name := "<init>", desc := "()V", sig := { parameters := [], returnType := none }, accessFlags := 0, code := none }
def k11c1 : Code := { maxStack := 2, maxLocals := 2, code := jdk_52_method_15_code, exceptionTable := #[], attributes := #[] }
def k11m1 : Method := { name := "coderFromArrayLen", desc := "([BI)B", sig := { parameters := [(.array .byte), .int], returnType := some .byte }, accessFlags := 8, code := some k11c1 }
def k11c2 : Code := { maxStack := 5, maxLocals := 6, code := jdk_52_method_16_code, exceptionTable := #[], attributes := #[] }
def k11m2 : Method := { name := "compress", desc := "([CII)[B", sig := { parameters := [(.array .char), .int, .int], returnType := some (.array .byte) }, accessFlags := 9, code := some k11c2 }
def k11c3 : Code := { maxStack := 3, maxLocals := 7, code := jdk_52_method_21_code, exceptionTable := #[], attributes := #[] }
def k11m3 : Method := { name := "compress", desc := "([CI[BII)I", sig := { parameters := [(.array .char), .int, (.array .byte), .int, .int], returnType := some .int }, accessFlags := 9, code := some k11c3 }
/-- java/lang/StringUTF16 -/
def k11 : Class := { plain "java/lang/StringUTF16" (some 0) with
  accessFlags := 48
  interfaces := #[]
  cf := some (fileOf pool11 12 #[.nestMembers #[627, 629, 369]] #[{ accessFlags := 0, nameIndex := 9, descriptorIndex := 10, attributes := #[] }, { accessFlags := 8, nameIndex := 261, descriptorIndex := 262, attributes := #[] }, { accessFlags := 9, nameIndex := 117, descriptorIndex := 122, attributes := #[] }, { accessFlags := 9, nameIndex := 117, descriptorIndex := 118, attributes := #[] }] 48 6 #[] #[{ accessFlags := 26, nameIndex := 61, descriptorIndex := 62, attributes := #[] }, { accessFlags := 26, nameIndex := 65, descriptorIndex := 62, attributes := #[] }, { accessFlags := 24, nameIndex := 430, descriptorIndex := 62, attributes := #[] }, { accessFlags := 4120, nameIndex := 46, descriptorIndex := 47, attributes := #[] }])
  fields := #[{ name := "HI_BYTE_SHIFT", type := .int, accessFlags := 26, slot := 0, constantValue := 0 }, { name := "LO_BYTE_SHIFT", type := .int, accessFlags := 26, slot := 1, constantValue := 0 }, { name := "MAX_LENGTH", type := .int, accessFlags := 24, slot := 2, constantValue := 0 }, { name := "$assertionsDisabled", type := .boolean, accessFlags := 4120, slot := 3, constantValue := 0 }]
  methods := #[k11m0, k11m1, k11m2, k11m3]
  instanceTypes := #[]
  staticTypes := #[.int, .int, .int, .boolean]
  resolved := Array.replicate 635 none
  statics := none }

def pool12 : Array CpInfo := pool [(2, .class_ 4), (1, u "java/lang/Object"), (0, u "<init>"), (0, u "()V"), (17, .class_ 26), (1, u "jdk/internal/util/Preconditions"), (28, .class_ 56), (0, u "jdk/internal/util/Preconditions$4"), (57, .class_ 115), (0, u "jdk/internal/util/Preconditions$1"), (7, u "SIOOBE_FORMATTER"), (0, u "Ljava/util/function/BiFunction;"), (0, .class_ 126), (0, u "jdk/internal/util/Preconditions$2"), (3, u "AIOOBE_FORMATTER"), (0, .class_ 132), (0, u "jdk/internal/util/Preconditions$3"), (3, u "IOOBE_FORMATTER")] 57

def k12m0 : Method := { name := "<init>", desc := "()V", sig := { parameters := [], returnType := none }, accessFlags := 1, code := none }
/-- jdk/internal/util/Preconditions -/
def k12 : Class := { plain "jdk/internal/util/Preconditions" (some 0) with
  accessFlags := 33
  interfaces := #[]
  cf := some (fileOf pool12 24 #[.nestMembers #[55, 131, 125, 114]] #[{ accessFlags := 1, nameIndex := 5, descriptorIndex := 6, attributes := #[] }] 33 2 #[] #[{ accessFlags := 25, nameIndex := 123, descriptorIndex := 124, attributes := #[] }, { accessFlags := 25, nameIndex := 130, descriptorIndex := 124, attributes := #[] }, { accessFlags := 25, nameIndex := 136, descriptorIndex := 124, attributes := #[] }])
  fields := #[{ name := "SIOOBE_FORMATTER", type := (.object "java/util/function/BiFunction"), accessFlags := 25, slot := 0, constantValue := 0 }, { name := "AIOOBE_FORMATTER", type := (.object "java/util/function/BiFunction"), accessFlags := 25, slot := 1, constantValue := 0 }, { name := "IOOBE_FORMATTER", type := (.object "java/util/function/BiFunction"), accessFlags := 25, slot := 2, constantValue := 0 }]
  methods := #[k12m0]
  instanceTypes := #[]
  staticTypes := #[(.object "java/util/function/BiFunction"), (.object "java/util/function/BiFunction"), (.object "java/util/function/BiFunction")]
  resolved := Array.replicate 194 none
  statics := some 1 }

def pool13 : Array CpInfo := pool [(9, u "<init>"), (6, .class_ 18), (1, u "java/lang/Object"), (0, u "()V"), (1, .class_ 23), (1, u "jdk/internal/util/ArraysSupport"), (0, u "LOG2_ARRAY_LONG_INDEX_SCALE"), (0, u "I"), (2, u "U"), (0, u "Ljdk/internal/misc/Unsafe;"), (8, u "BIG_ENDIAN"), (0, u "Z"), (8, u "LOG2_BYTE_BIT_SIZE"), (4, u "LOG2_ARRAY_INT_INDEX_SCALE"), (54, u "JLA"), (0, u "Ljdk/internal/access/JavaLangAccess;"), (11, u "LOG2_ARRAY_BOOLEAN_INDEX_SCALE"), (9, u "LOG2_ARRAY_BYTE_INDEX_SCALE"), (5, u "LOG2_ARRAY_CHAR_INDEX_SCALE"), (5, u "LOG2_ARRAY_SHORT_INDEX_SCALE"), (18, u "LOG2_ARRAY_FLOAT_INDEX_SCALE"), (24, u "LOG2_ARRAY_DOUBLE_INDEX_SCALE"), (89, u "T_BOOLEAN"), (2, u "T_CHAR"), (1, u "T_FLOAT"), (1, u "T_DOUBLE"), (1, u "T_BYTE"), (1, u "T_SHORT"), (1, u "T_INT"), (1, u "T_LONG"), (1, u "SOFT_MAX_ARRAY_LENGTH")] 83

def k13m0 : Method := { name := "<init>", desc := "()V", sig := { parameters := [], returnType := none }, accessFlags := 2, code := none }
/-- jdk/internal/util/ArraysSupport -/
def k13 : Class := { plain "jdk/internal/util/ArraysSupport" (some 0) with
  accessFlags := 33
  interfaces := #[]
  cf := some (fileOf pool13 21 #[] #[{ accessFlags := 2, nameIndex := 9, descriptorIndex := 19, attributes := #[] }] 33 16 #[] #[{ accessFlags := 24, nameIndex := 28, descriptorIndex := 29, attributes := #[] }, { accessFlags := 26, nameIndex := 38, descriptorIndex := 39, attributes := #[] }, { accessFlags := 25, nameIndex := 121, descriptorIndex := 25, attributes := #[] }, { accessFlags := 25, nameIndex := 131, descriptorIndex := 25, attributes := #[] }, { accessFlags := 25, nameIndex := 137, descriptorIndex := 25, attributes := #[] }, { accessFlags := 25, nameIndex := 143, descriptorIndex := 25, attributes := #[] }, { accessFlags := 25, nameIndex := 53, descriptorIndex := 25, attributes := #[] }, { accessFlags := 25, nameIndex := 24, descriptorIndex := 25, attributes := #[] }, { accessFlags := 25, nameIndex := 162, descriptorIndex := 25, attributes := #[] }, { accessFlags := 25, nameIndex := 187, descriptorIndex := 25, attributes := #[] }, { accessFlags := 26, nameIndex := 48, descriptorIndex := 25, attributes := #[] }, { accessFlags := 25, nameIndex := 277, descriptorIndex := 25, attributes := #[] }, { accessFlags := 25, nameIndex := 280, descriptorIndex := 25, attributes := #[] }, { accessFlags := 25, nameIndex := 282, descriptorIndex := 25, attributes := #[] }, { accessFlags := 25, nameIndex := 284, descriptorIndex := 25, attributes := #[] }, { accessFlags := 25, nameIndex := 286, descriptorIndex := 25, attributes := #[] }, { accessFlags := 25, nameIndex := 288, descriptorIndex := 25, attributes := #[] }, { accessFlags := 25, nameIndex := 290, descriptorIndex := 25, attributes := #[] }, { accessFlags := 25, nameIndex := 292, descriptorIndex := 25, attributes := #[] }, { accessFlags := 26, nameIndex := 108, descriptorIndex := 109, attributes := #[] }, { accessFlags := 25, nameIndex := 294, descriptorIndex := 25, attributes := #[] }])
  fields := #[{ name := "U", type := (.object "jdk/internal/misc/Unsafe"), accessFlags := 24, slot := 0, constantValue := 0 }, { name := "BIG_ENDIAN", type := .boolean, accessFlags := 26, slot := 1, constantValue := 0 }, { name := "LOG2_ARRAY_BOOLEAN_INDEX_SCALE", type := .int, accessFlags := 25, slot := 2, constantValue := 0 }, { name := "LOG2_ARRAY_BYTE_INDEX_SCALE", type := .int, accessFlags := 25, slot := 3, constantValue := 0 }, { name := "LOG2_ARRAY_CHAR_INDEX_SCALE", type := .int, accessFlags := 25, slot := 4, constantValue := 0 }, { name := "LOG2_ARRAY_SHORT_INDEX_SCALE", type := .int, accessFlags := 25, slot := 5, constantValue := 0 }, { name := "LOG2_ARRAY_INT_INDEX_SCALE", type := .int, accessFlags := 25, slot := 6, constantValue := 0 }, { name := "LOG2_ARRAY_LONG_INDEX_SCALE", type := .int, accessFlags := 25, slot := 7, constantValue := 0 }, { name := "LOG2_ARRAY_FLOAT_INDEX_SCALE", type := .int, accessFlags := 25, slot := 8, constantValue := 0 }, { name := "LOG2_ARRAY_DOUBLE_INDEX_SCALE", type := .int, accessFlags := 25, slot := 9, constantValue := 0 }, { name := "LOG2_BYTE_BIT_SIZE", type := .int, accessFlags := 26, slot := 10, constantValue := 0 }, { name := "T_BOOLEAN", type := .int, accessFlags := 25, slot := 11, constantValue := 0 }, { name := "T_CHAR", type := .int, accessFlags := 25, slot := 12, constantValue := 0 }, { name := "T_FLOAT", type := .int, accessFlags := 25, slot := 13, constantValue := 0 }, { name := "T_DOUBLE", type := .int, accessFlags := 25, slot := 14, constantValue := 0 }, { name := "T_BYTE", type := .int, accessFlags := 25, slot := 15, constantValue := 0 }, { name := "T_SHORT", type := .int, accessFlags := 25, slot := 16, constantValue := 0 }, { name := "T_INT", type := .int, accessFlags := 25, slot := 17, constantValue := 0 }, { name := "T_LONG", type := .int, accessFlags := 25, slot := 18, constantValue := 0 }, { name := "JLA", type := (.object "jdk/internal/access/JavaLangAccess"), accessFlags := 26, slot := 19, constantValue := 0 }, { name := "SOFT_MAX_ARRAY_LENGTH", type := .int, accessFlags := 25, slot := 20, constantValue := 0 }]
  methods := #[k13m0]
  instanceTypes := #[]
  staticTypes := #[(.object "jdk/internal/misc/Unsafe"), .boolean, .int, .int, .int, .int, .int, .int, .int, .int, .int, .int, .int, .int, .int, .int, .int, .int, .int, (.object "jdk/internal/access/JavaLangAccess"), .int]
  resolved := Array.replicate 378 none
  statics := none }

def pool14 : Array CpInfo := pool [(1, u "java/lang/Cloneable"), (0, .class_ 1), (0, u "java/lang/Object"), (0, .class_ 3)] 3

/-- java/lang/Cloneable -/
def k14 : Class := { plain "java/lang/Cloneable" (some 0) with
  accessFlags := 1537
  interfaces := #[]
  cf := some (fileOf pool14 2 #[] #[] 1537 4 #[] #[])
  fields := #[]
  methods := #[]
  instanceTypes := #[]
  staticTypes := #[]
  resolved := Array.replicate 8 none
  statics := none }

/-- the primitive byte -/
def k15 : Class := { plain "byte" none with kind := .primitive 'B', accessFlags := 0x411 }
/-- [B -/
def k16 : Class := { plain "[B" (some 0) with kind := .array 15 .byte, interfaces := #[14, 4], accessFlags := 1041 }

/-- the primitive char -/
def k17 : Class := { plain "char" none with kind := .primitive 'C', accessFlags := 0x411 }
/-- [C -/
def k18 : Class := { plain "[C" (some 0) with kind := .array 17 .char, interfaces := #[14, 4], accessFlags := 1041 }

/-- the primitive int -/
def k19 : Class := { plain "int" none with kind := .primitive 'I', accessFlags := 0x411 }
/-- [I -/
def k20 : Class := { plain "[I" (some 0) with kind := .array 19 .int, interfaces := #[14, 4], accessFlags := 1041 }

def heap : Heap := #[{ cls := 9, slots := #[.long 0, .int 1, .null, .int 0, .null, .int 0, .int 0], vm := .statics 9 },
  { cls := 12, slots := #[.null, .null, .null], vm := .statics 12 }]
def classes : Array Class := #[k0, k1, k2, k3, k4, k5, k6, k7, k8, k9, k10, k11, k12, k13, k14, k15, k16, k17, k18, k19, k20]
def interned : List (Array UInt16 × Addr) := []
def slotsUsed : Nat := 10
def theMethod : MethodId := ⟨1, 6⟩
def args0 : Array Value := #[.int 5, .int 6, .int 7, .int 8, .int 9]
def aboutOver (below : List Frame) : State where
  vm := { classes := classes, interned := interned.toArray }
  heap := heap
  slotsUsed := slotsUsed
  threads := #[{ frames := .invoking theMethod args0 :: below }]
def below0 : List Frame := [.native { method := ⟨0, 0⟩, args := #[] }]
def about1 : State := aboutOver below0
def p0 : Program := .bare "" "" ""
def e0 : Env := launch0.env 0 0 0
theorem w_frames : about1.frames = Frame.invoking theMethod args0 :: below0 := rfl
set_option maxRecDepth 65536 in
theorem w_args : argsFit about1.vm theMethod args0 = true := by decide +kernel
set_option maxRecDepth 65536 in
theorem w_heap : heapFits about1 = true := by decide +kernel
set_option maxRecDepth 65536 in
theorem w_runnable : about1.curStatus? = some .runnable := by decide +kernel
set_option maxRecDepth 65536 in
theorem w_alone : about1.alone = true := by decide +kernel
set_option maxRecDepth 65536 in
theorem w_named : about1.methodNamed? x = some theMethod := by decide +kernel
set_option maxRecDepth 65536 in
theorem w_hears : about1.hears theMethod below0 = true := by decide +kernel
set_option maxRecDepth 65536 in
theorem w_ripe : about1.ripe theMethod args0 below0 = true := by decide +kernel
theorem w_running : about1.status = .running := rfl
set_option maxRecDepth 65536 in
theorem w_room : about1.hasRoom e0.platform room_1 = true :=
  launch0.hasRoom_least _ room_1 (by decide +kernel) (by decide +kernel) (by decide +kernel) (by decide +kernel) (by decide +kernel) (by decide +kernel)
theorem allAtoms_all (ts : List Jvm.Cond) (a : Array Jvm.Value) (st : Jvm.State) : (allAtoms ts).before a st = ts.all (fun c => c.before a st) := by
  induction ts with
  | nil => rfl
  | cons c t ih =>
    show (Jvm.Cond.and c (allAtoms t)).before a st = _
    rw [Jvm.Cond.before_and, ih, List.all_cons]
def words1 : List Jvm.Cond := Jvm.Cond.code x code maxLocals ret :: tables_1
/-- a 'code' word, met by the world's own term for the bytes: nothing is compared byte by byte -/
theorem code_word {y : MethodName} {bytes : ByteArray} {mx : Nat} {rt : Option FieldType} {a : Array Value} {s : State} {m : MethodId} {meth : Method} {c : Code} (h1 : s.methodNamed? y = some m) (h2 : s.vm.method? m = some meth) (h3 : meth.code = some c) (h4 : c.code = bytes)
    (h5 : (c.maxLocals == mx && c.exceptionTable.isEmpty && decide (c.maxStack ≤ mostOperands) && decide (meth.sig.returnType = rt) && !meth.locks && decide (parseMethodDescriptor y.desc = some meth.sig)) = true) : (Jvm.Cond.code y bytes mx rt).before a s = true := by
  simp only [Bool.and_eq_true, beq_iff_eq, Bool.not_eq_true', decide_eq_true_eq] at h5
  obtain ⟨⟨⟨⟨⟨g1, g2⟩, g3⟩, g4⟩, g5⟩, g6⟩ := h5
  simp [Cond.before, Cond.holds, Cond.value, h1, h2, h3, h4, g1, g2, g3, g4, g5, g6]
def isCode : Jvm.Cond → Bool
  | .code _ _ _ _ => true
  | _ => false
theorem all_split {L : List Jvm.Cond} {P : Jvm.Cond → Bool} (h1 : L.all (fun c => isCode c || P c) = true) (h2 : ∀ c ∈ L.filter isCode, P c = true) : L.all P = true := by
  refine List.all_eq_true.mpr fun c hc => ?_
  have h := List.all_eq_true.mp h1 c hc
  rcases Bool.eq_false_or_eq_true (isCode c) with hi | hi
  · exact h2 c (List.mem_filter.mpr ⟨hc, hi⟩)
  · simpa [hi] using h
set_option maxRecDepth 65536 in
theorem w_c0 : (Jvm.Cond.code x code maxLocals ret).before args0 about1 = true := code_word (m := ⟨1, 6⟩) (meth := k1m6) (c := k1c6) (by decide +kernel) rfl rfl rfl (by decide +kernel)
set_option maxRecDepth 65536 in
theorem w_c1 : (Jvm.Cond.code ({ cls := "com/example/invocant/invocant/CanonicalMatchesPinLaw", name := "mk", desc := "(I)Ljava/lang/String;" } : Jvm.MethodName) method_5_code (2 : Nat) (Option.some (Jvm.ClassFile.FieldType.object "java/lang/String"))).before args0 about1 = true := code_word (m := ⟨1, 4⟩) (meth := k1m4) (c := k1c4) (by decide +kernel) rfl rfl rfl (by decide +kernel)
set_option maxRecDepth 65536 in
theorem w_c2 : (Jvm.Cond.code ({ cls := "com/example/invocant/invocant/CanonicalMatchesPinLaw", name := "len", desc := "(I)I" } : Jvm.MethodName) method_2_code (1 : Nat) (Option.some Jvm.ClassFile.FieldType.int)).before args0 about1 = true := code_word (m := ⟨1, 1⟩) (meth := k1m1) (c := k1c1) (by decide +kernel) rfl rfl rfl (by decide +kernel)
set_option maxRecDepth 65536 in
theorem w_c3 : (Jvm.Cond.code ({ cls := "java/lang/String", name := "<init>", desc := "([C)V" } : Jvm.MethodName) jdk_42_method_3_code (2 : Nat) (Option.none : Option Jvm.ClassFile.FieldType)).before args0 about1 = true := code_word (m := ⟨9, 1⟩) (meth := k9m1) (c := k9c1) (by decide +kernel) rfl rfl rfl (by decide +kernel)
set_option maxRecDepth 65536 in
theorem w_c4 : (Jvm.Cond.code ({ cls := "java/lang/String", name := "<init>", desc := "([CIILjava/lang/Void;)V" } : Jvm.MethodName) jdk_42_method_149_code (6 : Nat) (Option.none : Option Jvm.ClassFile.FieldType)).before args0 about1 = true := code_word (m := ⟨9, 3⟩) (meth := k9m3) (c := k9c3) (by decide +kernel) rfl rfl rfl (by decide +kernel)
set_option maxRecDepth 65536 in
theorem w_c5 : (Jvm.Cond.code ({ cls := "java/lang/Object", name := "<init>", desc := "()V" } : Jvm.MethodName) object_method_1_code (1 : Nat) (Option.none : Option Jvm.ClassFile.FieldType)).before args0 about1 = true := code_word (m := ⟨0, 0⟩) (meth := k0m0) (c := k0c0) (by decide +kernel) rfl rfl rfl (by decide +kernel)
set_option maxRecDepth 65536 in
theorem w_c6 : (Jvm.Cond.code ({ cls := "com/example/invocant/invocant/Canonical", name := "<init>", desc := "(Ljava/lang/String;Ljava/lang/String;)V" } : Jvm.MethodName) prog_3_method_1_code (3 : Nat) (Option.none : Option Jvm.ClassFile.FieldType)).before args0 about1 = true := code_word (m := ⟨3, 0⟩) (meth := k3m0) (c := k3c0) (by decide +kernel) rfl rfl rfl (by decide +kernel)
set_option maxRecDepth 65536 in
theorem w_c7 : (Jvm.Cond.code ({ cls := "java/lang/Record", name := "<init>", desc := "()V" } : Jvm.MethodName) jdk_30_method_1_code (1 : Nat) (Option.none : Option Jvm.ClassFile.FieldType)).before args0 about1 = true := code_word (m := ⟨2, 0⟩) (meth := k2m0) (c := k2c0) (by decide +kernel) rfl rfl rfl (by decide +kernel)
set_option maxRecDepth 65536 in
theorem w_c8 : (Jvm.Cond.code ({ cls := "com/example/invocant/invocant/CanonicalMatchesPinLaw", name := "same", desc := "(II)Z" } : Jvm.MethodName) method_6_code (3 : Nat) (Option.some Jvm.ClassFile.FieldType.boolean)).before args0 about1 = true := code_word (m := ⟨1, 5⟩) (meth := k1m5) (c := k1c5) (by decide +kernel) rfl rfl rfl (by decide +kernel)
set_option maxRecDepth 65536 in
theorem w_c9 : (Jvm.Cond.code ({ cls := "com/example/invocant/invocant/Canonical", name := "matches", desc := "(Lcom/example/invocant/invocant/Canonical;)Z" } : Jvm.MethodName) prog_3_method_3_code (2 : Nat) (Option.some Jvm.ClassFile.FieldType.boolean)).before args0 about1 = true := code_word (m := ⟨3, 1⟩) (meth := k3m1) (c := k3c1) (by decide +kernel) rfl rfl rfl (by decide +kernel)
set_option maxRecDepth 65536 in
theorem w_c10 : (Jvm.Cond.code ({ cls := "java/lang/String", name := "equals", desc := "(Ljava/lang/Object;)Z" } : Jvm.MethodName) jdk_42_method_66_code (3 : Nat) (Option.some Jvm.ClassFile.FieldType.boolean)).before args0 about1 = true := code_word (m := ⟨9, 2⟩) (meth := k9m2) (c := k9c2) (by decide +kernel) rfl rfl rfl (by decide +kernel)
set_option maxRecDepth 65536 in
theorem w_c11 : (Jvm.Cond.code ({ cls := "java/lang/StringLatin1", name := "equals", desc := "([B[B)Z" } : Jvm.MethodName) jdk_43_method_13_code (3 : Nat) (Option.some Jvm.ClassFile.FieldType.boolean)).before args0 about1 = true := code_word (m := ⟨10, 1⟩) (meth := k10m1) (c := k10c1) (by decide +kernel) rfl rfl rfl (by decide +kernel)
set_option maxRecDepth 65536 in
theorem w_c12 : (Jvm.Cond.code ({ cls := "com/example/invocant/invocant/CanonicalMatchesPinLaw", name := "c0", desc := "(I)C" } : Jvm.MethodName) method_3_code (1 : Nat) (Option.some Jvm.ClassFile.FieldType.char)).before args0 about1 = true := code_word (m := ⟨1, 2⟩) (meth := k1m2) (c := k1c2) (by decide +kernel) rfl rfl rfl (by decide +kernel)
set_option maxRecDepth 65536 in
theorem w_c13 : (Jvm.Cond.code ({ cls := "java/lang/StringUTF16", name := "compress", desc := "([CII)[B" } : Jvm.MethodName) jdk_52_method_16_code (6 : Nat) (Option.some (Jvm.ClassFile.FieldType.array Jvm.ClassFile.FieldType.byte))).before args0 about1 = true := code_word (m := ⟨11, 2⟩) (meth := k11m2) (c := k11c2) (by decide +kernel) rfl rfl rfl (by decide +kernel)
set_option maxRecDepth 65536 in
theorem w_c14 : (Jvm.Cond.code ({ cls := "java/lang/StringUTF16", name := "compress", desc := "([CI[BII)I" } : Jvm.MethodName) jdk_52_method_21_code (7 : Nat) (Option.some Jvm.ClassFile.FieldType.int)).before args0 about1 = true := code_word (m := ⟨11, 3⟩) (meth := k11m3) (c := k11c3) (by decide +kernel) rfl rfl rfl (by decide +kernel)
set_option maxRecDepth 65536 in
theorem w_c15 : (Jvm.Cond.code ({ cls := "java/lang/StringUTF16", name := "coderFromArrayLen", desc := "([BI)B" } : Jvm.MethodName) jdk_52_method_15_code (2 : Nat) (Option.some Jvm.ClassFile.FieldType.byte)).before args0 about1 = true := code_word (m := ⟨11, 1⟩) (meth := k11m1) (c := k11c1) (by decide +kernel) rfl rfl rfl (by decide +kernel)
set_option maxRecDepth 65536 in
theorem w_c16 : (Jvm.Cond.code ({ cls := "com/example/invocant/invocant/CanonicalMatchesPinLaw", name := "c1", desc := "(I)C" } : Jvm.MethodName) method_4_code (1 : Nat) (Option.some Jvm.ClassFile.FieldType.char)).before args0 about1 = true := code_word (m := ⟨1, 3⟩) (meth := k1m3) (c := k1c3) (by decide +kernel) rfl rfl rfl (by decide +kernel)
def codes1 : List Jvm.Cond := [Jvm.Cond.code x code maxLocals ret, Jvm.Cond.code ({ cls := "com/example/invocant/invocant/CanonicalMatchesPinLaw", name := "mk", desc := "(I)Ljava/lang/String;" } : Jvm.MethodName) method_5_code (2 : Nat) (Option.some (Jvm.ClassFile.FieldType.object "java/lang/String")), Jvm.Cond.code ({ cls := "com/example/invocant/invocant/CanonicalMatchesPinLaw", name := "len", desc := "(I)I" } : Jvm.MethodName) method_2_code (1 : Nat) (Option.some Jvm.ClassFile.FieldType.int), Jvm.Cond.code ({ cls := "java/lang/String", name := "<init>", desc := "([C)V" } : Jvm.MethodName) jdk_42_method_3_code (2 : Nat) (Option.none : Option Jvm.ClassFile.FieldType), Jvm.Cond.code ({ cls := "java/lang/String", name := "<init>", desc := "([CIILjava/lang/Void;)V" } : Jvm.MethodName) jdk_42_method_149_code (6 : Nat) (Option.none : Option Jvm.ClassFile.FieldType), Jvm.Cond.code ({ cls := "java/lang/Object", name := "<init>", desc := "()V" } : Jvm.MethodName) object_method_1_code (1 : Nat) (Option.none : Option Jvm.ClassFile.FieldType), Jvm.Cond.code ({ cls := "com/example/invocant/invocant/Canonical", name := "<init>", desc := "(Ljava/lang/String;Ljava/lang/String;)V" } : Jvm.MethodName) prog_3_method_1_code (3 : Nat) (Option.none : Option Jvm.ClassFile.FieldType), Jvm.Cond.code ({ cls := "java/lang/Record", name := "<init>", desc := "()V" } : Jvm.MethodName) jdk_30_method_1_code (1 : Nat) (Option.none : Option Jvm.ClassFile.FieldType), Jvm.Cond.code ({ cls := "com/example/invocant/invocant/CanonicalMatchesPinLaw", name := "same", desc := "(II)Z" } : Jvm.MethodName) method_6_code (3 : Nat) (Option.some Jvm.ClassFile.FieldType.boolean), Jvm.Cond.code ({ cls := "com/example/invocant/invocant/Canonical", name := "matches", desc := "(Lcom/example/invocant/invocant/Canonical;)Z" } : Jvm.MethodName) prog_3_method_3_code (2 : Nat) (Option.some Jvm.ClassFile.FieldType.boolean), Jvm.Cond.code ({ cls := "java/lang/String", name := "equals", desc := "(Ljava/lang/Object;)Z" } : Jvm.MethodName) jdk_42_method_66_code (3 : Nat) (Option.some Jvm.ClassFile.FieldType.boolean), Jvm.Cond.code ({ cls := "java/lang/StringLatin1", name := "equals", desc := "([B[B)Z" } : Jvm.MethodName) jdk_43_method_13_code (3 : Nat) (Option.some Jvm.ClassFile.FieldType.boolean), Jvm.Cond.code ({ cls := "com/example/invocant/invocant/CanonicalMatchesPinLaw", name := "c0", desc := "(I)C" } : Jvm.MethodName) method_3_code (1 : Nat) (Option.some Jvm.ClassFile.FieldType.char), Jvm.Cond.code ({ cls := "java/lang/StringUTF16", name := "compress", desc := "([CII)[B" } : Jvm.MethodName) jdk_52_method_16_code (6 : Nat) (Option.some (Jvm.ClassFile.FieldType.array Jvm.ClassFile.FieldType.byte)), Jvm.Cond.code ({ cls := "java/lang/StringUTF16", name := "compress", desc := "([CI[BII)I" } : Jvm.MethodName) jdk_52_method_21_code (7 : Nat) (Option.some Jvm.ClassFile.FieldType.int), Jvm.Cond.code ({ cls := "java/lang/StringUTF16", name := "coderFromArrayLen", desc := "([BI)B" } : Jvm.MethodName) jdk_52_method_15_code (2 : Nat) (Option.some Jvm.ClassFile.FieldType.byte), Jvm.Cond.code ({ cls := "com/example/invocant/invocant/CanonicalMatchesPinLaw", name := "c1", desc := "(I)C" } : Jvm.MethodName) method_4_code (1 : Nat) (Option.some Jvm.ClassFile.FieldType.char)]
set_option maxRecDepth 65536 in
theorem codes_eq : words1.filter isCode = codes1 := rfl
theorem w_codes : ∀ c ∈ words1.filter isCode, c.before args0 about1 = true := by
  rw [codes_eq]
  intro c hc
  simp only [codes1, List.mem_cons, List.not_mem_nil, or_false] at hc
  rcases hc with rfl | rfl | rfl | rfl | rfl | rfl | rfl | rfl | rfl | rfl | rfl | rfl | rfl | rfl | rfl | rfl | rfl
  · exact w_c0
  · exact w_c1
  · exact w_c2
  · exact w_c3
  · exact w_c4
  · exact w_c5
  · exact w_c6
  · exact w_c7
  · exact w_c8
  · exact w_c9
  · exact w_c10
  · exact w_c11
  · exact w_c12
  · exact w_c13
  · exact w_c14
  · exact w_c15
  · exact w_c16
set_option maxRecDepth 65536 in
theorem w_t1 : (words1.take 24).all (fun c => isCode c || c.before args0 about1) = true := by decide +kernel
set_option maxRecDepth 65536 in
theorem w_t2 : ((words1.drop 24).take 24).all (fun c => isCode c || c.before args0 about1) = true := by decide +kernel
set_option maxRecDepth 65536 in
theorem w_t3 : (((words1.drop 24).drop 24).take 24).all (fun c => isCode c || c.before args0 about1) = true := by decide +kernel
set_option maxRecDepth 65536 in
theorem w_t4 : (((words1.drop 24).drop 24).drop 24).all (fun c => isCode c || c.before args0 about1) = true := by decide +kernel
theorem w_tables : (allAtoms (Jvm.Cond.code x code maxLocals ret :: tables_1)).before args0 about1 = true := by
  rw [allAtoms_all]
  show words1.all (fun c => c.before args0 about1) = true
  refine all_split ?_ w_codes
  rw [← List.take_append_drop 24 words1, List.all_append, w_t1, ← List.take_append_drop 24 (words1.drop 24), List.all_append, w_t2, ← List.take_append_drop 24 ((words1.drop 24).drop 24), List.all_append, w_t3, w_t4]
  rfl
set_option maxRecDepth 65536 in
theorem w_rest : rest_1_c.before args0 about1 = true := by decide +kernel
set_option maxRecDepth 65536 in
theorem w_case : (Jvm.Cond.and given_1 narrow_1).before args0 about1 = true := by decide +kernel
set_option maxRecDepth 65536 in
theorem w_consts : constsHeld consts_1 about1 := Jvm.Lit.constsHeldB_iff.mp (by decide +kernel)
theorem w_applies : (headSpec (Jvm.Cond.code x code maxLocals ret :: tables_1) room_1).applies x e0.platform about1 = true :=
  (Spec.applies_iff w_frames).mpr ⟨w_running, w_runnable, w_alone, w_named, w_hears, w_ripe, w_room, w_tables⟩
theorem atStart : AtStart classFile x code maxLocals ret World_1 tables_1 room_1 Calls_1 rest_1 Pre_1 launch0 p0 e0 about1 theMethod args0 below0 :=
  ⟨lists_1, trivial, launch0.admits_env _ _ _, launch0.least_env, fairChoices_fair.cas, fairChoices_fair.clock, w_frames, w_args, w_heap, w_applies, ⟨w_consts, trivial⟩, w_rest, w_case⟩
end start1
theorem witness_1 : WitnessClaimed_1 := ⟨start1.p0, start1.e0, start1.about1, start1.theMethod, start1.args0, start1.below0, start1.atStart⟩
end Jvm.Pilot.@@N@@
