import JvmDerived
import JvmDerived.Pilot.@@N@@Statement
import JvmDerived.Pilot.@@N@@Code
set_option linter.unusedVariables false
set_option linter.unusedSimpArgs false
namespace Jvm.OwnKit
open Jvm Jvm.ClassFile Sem Op Lib Jvm.Free Jvm.Stand Jvm.LawKit Jvm.RoadKit
section Walk
variable {p : Program} {l : Launch} {e : Env} {R : Room} {s : State} {m : MethodId} {args : Array Value} {below : List Frame} {meth : Method} {c : Code} {T T' : State} {locs : List Loc} {cells slots k n : Nat} {Q : Option Value → Heap → List Loc → Prop} {P : Option Value → State → List Loc → Prop} {g g' : JFrame}
/-- from T with the frame g on top the run comes home: it returns, and Q says of what it returned, the heap and the places written -/
def Home {p : Program} {e : Env} {below : List Frame} {P : Option Value → State → List Loc → Prop} (T : State) (g : JFrame) : Prop :=
  ∃ U o, Steps p.tables e below (T.setTop g) U ∧ U.status = .running ∧ Ended U below o ∧ ∃ v L, o = .returned v ∧ P v U L
/-- the end of a walk that has booked no text -/
abbrev End (s : State) (Q : Option Value → Heap → List Loc → Prop) (k n : Nat) : Option Value → State → List Loc → Prop := fun v U L => Q v U.heap L ∧ FrameEnd s (.returned v) U L k n
theorem Home.go (st : ∀ t, Steps p.tables e below (T'.setTop g') t → Steps p.tables e below (T.setTop g) t) (H : @Home p e below P T' g') : @Home p e below P T g := by
  obtain ⟨U, o, h1, h2⟩ := H
  exact ⟨U, o, st _ h1, h2⟩
section Cps
variable {S : State → Prop} {S2 : State → Heap → Prop} {W E A D M : Heap → Prop} {A2 : Heap → ClassId → Prop} {O : ClassId → Prop} {h : Heap}
theorem Home.st (q : ∃ T', S T' ∧ T'.heap = h ∧ ∀ t, Steps p.tables e below (T'.setTop g') t → Steps p.tables e below (T.setTop g) t) (H : ∀ T', S T' → T'.heap = h → @Home p e below P T' g') : @Home p e below P T g := by
  obtain ⟨T', x, y, st⟩ := q
  exact Home.go st (H T' x y)
theorem Home.wr (q : ∃ T' h', S T' ∧ T'.heap = h' ∧ W h' ∧ ∀ t, Steps p.tables e below (T'.setTop g') t → Steps p.tables e below (T.setTop g) t) (H : ∀ T' h', S T' → T'.heap = h' → W h' → @Home p e below P T' g') : @Home p e below P T g := by
  obtain ⟨T', h', x, y, z, st⟩ := q
  exact Home.go st (H T' h' x y z)
theorem Home.nw {B : Addr → Prop} {A3 D3 : Heap → Addr → Prop} {ga : Addr → JFrame} (q : ∃ T' h' b, B b ∧ S T' ∧ T'.heap = h' ∧ E h' ∧ A3 h' b ∧ D3 h' b ∧ ∀ t, Steps p.tables e below (T'.setTop (ga b)) t → Steps p.tables e below (T.setTop g) t) (H : ∀ T' h' b, B b → S T' → T'.heap = h' → E h' → A3 h' b → D3 h' b → @Home p e below P T' (ga b)) : @Home p e below P T g := by
  obtain ⟨T', h', b, i, x, y, z, u, v, st⟩ := q
  exact Home.go st (H T' h' b i x y z u v)
theorem Home.na {B : Addr → Prop} {A3 : Heap → ClassId → Addr → Prop} {ga : Addr → JFrame} (q : ∃ T' h' c' b, B b ∧ S T' ∧ T'.heap = h' ∧ E h' ∧ A3 h' c' b ∧ ∀ t, Steps p.tables e below (T'.setTop (ga b)) t → Steps p.tables e below (T.setTop g) t) (H : ∀ T' h' c' b, B b → S T' → T'.heap = h' → E h' → A3 h' c' b → @Home p e below P T' (ga b)) : @Home p e below P T g := by
  obtain ⟨T', h', c', b, i, x, y, z, u, st⟩ := q
  exact Home.go st (H T' h' c' b i x y z u)
theorem Home.call {S3 : State → List Loc → Prop} {Q3 : Option Value → State → List Loc → Prop} {gv : Option Value → JFrame} (q : ∃ v T' L, S3 T' L ∧ Q3 v T' L ∧ ∀ t, Steps p.tables e below (T'.setTop (gv v)) t → Steps p.tables e below (T.setTop g) t) (H : ∀ v T' L, S3 T' L → Q3 v T' L → @Home p e below P T' (gv v)) : @Home p e below P T g := by
  obtain ⟨v, T', L, x, y, st⟩ := q
  exact Home.go st (H v T' L x y)
end Cps
theorem hW0 {m : MethodId} {pc n : Nat} {L : Array Slot} {S : List Value} : 2 * (mkF m pc L S).monitorRoom + n ≤ n := by show 2 * 0 + n ≤ n; omega
theorem Home.enter (q : g = g') (H : @Home p e below P T g') : @Home p e below P T g := by
  subst q; exact H
theorem Home.retN (X : Stand p l e R s m args below meth c T locs cells slots) (hx : p.tables.exec = Jvm.exec) (hlk : meth.locks = false) {pc : Nat} {Ls : Array Slot} {z : Int32} {t : FieldType} {rest : List Value} (hret : meth.sig.returnType = some t) (ht : t = .boolean ∨ t = .byte ∨ t = .char ∨ t = .short)
    (hd : decode c.code pc = .ok (.ireturn, 1)) (hQ : Q (some (.int (nar t z))) T.heap locs) (hk : cells ≤ k) (hn : slots ≤ n) : @Home p e below (End s Q k n) T (mkF m pc Ls (.int z :: rest)) := by
  obtain ⟨fs, hr, hrun, hended, hW, hsame⟩ := X.leave (v := some (.int (nar t z))) (fun h => by rw [hret] at h; cases h) hlk
  exact ⟨_, _, Jvm.RoadKit.retN X hx hret ht hd hr, hrun, hended, _, _, rfl, hQ, ⟨_, rfl⟩, hW, hsame.mono hk hn⟩
theorem Home.ret (X : Stand p l e R s m args below meth c T locs cells slots) (hx : p.tables.exec = Jvm.exec) (hlk : meth.locks = false) {pc : Nat} {Ls : Array Slot} {w : Value} {t : FieldType} {i : Instr} {rest : List Value} (hret : meth.sig.returnType = some t) (hnn : narrow t w = w)
    (hi : (i = .ireturn ∧ (t = .int ∨ t = .boolean ∨ t = .byte ∨ t = .char ∨ t = .short) ∧ ∃ z, w = .int z) ∨ (i = .lreturn ∧ t = .long ∧ ∃ z, w = .long z) ∨ (i = .dreturn ∧ t = .double ∧ ∃ z, w = .double z) ∨ (i = .freturn ∧ t = .float ∧ ∃ z, w = .float z) ∨ (i = .areturn ∧ t.isReference = true ∧ w.isRef = true))
    (hd : decode c.code pc = .ok (i, 1)) (hQ : Q (some w) T.heap locs) (hk : cells ≤ k) (hn : slots ≤ n) : @Home p e below (End s Q k n) T (mkF m pc Ls (w :: rest)) := by
  obtain ⟨fs, hr, hrun, hended, hW, hsame⟩ := X.leave (v := some w) (fun h => by rw [hret] at h; cases h) hlk
  exact ⟨_, _, retOut X hx hret hnn hi hd hr, hrun, hended, _, _, rfl, hQ, ⟨_, rfl⟩, hW, hsame.mono hk hn⟩
theorem Home.retI (X : Stand p l e R s m args below meth c T locs cells slots) (hx : p.tables.exec = Jvm.exec) (hlk : meth.locks = false) {pc : Nat} {Ls : Array Slot} {z : Int32} {rest : List Value} (hret : meth.sig.returnType = some .int)
    (hd : decode c.code pc = .ok (.ireturn, 1)) (hQ : Q (some (.int z)) T.heap locs) (hk : cells ≤ k) (hn : slots ≤ n) : @Home p e below (End s Q k n) T (mkF m pc Ls (.int z :: rest)) :=
  Home.ret X hx hlk hret rfl (Or.inl ⟨rfl, Or.inl rfl, z, rfl⟩) hd hQ hk hn
theorem own_narrow_ref {t : FieldType} {w : Value} (hw : w.isRef = true) : narrow t w = w := by
  rcases ref_cases hw with rfl | ⟨a, rfl⟩ <;> cases t <;> rfl
theorem Home.retR (X : Stand p l e R s m args below meth c T locs cells slots) (hx : p.tables.exec = Jvm.exec) (hlk : meth.locks = false) {pc : Nat} {Ls : Array Slot} {w : Value} {t : FieldType} {rest : List Value} (hret : meth.sig.returnType = some t) (ht : t.isReference = true) (hw : w.isRef = true)
    (hd : decode c.code pc = .ok (.areturn, 1)) (hQ : Q (some w) T.heap locs) (hk : cells ≤ k) (hn : slots ≤ n) : @Home p e below (End s Q k n) T (mkF m pc Ls (w :: rest)) :=
  Home.ret X hx hlk hret (own_narrow_ref hw) (Or.inr (Or.inr (Or.inr (Or.inr ⟨rfl, ht, hw⟩)))) hd hQ hk hn
theorem Home.ret0 (X : Stand p l e R s m args below meth c T locs cells slots) (hx : p.tables.exec = Jvm.exec) (hlk : meth.locks = false) {pc : Nat} {Ls : Array Slot} (hret : meth.sig.returnType = none)
    (hd : decode c.code pc = .ok (.return_, 1)) (hQ : Q none T.heap locs) (hk : cells ≤ k) (hn : slots ≤ n) : @Home p e below (End s Q k n) T (mkF m pc Ls []) := by
  obtain ⟨fs, hr, hrun, hended, hW, hsame⟩ := X.leave (v := none) (fun _ => rfl) hlk
  exact ⟨_, _, X.returnOut hx hret hd hr, hrun, hended, _, _, rfl, hQ, ⟨_, rfl⟩, hW, hsame.mono hk hn⟩
end Walk
section New
variable {p : Program} {l : Launch} {e : Env} {R : Room} {s : State} {m : MethodId} {args : Array Value} {below : List Frame} {meth : Method} {c : Code} {T : State} {locs : List Loc} {cells slots : Nat} {Z : State} {a0 : Array Value} {h : Heap}
theorem own_newO (X : Stand p l e R s m args below meth c T locs cells slots) (hx : p.tables.exec = Jvm.exec) (hZ : Z.Warmed39 s.vm) {own C : String} {index n : Nat} (hown : s.vm.findClass own = some m.cls) (w : (Cond.classLink own index C).before a0 Z = true) (wi : (Cond.instantiable C n).before a0 Z = true) (wz : (Cond.initialized C).before a0 Z = true) (eT : T.heap = h)
    {g : JFrame} (hg : g.method = m) (hd : decode c.code g.pc = .ok (.new index, 3)) (hc : cells + 1 ≤ R.cells) (hl : slots + n ≤ R.slots) :
    ∃ T' h' b, b = h.size ∧ Stand p l e R s m args below meth c T' locs (cells + 1) (slots + n) ∧ T'.heap = h' ∧ Ext h h' ∧ Exa Z h' b C ∧ (∀ {O nm d : String} {ty : FieldType}, Laid Z a0 C O nm d → parseFieldDescriptor d = some ty → Fld Z h' b O nm d (defaultValue ty)) ∧
      ∀ target, Steps p.tables e below (T'.setTop { g with pc := g.pc + 3, stack := .ref b :: g.stack }) target → Steps p.tables e below (T.setTop g) target := by
  obtain ⟨T', h', X', e', E', A', D', -, st⟩ := newO X hx hZ hown w wi wz eT hg hd hc hl
  exact ⟨T', h', _, rfl, X', e', E', A', D', st⟩
theorem own_newP (X : Stand p l e R s m args below meth c T locs cells slots) (hx : p.tables.exec = Jvm.exec) (hZ : Z.Warmed39 s.vm) {aty : ArrayType} (w : (Cond.arrayClass (newarray.typeOf aty)).before a0 Z = true) (eT : T.heap = h) {g : JFrame} (hg : g.method = m) (hd : decode c.code g.pc = .ok (.newarray aty, 2)) {n : Int32} {rest : List Value} (hs : g.stack = .int n :: rest)
    (hn : ¬ n < 0) {cap : Nat} (hcap : n.toNatClampNeg ≤ cap) (hb : cap * 8 ≤ 536870912) (hc : cells + 1 ≤ R.cells) (hl : slots + cap ≤ R.slots) :
    ∃ T' h' cA b, b = h.size ∧ Stand p l e R s m args below meth c T' locs (cells + 1) (slots + cap) ∧ T'.heap = h' ∧ Ext h h' ∧ Arr Z h' b (newA cA (newarray.typeOf aty) n) (newarray.typeOf aty) ∧
      ∀ target, Steps p.tables e below (T'.setTop { g with pc := g.pc + 2, stack := .ref b :: rest }) target → Steps p.tables e below (T.setTop g) target := by
  obtain ⟨T', h', cA, X', e', E', A', st⟩ := newP X hx hZ w eT hg hd hs hn hcap hb hc hl
  exact ⟨T', h', cA, _, rfl, X', e', E', A', st⟩
end New
section Run
variable {p : Program} {l : Launch} {e : Env} {R : Room} {s : State} {m : MethodId} {args : Array Value} {below : List Frame} {meth : Method} {c : Code} {T : State} {locs : List Loc} {cells slots : Nat} {target : State}
def un32 (f : Int32 → Value) (S : List Value) : Option (List Value) := match S with | .int x :: r => some (f x :: r) | _ => none
def un64 (f : Int64 → Value) (S : List Value) : Option (List Value) := match S with | .long x :: r => some (f x :: r) | _ => none
def bi32 (f : Int32 → Int32 → Int32) (S : List Value) : Option (List Value) := match S with | .int y :: .int x :: r => some (.int (f x y) :: r) | _ => none
def bi64 (f : Int64 → Int64 → Value) (S : List Value) : Option (List Value) := match S with | .long y :: .long x :: r => some (f x y :: r) | _ => none
def sh64 (f : Int64 → Int32 → Int64) (S : List Value) : Option (List Value) := match S with | .int y :: .long x :: r => some (.long (f x y) :: r) | _ => none
/-- the stack behind an instruction that reads and writes the stack alone -/
def stk (i : Instr) (S : List Value) : Option (List Value) := match i with
  | .iconst k => some (.int (Int32.ofInt k) :: S)
  | .bipush k => some (.int (Int8.ofInt k).toInt32 :: S)
  | .sipush k => some (.int (Int16.ofInt k).toInt32 :: S)
  | .lconst k => some (.long (Int64.ofNat k) :: S)
  | .aconst_null => some (.null :: S)
  | .iadd => bi32 (· + ·) S
  | .isub => bi32 (· - ·) S
  | .imul => bi32 (· * ·) S
  | .iand => bi32 (· &&& ·) S
  | .ior => bi32 (· ||| ·) S
  | .ixor => bi32 (· ^^^ ·) S
  | .ishl => bi32 (fun x y => x <<< (y &&& 31)) S
  | .ishr => bi32 (fun x y => x >>> (y &&& 31)) S
  | .iushr => bi32 (fun x y => (x.toUInt32 >>> (y &&& 31).toUInt32).toInt32) S
  | .ladd => bi64 (fun x y => .long (x + y)) S
  | .lsub => bi64 (fun x y => .long (x - y)) S
  | .lmul => bi64 (fun x y => .long (x * y)) S
  | .land => bi64 (fun x y => .long (x &&& y)) S
  | .lor => bi64 (fun x y => .long (x ||| y)) S
  | .lxor => bi64 (fun x y => .long (x ^^^ y)) S
  | .lcmp => bi64 (fun x y => .int (if x > y then 1 else if x = y then 0 else -1)) S
  | .lshl => sh64 (fun x y => x <<< (y &&& 0x3f).toInt64) S
  | .lshr => sh64 (fun x y => x >>> (y &&& 0x3f).toInt64) S
  | .lushr => sh64 (fun x y => (x.toUInt64 >>> (y &&& 0x3f).toInt64.toUInt64).toInt64) S
  | .ineg => un32 (fun x => .int (-x)) S
  | .lneg => un64 (fun x => .long (-x)) S
  | .i2l => un32 (fun x => .long x.toInt64) S
  | .l2i => un64 (fun x => .int x.toInt32) S
  | .i2b => un32 (fun x => .int x.toInt8.toInt32) S
  | .i2c => un32 (fun x => .int x.toUInt32.toUInt16.toUInt32.toInt32) S
  | .i2s => un32 (fun x => .int x.toInt16.toInt32) S
  | .dup => match S with | x :: r => if x.category = 1 then some (x :: x :: r) else none | _ => none
  | .pop => match S with | x :: r => if x.category = 1 then some r else none | _ => none
  | .dup_x1 => match S with | x :: y :: r => if x.category = 1 ∧ y.category = 1 then some (x :: y :: x :: r) else none | _ => none
  | _ => none
theorem un32_s {f : Int32 → Value} {S S' : List Value} (h : un32 f S = some S') : ∃ x r, S = .int x :: r ∧ S' = f x :: r := by
  unfold un32 at h; split at h
  · cases h; exact ⟨_, _, rfl, rfl⟩
  · cases h
theorem un64_s {f : Int64 → Value} {S S' : List Value} (h : un64 f S = some S') : ∃ x r, S = .long x :: r ∧ S' = f x :: r := by
  unfold un64 at h; split at h
  · cases h; exact ⟨_, _, rfl, rfl⟩
  · cases h
theorem bi32_s {f : Int32 → Int32 → Int32} {S S' : List Value} (h : bi32 f S = some S') : ∃ x y r, S = .int y :: .int x :: r ∧ S' = .int (f x y) :: r := by
  unfold bi32 at h; split at h
  · cases h; exact ⟨_, _, _, rfl, rfl⟩
  · cases h
theorem bi64_s {f : Int64 → Int64 → Value} {S S' : List Value} (h : bi64 f S = some S') : ∃ x y r, S = .long y :: .long x :: r ∧ S' = f x y :: r := by
  unfold bi64 at h; split at h
  · cases h; exact ⟨_, _, _, rfl, rfl⟩
  · cases h
theorem sh64_s {f : Int64 → Int32 → Int64} {S S' : List Value} (h : sh64 f S = some S') : ∃ x y r, S = .int y :: .long x :: r ∧ S' = .long (f x y) :: r := by
  unfold sh64 at h; split at h
  · cases h; exact ⟨_, _, _, rfl, rfl⟩
  · cases h
def len1 (i : Instr) : Nat := match i with | .bipush _ => 2 | .sipush _ => 3 | _ => 1
theorem stk_s (X : Stand p l e R s m args below meth c T locs cells slots) (hx : p.tables.exec = Jvm.exec) {i : Instr} {n pc : Nat} {L : Array Slot} {S S' : List Value} (hd : decode c.code pc = .ok (i, n)) (hn : n = len1 i) (h : stk i S = some S')
    (H : Steps p.tables e below (T.setTop (mkF m (pc + n) L S')) target) : Steps p.tables e below (T.setTop (mkF m pc L S)) target := by
  subst hn
  unfold stk at h
  split at h <;> first
    | (cases h; first | exact XS.iconst X.here hx rfl hd H | exact XS.bipush X.here hx rfl hd H | exact XS.sipush X.here hx rfl hd H | exact XS.lconst X.here hx rfl hd H | exact XS.aconstNull X.here hx rfl hd H)
    | (obtain ⟨x, y, r, rfl, rfl⟩ := bi32_s h; first | exact XS.iadd X.here hx rfl hd rfl H | exact XS.isub X.here hx rfl hd rfl H | exact XS.imul X.here hx rfl hd rfl H | exact XS.iand X.here hx rfl hd rfl H | exact XS.ior X.here hx rfl hd rfl H | exact XS.ixor X.here hx rfl hd rfl H | exact XS.ishl X.here hx rfl hd rfl H | exact XS.ishr X.here hx rfl hd rfl H | exact XS.iushr X.here hx rfl hd rfl H)
    | (obtain ⟨x, y, r, rfl, rfl⟩ := bi64_s h; first | exact XS.ladd X.here hx rfl hd rfl H | exact XS.lsub X.here hx rfl hd rfl H | exact XS.lmul X.here hx rfl hd rfl H | exact XS.land X.here hx rfl hd rfl H | exact XS.lor X.here hx rfl hd rfl H | exact XS.lxor X.here hx rfl hd rfl H | exact XS.lcmp X.here hx rfl hd rfl H)
    | (obtain ⟨x, y, r, rfl, rfl⟩ := sh64_s h; first | exact XS.lshl X.here hx rfl hd rfl H | exact XS.lshr X.here hx rfl hd rfl H | exact XS.lushr X.here hx rfl hd rfl H)
    | (obtain ⟨x, r, rfl, rfl⟩ := un32_s h; first | exact XS.ineg X.here hx rfl hd rfl H | exact XS.i2l X.here hx rfl hd rfl H | exact XS.i2b X.here hx rfl hd rfl H | exact XS.i2c X.here hx rfl hd rfl H | exact XS.i2s X.here hx rfl hd rfl H)
    | (obtain ⟨x, r, rfl, rfl⟩ := un64_s h; first | exact XS.lneg X.here hx rfl hd rfl H | exact XS.l2i X.here hx rfl hd rfl H)
    | (split at h <;> (try split at h) <;> first | (cases h; done) | (rename_i q; cases h; first | exact XS.dup X.here hx rfl hd rfl q H | exact XS.pop X.here hx rfl hd rfl q H | exact XS.dupX1 X.here hx rfl hd rfl q.1 q.2 H))
    | cases h
def ldI (L : Array Slot) (S : List Value) (k : Nat) : Option (Array Slot × List Value) := match L[k]? with | some (.val (.int v)) => some (L, .int v :: S) | _ => none
def ldJ (L : Array Slot) (S : List Value) (k : Nat) : Option (Array Slot × List Value) := match L[k]? with | some (.val (.long v)) => some (L, .long v :: S) | _ => none
def ldA (L : Array Slot) (S : List Value) (k : Nat) : Option (Array Slot × List Value) := match L[k]? with | some (.val v) => if v.isRef = true then some (L, v :: S) else none | _ => none
def stI1 (L : Array Slot) (S : List Value) (k : Nat) : Option (Array Slot × List Value) := match S with | .int x :: r => (storeLocals L k (.int x)).map fun l' => (l', r) | _ => none
def stJ1 (L : Array Slot) (S : List Value) (k : Nat) : Option (Array Slot × List Value) := match S with | .long x :: r => (storeLocals L k (.long x)).map fun l' => (l', r) | _ => none
def stA1 (L : Array Slot) (S : List Value) (k : Nat) : Option (Array Slot × List Value) := match S with | x :: r => if x.isRef = true then (storeLocals L k x).map fun l' => (l', r) else none | _ => none
/-- what an instruction does to pc, locals and stack; nothing else is touched -/
def run1 (i : Instr) (n pc : Nat) (L : Array Slot) (S : List Value) : Option (Nat × Array Slot × List Value) := match i with
  | .iload_n k => if n = 1 then (ldI L S k.val).map (pc + n, ·) else none
  | .iload k => if n = 2 then (ldI L S k).map (pc + n, ·) else none
  | .lload_n k => if n = 1 then (ldJ L S k.val).map (pc + n, ·) else none
  | .lload k => if n = 2 then (ldJ L S k).map (pc + n, ·) else none
  | .aload_n k => if n = 1 then (ldA L S k.val).map (pc + n, ·) else none
  | .aload k => if n = 2 then (ldA L S k).map (pc + n, ·) else none
  | .istore_n k => if n = 1 then (stI1 L S k.val).map (pc + n, ·) else none
  | .istore k => if n = 2 then (stI1 L S k).map (pc + n, ·) else none
  | .lstore_n k => if n = 1 then (stJ1 L S k.val).map (pc + n, ·) else none
  | .lstore k => if n = 2 then (stJ1 L S k).map (pc + n, ·) else none
  | .astore_n k => if n = 1 then (stA1 L S k.val).map (pc + n, ·) else none
  | .astore k => if n = 2 then (stA1 L S k).map (pc + n, ·) else none
  | .iinc k cst => if n = 3 then (match L[k]? with | some (.val (.int x)) => (storeLocals L k (.int (x + Int32.ofInt cst))).map fun l' => (pc + n, l', S) | _ => none) else none
  | .goto o => if n = 3 then (if 0 ≤ (pc : Int) + o then some (((pc : Int) + o).toNat, L, S) else none) else none
  | i => if n = len1 i then (stk i S).map fun S' => (pc + n, L, S') else none
theorem ldI_s {L L' : Array Slot} {S S' : List Value} {k : Nat} (h : ldI L S k = some (L', S')) : ∃ v, L[k]? = some (.val (.int v)) ∧ L' = L ∧ S' = .int v :: S := by
  unfold ldI at h; split at h
  · cases h; exact ⟨_, by assumption, rfl, rfl⟩
  · cases h
theorem ldJ_s {L L' : Array Slot} {S S' : List Value} {k : Nat} (h : ldJ L S k = some (L', S')) : ∃ v, L[k]? = some (.val (.long v)) ∧ L' = L ∧ S' = .long v :: S := by
  unfold ldJ at h; split at h
  · cases h; exact ⟨_, by assumption, rfl, rfl⟩
  · cases h
theorem ldA_s {L L' : Array Slot} {S S' : List Value} {k : Nat} (h : ldA L S k = some (L', S')) : ∃ v, L[k]? = some (.val v) ∧ v.isRef = true ∧ L' = L ∧ S' = v :: S := by
  unfold ldA at h; split at h
  · split at h
    · cases h; exact ⟨_, by assumption, by assumption, rfl, rfl⟩
    · cases h
  · cases h
theorem stI1_s {L L' : Array Slot} {S S' : List Value} {k : Nat} (h : stI1 L S k = some (L', S')) : ∃ x, S = .int x :: S' ∧ storeLocals L k (.int x) = some L' := by
  unfold stI1 at h; split at h
  · rw [Option.map_eq_some_iff] at h; obtain ⟨l', h1, h2⟩ := h; cases h2; exact ⟨_, rfl, h1⟩
  · cases h
theorem stJ1_s {L L' : Array Slot} {S S' : List Value} {k : Nat} (h : stJ1 L S k = some (L', S')) : ∃ x, S = .long x :: S' ∧ storeLocals L k (.long x) = some L' := by
  unfold stJ1 at h; split at h
  · rw [Option.map_eq_some_iff] at h; obtain ⟨l', h1, h2⟩ := h; cases h2; exact ⟨_, rfl, h1⟩
  · cases h
theorem stA1_s {L L' : Array Slot} {S S' : List Value} {k : Nat} (h : stA1 L S k = some (L', S')) : ∃ x, S = x :: S' ∧ x.isRef = true ∧ storeLocals L k x = some L' := by
  unfold stA1 at h; split at h
  · split at h
    · rw [Option.map_eq_some_iff] at h; obtain ⟨l', h1, h2⟩ := h; cases h2; exact ⟨_, rfl, by assumption, h1⟩
    · cases h
  · cases h
theorem map_s {α β : Type} {o : Option α} {f : α → β} {y : β} (h : o.map f = some y) : ∃ x, o = some x ∧ f x = y := Option.map_eq_some_iff.mp h
theorem run1_s (X : Stand p l e R s m args below meth c T locs cells slots) (hx : p.tables.exec = Jvm.exec) {i : Instr} {n pc pc' : Nat} {L L' : Array Slot} {S S' : List Value} (hd : decode c.code pc = .ok (i, n)) (h : run1 i n pc L S = some (pc', L', S'))
    (H : Steps p.tables e below (T.setTop (mkF m pc' L' S')) target) : Steps p.tables e below (T.setTop (mkF m pc L S)) target := by
  unfold run1 at h
  split at h <;> split at h <;> first
    | (cases h; done)
    | (rename_i hn; subst hn; obtain ⟨⟨L1, S1⟩, h1, h2⟩ := map_s h; cases h2; first
        | (obtain ⟨v, q1, rfl, rfl⟩ := ldI_s h1; first | exact XS.iloadN X.here hx rfl hd q1 H | exact XS.iload X.here hx rfl hd q1 H)
        | (obtain ⟨v, q1, rfl, rfl⟩ := ldJ_s h1; first | exact XS.lloadN X.here hx rfl hd q1 H | exact XS.lload X.here hx rfl hd q1 H)
        | (obtain ⟨v, q1, q2, rfl, rfl⟩ := ldA_s h1; first | exact XS.aloadN X.here hx rfl hd q1 q2 H | exact XS.aload X.here hx rfl hd q1 q2 H)
        | (obtain ⟨x, rfl, q⟩ := stI1_s h1; first | exact XS.istoreN X.here hx rfl hd rfl q H | exact XS.istore X.here hx rfl hd rfl q H)
        | (obtain ⟨x, rfl, q⟩ := stJ1_s h1; first | exact XS.lstoreN X.here hx rfl hd rfl q H | exact XS.lstore X.here hx rfl hd rfl q H)
        | (obtain ⟨x, rfl, q1, q⟩ := stA1_s h1; first | exact XS.astoreN X.here hx rfl hd rfl q1 q H | exact XS.astore X.here hx rfl hd rfl q1 q H))
    | (rename_i hn; subst hn; split at h <;> first
        | (cases h; done)
        | (rename_i q; obtain ⟨l', h1, h2⟩ := map_s h; cases h2; exact XS.iinc X.here hx rfl hd q h1 H)
        | (rename_i q; cases h; exact XS.goto X.here hx rfl (pc0 := pc) rfl hd q rfl H))
    | (rename_i hn; obtain ⟨S1, h1, h2⟩ := map_s h; cases h2; exact stk_s X hx hd hn h1 H)
def runs : List (Nat × Instr × Nat) → Nat → Array Slot → List Value → Option (Nat × Array Slot × List Value)
  | [], pc, L, S => some (pc, L, S)
  | (q, i, n) :: is, pc, L, S => if q = pc then (match run1 i n pc L S with | some (pc', L', S') => runs is pc' L' S' | none => none) else none
def decs (code : ByteArray) : List (Nat × Instr × Nat) → Prop
  | [] => True
  | (q, i, n) :: is => decode code q = .ok (i, n) ∧ decs code is
theorem runs_s (X : Stand p l e R s m args below meth c T locs cells slots) (hx : p.tables.exec = Jvm.exec) {pc' : Nat} {L' : Array Slot} {S' : List Value} (H : Steps p.tables e below (T.setTop (mkF m pc' L' S')) target) :
    ∀ (is : List (Nat × Instr × Nat)) (pc : Nat) (L : Array Slot) (S : List Value), decs c.code is → runs is pc L S = some (pc', L', S') → Steps p.tables e below (T.setTop (mkF m pc L S)) target
  | [], pc, L, S, _, h => by cases h; exact H
  | (q, i, n) :: is, pc, L, S, hd, h => by
    unfold runs at h
    split at h
    · rename_i e1; subst e1
      split at h
      · rename_i pc1 L1 S1 h1
        exact run1_s X hx hd.1 h1 (runs_s X hx H is pc1 L1 S1 hd.2 h)
      · cases h
    · cases h
variable {P : Option Value → State → List Loc → Prop}
theorem Home.run (X : Stand p l e R s m args below meth c T locs cells slots) (hx : p.tables.exec = Jvm.exec) {bytes : ByteArray} (hby : c.code = bytes) {is : List (Nat × Instr × Nat)} (hd : decs bytes is) {pc pc' : Nat} {L L' : Array Slot} {S S' : List Value} (h : runs is pc L S = some (pc', L', S'))
    (H : @Home p e below P T (mkF m pc' L' S')) : @Home p e below P T (mkF m pc L S) :=
  Home.go (fun _ kt => runs_s X hx kt is pc L S (by rw [hby]; exact hd) h) H
end Run
section Calls
variable {p : Program} {l : Launch} {e : Env} {R : Room} {s : State} {m : MethodId} {args : Array Value} {below : List Frame} {meth : Method} {c : Code} {T : State} {locs : List Loc} {cells slots : Nat} {Z : State} {a0 : Array Value} {h : Heap} {y z : MethodName} {bytes : ByteArray} {maxL : Nat} {ret : Option FieldType} {rm : Room} {W : Nat} {as' : Array Value} {Q : Option Value → Heap → List Loc → Prop} {own C : String} {index : Nat}
/-- a body's contract, at one heap and one list of arguments -/
abbrev Con (l : Launch) (Z : State) (y : MethodName) (bytes : ByteArray) (maxL : Nat) (ret : Option FieldType) (ws : List Jvm.Cond) (rm : Room) (as' : Array Value) (h : Heap) (Q : Option Value → Heap → List Loc → Prop) : Prop :=
  MetFree l y (head1 (Jvm.Cond.code y bytes maxL ret :: ws) rm) (fun a U => a = as' ∧ Z.Warmed39 U.vm ∧ U.heap = h) (fun _ _ _ _ _ => True) (fun _ U o U' => ∃ v L, o = .returned v ∧ Q v U'.heap L ∧ FrameEnd U o U' L rm.cells rm.slots)
/-- it leaves the heap as it was -/
abbrev Pur (w : Option Value) (h0 : Heap) : Option Value → Heap → List Loc → Prop := fun v h L => v = w ∧ L = [] ∧ h = h0
/-- from a walk that comes home to the contract -/
theorem own_body {ws : List Jvm.Cond} {L0 : Array Slot} (pn : plainFor y = true) (ef : ∀ m, entryFrame m as' maxL = mkF m 0 L0 [])
    (body : ∀ (p : Program) (e : Env) (s : State) (m : MethodId) (below : List Frame) (meth : Method) (c : Code) (s₁ : State), p.tables.exec = Jvm.exec → c.code = bytes → meth.locks = false → c.maxLocals = maxL → meth.sig.returnType = ret → Z.Warmed39 s.vm → s.vm.findClass y.cls = some m.cls → meth.name = y.name →
      Stand p l e rm s m as' below meth c s₁ [] 0 0 → s₁.heap = h → @Home p e below (End s Q rm.cells rm.slots) s₁ (mkF m 0 L0 [])) : Con l Z y bytes maxL ret ws rm as' h Q := by
  refine MetFree.of_bodySF pn hisR ?_
  intro p e s m args below meth c s₁ Bd hml0 hP hK
  obtain ⟨rfl, hZ, hh⟩ := hP
  have H : @Home p e below (End s Q rm.cells rm.slots) s₁ (entryFrame m args maxL) := Home.enter (ef m) (body p e s m below meth c s₁ Bd.exec Bd.bytes (BodyLoose.notSynchronized Bd) hml0 Bd.returns hZ (findClass_of_methodNamed Bd.named) (name_of_methodNamed Bd.named Bd.method).1 (Stand.of_body Bd) (by rw [← hh, Bd.state]; rfl))
  obtain ⟨U, o, h1, h2, h3, v, L, rfl, h4, h5⟩ := H
  exact ⟨U, _, h1, h2, h3, v, L, rfl, h4, h5⟩
theorem own_static (X : Stand p l e R s m args below meth c T locs cells slots) (hx : p.tables.exec = Jvm.exec) (hZ : Z.Warmed39 s.vm) (hown : s.vm.findClass own = some m.cls)
    (w1 : (Cond.methodLink own index y).before a0 Z = true) (w2 : (Cond.static y).before a0 Z = true) (w3 : (Cond.initialized y.cls).before a0 Z = true) (w4 : (Cond.code y bytes maxL ret).before a0 Z = true)
    (hy : y.cls ≠ "java/lang/invoke/MethodHandle" ∧ y.cls ≠ "java/lang/invoke/VarHandle") (hM : Con l Z y bytes maxL ret [] rm as' h Q) (eT : T.heap = h)
    {g : JFrame} (hg : g.method = m) (hsize : g.locals.size = c.maxLocals) {argsL rest : List Value} (hlen : ∀ sig, parseMethodDescriptor y.desc = some sig → argsL.length = sig.parameters.length) (hstack : g.stack = argsL.reverse ++ rest) (ha : argsL.toArray = as')
    (hW : 2 * g.monitorRoom + (rest.map fun v => v.category).sum ≤ W) (hf : rm.frames + 1 ≤ R.frames) (hl : W + (maxL + 11) + rm.locals ≤ R.locals)
    (hdg : decode c.code g.pc = .ok (.invokestatic index, 3)) (hc : cells + rm.cells ≤ R.cells) (hs : slots + rm.slots ≤ R.slots) :
    ∃ v T' L, Stand p l e R s m args below meth c T' (locs ++ L) (cells + rm.cells) (slots + rm.slots) ∧ Q v T'.heap L ∧
      ∀ t, Steps p.tables e below (T'.setTop { g with pc := g.pc + 3, stack := v.toList ++ rest }) t → Steps p.tables e below (T.setTop g) t := by
  obtain ⟨v, _, ⟨T', L', k', n'⟩, -, X', ⟨L, hQ, l', y', z'⟩, st⟩ := Jvm.LawKit.callS X hx (y := y) hown (mvT hZ w1) (mvT hZ w2) (mvT hZ w3) (mvT hZ w4) hy (backOf (W := W) hM hZ w4 w3 hf hl) hg hsize hlen hstack hW hdg (fun _ _ => ⟨ha, eT, hc, hs⟩)
  dsimp only [Pt.U, Pt.locs, Pt.cells, Pt.slots] at X' l' y' z' st hQ
  subst l' y' z'
  exact ⟨v, T', L, X', hQ, st⟩
theorem own_special (X : Stand p l e R s m args below meth c T locs cells slots) (hx : p.tables.exec = Jvm.exec) (hZ : Z.Warmed39 s.vm) (hown : s.vm.findClass own = some m.cls) (hy1 : y.name = "<init>")
    (w1 : (Cond.methodLink own index y).before a0 Z = true) (w2 : (Cond.instanceMethod y).before a0 Z = true) (w3 : (Cond.initialized y.cls).before a0 Z = true) (w4 : (Cond.code y bytes maxL none).before a0 Z = true)
    (hy : y.cls ≠ "java/lang/invoke/MethodHandle" ∧ y.cls ≠ "java/lang/invoke/VarHandle") (hM : Con l Z y bytes maxL none [] rm as' h Q) (eT : T.heap = h)
    {g : JFrame} (hg : g.method = m) (hsize : g.locals.size = c.maxLocals) {a : Addr} {argsL rest : List Value} (hlen : ∀ sig, parseMethodDescriptor y.desc = some sig → argsL.length = sig.parameters.length) (hstack : g.stack = argsL.reverse ++ .ref a :: rest) (ha : (.ref a :: argsL).toArray = as')
    (hW : 2 * g.monitorRoom + (rest.map fun v => v.category).sum ≤ W) (hf : rm.frames + 1 ≤ R.frames) (hl : W + (maxL + 11) + rm.locals ≤ R.locals)
    (hdg : decode c.code g.pc = .ok (.invokespecial index, 3)) (hc : cells + rm.cells ≤ R.cells) (hs : slots + rm.slots ≤ R.slots) :
    ∃ v T' L, Stand p l e R s m args below meth c T' (locs ++ L) (cells + rm.cells) (slots + rm.slots) ∧ Q v T'.heap L ∧
      ∀ t, Steps p.tables e below (T'.setTop { g with pc := g.pc + 3, stack := v.toList ++ rest }) t → Steps p.tables e below (T.setTop g) t := by
  obtain ⟨v, _, ⟨T', L', k', n'⟩, -, X', ⟨L, hQ, l', y', z'⟩, st⟩ := X.specialBack hx (y := y) hy1 hown (mvT hZ w1) (mvT hZ w2) (mvT hZ w4) hy (backOf (W := W) hM hZ w4 w3 hf hl) hg hsize (Steps.refl _) (a := a) hlen hstack hW hdg (fun _ _ => ⟨ha, eT, hc, hs⟩)
  dsimp only [Pt.U, Pt.locs, Pt.cells, Pt.slots] at X' l' y' z' st hQ
  subst l' y' z'
  exact ⟨v, T', L, X', hQ, fun t k => st.trans k⟩
theorem own_virtual (X : Stand p l e R s m args below meth c T locs cells slots) (hx : p.tables.exec = Jvm.exec) (hZ : Z.Warmed39 s.vm) (hown : s.vm.findClass own = some m.cls)
    (w1 : (Cond.methodLink own index y).before a0 Z = true) (w2 : (Cond.declares y).before a0 Z = true) (hnf : NotFace s y) (w3 : (Cond.selects C y z).before a0 Z = true) (w4 : (Cond.instanceMethod z).before a0 Z = true) (w5 : (Cond.initialized z.cls).before a0 Z = true) (w6 : (Cond.code z bytes maxL ret).before a0 Z = true)
    (hy : y.cls ≠ "java/lang/invoke/MethodHandle" ∧ y.cls ≠ "java/lang/invoke/VarHandle") (hM : Con l Z z bytes maxL ret [] rm as' h Q) (eT : T.heap = h) {a : Addr} (E : Exa Z h a C)
    {g : JFrame} (hg : g.method = m) (hsize : g.locals.size = c.maxLocals) {argsL rest : List Value} (hlen : ∀ sig, parseMethodDescriptor y.desc = some sig → argsL.length = sig.parameters.length) (hstack : g.stack = argsL.reverse ++ .ref a :: rest) (ha : (.ref a :: argsL).toArray = as')
    (hW : 2 * g.monitorRoom + (rest.map fun v => v.category).sum ≤ W) (hf : rm.frames + 1 ≤ R.frames) (hl : W + (maxL + 11) + rm.locals ≤ R.locals)
    (hdg : decode c.code g.pc = .ok (.invokevirtual index, 3)) (hc : cells + rm.cells ≤ R.cells) (hs : slots + rm.slots ≤ R.slots) :
    ∃ v T' L, Stand p l e R s m args below meth c T' (locs ++ L) (cells + rm.cells) (slots + rm.slots) ∧ Q v T'.heap L ∧
      ∀ t, Steps p.tables e below (T'.setTop { g with pc := g.pc + 3, stack := v.toList ++ rest }) t → Steps p.tables e below (T.setTop g) t := by
  obtain ⟨cB, kB, q1, q2, q3⟩ := isOf hZ eT E
  obtain ⟨v, _, ⟨T', L', k', n'⟩, -, X', ⟨L, hQ, l', y', z'⟩, st⟩ := X.virtualBack hx (y := y) (z := z) hown (mvT hZ w1) (mvT hZ w2) hnf (mvT hZ w3) (mvT hZ w4) hy (backOf (W := W) hM hZ w6 w5 hf hl) q1 q3 hg hsize (Steps.refl _) hlen hstack hW hdg (fun _ _ => ⟨ha, eT, hc, hs⟩)
  dsimp only [Pt.U, Pt.locs, Pt.cells, Pt.slots] at X' l' y' z' st hQ
  subst l' y' z'
  exact ⟨v, T', L, X', hQ, fun t k => st.trans k⟩
/-- a call that left the heap as it was -/
theorem own_pure {w : Option Value} {g : JFrame} {g' : Option Value → JFrame} (q : ∃ v T' L, Stand p l e R s m args below meth c T' (locs ++ L) (cells + rm.cells) (slots + rm.slots) ∧ Pur w h v T'.heap L ∧ ∀ t, Steps p.tables e below (T'.setTop (g' v)) t → Steps p.tables e below (T.setTop g) t)
    (hc : rm.cells = 0 := by rfl) (hs : rm.slots = 0 := by rfl) : ∃ T', Stand p l e R s m args below meth c T' locs cells slots ∧ T'.heap = h ∧ ∀ t, Steps p.tables e below (T'.setTop (g' w)) t → Steps p.tables e below (T.setTop g) t := by
  obtain ⟨v, T', L, X', ⟨rfl, rfl, hh⟩, st⟩ := q
  rw [List.append_nil, hc, hs] at X'
  exact ⟨T', X', hh, st⟩
end Calls
section Facts
variable {Z : State} {h h' : Heap} {a b : Addr} {C n d : String} {v : Value} {n0 : Nat}
theorem Old.le (O : Old Z n0 h) : n0 ≤ h.size := O.1 ▸ O.2.1
end Facts
end Jvm.OwnKit
namespace Jvm.OwnKit
open Jvm Jvm.ClassFile Sem Op Lib Jvm.Free Jvm.Stand Jvm.LawKit Jvm.RoadKit
section Arrays
variable {p : Program} {l : Launch} {e : Env} {R : Room} {s : State} {m : MethodId} {args : Array Value} {below : List Frame} {meth : Method} {c : Code} {T : State} {locs : List Loc} {cells slots : Nat} {Z : State} {h : Heap}
theorem own_alen (X : Stand p l e R s m args below meth c T locs cells slots) (hx : p.tables.exec = Jvm.exec) (hZ : Z.Warmed39 s.vm) (eT : T.heap = h) {a : Addr} {cl : Cell} {ty : FieldType} {z : Int32} (A : Arr Z h a cl ty) (S : cl.slots.size = z.toNatClampNeg) (M : ¬ z < 0)
    {g : JFrame} (hg : g.method = m) {rest : List Value} (hs : g.stack = .ref a :: rest) (hd : decode c.code g.pc = .ok (.arraylength, 1)) :
    ∀ t, Steps p.tables e below (T.setTop { g with pc := g.pc + 1, stack := .int z :: rest }) t → Steps p.tables e below (T.setTop g) t := fun t k =>
  X.arraylength hx (by rw [eT]; exact A.1) (State.isArrayOf_alike hZ.alike A.2.1) hg hs hd _ (by rw [len_of S M]; exact k)
theorem own_neAV {a b : Addr} {C : String} {a0 : Array Value} {k : Nat} {kc : ClassId} {ty : FieldType} {z : Int32} {vs : List Value} {dv : Value} (F : Exa Z h a C) (wi : (Cond.instantiable C k).before a0 Z = true) (G : Arv Z h b kc ty z vs dv) : a ≠ b := by obtain ⟨cl, A, -⟩ := G; exact ne_arr F wi A
end Arrays
end Jvm.OwnKit
namespace Jvm.OwnKit
open Jvm Jvm.ClassFile Sem Op Lib Jvm.Free Jvm.Stand Jvm.LawKit Jvm.RoadKit
theorem Ins.keep {Z : State} {h h' : Heap} {a : Addr} {C : String} {b : Bool} {ws : List Addr} (F : Ins Z h a C b) (K : Keep h h' ws) : Ins Z h' a C b := by
  obtain ⟨cell, cT, h1, h2, h3⟩ := F
  obtain ⟨c', e1, e2, e3, -⟩ := K.2.2 _ _ h1
  exact ⟨c', cT, e1, h2, by rw [e2, e3]; exact h3⟩
section Bounds
variable {x y a b c d : Int32}
theorem bnd_ite {c : Prop} [Decidable c] {a b lo hi : Int32} (ha : ¬ a < lo ∧ ¬ hi < a) (hb : ¬ b < lo ∧ ¬ hi < b) : ¬ (if c then a else b) < lo ∧ ¬ hi < (if c then a else b) := by
  split
  · exact ha
  · exact hb
theorem bnd_dite {c : Prop} [Decidable c] {a b lo hi : Int32} (ha : c → ¬ a < lo ∧ ¬ hi < a) (hb : ¬ c → ¬ b < lo ∧ ¬ hi < b) : ¬ (if c then a else b) < lo ∧ ¬ hi < (if c then a else b) := by
  by_cases q : c
  · rw [if_pos q]; exact ha q
  · rw [if_neg q]; exact hb q
theorem bnd_and (x m : Int32) (h : 0 ≤ m.toInt) : ¬ (x &&& m) < (0 : Int32) ∧ ¬ m < (x &&& m) := by
  have q := c_and x m h
  have e : (0 : Int32).toInt = 0 := rfl
  rw [Int32.lt_iff_toInt_lt, Int32.lt_iff_toInt_lt, e]; omega
theorem bnd_mono (h : ¬ x < a ∧ ¬ b < x) (h1 : c.toInt ≤ a.toInt) (h2 : b.toInt ≤ d.toInt) : ¬ x < c ∧ ¬ d < x := by
  simp only [Int32.lt_iff_toInt_lt] at *; omega
theorem bnd_lt (h : ¬ x < a ∧ ¬ b < x) (k : ¬ y < c ∧ ¬ d < y) (q : b.toInt < c.toInt) : x < y := by
  simp only [Int32.lt_iff_toInt_lt] at *; omega
theorem bnd_nlt (h : ¬ x < a ∧ ¬ b < x) (k : ¬ y < c ∧ ¬ d < y) (q : d.toInt ≤ a.toInt) : ¬ x < y := by
  simp only [Int32.lt_iff_toInt_lt] at *; omega
theorem own_shr0 (x : Int32) : x >>> ((0 : Int32) &&& 31) = x := by
  rw [show ((0 : Int32) &&& 31) = 0 from by decide]; simp
theorem bnd_add {lo hi : Int32} (h : ¬ x < a ∧ ¬ b < x) (k : ¬ y < c ∧ ¬ d < y) (q1 : lo.toInt = a.toInt + c.toInt) (q2 : hi.toInt = b.toInt + d.toInt) (q3 : -2147483648 ≤ a.toInt + c.toInt) (q4 : b.toInt + d.toInt < 2147483648) : ¬ (x + y) < lo ∧ ¬ hi < (x + y) := by
  have e := c_iadd x y
  have r := rng32 (x + y)
  simp only [Int32.lt_iff_toInt_lt] at *
  omega
theorem bnd_i2c (x : Int32) : ¬ (x.toUInt32.toUInt16.toUInt32.toInt32) < (0 : Int32) ∧ ¬ (65535 : Int32) < (x.toUInt32.toUInt16.toUInt32.toInt32) := by
  have q := c_i2c x
  have e : (0 : Int32).toInt = 0 := rfl
  have e1 : (65535 : Int32).toInt = 65535 := rfl
  simp only [Int32.lt_iff_toInt_lt, e, e1]; omega
theorem bnd_i2b (x : Int32) : ¬ (x.toInt8.toInt32) < (-128 : Int32) ∧ ¬ (127 : Int32) < (x.toInt8.toInt32) := by
  have q := c_i2b x
  have e : (-128 : Int32).toInt = -128 := rfl
  have e1 : (127 : Int32).toInt = 127 := rfl
  simp only [Int32.lt_iff_toInt_lt, e, e1]; omega
theorem i2c_id (h : ¬ x < a ∧ ¬ b < x) (h1 : 0 ≤ a.toInt) (h2 : b.toInt ≤ 65535) : x.toUInt32.toUInt16.toUInt32.toInt32 = x := by
  have q := c_i2c x
  simp only [Int32.lt_iff_toInt_lt] at h
  apply Int32.toInt_inj.mp; omega
theorem i2b_id (h : ¬ x < a ∧ ¬ b < x) (h1 : -128 ≤ a.toInt) (h2 : b.toInt ≤ 127) : x.toInt8.toInt32 = x := by
  have q := c_i2b x
  simp only [Int32.lt_iff_toInt_lt] at h
  apply Int32.toInt_inj.mp; omega
theorem bnd_lit (k : Int32) : ¬ k < k ∧ ¬ k < k := by
  simp only [Int32.lt_iff_toInt_lt]; omega
theorem bnd_up (h : c < x) (q : d.toInt = c.toInt + 1) : ¬ x < d := by
  simp only [Int32.lt_iff_toInt_lt] at *; omega
theorem bnd_dn (h : x < c) (q : d.toInt = c.toInt - 1) : ¬ d < x := by
  simp only [Int32.lt_iff_toInt_lt] at *; omega
theorem bnd_eql (h : x = c) : ¬ x < c := by
  subst h; simp only [Int32.lt_iff_toInt_lt]; omega
theorem bnd_eqr (h : x = c) : ¬ c < x := by
  subst h; simp only [Int32.lt_iff_toInt_lt]; omega
theorem bnd_nel (h : ¬ x < c) (k : ¬ x = c) (q : d.toInt = c.toInt + 1) : ¬ x < d := by
  rw [← Int32.toInt_inj] at k; simp only [Int32.lt_iff_toInt_lt] at *; omega
theorem bnd_fix (h : ¬ x < c ∧ ¬ c < x) : x = c := by
  rw [← Int32.toInt_inj]; simp only [Int32.lt_iff_toInt_lt] at *; omega
theorem nar_char_id (h : ¬ x < a ∧ ¬ b < x) (h1 : 0 ≤ a.toInt) (h2 : b.toInt ≤ 65535) : nar .char x = x := i2c_id h h1 h2
theorem nar_byte_id (h : ¬ x < a ∧ ¬ b < x) (h1 : -128 ≤ a.toInt) (h2 : b.toInt ≤ 127) : nar .byte x = x := i2b_id h h1 h2
theorem nar_i2c (x : Int32) : nar .char (x.toUInt32.toUInt16.toUInt32.toInt32) = x.toUInt32.toUInt16.toUInt32.toInt32 := nar_char_id (bnd_i2c x) (by decide) (by decide)
theorem nar_i2b (x : Int32) : nar .byte (x.toInt8.toInt32) = x.toInt8.toInt32 := nar_byte_id (bnd_i2b x) (by decide) (by decide)
theorem nar_bool_id (h : ¬ x < a ∧ ¬ b < x) (h1 : 0 ≤ a.toInt) (h2 : b.toInt ≤ 1) : nar .boolean x = x := by
  simp only [Int32.lt_iff_toInt_lt] at h
  have hx : x.toInt = 0 ∨ x.toInt = 1 := by omega
  rcases hx with q | q
  · have : x = 0 := Int32.toInt_inj.mp q
    subst this; rfl
  · have : x = 1 := Int32.toInt_inj.mp q
    subst this; rfl
end Bounds
theorem Wr.to {h h' : Heap} {a : Addr} {sl : Nat} {v w : Value} (W : Wr h h' a sl v) (q : v = w) : Wr h h' a sl w := q ▸ W
theorem fits_char_b {x a b : Int32} (h : ¬ x < a ∧ ¬ b < x) (h1 : 0 ≤ a.toInt) (h2 : b.toInt ≤ 65535) : fits .char (.int x) = true := by
  have q := fits_nar_char x
  rw [nar_char_id h h1 h2] at q; exact q
theorem fits_byte_b {x a b : Int32} (h : ¬ x < a ∧ ¬ b < x) (h1 : -128 ≤ a.toInt) (h2 : b.toInt ≤ 127) : fits .byte (.int x) = true := by
  have q := fits_nar_byte x
  rw [i2b_id h h1 h2] at q; exact q
/-- null, or an object of exactly that class -/
def Nul (Z : State) (h : Heap) (x : Value) (C : String) : Prop := x = .null ∨ ∃ a, x = .ref a ∧ Exa Z h a C
section Nulls
variable {Z : State} {h h' : Heap} {x : Value} {C : String}
theorem Nul.null (Z : State) (h : Heap) (C : String) : Nul Z h .null C := Or.inl rfl
theorem Nul.of {a : Addr} (E : Exa Z h a C) : Nul Z h (.ref a) C := Or.inr ⟨a, rfl, E⟩
theorem Nul.ext (N : Nul Z h x C) (E : Ext h h') : Nul Z h' x C := N.imp id fun ⟨a, e, F⟩ => ⟨a, e, F.ext E⟩
theorem Nul.wr {a : Addr} {sl : Nat} {v : Value} (N : Nul Z h x C) (W : Wr h h' a sl v) : Nul Z h' x C := N.imp id fun ⟨a, e, F⟩ => ⟨a, e, F.wr W⟩
theorem Nul.keep {ws : List Addr} (N : Nul Z h x C) (K : Keep h h' ws) : Nul Z h' x C := N.imp id fun ⟨a, e, F⟩ => ⟨a, e, F.keep K⟩
theorem Nul.isRef (N : Nul Z h x C) : x.isRef = true := by rcases N with rfl | ⟨a, rfl, -⟩ <;> rfl
end Nulls
section NotSub
variable {Z : State} {a0 : Array Value} {C S O K : String} {nn : Nat}
end NotSub
theorem Fld.to {Z : State} {h : Heap} {a : Addr} {C n d : String} {v w : Value} (F : Fld Z h a C n d v) (q : v = w) : Fld Z h a C n d w := q ▸ F
end Jvm.OwnKit
namespace Jvm.OwnKit
open Jvm Jvm.ClassFile Sem Op Lib Jvm.Free Jvm.Stand Jvm.LawKit Jvm.RoadKit
section Lists
variable {p : Program} {l : Launch} {e : Env} {R : Room} {s : State} {m : MethodId} {args : Array Value} {below : List Frame} {meth : Method} {c : Code} {T : State} {locs : List Loc} {cells slots : Nat} {Z : State} {h : Heap}
def own_n (cs : List Int32) : Int32 := Int32.ofNat cs.length
theorem own_len_le {l : List Int32} {n : Nat} (h : l.length ≤ n) : 0 ≤ l.length ∧ l.length ≤ n := ⟨Nat.zero_le _, h⟩
theorem Arv.lst {a : Addr} {k : ClassId} {ty : FieldType} {n : Int32} {vs : List Value} {d : Value} (F : Arv Z h a k ty n vs d) {cs cs' : List Int32} (q : cs = cs') (e1 : vs = cs.map Value.int) (e2 : n = own_n cs) : Arv Z h a k ty (own_n cs') (cs'.map Value.int) d := by
  subst q; subst e1; subst e2; exact F
end Lists
end Jvm.OwnKit
namespace Jvm.OwnKit
open Jvm Jvm.ClassFile Sem Op Lib Bundle Jvm.Free Jvm.Stand Jvm.LawKit Jvm.RoadKit
section Cold
variable {p : Program} {l : Launch} {e : Env} {R : Room} {s : State} {m : MethodId} {args : Array Value} {below : List Frame} {meth : Method} {c : Code} {T : State} {locs : List Loc} {cells slots k n : Nat} {Z : State} {a0 : Array Value} {h h' : Heap} {y z : MethodName} {bytes : ByteArray} {maxL : Nat} {rt : Option FieldType} {rm : Room} {W : Nat} {as' : Array Value} {Q : Option Value → Heap → List Loc → Prop} {own C : String} {index : Nat} {EL : List (String × Nat)} {vm0 vm1 : Vm} {xs : List Addr} {sf : Bool}
/-- what a walk that may book texts knows of its tables: they came of the start's, what is booked of EL is read, xs are none of the booked cells -/
def Cold (Z : State) (EL : List (String × Nat)) (s : State) (xs : List Addr) (vm0 : Vm) (h : Heap) : Prop := (∃ k0, s.Since vm0 k0 ∧ k0 ≤ h.size) ∧ CHr Z EL s.vm s.heap vm0 h ∧ ∀ x ∈ xs, Safe Z EL vm0 h x ∧ x < h.size
theorem Cold.go (H : Cold Z EL s xs vm0 h) (hs : ∃ k0, s.Since vm1 k0 ∧ k0 ≤ h'.size) (q : CHr Z EL vm0 h vm1 h') : Cold Z EL s xs vm1 h' :=
  ⟨hs, H.2.1.trans q, fun x hx => ⟨q.safe (H.2.2 x hx).2 (H.2.2 x hx).1, Nat.lt_of_lt_of_le (H.2.2 x hx).2 q.2.1⟩⟩
theorem Cold.same (H : Cold Z EL s xs vm0 h) (q : CHr Z EL vm0 h vm0 h') : Cold Z EL s xs vm0 h' := H.go (by obtain ⟨⟨k0, a, b⟩, -⟩ := H; exact ⟨k0, a, Nat.le_trans b q.2.1⟩) q
theorem Cold.ext (H : Cold Z EL s xs vm0 h) (E : Ext h h') : Cold Z EL s xs vm0 h' := H.same (CHr.ext E H.2.1.1)
theorem Cold.keep {ws : List Addr} (H : Cold Z EL s xs vm0 h) (K : Keep h h' ws) (hs : ∀ x ∈ ws, Safe Z EL vm0 h x) : Cold Z EL s xs vm0 h' := H.same (CHr.keep K hs H.2.1.1)
theorem Cold.wr {a : Addr} {sl : Nat} {v : Value} (H : Cold Z EL s xs vm0 h) (w : Wr h h' a sl v) (S : Safe Z EL vm0 h a) : Cold Z EL s xs vm0 h' := H.same (CHr.wr w S H.2.1.1)
theorem Cold.add {b : Addr} (H : Cold Z EL s xs vm0 h) (E : Ext h h') (hb : h.size ≤ b) (hb' : b < h'.size) : Cold Z EL s (b :: xs) vm0 h' := by
  have H' := H.ext E
  refine ⟨H'.1, H'.2.1, fun x hx => ?_⟩
  rcases List.mem_cons.mp hx with rfl | hx
  · exact ⟨Safe.ext E H.2.1.1 (Safe.new hb), hb'⟩
  · exact H'.2.2 x hx
theorem Cold.safe {x : Addr} (H : Cold Z EL s xs vm0 h) (hx : x ∈ xs) : Safe Z EL vm0 h x := (H.2.2 x hx).1
theorem Cold.start (H : CHv Z EL s.vm s.heap) : Cold Z EL s [] s.vm s.heap := ⟨⟨_, (State.WarmedH.refl s).since _, Nat.le_refl _⟩, CHr.refl H, fun _ hx => nomatch hx⟩
theorem Cold.put {b : Addr} (H : Cold Z EL s xs vm0 h) (q : Safe Z EL vm0 h b ∧ b < h.size) : Cold Z EL s (b :: xs) vm0 h := ⟨H.1, H.2.1, fun x hx => (List.mem_cons.mp hx).elim (fun e => e ▸ q) (H.2.2 x)⟩
/-- what is returned is none of the booked cells -/
def SafeR (sf : Bool) (Z : State) (EL : List (String × Nat)) (vm : Vm) (h : Heap) (v : Option Value) : Prop := sf = true → ∀ a, v = some (.ref a) → Safe Z EL vm h a ∧ a < h.size
/-- the contract of a body that may book texts -/
abbrev ConW (l : Launch) (Z : State) (EL : List (String × Nat)) (xs : List Addr) (sf : Bool) (y : MethodName) (bytes : ByteArray) (maxL : Nat) (rt : Option FieldType) (ws : List Jvm.Cond) (rm : Room) (as' : Array Value) (h : Heap) (Q : Option Value → Heap → List Loc → Prop) : Prop :=
  MetFree l y (head1 (Jvm.Cond.code y bytes maxL rt :: ws) rm) (fun a U => a = as' ∧ Z.Warmed39 U.vm ∧ U.heap = h ∧ CHv Z EL U.vm h ∧ ∀ x ∈ xs, Safe Z EL U.vm h x ∧ x < h.size) (fun _ _ _ _ _ => True) (fun _ U o U' => ∃ v L, o = .returned v ∧ Q v U'.heap L ∧ CHr Z EL U.vm U.heap U'.vm U'.heap ∧ SafeR sf Z EL U'.vm U'.heap v ∧ ReturnedEndW U o U' L rm.cells rm.slots)
abbrev EndW (s : State) (Z : State) (EL : List (String × Nat)) (sf : Bool) (Q : Option Value → Heap → List Loc → Prop) (k n : Nat) : Option Value → State → List Loc → Prop := fun v U L => Q v U.heap L ∧ CHr Z EL s.vm s.heap U.vm U.heap ∧ SafeR sf Z EL U.vm U.heap v ∧ ReturnedEndW s (.returned v) U L k n
theorem retW_mono {o : Outcome} {t : State} {L : List Loc} {k n k' n' : Nat} (h : ReturnedEndW s o t L k n) (hk : k ≤ k') (hn : n ≤ n') : ReturnedEndW s o t L k' n' := ⟨h.1, h.2.1, h.2.2.1, h.2.2.2.mono hk hn⟩
theorem HomeW.retN (X : Stand p l e R (s.setVm vm0) m args below meth c T locs cells slots) (hx : p.tables.exec = Jvm.exec) (hlk : meth.locks = false) (hZ : Z.Warmed39 (s.setVm vm0).vm) (hEL : EW Z a0 EL) (eT : T.heap = h) (H : Cold Z EL s xs vm0 h)
    {pc : Nat} {Ls : Array Slot} {z : Int32} {t : FieldType} {rest : List Value} (hret : meth.sig.returnType = some t) (ht : t = .boolean ∨ t = .byte ∨ t = .char ∨ t = .short)
    (hd : decode c.code pc = .ok (.ireturn, 1)) (hQ : Q (some (.int (nar t z))) T.heap locs) (hk : cells ≤ k) (hn : slots ≤ n) : @Home p e below (EndW s Z EL sf Q k n) T (mkF m pc Ls (.int z :: rest)) := by
  subst eT
  obtain ⟨⟨k0, hS, hk0⟩, CR, -⟩ := H
  obtain ⟨fs, hr, hrun, hended, hW⟩ := X.leaveW hS hk0 (v := some (.int (nar t z))) (fun h => by rw [hret] at h; cases h) hlk
  have q : CHr Z EL s.vm s.heap T.vm T.heap := CR.trans (CHv.at X hZ hEL CR.1)
  exact ⟨_, _, Jvm.RoadKit.retN X hx hret ht hd hr, hrun, hended, _, _, rfl, hQ, q, (fun _ _ z => by cases z), retW_mono hW hk hn⟩
theorem HomeW.ret (X : Stand p l e R (s.setVm vm0) m args below meth c T locs cells slots) (hx : p.tables.exec = Jvm.exec) (hlk : meth.locks = false) (hZ : Z.Warmed39 (s.setVm vm0).vm) (hEL : EW Z a0 EL) (eT : T.heap = h) (H : Cold Z EL s xs vm0 h) {w : Value} (hsr : sf = true → ∀ a, w = .ref a → a ∈ xs)
    {pc : Nat} {Ls : Array Slot} {t : FieldType} {i : Instr} {rest : List Value} (hret : meth.sig.returnType = some t) (hnn : narrow t w = w)
    (hi : (i = .ireturn ∧ (t = .int ∨ t = .boolean ∨ t = .byte ∨ t = .char ∨ t = .short) ∧ ∃ z, w = .int z) ∨ (i = .lreturn ∧ t = .long ∧ ∃ z, w = .long z) ∨ (i = .dreturn ∧ t = .double ∧ ∃ z, w = .double z) ∨ (i = .freturn ∧ t = .float ∧ ∃ z, w = .float z) ∨ (i = .areturn ∧ t.isReference = true ∧ w.isRef = true))
    (hd : decode c.code pc = .ok (i, 1)) (hQ : Q (some w) T.heap locs) (hk : cells ≤ k) (hn : slots ≤ n) : @Home p e below (EndW s Z EL sf Q k n) T (mkF m pc Ls (w :: rest)) := by
  subst eT
  obtain ⟨⟨k0, hS, hk0⟩, CR, hxs⟩ := H
  obtain ⟨fs, hr, hrun, hended, hW⟩ := X.leaveW hS hk0 (v := some w) (fun h => by rw [hret] at h; cases h) hlk
  have q : CHr Z EL s.vm s.heap T.vm T.heap := CR.trans (CHv.at X hZ hEL CR.1)
  exact ⟨_, _, retOut X hx hret hnn hi hd hr, hrun, hended, _, _, rfl, hQ, q, (fun z a ha => ⟨(CHv.at X hZ hEL CR.1).safe (hxs a (hsr z a (Option.some.inj ha))).2 (hxs a (hsr z a (Option.some.inj ha))).1, (hxs a (hsr z a (Option.some.inj ha))).2⟩), retW_mono hW hk hn⟩
theorem HomeW.retI (X : Stand p l e R (s.setVm vm0) m args below meth c T locs cells slots) (hx : p.tables.exec = Jvm.exec) (hlk : meth.locks = false) (hZ : Z.Warmed39 (s.setVm vm0).vm) (hEL : EW Z a0 EL) (eT : T.heap = h) (H : Cold Z EL s xs vm0 h)
    {pc : Nat} {Ls : Array Slot} {z : Int32} {rest : List Value} (hret : meth.sig.returnType = some .int)
    (hd : decode c.code pc = .ok (.ireturn, 1)) (hQ : Q (some (.int z)) T.heap locs) (hk : cells ≤ k) (hn : slots ≤ n) : @Home p e below (EndW s Z EL sf Q k n) T (mkF m pc Ls (.int z :: rest)) := HomeW.ret X hx hlk hZ hEL eT H (fun _ _ z => by cases z) hret rfl (Or.inl ⟨rfl, Or.inl rfl, _, rfl⟩) hd hQ hk hn
theorem HomeW.retR (X : Stand p l e R (s.setVm vm0) m args below meth c T locs cells slots) (hx : p.tables.exec = Jvm.exec) (hlk : meth.locks = false) (hZ : Z.Warmed39 (s.setVm vm0).vm) (hEL : EW Z a0 EL) (eT : T.heap = h) (H : Cold Z EL s xs vm0 h) {w : Value} (hsr : sf = true → ∀ a, w = .ref a → a ∈ xs)
    {pc : Nat} {Ls : Array Slot} {t : FieldType} {rest : List Value} (hret : meth.sig.returnType = some t) (ht : t.isReference = true) (hw : w.isRef = true)
    (hd : decode c.code pc = .ok (.areturn, 1)) (hQ : Q (some w) T.heap locs) (hk : cells ≤ k) (hn : slots ≤ n) : @Home p e below (EndW s Z EL sf Q k n) T (mkF m pc Ls (w :: rest)) := HomeW.ret X hx hlk hZ hEL eT H hsr hret (own_narrow_ref hw) (Or.inr (Or.inr (Or.inr (Or.inr ⟨rfl, ht, hw⟩)))) hd hQ hk hn
theorem HomeW.ret0 (X : Stand p l e R (s.setVm vm0) m args below meth c T locs cells slots) (hx : p.tables.exec = Jvm.exec) (hlk : meth.locks = false) (hZ : Z.Warmed39 (s.setVm vm0).vm) (hEL : EW Z a0 EL) (eT : T.heap = h) (H : Cold Z EL s xs vm0 h)
    {pc : Nat} {Ls : Array Slot} (hret : meth.sig.returnType = none)
    (hd : decode c.code pc = .ok (.return_, 1)) (hQ : Q none T.heap locs) (hk : cells ≤ k) (hn : slots ≤ n) : @Home p e below (EndW s Z EL sf Q k n) T (mkF m pc Ls []) := by
  subst eT
  obtain ⟨⟨k0, hS, hk0⟩, CR, -⟩ := H
  obtain ⟨fs, hr, hrun, hended, hW⟩ := X.leaveW hS hk0 (v := none) (fun _ => rfl) hlk
  have q : CHr Z EL s.vm s.heap T.vm T.heap := CR.trans (CHv.at X hZ hEL CR.1)
  exact ⟨_, _, X.returnOut hx hret hd hr, hrun, hended, _, _, rfl, hQ, q, (fun _ _ z => by cases z), retW_mono hW hk hn⟩
theorem own_bodyW {ws : List Jvm.Cond} {L0 : Array Slot} (pn : plainFor y = true) (ef : ∀ m, entryFrame m as' maxL = mkF m 0 L0 [])
    (body : ∀ (p : Program) (e : Env) (s : State) (m : MethodId) (below : List Frame) (meth : Method) (c : Code) (s₁ : State), p.tables.exec = Jvm.exec → c.code = bytes → meth.locks = false → c.maxLocals = maxL → meth.sig.returnType = rt → Z.Warmed39 (s.setVm s.vm).vm → (s.setVm s.vm).vm.findClass y.cls = some m.cls → meth.name = y.name →
      Stand p l e rm (s.setVm s.vm) m as' below meth c s₁ [] 0 0 → s₁.heap = h → Cold Z EL s xs s.vm h → @Home p e below (EndW s Z EL sf Q rm.cells rm.slots) s₁ (mkF m 0 L0 [])) : ConW l Z EL xs sf y bytes maxL rt ws rm as' h Q := by
  refine MetFree.of_bodySF pn hisR ?_
  intro p e s m args below meth c s₁ Bd hml0 hP hK
  obtain ⟨rfl, hZ, rfl, hH, hxs⟩ := hP
  have hc : Cold Z EL s xs s.vm s.heap := ⟨(Cold.start hH).1, CHr.refl hH, hxs⟩
  have H : @Home p e below (EndW s Z EL sf Q rm.cells rm.slots) s₁ (entryFrame m args maxL) := Home.enter (ef m) (body p e s m below meth c s₁ Bd.exec Bd.bytes (BodyLoose.notSynchronized Bd) hml0 Bd.returns hZ (findClass_of_methodNamed Bd.named) (name_of_methodNamed Bd.named Bd.method).1 (Stand.of_body Bd) (by rw [Bd.state]; rfl) hc)
  obtain ⟨U, o, h1, h2, h3, v, L, rfl, h4, h5, h6⟩ := H
  exact ⟨U, _, h1, h2, h3, v, L, rfl, h4, h5, h6⟩
theorem own_warmW {U : State} (hZ : Z.Warmed39 (s.setVm vm0).vm) (hS : (s.setVm vm0).Since U.vm n) : Z.Warmed39 (s.setVm U.vm).vm := State.Warmed39.trans (t := s.setVm vm0) hZ hS.1
theorem own_ownW {U : State} (hS : (s.setVm vm0).Since U.vm n) (hown : (s.setVm vm0).vm.findClass own = some m.cls) : (s.setVm U.vm).vm.findClass own = some m.cls := by rw [show (s.setVm U.vm).vm.findClass own = (s.setVm vm0).vm.findClass own from hS.1.alike.findClass _ _]; exact hown
theorem own_backW {len : Nat} (hM : ConW l Z EL xs sf y bytes maxL rt [] rm as' h Q) (hZ : Z.Warmed39 (s.setVm vm0).vm) (hEL : EW Z a0 EL) (wc : (Cond.code y bytes maxL rt).before a0 Z = true) (wz : (Cond.initialized y.cls).before a0 Z = true) (hf : rm.frames + 1 ≤ R.frames) (hl : W + (maxL + 11) + rm.locals ≤ R.locals) (H : CHv Z EL vm0 h) (hxs : ∀ x ∈ xs, Safe Z EL vm0 h x ∧ x < h.size) :
    BackS l R p e below (s.setVm vm0) args y len W (fun A a => a = as' ∧ A.U.heap = h ∧ A.cells + rm.cells ≤ R.cells ∧ A.slots + rm.slots ≤ R.slots) (fun A _ v B => ∃ L, Q v B.U.heap L ∧ B.locs = A.locs ++ L ∧ B.cells = A.cells + rm.cells ∧ B.slots = A.slots + rm.slots ∧ CHr Z EL vm0 h B.U.vm B.U.heap ∧ SafeR sf Z EL B.U.vm B.U.heap v) := by
  refine BackS.of_freeW (bytes := bytes) (maxL := maxL) (ret := rt) (E := fun _ first o t L k n => k = rm.cells ∧ n = rm.slots ∧ (∃ v, o = .returned v ∧ Q v t.heap L ∧ SafeR sf Z EL t.vm t.heap v) ∧ CHr Z EL first.vm first.heap t.vm t.heap) hM hf hl ?_ ?_ (fun _ _ _ _ _ _ _ _ _ => trivial) ?_ ?_
  · intro m meth c A a Y hp
    have hU : Z.Warmed39 A.U.vm := wtrans (s := s.setVm vm0) hZ Y.warmed
    exact ⟨by show (Cond.and _ .tt).before a A.U = true; rw [Cond.before_and, mv hU wc]; rfl, mv hU wc, mv hU wz, hp.2.2⟩
  · intro m meth c A a g mk Y hp
    have q := CHv.at Y hZ hEL H
    exact ⟨hp.1, wtrans (s := s.setVm vm0) hZ Y.warmed, hp.2.1, q.1, fun x hx => ⟨q.safe (hxs x hx).2 (hxs x hx).1, (hxs x hx).2⟩⟩
  · rintro _ _ _ _ ⟨v, L, h1, h2, h3, h5, h4⟩
    exact ⟨L, _, _, h4, rfl, rfl, ⟨v, h1, h2, h5⟩, h3⟩
  · intro m meth c A a g mk v t L k n Y hp _ _ hE
    obtain ⟨rfl, rfl, ⟨v', e3, e4, e7⟩, e5⟩ := hE
    cases e3
    have e6 : CHr Z EL A.U.vm h t.vm t.heap := hp.2.1 ▸ e5
    exact ⟨L, e4, rfl, rfl, rfl, (CHv.at Y hZ hEL H).trans e6, e7⟩
theorem own_staticW (X : Stand p l e R (s.setVm vm0) m args below meth c T locs cells slots) (hx : p.tables.exec = Jvm.exec) (hZ : Z.Warmed39 (s.setVm vm0).vm) (hown : (s.setVm vm0).vm.findClass own = some m.cls) (hEL : EW Z a0 EL) {xs0 : List Addr} (H : Cold Z EL s xs0 vm0 h) (hsub : ∀ x ∈ xs, x ∈ xs0)
    (w1 : (Cond.methodLink own index y).before a0 Z = true) (w2 : (Cond.static y).before a0 Z = true) (w3 : (Cond.initialized y.cls).before a0 Z = true) (w4 : (Cond.code y bytes maxL rt).before a0 Z = true)
    (hy : y.cls ≠ "java/lang/invoke/MethodHandle" ∧ y.cls ≠ "java/lang/invoke/VarHandle") (hM : ConW l Z EL xs sf y bytes maxL rt [] rm as' h Q) (eT : T.heap = h)
    {g : JFrame} (hg : g.method = m) (hsize : g.locals.size = c.maxLocals) {argsL rest : List Value} (hlen : ∀ sig, parseMethodDescriptor y.desc = some sig → argsL.length = sig.parameters.length) (hstack : g.stack = argsL.reverse ++ rest) (ha : argsL.toArray = as')
    (hW : 2 * g.monitorRoom + (rest.map fun v => v.category).sum ≤ W) (hf : rm.frames + 1 ≤ R.frames) (hl : W + (maxL + 11) + rm.locals ≤ R.locals)
    (hdg : decode c.code g.pc = .ok (.invokestatic index, 3)) (hc : cells + rm.cells ≤ R.cells) (hs : slots + rm.slots ≤ R.slots) :
    ∃ v T' L, Stand p l e R (s.setVm T'.vm) m args below meth c T' (locs ++ L) (cells + rm.cells) (slots + rm.slots) ∧ (Q v T'.heap L ∧ Z.Warmed39 (s.setVm T'.vm).vm ∧ (s.setVm T'.vm).vm.findClass own = some m.cls ∧ Cold Z EL s xs0 T'.vm T'.heap ∧ SafeR sf Z EL T'.vm T'.heap v) ∧
      ∀ t, Steps p.tables e below (T'.setTop { g with pc := g.pc + 3, stack := v.toList ++ rest }) t → Steps p.tables e below (T.setTop g) t := by
  obtain ⟨v, _, ⟨T', L', k', n'⟩, -, X', hS, hg', ⟨L, hQ, l', y', z', hC, hR⟩, st⟩ := Jvm.RoadKit.callSS X hx (y := y) hown (mvT hZ w1) (mvT hZ w2) (mvT hZ w3) (mvT hZ w4) hy (own_backW (W := W) hM hZ hEL w4 w3 hf hl H.2.1.1 (fun x hx => H.2.2 x (hsub x hx))) hg hsize hlen hstack hW hdg (fun _ _ => ⟨ha, eT, hc, hs⟩)
  dsimp only [Pt.U, Pt.locs, Pt.cells, Pt.slots] at X' l' y' z' st hQ hS hg' hC hR
  subst l' y' z'
  exact ⟨v, T', L, X', ⟨hQ, own_warmW hZ hS, own_ownW hS hown, H.go (by obtain ⟨⟨k0, a, b⟩, -⟩ := H; exact ⟨_, Jvm.RoadKit.foldS (T := T) a (by rw [eT]; exact b) hS hg', Nat.le_refl _⟩) hC, hR⟩, fun t k => st.trans k⟩
theorem own_specialW (X : Stand p l e R (s.setVm vm0) m args below meth c T locs cells slots) (hx : p.tables.exec = Jvm.exec) (hZ : Z.Warmed39 (s.setVm vm0).vm) (hown : (s.setVm vm0).vm.findClass own = some m.cls) (hEL : EW Z a0 EL) {xs0 : List Addr} (H : Cold Z EL s xs0 vm0 h) (hsub : ∀ x ∈ xs, x ∈ xs0) (hy1 : y.name = "<init>")
    (w1 : (Cond.methodLink own index y).before a0 Z = true) (w2 : (Cond.instanceMethod y).before a0 Z = true) (w3 : (Cond.initialized y.cls).before a0 Z = true) (w4 : (Cond.code y bytes maxL none).before a0 Z = true)
    (hy : y.cls ≠ "java/lang/invoke/MethodHandle" ∧ y.cls ≠ "java/lang/invoke/VarHandle") (hM : ConW l Z EL xs sf y bytes maxL none [] rm as' h Q) (eT : T.heap = h)
    {g : JFrame} (hg : g.method = m) (hsize : g.locals.size = c.maxLocals) {a : Addr} {argsL rest : List Value} (hlen : ∀ sig, parseMethodDescriptor y.desc = some sig → argsL.length = sig.parameters.length) (hstack : g.stack = argsL.reverse ++ .ref a :: rest) (ha : (.ref a :: argsL).toArray = as')
    (hW : 2 * g.monitorRoom + (rest.map fun v => v.category).sum ≤ W) (hf : rm.frames + 1 ≤ R.frames) (hl : W + (maxL + 11) + rm.locals ≤ R.locals)
    (hdg : decode c.code g.pc = .ok (.invokespecial index, 3)) (hc : cells + rm.cells ≤ R.cells) (hs : slots + rm.slots ≤ R.slots) :
    ∃ v T' L, Stand p l e R (s.setVm T'.vm) m args below meth c T' (locs ++ L) (cells + rm.cells) (slots + rm.slots) ∧ (Q v T'.heap L ∧ Z.Warmed39 (s.setVm T'.vm).vm ∧ (s.setVm T'.vm).vm.findClass own = some m.cls ∧ Cold Z EL s xs0 T'.vm T'.heap ∧ SafeR sf Z EL T'.vm T'.heap v) ∧
      ∀ t, Steps p.tables e below (T'.setTop { g with pc := g.pc + 3, stack := v.toList ++ rest }) t → Steps p.tables e below (T.setTop g) t := by
  obtain ⟨v, _, ⟨T', L', k', n'⟩, -, X', hS, hg', ⟨L, hQ, l', y', z', hC, hR⟩, st⟩ := X.specialBackS hx (y := y) hy1 hown (mvT hZ w1) (mvT hZ w2) (mvT hZ w4) hy (own_backW (W := W) hM hZ hEL w4 w3 hf hl H.2.1.1 (fun x hx => H.2.2 x (hsub x hx))) hg hsize (Steps.refl _) (a := a) hlen hstack hW hdg (fun _ _ => ⟨ha, eT, hc, hs⟩)
  dsimp only [Pt.U, Pt.locs, Pt.cells, Pt.slots] at X' l' y' z' st hQ hS hg' hC hR
  subst l' y' z'
  exact ⟨v, T', L, X', ⟨hQ, own_warmW hZ hS, own_ownW hS hown, H.go (by obtain ⟨⟨k0, a, b⟩, -⟩ := H; exact ⟨_, Jvm.RoadKit.foldS (T := T) a (by rw [eT]; exact b) hS hg', Nat.le_refl _⟩) hC, hR⟩, fun t k => st.trans k⟩
/-- ldc of a text of EL: its cells are there -/
theorem own_ldcW {text : String} (X : Stand p l e R (s.setVm vm0) m args below meth c T locs cells slots) (hx : p.tables.exec = Jvm.exec) (hZ : Z.Warmed39 (s.setVm vm0).vm) (hown : (s.setVm vm0).vm.findClass own = some m.cls) (hEL : EW Z a0 EL) (H : Cold Z EL s xs vm0 h) (w : (Cond.stringLink own index text).before a0 Z = true) (wS : ∀ a ∈ Bundle.stringAtoms, a.before a0 Z = true)
    (eT : T.heap = h) (hmem : (own, index) ∈ EL) {vs : List Value} {z : Int32} (ht : (∀ c ∈ text.toList, c.toNat < 256) ∧ text.toList.map (fun c => Value.int (Jvm.Lit.byteI c.toNat.toUInt16)) = vs) (hz : ¬ z < 0) (hl : z.toNatClampNeg = vs.length)
    {g : JFrame} (hg : g.method = m) (hd : decode c.code g.pc = .ok (.ldc index, 2)) {n : Nat} (hn : 4 * text.toList.length ≤ n) (hbig : n ≤ 536870912) (hc : cells + 2 ≤ R.cells) (hl' : slots + (n + 4) ≤ R.slots) :
    ∃ (a b : Addr) (k : ClassId) (T' : State) (h' : Heap), Stand p l e R (s.setVm T'.vm) m args below meth c T' locs (cells + 2) (slots + (n + 4)) ∧ T'.heap = h' ∧ Ext h h' ∧ Z.Warmed39 (s.setVm T'.vm).vm ∧ (s.setVm T'.vm).vm.findClass own = some m.cls ∧ Cold Z EL s xs T'.vm h' ∧
      Exa Z h' a "java/lang/String" ∧ Fld Z h' a "java/lang/String" "coder" "B" (.int 0) ∧ Fld Z h' a "java/lang/String" "value" "[B" (.ref b) ∧ Arv Z h' b k .byte z vs (.int 0) ∧ a < h'.size ∧ b < h'.size ∧ (∀ x ∈ xs, x ≠ a ∧ x ≠ b) ∧
      ∀ t, Steps p.tables e below (T'.setTop { g with pc := g.pc + 2, stack := .ref a :: g.stack }) t → Steps p.tables e below (T.setTop g) t := by
  obtain ⟨k0, hS, hk⟩ := H.1
  obtain ⟨a, T', h', k1, b, k, X', e1, E, hS', hk', hZ', ho', f1, f2, f3, f4, f5, f6, hC, -, hne, st⟩ := ldcCH X hx hZ hown w wS eT hS hk hEL hmem H.2.1.1 ht hz hl hg hd hn hbig hc hl'
  have H' := H.go ⟨k1, hS', hk'⟩ hC
  exact ⟨a, b, k, T', h', X', e1, E, hZ', ho', H', f1, f2, f3, f4, f5, f6, fun x hx => hne x (H'.safe hx), st⟩
end Cold
end Jvm.OwnKit
namespace Jvm.OwnKit
theorem own_b2 {a b : Int32} (ha : ¬ a < (0 : Int32) ∧ ¬ (255 : Int32) < a) (hb : ¬ b < (0 : Int32) ∧ ¬ (255 : Int32) < b) : (a.toInt8.toInt32 = b.toInt8.toInt32) ↔ a = b := by
  rw [← Int32.toInt_inj, ← Int32.toInt_inj, Int8.toInt_toInt32, Int8.toInt_toInt32, Int32.toInt_toInt8, Int32.toInt_toInt8]
  simp only [Int32.lt_iff_toInt_lt] at ha hb
  have e0 : (0 : Int32).toInt = 0 := rfl
  have e1 : (255 : Int32).toInt = 255 := rfl
  rw [e0, e1] at ha hb
  simp only [Int.bmod]
  constructor
  · intro h; split at h <;> split at h <;> omega
  · intro h; rw [h]
end Jvm.OwnKit
namespace Jvm.Pilot.@@N@@
open Jvm Jvm.ClassFile Sem Op Lib Jvm.Free Jvm.Stand Jvm.LawKit Jvm.RoadKit Jvm.OwnKit Bundle Jvm.Pilot.@@N@@.Jvm.D
set_option maxRecDepth 65536
set_option maxHeartbeats 40000000
abbrev HW (a0 : Array Value) (Z : State) : Prop := ∀ d ∈ tables_1, d.before a0 Z = true
theorem own_lenk {Z : State} {args : Array Value} {t : Term} {a : Addr} {c : Cell} {ty : FieldType} {k : Int32} (ev : t.eval args Z none [] Z = some (.ref a)) (A : Arr Z Z.heap a c ty) (h : (Jvm.Cond.eq (Jvm.Term.length t) (Jvm.Term.int k)).value args Z none Z [] = some true) : c.slots.size < 2 ^ 31 ∧ c.slots.size.toInt32 = k := by
  have e := eqv_i (Term.int_eval k) h
  have ha := A.fin (U := Z) (Vm.Alike.refl _)
  by_cases q : c.slots.size < 2 ^ 31
  · have e2 := len_f (first := Z) (o := none) (idx := []) (args := args) ev ha q
    rw [e] at e2
    exact ⟨q, by injection e2 with e3; injection e3 with e4; exact e4.symm⟩
  · exfalso
    simp [Term.eval, ev, ha, q] at e
def own_ic (i0 : Int32) (i1 : Int32) : Int32 := (if i0 = i1 then (1 : Int32) else (if (i0 &&& (223 : Int32)) < (65 : Int32) then (0 : Int32) else (if (90 : Int32) < (i0 &&& (223 : Int32)) then (if (i0 &&& (223 : Int32)) < (192 : Int32) then (0 : Int32) else (if (222 : Int32) < (i0 &&& (223 : Int32)) then (0 : Int32) else (if (i0 &&& (223 : Int32)) = (215 : Int32) then (0 : Int32) else (if (i0 &&& (223 : Int32)) = (i1 &&& (223 : Int32)) then (1 : Int32) else (0 : Int32))))) else (if (i0 &&& (223 : Int32)) = (i1 &&& (223 : Int32)) then (1 : Int32) else (0 : Int32)))))
def own_eqic : List Int32 → List Int32 → Int32
  | [], [] => 1
  | a :: r, b :: s => if own_ic a b = 0 then 0 else own_eqic r s
  | _, _ => 0
theorem own_eqic_bnd : ∀ (l1 l2 : List Int32), ¬ own_eqic l1 l2 < (0 : Int32) ∧ ¬ (1 : Int32) < own_eqic l1 l2
  | [], [] => by decide
  | [], _ :: _ => by simp only [own_eqic]; decide
  | _ :: _, [] => by simp only [own_eqic]; decide
  | a :: r, b :: s => by
    simp only [own_eqic]; split
    · decide
    · exact own_eqic_bnd r s
theorem own_w0 {Z : State} {a0 : Array Value} (hw : HW a0 Z) : (Cond.methodLink "com/example/invocant/invocant/CanonicalMatchesIgnoringCasePinLaw" 22 ⟨"com/example/invocant/invocant/CanonicalMatchesIgnoringCasePinLaw", "isNull", "(I)Z"⟩).before a0 Z = true := hw _ (List.mem_of_getElem? (i := 0) rfl)
theorem sg0_0_1 : decs code [(0, .iload_n 1, 1)] := ⟨at_0, trivial⟩
theorem d1_0 : decode method_6_code 0 = .ok (.iload_n 0, 1) := by decide +kernel
theorem d1_1 : decode method_6_code 1 = .ok (.bipush 26, 2) := by decide +kernel
theorem d1_3 : decode method_6_code 3 = .ok (.iushr, 1) := by decide +kernel
theorem d1_4 : decode method_6_code 4 = .ok (.iconst 1, 1) := by decide +kernel
theorem d1_5 : decode method_6_code 5 = .ok (.iand, 1) := by decide +kernel
theorem sg1_0_5 : decs method_6_code [(0, .iload_n 0, 1), (1, .bipush 26, 2), (3, .iushr, 1), (4, .iconst 1, 1), (5, .iand, 1)] := ⟨d1_0, d1_1, d1_3, d1_4, d1_5, trivial⟩
theorem d1_6 : decode method_6_code 6 = .ok (.ifCond .eq 7, 3) := by decide +kernel
theorem d1_13 : decode method_6_code 13 = .ok (.iconst 0, 1) := by decide +kernel
theorem sg1_13_1 : decs method_6_code [(13, .iconst 0, 1)] := ⟨d1_13, trivial⟩
theorem d1_9 : decode method_6_code 9 = .ok (.iconst 1, 1) := by decide +kernel
theorem d1_10 : decode method_6_code 10 = .ok (.goto 4, 3) := by decide +kernel
theorem sg1_9_2 : decs method_6_code [(9, .iconst 1, 1), (10, .goto 4, 3)] := ⟨d1_9, d1_10, trivial⟩
theorem d1_14 : decode method_6_code 14 = .ok (.ireturn, 1) := by decide +kernel
def f_rm1_0 (i0 : Int32) : Int32 := (if (((i0.toUInt32 >>> ((26 : Int32) &&& 31).toUInt32).toInt32) &&& (1 : Int32)) = (0 : Int32) then (0 : Int32) else (1 : Int32))
theorem ef_rm1_0 (m : MethodId) (x0 : Int32) : entryFrame m #[(.int x0)] 1 = mkF m 0 #[.val (.int x0)] [] := by first | (simp [entryFrame, mkF, argsToLocals, Value.category]; done) | rfl
theorem own_pn0 : plainName "com/example/invocant/invocant/CanonicalMatchesIgnoringCasePinLaw" = true := by first | (simp [plainName, overriddenIn]; done) | decide +kernel
theorem own_w3 {Z : State} {a0 : Array Value} (hw : HW a0 Z) : (Cond.code ⟨"com/example/invocant/invocant/CanonicalMatchesIgnoringCasePinLaw", "isNull", "(I)Z"⟩ method_6_code 1 (Option.some Jvm.ClassFile.FieldType.boolean)).before a0 Z = true := hw _ (List.mem_of_getElem? (i := 3) rfl)
theorem own_w2 {Z : State} {a0 : Array Value} (hw : HW a0 Z) : (Cond.initialized "com/example/invocant/invocant/CanonicalMatchesIgnoringCasePinLaw").before a0 Z = true := hw _ (List.mem_of_getElem? (i := 2) rfl)
theorem own_pd0 : parseMethodDescriptor "(I)Z" = some ⟨[.int], some .boolean⟩ := by decide +kernel
theorem own_w1 {Z : State} {a0 : Array Value} (hw : HW a0 Z) : (Cond.static ⟨"com/example/invocant/invocant/CanonicalMatchesIgnoringCasePinLaw", "isNull", "(I)Z"⟩).before a0 Z = true := hw _ (List.mem_of_getElem? (i := 1) rfl)
theorem sg0_4_2 : decs code [(4, .istore 4, 2), (6, .iload_n 3, 1)] := ⟨at_4, at_6, trivial⟩
theorem sg0_10_1 : decs code [(10, .istore 5, 2)] := ⟨at_10, trivial⟩
theorem own_w4 {Z : State} {a0 : Array Value} (hw : HW a0 Z) : (Cond.classLink "com/example/invocant/invocant/CanonicalMatchesIgnoringCasePinLaw" 26 "com/example/invocant/invocant/Canonical").before a0 Z = true := hw _ (List.mem_of_getElem? (i := 4) rfl)
theorem own_w5 {Z : State} {a0 : Array Value} (hw : HW a0 Z) : (Cond.instantiable "com/example/invocant/invocant/Canonical" 2).before a0 Z = true := hw _ (List.mem_of_getElem? (i := 5) rfl)
theorem own_w6 {Z : State} {a0 : Array Value} (hw : HW a0 Z) : (Cond.initialized "com/example/invocant/invocant/Canonical").before a0 Z = true := hw _ (List.mem_of_getElem? (i := 6) rfl)
theorem own_w56 {Z : State} {a0 : Array Value} (hw : HW a0 Z) : (Cond.laysFinal "com/example/invocant/invocant/Canonical" "com/example/invocant/invocant/Canonical" "url" "Ljava/lang/String;").before a0 Z = true := hw _ (List.mem_of_getElem? (i := 56) rfl)
theorem own_w58 {Z : State} {a0 : Array Value} (hw : HW a0 Z) : (Cond.laysFinal "com/example/invocant/invocant/Canonical" "com/example/invocant/invocant/Canonical" "version" "Ljava/lang/String;").before a0 Z = true := hw _ (List.mem_of_getElem? (i := 58) rfl)
theorem own_w7 {Z : State} {a0 : Array Value} (hw : HW a0 Z) : (Cond.methodLink "com/example/invocant/invocant/CanonicalMatchesIgnoringCasePinLaw" 28 ⟨"com/example/invocant/invocant/CanonicalMatchesIgnoringCasePinLaw", "str", "(I)Ljava/lang/String;"⟩).before a0 Z = true := hw _ (List.mem_of_getElem? (i := 7) rfl)
theorem sg0_15_2 : decs code [(15, .dup, 1), (16, .iload_n 0, 1)] := ⟨at_15, at_16, trivial⟩
theorem d2_0 : decode method_3_code 0 = .ok (.iload_n 0, 1) := by decide +kernel
theorem d2_1 : decode method_3_code 1 = .ok (.iconst 3, 1) := by decide +kernel
theorem d2_2 : decode method_3_code 2 = .ok (.iand, 1) := by decide +kernel
theorem d2_3 : decode method_3_code 3 = .ok (.istore_n 1, 1) := by decide +kernel
theorem sg2_0_4 : decs method_3_code [(0, .iload_n 0, 1), (1, .iconst 3, 1), (2, .iand, 1), (3, .istore_n 1, 1)] := ⟨d2_0, d2_1, d2_2, d2_3, trivial⟩
theorem d2_4 : decode method_3_code 4 = .ok (.iload_n 1, 1) := by decide +kernel
theorem sg2_4_1 : decs method_3_code [(4, .iload_n 1, 1)] := ⟨d2_4, trivial⟩
theorem d2_5 : decode method_3_code 5 = .ok (.newarray .char, 2) := by decide +kernel
theorem own_w10 {Z : State} {a0 : Array Value} (hw : HW a0 Z) : (Cond.arrayClass Jvm.ClassFile.FieldType.char).before a0 Z = true := hw _ (List.mem_of_getElem? (i := 10) rfl)
theorem d2_7 : decode method_3_code 7 = .ok (.astore_n 2, 1) := by decide +kernel
theorem d2_8 : decode method_3_code 8 = .ok (.iload_n 1, 1) := by decide +kernel
theorem sg2_7_2 : decs method_3_code [(7, .astore_n 2, 1), (8, .iload_n 1, 1)] := ⟨d2_7, d2_8, trivial⟩
theorem d2_9 : decode method_3_code 9 = .ok (.ifCond .le 11, 3) := by decide +kernel
theorem d2_20 : decode method_3_code 20 = .ok (.iload_n 1, 1) := by decide +kernel
theorem d2_21 : decode method_3_code 21 = .ok (.iconst 1, 1) := by decide +kernel
theorem sg2_20_2 : decs method_3_code [(20, .iload_n 1, 1), (21, .iconst 1, 1)] := ⟨d2_20, d2_21, trivial⟩
theorem d2_22 : decode method_3_code 22 = .ok (.if_icmp .le 11, 3) := by decide +kernel
theorem d2_33 : decode method_3_code 33 = .ok (.iload_n 1, 1) := by decide +kernel
theorem d2_34 : decode method_3_code 34 = .ok (.iconst 2, 1) := by decide +kernel
theorem sg2_33_2 : decs method_3_code [(33, .iload_n 1, 1), (34, .iconst 2, 1)] := ⟨d2_33, d2_34, trivial⟩
theorem d2_35 : decode method_3_code 35 = .ok (.if_icmp .le 11, 3) := by decide +kernel
theorem d2_46 : decode method_3_code 46 = .ok (.new 13, 3) := by decide +kernel
theorem own_w11 {Z : State} {a0 : Array Value} (hw : HW a0 Z) : (Cond.classLink "com/example/invocant/invocant/CanonicalMatchesIgnoringCasePinLaw" 13 "java/lang/String").before a0 Z = true := hw _ (List.mem_of_getElem? (i := 11) rfl)
theorem own_w12 {Z : State} {a0 : Array Value} (hw : HW a0 Z) : (Cond.instantiable "java/lang/String" 4).before a0 Z = true := hw _ (List.mem_of_getElem? (i := 12) rfl)
theorem own_w13 {Z : State} {a0 : Array Value} (hw : HW a0 Z) : (Cond.initialized "java/lang/String").before a0 Z = true := hw _ (List.mem_of_getElem? (i := 13) rfl)
theorem own_w26 {Z : State} {a0 : Array Value} (hw : HW a0 Z) : (Cond.laysFinal "java/lang/String" "java/lang/String" "value" "[B").before a0 Z = true := hw _ (List.mem_of_getElem? (i := 26) rfl)
theorem own_w27 {Z : State} {a0 : Array Value} (hw : HW a0 Z) : (Cond.laysFinal "java/lang/String" "java/lang/String" "coder" "B").before a0 Z = true := hw _ (List.mem_of_getElem? (i := 27) rfl)
theorem d2_49 : decode method_3_code 49 = .ok (.dup, 1) := by decide +kernel
theorem d2_50 : decode method_3_code 50 = .ok (.aload_n 2, 1) := by decide +kernel
theorem own_w14 {Z : State} {a0 : Array Value} (hw : HW a0 Z) : (Cond.methodLink "com/example/invocant/invocant/CanonicalMatchesIgnoringCasePinLaw" 15 ⟨"java/lang/String", "<init>", "([C)V"⟩).before a0 Z = true := hw _ (List.mem_of_getElem? (i := 14) rfl)
theorem sg2_49_2 : decs method_3_code [(49, .dup, 1), (50, .aload_n 2, 1)] := ⟨d2_49, d2_50, trivial⟩
theorem d2_51 : decode method_3_code 51 = .ok (.invokespecial 15, 3) := by decide +kernel
theorem d3_0 : decode jdk_42_method_3_code 0 = .ok (.aload_n 0, 1) := by decide +kernel
theorem d3_1 : decode jdk_42_method_3_code 1 = .ok (.aload_n 1, 1) := by decide +kernel
theorem d3_2 : decode jdk_42_method_3_code 2 = .ok (.iconst 0, 1) := by decide +kernel
theorem d3_3 : decode jdk_42_method_3_code 3 = .ok (.aload_n 1, 1) := by decide +kernel
theorem sg3_0_4 : decs jdk_42_method_3_code [(0, .aload_n 0, 1), (1, .aload_n 1, 1), (2, .iconst 0, 1), (3, .aload_n 1, 1)] := ⟨d3_0, d3_1, d3_2, d3_3, trivial⟩
theorem d3_4 : decode jdk_42_method_3_code 4 = .ok (.arraylength, 1) := by decide +kernel
theorem d3_5 : decode jdk_42_method_3_code 5 = .ok (.aconst_null, 1) := by decide +kernel
theorem own_w17 {Z : State} {a0 : Array Value} (hw : HW a0 Z) : (Cond.methodLink "java/lang/String" 27 ⟨"java/lang/String", "<init>", "([CIILjava/lang/Void;)V"⟩).before a0 Z = true := hw _ (List.mem_of_getElem? (i := 17) rfl)
theorem sg3_5_1 : decs jdk_42_method_3_code [(5, .aconst_null, 1)] := ⟨d3_5, trivial⟩
theorem d3_6 : decode jdk_42_method_3_code 6 = .ok (.invokespecial 27, 3) := by decide +kernel
theorem d4_0 : decode jdk_42_method_149_code 0 = .ok (.aload_n 0, 1) := by decide +kernel
theorem own_w21 {Z : State} {a0 : Array Value} (hw : HW a0 Z) : (Cond.methodLink "java/lang/String" 1 ⟨"java/lang/Object", "<init>", "()V"⟩).before a0 Z = true := hw _ (List.mem_of_getElem? (i := 21) rfl)
theorem sg4_0_1 : decs jdk_42_method_149_code [(0, .aload_n 0, 1)] := ⟨d4_0, trivial⟩
theorem d4_1 : decode jdk_42_method_149_code 1 = .ok (.invokespecial 1, 3) := by decide +kernel
theorem own_w23 {Z : State} {a0 : Array Value} (hw : HW a0 Z) : (Cond.code ⟨"java/lang/Object", "<init>", "()V"⟩ object_method_1_code 1 (Option.none : Option Jvm.ClassFile.FieldType)).before a0 Z = true := hw _ (List.mem_of_getElem? (i := 23) rfl)
theorem own_w22 {Z : State} {a0 : Array Value} (hw : HW a0 Z) : (Cond.instanceMethod ⟨"java/lang/Object", "<init>", "()V"⟩).before a0 Z = true := hw _ (List.mem_of_getElem? (i := 22) rfl)
theorem d4_4 : decode jdk_42_method_149_code 4 = .ok (.iload_n 3, 1) := by decide +kernel
theorem sg4_4_1 : decs jdk_42_method_149_code [(4, .iload_n 3, 1)] := ⟨d4_4, trivial⟩
theorem d4_5 : decode jdk_42_method_149_code 5 = .ok (.ifCond .ne 22, 3) := by decide +kernel
theorem d4_8 : decode jdk_42_method_149_code 8 = .ok (.aload_n 0, 1) := by decide +kernel
theorem sg4_8_1 : decs jdk_42_method_149_code [(8, .aload_n 0, 1)] := ⟨d4_8, trivial⟩
theorem d4_9 : decode jdk_42_method_149_code 9 = .ok (.ldc 7, 2) := by decide +kernel
theorem own_w24 {Z : State} {a0 : Array Value} (hw : HW a0 Z) : (Cond.stringLink "java/lang/String" 7 "").before a0 Z = true := hw _ (List.mem_of_getElem? (i := 24) rfl)
theorem d4_11 : decode jdk_42_method_149_code 11 = .ok (.getfield 9, 3) := by decide +kernel
theorem own_w30 {Z : State} {a0 : Array Value} (hw : HW a0 Z) : (Cond.fieldLink "java/lang/String" 9 "java/lang/String" "value" "[B").before a0 Z = true := hw _ (List.mem_of_getElem? (i := 30) rfl)
theorem d4_14 : decode jdk_42_method_149_code 14 = .ok (.putfield 9, 3) := by decide +kernel
theorem d4_17 : decode jdk_42_method_149_code 17 = .ok (.aload_n 0, 1) := by decide +kernel
theorem sg4_17_1 : decs jdk_42_method_149_code [(17, .aload_n 0, 1)] := ⟨d4_17, trivial⟩
theorem d4_18 : decode jdk_42_method_149_code 18 = .ok (.ldc 7, 2) := by decide +kernel
theorem d4_20 : decode jdk_42_method_149_code 20 = .ok (.getfield 15, 3) := by decide +kernel
theorem own_w31 {Z : State} {a0 : Array Value} (hw : HW a0 Z) : (Cond.fieldLink "java/lang/String" 15 "java/lang/String" "coder" "B").before a0 Z = true := hw _ (List.mem_of_getElem? (i := 31) rfl)
theorem d4_23 : decode jdk_42_method_149_code 23 = .ok (.putfield 15, 3) := by decide +kernel
theorem d4_26 : decode jdk_42_method_149_code 26 = .ok (.return_, 1) := by decide +kernel
theorem ef_rm4_0 (m : MethodId) (x0 : Addr) (x1 : Addr) (x2 : Int32) : entryFrame m #[(.ref x0), (.ref x1), (.int x2), (.int x2), .null] 6 = mkF m 0 #[.val (.ref x0), .val (.ref x1), .val (.int x2), .val (.int x2), .val .null, .unset] [] := by first | (simp [entryFrame, mkF, argsToLocals, Value.category]; done) | rfl
theorem own_pn1 : plainName "java/lang/String" = true := by first | (simp [plainName, overriddenIn]; done) | decide +kernel
theorem own_w20 {Z : State} {a0 : Array Value} (hw : HW a0 Z) : (Cond.code ⟨"java/lang/String", "<init>", "([CIILjava/lang/Void;)V"⟩ jdk_42_method_149_code 6 (Option.none : Option Jvm.ClassFile.FieldType)).before a0 Z = true := hw _ (List.mem_of_getElem? (i := 20) rfl)
theorem own_pd1 : parseMethodDescriptor "([CIILjava/lang/Void;)V" = some ⟨[(.array .char), .int, .int, (.object "java/lang/Void")], none⟩ := by decide +kernel
theorem own_w18 {Z : State} {a0 : Array Value} (hw : HW a0 Z) : (Cond.instanceMethod ⟨"java/lang/String", "<init>", "([CIILjava/lang/Void;)V"⟩).before a0 Z = true := hw _ (List.mem_of_getElem? (i := 18) rfl)
theorem d3_9 : decode jdk_42_method_3_code 9 = .ok (.return_, 1) := by decide +kernel
theorem ef_rm3_0 (m : MethodId) (x0 : Addr) (x1 : Addr) : entryFrame m #[(.ref x0), (.ref x1)] 2 = mkF m 0 #[.val (.ref x0), .val (.ref x1)] [] := by first | (simp [entryFrame, mkF, argsToLocals, Value.category]; done) | rfl
theorem own_w16 {Z : State} {a0 : Array Value} (hw : HW a0 Z) : (Cond.code ⟨"java/lang/String", "<init>", "([C)V"⟩ jdk_42_method_3_code 2 (Option.none : Option Jvm.ClassFile.FieldType)).before a0 Z = true := hw _ (List.mem_of_getElem? (i := 16) rfl)
theorem own_pd2 : parseMethodDescriptor "([C)V" = some ⟨[(.array .char)], none⟩ := by decide +kernel
theorem own_w15 {Z : State} {a0 : Array Value} (hw : HW a0 Z) : (Cond.instanceMethod ⟨"java/lang/String", "<init>", "([C)V"⟩).before a0 Z = true := hw _ (List.mem_of_getElem? (i := 15) rfl)
theorem d2_54 : decode method_3_code 54 = .ok (.areturn, 1) := by decide +kernel
theorem d2_12 : decode method_3_code 12 = .ok (.aload_n 2, 1) := by decide +kernel
theorem d2_13 : decode method_3_code 13 = .ok (.iconst 0, 1) := by decide +kernel
theorem d2_14 : decode method_3_code 14 = .ok (.iload_n 0, 1) := by decide +kernel
theorem d2_15 : decode method_3_code 15 = .ok (.iconst 0, 1) := by decide +kernel
theorem own_w32 {Z : State} {a0 : Array Value} (hw : HW a0 Z) : (Cond.methodLink "com/example/invocant/invocant/CanonicalMatchesIgnoringCasePinLaw" 7 ⟨"com/example/invocant/invocant/CanonicalMatchesIgnoringCasePinLaw", "ch", "(II)C"⟩).before a0 Z = true := hw _ (List.mem_of_getElem? (i := 32) rfl)
theorem sg2_12_4 : decs method_3_code [(12, .aload_n 2, 1), (13, .iconst 0, 1), (14, .iload_n 0, 1), (15, .iconst 0, 1)] := ⟨d2_12, d2_13, d2_14, d2_15, trivial⟩
theorem d2_16 : decode method_3_code 16 = .ok (.invokestatic 7, 3) := by decide +kernel
theorem d6_0 : decode method_2_code 0 = .ok (.iload_n 0, 1) := by decide +kernel
theorem d6_1 : decode method_2_code 1 = .ok (.iconst 2, 1) := by decide +kernel
theorem d6_2 : decode method_2_code 2 = .ok (.bipush 8, 2) := by decide +kernel
theorem d6_4 : decode method_2_code 4 = .ok (.iload_n 1, 1) := by decide +kernel
theorem d6_5 : decode method_2_code 5 = .ok (.imul, 1) := by decide +kernel
theorem d6_6 : decode method_2_code 6 = .ok (.iadd, 1) := by decide +kernel
theorem d6_7 : decode method_2_code 7 = .ok (.iushr, 1) := by decide +kernel
theorem d6_8 : decode method_2_code 8 = .ok (.sipush 255, 3) := by decide +kernel
theorem d6_11 : decode method_2_code 11 = .ok (.iand, 1) := by decide +kernel
theorem d6_12 : decode method_2_code 12 = .ok (.i2c, 1) := by decide +kernel
theorem sg6_0_10 : decs method_2_code [(0, .iload_n 0, 1), (1, .iconst 2, 1), (2, .bipush 8, 2), (4, .iload_n 1, 1), (5, .imul, 1), (6, .iadd, 1), (7, .iushr, 1), (8, .sipush 255, 3), (11, .iand, 1), (12, .i2c, 1)] := ⟨d6_0, d6_1, d6_2, d6_4, d6_5, d6_6, d6_7, d6_8, d6_11, d6_12, trivial⟩
theorem d6_13 : decode method_2_code 13 = .ok (.ireturn, 1) := by decide +kernel
theorem ef_rm6_0 (m : MethodId) (x0 : Int32) (x1 : Int32) : entryFrame m #[(.int x0), (.int x1)] 2 = mkF m 0 #[.val (.int x0), .val (.int x1)] [] := by first | (simp [entryFrame, mkF, argsToLocals, Value.category]; done) | rfl
theorem own_w34 {Z : State} {a0 : Array Value} (hw : HW a0 Z) : (Cond.code ⟨"com/example/invocant/invocant/CanonicalMatchesIgnoringCasePinLaw", "ch", "(II)C"⟩ method_2_code 2 (Option.some Jvm.ClassFile.FieldType.char)).before a0 Z = true := hw _ (List.mem_of_getElem? (i := 34) rfl)
theorem own_pd3 : parseMethodDescriptor "(II)C" = some ⟨[.int, .int], some .char⟩ := by decide +kernel
theorem own_w33 {Z : State} {a0 : Array Value} (hw : HW a0 Z) : (Cond.static ⟨"com/example/invocant/invocant/CanonicalMatchesIgnoringCasePinLaw", "ch", "(II)C"⟩).before a0 Z = true := hw _ (List.mem_of_getElem? (i := 33) rfl)
theorem d2_19 : decode method_3_code 19 = .ok (.castore, 1) := by decide +kernel
theorem d4_27 : decode jdk_42_method_149_code 27 = .ok (.getstatic 38, 3) := by decide +kernel
theorem own_w35 {Z : State} {a0 : Array Value} (hw : HW a0 Z) : (Cond.fieldLink "java/lang/String" 38 "java/lang/String" "COMPACT_STRINGS" "Z").before a0 Z = true := hw _ (List.mem_of_getElem? (i := 35) rfl)
theorem d4_30 : decode jdk_42_method_149_code 30 = .ok (.ifCond .eq 28, 3) := by decide +kernel
theorem d4_33 : decode jdk_42_method_149_code 33 = .ok (.aload_n 1, 1) := by decide +kernel
theorem d4_34 : decode jdk_42_method_149_code 34 = .ok (.iload_n 2, 1) := by decide +kernel
theorem d4_35 : decode jdk_42_method_149_code 35 = .ok (.iload_n 3, 1) := by decide +kernel
theorem own_w36 {Z : State} {a0 : Array Value} (hw : HW a0 Z) : (Cond.methodLink "java/lang/String" 177 ⟨"java/lang/StringUTF16", "compress", "([CII)[B"⟩).before a0 Z = true := hw _ (List.mem_of_getElem? (i := 36) rfl)
theorem sg4_33_3 : decs jdk_42_method_149_code [(33, .aload_n 1, 1), (34, .iload_n 2, 1), (35, .iload_n 3, 1)] := ⟨d4_33, d4_34, d4_35, trivial⟩
theorem d4_36 : decode jdk_42_method_149_code 36 = .ok (.invokestatic 177, 3) := by decide +kernel
theorem d7_0 : decode jdk_52_method_16_code 0 = .ok (.iload_n 2, 1) := by decide +kernel
theorem sg7_0_1 : decs jdk_52_method_16_code [(0, .iload_n 2, 1)] := ⟨d7_0, trivial⟩
theorem d7_1 : decode jdk_52_method_16_code 1 = .ok (.newarray .byte, 2) := by decide +kernel
theorem own_w25 {Z : State} {a0 : Array Value} (hw : HW a0 Z) : (Cond.arrayClass Jvm.ClassFile.FieldType.byte).before a0 Z = true := hw _ (List.mem_of_getElem? (i := 25) rfl)
theorem d7_3 : decode jdk_52_method_16_code 3 = .ok (.astore_n 3, 1) := by decide +kernel
theorem d7_4 : decode jdk_52_method_16_code 4 = .ok (.aload_n 0, 1) := by decide +kernel
theorem d7_5 : decode jdk_52_method_16_code 5 = .ok (.iload_n 1, 1) := by decide +kernel
theorem d7_6 : decode jdk_52_method_16_code 6 = .ok (.aload_n 3, 1) := by decide +kernel
theorem d7_7 : decode jdk_52_method_16_code 7 = .ok (.iconst 0, 1) := by decide +kernel
theorem d7_8 : decode jdk_52_method_16_code 8 = .ok (.iload_n 2, 1) := by decide +kernel
theorem own_w40 {Z : State} {a0 : Array Value} (hw : HW a0 Z) : (Cond.methodLink "java/lang/StringUTF16" 115 ⟨"java/lang/StringUTF16", "compress", "([CI[BII)I"⟩).before a0 Z = true := hw _ (List.mem_of_getElem? (i := 40) rfl)
theorem sg7_3_6 : decs jdk_52_method_16_code [(3, .astore_n 3, 1), (4, .aload_n 0, 1), (5, .iload_n 1, 1), (6, .aload_n 3, 1), (7, .iconst 0, 1), (8, .iload_n 2, 1)] := ⟨d7_3, d7_4, d7_5, d7_6, d7_7, d7_8, trivial⟩
theorem d7_9 : decode jdk_52_method_16_code 9 = .ok (.invokestatic 115, 3) := by decide +kernel
theorem d8_0 : decode jdk_52_method_21_code 0 = .ok (.iconst 0, 1) := by decide +kernel
theorem d8_1 : decode jdk_52_method_21_code 1 = .ok (.istore 5, 2) := by decide +kernel
theorem d8_3 : decode jdk_52_method_21_code 3 = .ok (.iload 5, 2) := by decide +kernel
theorem d8_5 : decode jdk_52_method_21_code 5 = .ok (.iload 4, 2) := by decide +kernel
theorem sg8_0_4 : decs jdk_52_method_21_code [(0, .iconst 0, 1), (1, .istore 5, 2), (3, .iload 5, 2), (5, .iload 4, 2)] := ⟨d8_0, d8_1, d8_3, d8_5, trivial⟩
theorem d8_7 : decode jdk_52_method_21_code 7 = .ok (.if_icmp .ge 37, 3) := by decide +kernel
theorem d8_10 : decode jdk_52_method_21_code 10 = .ok (.aload_n 0, 1) := by decide +kernel
theorem d8_11 : decode jdk_52_method_21_code 11 = .ok (.iload_n 1, 1) := by decide +kernel
theorem sg8_10_2 : decs jdk_52_method_21_code [(10, .aload_n 0, 1), (11, .iload_n 1, 1)] := ⟨d8_10, d8_11, trivial⟩
theorem d8_12 : decode jdk_52_method_21_code 12 = .ok (.caload, 1) := by decide +kernel
theorem d8_13 : decode jdk_52_method_21_code 13 = .ok (.istore 6, 2) := by decide +kernel
theorem d8_15 : decode jdk_52_method_21_code 15 = .ok (.iload 6, 2) := by decide +kernel
theorem d8_17 : decode jdk_52_method_21_code 17 = .ok (.sipush 255, 3) := by decide +kernel
theorem sg8_13_3 : decs jdk_52_method_21_code [(13, .istore 6, 2), (15, .iload 6, 2), (17, .sipush 255, 3)] := ⟨d8_13, d8_15, d8_17, trivial⟩
theorem d8_20 : decode jdk_52_method_21_code 20 = .ok (.if_icmp .le 6, 3) := by decide +kernel
theorem d8_26 : decode jdk_52_method_21_code 26 = .ok (.aload_n 2, 1) := by decide +kernel
theorem d8_27 : decode jdk_52_method_21_code 27 = .ok (.iload_n 3, 1) := by decide +kernel
theorem d8_28 : decode jdk_52_method_21_code 28 = .ok (.iload 6, 2) := by decide +kernel
theorem d8_30 : decode jdk_52_method_21_code 30 = .ok (.i2b, 1) := by decide +kernel
theorem sg8_26_4 : decs jdk_52_method_21_code [(26, .aload_n 2, 1), (27, .iload_n 3, 1), (28, .iload 6, 2), (30, .i2b, 1)] := ⟨d8_26, d8_27, d8_28, d8_30, trivial⟩
theorem d8_31 : decode jdk_52_method_21_code 31 = .ok (.bastore, 1) := by decide +kernel
theorem d8_32 : decode jdk_52_method_21_code 32 = .ok (.iinc 1 1, 3) := by decide +kernel
theorem d8_35 : decode jdk_52_method_21_code 35 = .ok (.iinc 3 1, 3) := by decide +kernel
theorem d8_38 : decode jdk_52_method_21_code 38 = .ok (.iinc 5 1, 3) := by decide +kernel
theorem d8_41 : decode jdk_52_method_21_code 41 = .ok (.goto (-38), 3) := by decide +kernel
theorem sg8_32_6 : decs jdk_52_method_21_code [(32, .iinc 1 1, 3), (35, .iinc 3 1, 3), (38, .iinc 5 1, 3), (41, .goto (-38), 3), (3, .iload 5, 2), (5, .iload 4, 2)] := ⟨d8_32, d8_35, d8_38, d8_41, d8_3, d8_5, trivial⟩
theorem d8_44 : decode jdk_52_method_21_code 44 = .ok (.iload 4, 2) := by decide +kernel
theorem sg8_44_1 : decs jdk_52_method_21_code [(44, .iload 4, 2)] := ⟨d8_44, trivial⟩
theorem d8_46 : decode jdk_52_method_21_code 46 = .ok (.ireturn, 1) := by decide +kernel
theorem ef_rm8_0 (m : MethodId) (x0 : Addr) (x1 : Int32) (x2 : Addr) (x4 : Int32) : entryFrame m #[(.ref x0), (.int x1), (.ref x2), (.int x1), (.int x4)] 7 = mkF m 0 #[.val (.ref x0), .val (.int x1), .val (.ref x2), .val (.int x1), .val (.int x4), .unset, .unset] [] := by first | (simp [entryFrame, mkF, argsToLocals, Value.category]; done) | rfl
theorem own_pn2 : plainName "java/lang/StringUTF16" = true := by first | (simp [plainName, overriddenIn]; done) | decide +kernel
theorem own_w42 {Z : State} {a0 : Array Value} (hw : HW a0 Z) : (Cond.code ⟨"java/lang/StringUTF16", "compress", "([CI[BII)I"⟩ jdk_52_method_21_code 7 (Option.some Jvm.ClassFile.FieldType.int)).before a0 Z = true := hw _ (List.mem_of_getElem? (i := 42) rfl)
theorem own_w38 {Z : State} {a0 : Array Value} (hw : HW a0 Z) : (Cond.initialized "java/lang/StringUTF16").before a0 Z = true := hw _ (List.mem_of_getElem? (i := 38) rfl)
theorem own_pd4 : parseMethodDescriptor "([CI[BII)I" = some ⟨[(.array .char), .int, (.array .byte), .int, .int], some .int⟩ := by decide +kernel
theorem own_w41 {Z : State} {a0 : Array Value} (hw : HW a0 Z) : (Cond.static ⟨"java/lang/StringUTF16", "compress", "([CI[BII)I"⟩).before a0 Z = true := hw _ (List.mem_of_getElem? (i := 41) rfl)
theorem d7_12 : decode jdk_52_method_16_code 12 = .ok (.istore 4, 2) := by decide +kernel
theorem d7_14 : decode jdk_52_method_16_code 14 = .ok (.iload 4, 2) := by decide +kernel
theorem d7_16 : decode jdk_52_method_16_code 16 = .ok (.iload_n 2, 1) := by decide +kernel
theorem sg7_12_3 : decs jdk_52_method_16_code [(12, .istore 4, 2), (14, .iload 4, 2), (16, .iload_n 2, 1)] := ⟨d7_12, d7_14, d7_16, trivial⟩
theorem d7_17 : decode jdk_52_method_16_code 17 = .ok (.if_icmp .eq 40, 3) := by decide +kernel
theorem d7_57 : decode jdk_52_method_16_code 57 = .ok (.aload_n 3, 1) := by decide +kernel
theorem sg7_57_1 : decs jdk_52_method_16_code [(57, .aload_n 3, 1)] := ⟨d7_57, trivial⟩
theorem d7_58 : decode jdk_52_method_16_code 58 = .ok (.areturn, 1) := by decide +kernel
theorem ef_rm7_0 (m : MethodId) (x0 : Addr) (x1 : Int32) (x2 : Int32) : entryFrame m #[(.ref x0), (.int x1), (.int x2)] 6 = mkF m 0 #[.val (.ref x0), .val (.int x1), .val (.int x2), .unset, .unset, .unset] [] := by first | (simp [entryFrame, mkF, argsToLocals, Value.category]; done) | rfl
theorem own_w39 {Z : State} {a0 : Array Value} (hw : HW a0 Z) : (Cond.code ⟨"java/lang/StringUTF16", "compress", "([CII)[B"⟩ jdk_52_method_16_code 6 (Option.some (Jvm.ClassFile.FieldType.array Jvm.ClassFile.FieldType.byte))).before a0 Z = true := hw _ (List.mem_of_getElem? (i := 39) rfl)
theorem own_pd5 : parseMethodDescriptor "([CII)[B" = some ⟨[(.array .char), .int, .int], some (.array .byte)⟩ := by decide +kernel
theorem own_w37 {Z : State} {a0 : Array Value} (hw : HW a0 Z) : (Cond.static ⟨"java/lang/StringUTF16", "compress", "([CII)[B"⟩).before a0 Z = true := hw _ (List.mem_of_getElem? (i := 37) rfl)
theorem d4_39 : decode jdk_42_method_149_code 39 = .ok (.astore 5, 2) := by decide +kernel
theorem d4_41 : decode jdk_42_method_149_code 41 = .ok (.aload_n 0, 1) := by decide +kernel
theorem d4_42 : decode jdk_42_method_149_code 42 = .ok (.aload 5, 2) := by decide +kernel
theorem d4_44 : decode jdk_42_method_149_code 44 = .ok (.iload_n 3, 1) := by decide +kernel
theorem own_w43 {Z : State} {a0 : Array Value} (hw : HW a0 Z) : (Cond.methodLink "java/lang/String" 47 ⟨"java/lang/StringUTF16", "coderFromArrayLen", "([BI)B"⟩).before a0 Z = true := hw _ (List.mem_of_getElem? (i := 43) rfl)
theorem sg4_39_4 : decs jdk_42_method_149_code [(39, .astore 5, 2), (41, .aload_n 0, 1), (42, .aload 5, 2), (44, .iload_n 3, 1)] := ⟨d4_39, d4_41, d4_42, d4_44, trivial⟩
theorem d4_45 : decode jdk_42_method_149_code 45 = .ok (.invokestatic 47, 3) := by decide +kernel
theorem d9_0 : decode jdk_52_method_15_code 0 = .ok (.iload_n 1, 1) := by decide +kernel
theorem d9_1 : decode jdk_52_method_15_code 1 = .ok (.aload_n 0, 1) := by decide +kernel
theorem sg9_0_2 : decs jdk_52_method_15_code [(0, .iload_n 1, 1), (1, .aload_n 0, 1)] := ⟨d9_0, d9_1, trivial⟩
theorem d9_2 : decode jdk_52_method_15_code 2 = .ok (.arraylength, 1) := by decide +kernel
theorem d9_3 : decode jdk_52_method_15_code 3 = .ok (.isub, 1) := by decide +kernel
theorem d9_4 : decode jdk_52_method_15_code 4 = .ok (.bipush 31, 2) := by decide +kernel
theorem d9_6 : decode jdk_52_method_15_code 6 = .ok (.iushr, 1) := by decide +kernel
theorem d9_7 : decode jdk_52_method_15_code 7 = .ok (.i2b, 1) := by decide +kernel
theorem sg9_3_4 : decs jdk_52_method_15_code [(3, .isub, 1), (4, .bipush 31, 2), (6, .iushr, 1), (7, .i2b, 1)] := ⟨d9_3, d9_4, d9_6, d9_7, trivial⟩
theorem d9_8 : decode jdk_52_method_15_code 8 = .ok (.ireturn, 1) := by decide +kernel
theorem ef_rm9_0 (m : MethodId) (x0 : Addr) (x1 : Int32) : entryFrame m #[(.ref x0), (.int x1)] 2 = mkF m 0 #[.val (.ref x0), .val (.int x1)] [] := by first | (simp [entryFrame, mkF, argsToLocals, Value.category]; done) | rfl
theorem own_w45 {Z : State} {a0 : Array Value} (hw : HW a0 Z) : (Cond.code ⟨"java/lang/StringUTF16", "coderFromArrayLen", "([BI)B"⟩ jdk_52_method_15_code 2 (Option.some Jvm.ClassFile.FieldType.byte)).before a0 Z = true := hw _ (List.mem_of_getElem? (i := 45) rfl)
theorem own_pd6 : parseMethodDescriptor "([BI)B" = some ⟨[(.array .byte), .int], some .byte⟩ := by decide +kernel
theorem own_w44 {Z : State} {a0 : Array Value} (hw : HW a0 Z) : (Cond.static ⟨"java/lang/StringUTF16", "coderFromArrayLen", "([BI)B"⟩).before a0 Z = true := hw _ (List.mem_of_getElem? (i := 44) rfl)
theorem d4_48 : decode jdk_42_method_149_code 48 = .ok (.putfield 15, 3) := by decide +kernel
theorem d4_51 : decode jdk_42_method_149_code 51 = .ok (.aload_n 0, 1) := by decide +kernel
theorem d4_52 : decode jdk_42_method_149_code 52 = .ok (.aload 5, 2) := by decide +kernel
theorem sg4_51_2 : decs jdk_42_method_149_code [(51, .aload_n 0, 1), (52, .aload 5, 2)] := ⟨d4_51, d4_52, trivial⟩
theorem d4_54 : decode jdk_42_method_149_code 54 = .ok (.putfield 9, 3) := by decide +kernel
theorem d4_57 : decode jdk_42_method_149_code 57 = .ok (.return_, 1) := by decide +kernel
theorem ef_rm4_1 (m : MethodId) (x0 : Addr) (x1 : Addr) (x2 : Int32) (x3 : Int32) : entryFrame m #[(.ref x0), (.ref x1), (.int x2), (.int x3), .null] 6 = mkF m 0 #[.val (.ref x0), .val (.ref x1), .val (.int x2), .val (.int x3), .val .null, .unset] [] := by first | (simp [entryFrame, mkF, argsToLocals, Value.category]; done) | rfl
theorem ef_rm3_1 (m : MethodId) (x0 : Addr) (x1 : Addr) : entryFrame m #[(.ref x0), (.ref x1)] 2 = mkF m 0 #[.val (.ref x0), .val (.ref x1)] [] := by first | (simp [entryFrame, mkF, argsToLocals, Value.category]; done) | rfl
theorem d2_25 : decode method_3_code 25 = .ok (.aload_n 2, 1) := by decide +kernel
theorem d2_26 : decode method_3_code 26 = .ok (.iconst 1, 1) := by decide +kernel
theorem d2_27 : decode method_3_code 27 = .ok (.iload_n 0, 1) := by decide +kernel
theorem d2_28 : decode method_3_code 28 = .ok (.iconst 1, 1) := by decide +kernel
theorem sg2_25_4 : decs method_3_code [(25, .aload_n 2, 1), (26, .iconst 1, 1), (27, .iload_n 0, 1), (28, .iconst 1, 1)] := ⟨d2_25, d2_26, d2_27, d2_28, trivial⟩
theorem d2_29 : decode method_3_code 29 = .ok (.invokestatic 7, 3) := by decide +kernel
theorem ef_rm6_1 (m : MethodId) (x0 : Int32) (x1 : Int32) : entryFrame m #[(.int x0), (.int x1)] 2 = mkF m 0 #[.val (.int x0), .val (.int x1)] [] := by first | (simp [entryFrame, mkF, argsToLocals, Value.category]; done) | rfl
theorem d2_32 : decode method_3_code 32 = .ok (.castore, 1) := by decide +kernel
theorem ef_rm8_1 (m : MethodId) (x0 : Addr) (x1 : Int32) (x2 : Addr) (x4 : Int32) : entryFrame m #[(.ref x0), (.int x1), (.ref x2), (.int x1), (.int x4)] 7 = mkF m 0 #[.val (.ref x0), .val (.int x1), .val (.ref x2), .val (.int x1), .val (.int x4), .unset, .unset] [] := by first | (simp [entryFrame, mkF, argsToLocals, Value.category]; done) | rfl
theorem ef_rm7_1 (m : MethodId) (x0 : Addr) (x1 : Int32) (x2 : Int32) : entryFrame m #[(.ref x0), (.int x1), (.int x2)] 6 = mkF m 0 #[.val (.ref x0), .val (.int x1), .val (.int x2), .unset, .unset, .unset] [] := by first | (simp [entryFrame, mkF, argsToLocals, Value.category]; done) | rfl
theorem ef_rm9_1 (m : MethodId) (x0 : Addr) (x1 : Int32) : entryFrame m #[(.ref x0), (.int x1)] 2 = mkF m 0 #[.val (.ref x0), .val (.int x1)] [] := by first | (simp [entryFrame, mkF, argsToLocals, Value.category]; done) | rfl
theorem ef_rm4_2 (m : MethodId) (x0 : Addr) (x1 : Addr) (x2 : Int32) (x3 : Int32) : entryFrame m #[(.ref x0), (.ref x1), (.int x2), (.int x3), .null] 6 = mkF m 0 #[.val (.ref x0), .val (.ref x1), .val (.int x2), .val (.int x3), .val .null, .unset] [] := by first | (simp [entryFrame, mkF, argsToLocals, Value.category]; done) | rfl
theorem ef_rm3_2 (m : MethodId) (x0 : Addr) (x1 : Addr) : entryFrame m #[(.ref x0), (.ref x1)] 2 = mkF m 0 #[.val (.ref x0), .val (.ref x1)] [] := by first | (simp [entryFrame, mkF, argsToLocals, Value.category]; done) | rfl
theorem d2_38 : decode method_3_code 38 = .ok (.aload_n 2, 1) := by decide +kernel
theorem d2_39 : decode method_3_code 39 = .ok (.iconst 2, 1) := by decide +kernel
theorem d2_40 : decode method_3_code 40 = .ok (.iload_n 0, 1) := by decide +kernel
theorem d2_41 : decode method_3_code 41 = .ok (.iconst 2, 1) := by decide +kernel
theorem sg2_38_4 : decs method_3_code [(38, .aload_n 2, 1), (39, .iconst 2, 1), (40, .iload_n 0, 1), (41, .iconst 2, 1)] := ⟨d2_38, d2_39, d2_40, d2_41, trivial⟩
theorem d2_42 : decode method_3_code 42 = .ok (.invokestatic 7, 3) := by decide +kernel
theorem ef_rm6_2 (m : MethodId) (x0 : Int32) (x1 : Int32) : entryFrame m #[(.int x0), (.int x1)] 2 = mkF m 0 #[.val (.int x0), .val (.int x1)] [] := by first | (simp [entryFrame, mkF, argsToLocals, Value.category]; done) | rfl
theorem d2_45 : decode method_3_code 45 = .ok (.castore, 1) := by decide +kernel
theorem ef_rm8_2 (m : MethodId) (x0 : Addr) (x1 : Int32) (x2 : Addr) (x4 : Int32) : entryFrame m #[(.ref x0), (.int x1), (.ref x2), (.int x1), (.int x4)] 7 = mkF m 0 #[.val (.ref x0), .val (.int x1), .val (.ref x2), .val (.int x1), .val (.int x4), .unset, .unset] [] := by first | (simp [entryFrame, mkF, argsToLocals, Value.category]; done) | rfl
theorem ef_rm7_2 (m : MethodId) (x0 : Addr) (x1 : Int32) (x2 : Int32) : entryFrame m #[(.ref x0), (.int x1), (.int x2)] 6 = mkF m 0 #[.val (.ref x0), .val (.int x1), .val (.int x2), .unset, .unset, .unset] [] := by first | (simp [entryFrame, mkF, argsToLocals, Value.category]; done) | rfl
theorem ef_rm9_2 (m : MethodId) (x0 : Addr) (x1 : Int32) : entryFrame m #[(.ref x0), (.int x1)] 2 = mkF m 0 #[.val (.ref x0), .val (.int x1)] [] := by first | (simp [entryFrame, mkF, argsToLocals, Value.category]; done) | rfl
theorem ef_rm4_3 (m : MethodId) (x0 : Addr) (x1 : Addr) (x2 : Int32) (x3 : Int32) : entryFrame m #[(.ref x0), (.ref x1), (.int x2), (.int x3), .null] 6 = mkF m 0 #[.val (.ref x0), .val (.ref x1), .val (.int x2), .val (.int x3), .val .null, .unset] [] := by first | (simp [entryFrame, mkF, argsToLocals, Value.category]; done) | rfl
theorem ef_rm3_3 (m : MethodId) (x0 : Addr) (x1 : Addr) : entryFrame m #[(.ref x0), (.ref x1)] 2 = mkF m 0 #[.val (.ref x0), .val (.ref x1)] [] := by first | (simp [entryFrame, mkF, argsToLocals, Value.category]; done) | rfl
def cs_rm2_0 (i0 : Int32) : List Int32 := (if (i0 &&& (3 : Int32)) = (0 : Int32) then [] else (if (i0 &&& (3 : Int32)) = (1 : Int32) then [((((i0.toUInt32 >>> ((2 : Int32) &&& 31).toUInt32).toInt32) &&& (255 : Int32)).toInt8.toInt32)] else (if (i0 &&& (3 : Int32)) = (2 : Int32) then [((((i0.toUInt32 >>> ((2 : Int32) &&& 31).toUInt32).toInt32) &&& (255 : Int32)).toInt8.toInt32), ((((i0.toUInt32 >>> ((10 : Int32) &&& 31).toUInt32).toInt32) &&& (255 : Int32)).toInt8.toInt32)] else [((((i0.toUInt32 >>> ((2 : Int32) &&& 31).toUInt32).toInt32) &&& (255 : Int32)).toInt8.toInt32), ((((i0.toUInt32 >>> ((10 : Int32) &&& 31).toUInt32).toInt32) &&& (255 : Int32)).toInt8.toInt32), ((((i0.toUInt32 >>> ((18 : Int32) &&& 31).toUInt32).toInt32) &&& (255 : Int32)).toInt8.toInt32)])))
theorem cs_rm2_0_short (i0 : Int32) : (cs_rm2_0 i0).length ≤ 3 := by unfold cs_rm2_0; (repeat' split) <;> simp
theorem ef_rm2_0 (m : MethodId) (x0 : Int32) : entryFrame m #[(.int x0)] 3 = mkF m 0 #[.val (.int x0), .unset, .unset] [] := by first | (simp [entryFrame, mkF, argsToLocals, Value.category]; done) | rfl
theorem own_w9 {Z : State} {a0 : Array Value} (hw : HW a0 Z) : (Cond.code ⟨"com/example/invocant/invocant/CanonicalMatchesIgnoringCasePinLaw", "str", "(I)Ljava/lang/String;"⟩ method_3_code 3 (Option.some (Jvm.ClassFile.FieldType.object "java/lang/String"))).before a0 Z = true := hw _ (List.mem_of_getElem? (i := 9) rfl)
theorem own_pd7 : parseMethodDescriptor "(I)Ljava/lang/String;" = some ⟨[.int], some (.object "java/lang/String")⟩ := by decide +kernel
theorem own_w8 {Z : State} {a0 : Array Value} (hw : HW a0 Z) : (Cond.static ⟨"com/example/invocant/invocant/CanonicalMatchesIgnoringCasePinLaw", "str", "(I)Ljava/lang/String;"⟩).before a0 Z = true := hw _ (List.mem_of_getElem? (i := 8) rfl)
theorem sg0_20_1 : decs code [(20, .iload 4, 2)] := ⟨at_20, trivial⟩
theorem sg0_29_1 : decs code [(29, .iload_n 1, 1)] := ⟨at_29, trivial⟩
theorem sg0_25_2 : decs code [(25, .aconst_null, 1), (26, .goto 7, 3)] := ⟨at_25, at_26, trivial⟩
theorem own_w46 {Z : State} {a0 : Array Value} (hw : HW a0 Z) : (Cond.methodLink "com/example/invocant/invocant/CanonicalMatchesIgnoringCasePinLaw" 32 ⟨"com/example/invocant/invocant/Canonical", "<init>", "(Ljava/lang/String;Ljava/lang/String;)V"⟩).before a0 Z = true := hw _ (List.mem_of_getElem? (i := 46) rfl)
theorem d10_0 : decode prog_3_method_1_code 0 = .ok (.aload_n 0, 1) := by decide +kernel
theorem own_w49 {Z : State} {a0 : Array Value} (hw : HW a0 Z) : (Cond.methodLink "com/example/invocant/invocant/Canonical" 1 ⟨"java/lang/Record", "<init>", "()V"⟩).before a0 Z = true := hw _ (List.mem_of_getElem? (i := 49) rfl)
theorem sg10_0_1 : decs prog_3_method_1_code [(0, .aload_n 0, 1)] := ⟨d10_0, trivial⟩
theorem d10_1 : decode prog_3_method_1_code 1 = .ok (.invokespecial 1, 3) := by decide +kernel
theorem d11_0 : decode jdk_30_method_1_code 0 = .ok (.aload_n 0, 1) := by decide +kernel
theorem own_w54 {Z : State} {a0 : Array Value} (hw : HW a0 Z) : (Cond.methodLink "java/lang/Record" 1 ⟨"java/lang/Object", "<init>", "()V"⟩).before a0 Z = true := hw _ (List.mem_of_getElem? (i := 54) rfl)
theorem sg11_0_1 : decs jdk_30_method_1_code [(0, .aload_n 0, 1)] := ⟨d11_0, trivial⟩
theorem d11_1 : decode jdk_30_method_1_code 1 = .ok (.invokespecial 1, 3) := by decide +kernel
theorem d11_4 : decode jdk_30_method_1_code 4 = .ok (.return_, 1) := by decide +kernel
theorem ef_rm11_0 (m : MethodId) (x0 : Addr) : entryFrame m #[(.ref x0)] 1 = mkF m 0 #[.val (.ref x0)] [] := by first | (simp [entryFrame, mkF, argsToLocals, Value.category]; done) | rfl
theorem own_pn3 : plainName "java/lang/Record" = true := by first | (simp [plainName, overriddenIn]; done) | decide +kernel
theorem own_w53 {Z : State} {a0 : Array Value} (hw : HW a0 Z) : (Cond.code ⟨"java/lang/Record", "<init>", "()V"⟩ jdk_30_method_1_code 1 (Option.none : Option Jvm.ClassFile.FieldType)).before a0 Z = true := hw _ (List.mem_of_getElem? (i := 53) rfl)
theorem own_w52 {Z : State} {a0 : Array Value} (hw : HW a0 Z) : (Cond.initialized "java/lang/Record").before a0 Z = true := hw _ (List.mem_of_getElem? (i := 52) rfl)
theorem own_pd8 : parseMethodDescriptor "()V" = some ⟨[], none⟩ := by decide +kernel
theorem own_w50 {Z : State} {a0 : Array Value} (hw : HW a0 Z) : (Cond.instanceMethod ⟨"java/lang/Record", "<init>", "()V"⟩).before a0 Z = true := hw _ (List.mem_of_getElem? (i := 50) rfl)
theorem d10_4 : decode prog_3_method_1_code 4 = .ok (.aload_n 0, 1) := by decide +kernel
theorem d10_5 : decode prog_3_method_1_code 5 = .ok (.aload_n 1, 1) := by decide +kernel
theorem sg10_4_2 : decs prog_3_method_1_code [(4, .aload_n 0, 1), (5, .aload_n 1, 1)] := ⟨d10_4, d10_5, trivial⟩
theorem d10_6 : decode prog_3_method_1_code 6 = .ok (.putfield 7, 3) := by decide +kernel
theorem own_w55 {Z : State} {a0 : Array Value} (hw : HW a0 Z) : (Cond.fieldLink "com/example/invocant/invocant/Canonical" 7 "com/example/invocant/invocant/Canonical" "url" "Ljava/lang/String;").before a0 Z = true := hw _ (List.mem_of_getElem? (i := 55) rfl)
theorem d10_9 : decode prog_3_method_1_code 9 = .ok (.aload_n 0, 1) := by decide +kernel
theorem d10_10 : decode prog_3_method_1_code 10 = .ok (.aload_n 2, 1) := by decide +kernel
theorem sg10_9_2 : decs prog_3_method_1_code [(9, .aload_n 0, 1), (10, .aload_n 2, 1)] := ⟨d10_9, d10_10, trivial⟩
theorem d10_11 : decode prog_3_method_1_code 11 = .ok (.putfield 13, 3) := by decide +kernel
theorem own_w57 {Z : State} {a0 : Array Value} (hw : HW a0 Z) : (Cond.fieldLink "com/example/invocant/invocant/Canonical" 13 "com/example/invocant/invocant/Canonical" "version" "Ljava/lang/String;").before a0 Z = true := hw _ (List.mem_of_getElem? (i := 57) rfl)
theorem d10_14 : decode prog_3_method_1_code 14 = .ok (.return_, 1) := by decide +kernel
theorem ef_rm10_0 (m : MethodId) (x0 : Addr) (x1 : Addr) (x2 : Addr) : entryFrame m #[(.ref x0), (.ref x1), (.ref x2)] 3 = mkF m 0 #[.val (.ref x0), .val (.ref x1), .val (.ref x2)] [] := by first | (simp [entryFrame, mkF, argsToLocals, Value.category]; done) | rfl
theorem own_pn4 : plainName "com/example/invocant/invocant/Canonical" = true := by first | (simp [plainName, overriddenIn]; done) | decide +kernel
theorem own_w48 {Z : State} {a0 : Array Value} (hw : HW a0 Z) : (Cond.code ⟨"com/example/invocant/invocant/Canonical", "<init>", "(Ljava/lang/String;Ljava/lang/String;)V"⟩ prog_3_method_1_code 3 (Option.none : Option Jvm.ClassFile.FieldType)).before a0 Z = true := hw _ (List.mem_of_getElem? (i := 48) rfl)
theorem own_pd9 : parseMethodDescriptor "(Ljava/lang/String;Ljava/lang/String;)V" = some ⟨[(.object "java/lang/String"), (.object "java/lang/String")], none⟩ := by decide +kernel
theorem own_w47 {Z : State} {a0 : Array Value} (hw : HW a0 Z) : (Cond.instanceMethod ⟨"com/example/invocant/invocant/Canonical", "<init>", "(Ljava/lang/String;Ljava/lang/String;)V"⟩).before a0 Z = true := hw _ (List.mem_of_getElem? (i := 47) rfl)
theorem sg0_36_1 : decs code [(36, .astore 6, 2)] := ⟨at_36, trivial⟩
theorem sg0_41_2 : decs code [(41, .dup, 1), (42, .iload_n 2, 1)] := ⟨at_41, at_42, trivial⟩
theorem sg0_46_1 : decs code [(46, .iload 5, 2)] := ⟨at_46, trivial⟩
theorem sg0_55_1 : decs code [(55, .iload_n 3, 1)] := ⟨at_55, trivial⟩
theorem sg0_51_2 : decs code [(51, .aconst_null, 1), (52, .goto 7, 3)] := ⟨at_51, at_52, trivial⟩
theorem own_w59 {Z : State} {a0 : Array Value} (hw : HW a0 Z) : (Cond.methodLink "com/example/invocant/invocant/CanonicalMatchesIgnoringCasePinLaw" 35 ⟨"com/example/invocant/invocant/CanonicalMatchesIgnoringCasePinLaw", "eqIC", "(II)Z"⟩).before a0 Z = true := hw _ (List.mem_of_getElem? (i := 59) rfl)
theorem sg0_62_3 : decs code [(62, .astore 7, 2), (64, .iload_n 0, 1), (65, .iload_n 2, 1)] := ⟨at_62, at_64, at_65, trivial⟩
theorem d12_0 : decode method_5_code 0 = .ok (.iload_n 0, 1) := by decide +kernel
theorem d12_1 : decode method_5_code 1 = .ok (.iconst 3, 1) := by decide +kernel
theorem d12_2 : decode method_5_code 2 = .ok (.iand, 1) := by decide +kernel
theorem d12_3 : decode method_5_code 3 = .ok (.istore_n 2, 1) := by decide +kernel
theorem d12_4 : decode method_5_code 4 = .ok (.iload_n 2, 1) := by decide +kernel
theorem d12_5 : decode method_5_code 5 = .ok (.iload_n 1, 1) := by decide +kernel
theorem d12_6 : decode method_5_code 6 = .ok (.iconst 3, 1) := by decide +kernel
theorem d12_7 : decode method_5_code 7 = .ok (.iand, 1) := by decide +kernel
theorem sg12_0_8 : decs method_5_code [(0, .iload_n 0, 1), (1, .iconst 3, 1), (2, .iand, 1), (3, .istore_n 2, 1), (4, .iload_n 2, 1), (5, .iload_n 1, 1), (6, .iconst 3, 1), (7, .iand, 1)] := ⟨d12_0, d12_1, d12_2, d12_3, d12_4, d12_5, d12_6, d12_7, trivial⟩
theorem d12_8 : decode method_5_code 8 = .ok (.if_icmp .eq 5, 3) := by decide +kernel
theorem d12_13 : decode method_5_code 13 = .ok (.iconst 1, 1) := by decide +kernel
theorem d12_14 : decode method_5_code 14 = .ok (.istore_n 3, 1) := by decide +kernel
theorem d12_15 : decode method_5_code 15 = .ok (.iload_n 2, 1) := by decide +kernel
theorem sg12_13_3 : decs method_5_code [(13, .iconst 1, 1), (14, .istore_n 3, 1), (15, .iload_n 2, 1)] := ⟨d12_13, d12_14, d12_15, trivial⟩
theorem d12_16 : decode method_5_code 16 = .ok (.ifCond .le 32, 3) := by decide +kernel
theorem d12_19 : decode method_5_code 19 = .ok (.iload_n 3, 1) := by decide +kernel
theorem sg12_19_1 : decs method_5_code [(19, .iload_n 3, 1)] := ⟨d12_19, trivial⟩
theorem d12_20 : decode method_5_code 20 = .ok (.ifCond .eq 26, 3) := by decide +kernel
theorem d12_23 : decode method_5_code 23 = .ok (.iload_n 0, 1) := by decide +kernel
theorem d12_24 : decode method_5_code 24 = .ok (.iconst 0, 1) := by decide +kernel
theorem sg12_23_2 : decs method_5_code [(23, .iload_n 0, 1), (24, .iconst 0, 1)] := ⟨d12_23, d12_24, trivial⟩
theorem d12_25 : decode method_5_code 25 = .ok (.invokestatic 7, 3) := by decide +kernel
theorem own_w91 {Z : State} {a0 : Array Value} (hw : HW a0 Z) : (Cond.methodLink "com/example/invocant/invocant/CanonicalMatchesIgnoringCasePinLaw" 18 ⟨"com/example/invocant/invocant/CanonicalMatchesIgnoringCasePinLaw", "fold", "(I)I"⟩).before a0 Z = true := hw _ (List.mem_of_getElem? (i := 91) rfl)
theorem d12_28 : decode method_5_code 28 = .ok (.invokestatic 18, 3) := by decide +kernel
theorem d19_0 : decode method_4_code 0 = .ok (.iload_n 0, 1) := by decide +kernel
theorem d19_1 : decode method_4_code 1 = .ok (.bipush 65, 2) := by decide +kernel
theorem sg19_0_2 : decs method_4_code [(0, .iload_n 0, 1), (1, .bipush 65, 2)] := ⟨d19_0, d19_1, trivial⟩
theorem d19_3 : decode method_4_code 3 = .ok (.if_icmp .lt 14, 3) := by decide +kernel
theorem d19_17 : decode method_4_code 17 = .ok (.iload_n 0, 1) := by decide +kernel
theorem d19_18 : decode method_4_code 18 = .ok (.sipush 192, 3) := by decide +kernel
theorem sg19_17_2 : decs method_4_code [(17, .iload_n 0, 1), (18, .sipush 192, 3)] := ⟨d19_17, d19_18, trivial⟩
theorem d19_21 : decode method_4_code 21 = .ok (.if_icmp .lt 22, 3) := by decide +kernel
theorem d19_43 : decode method_4_code 43 = .ok (.iload_n 0, 1) := by decide +kernel
theorem sg19_43_1 : decs method_4_code [(43, .iload_n 0, 1)] := ⟨d19_43, trivial⟩
theorem d19_44 : decode method_4_code 44 = .ok (.ireturn, 1) := by decide +kernel
theorem d19_6 : decode method_4_code 6 = .ok (.iload_n 0, 1) := by decide +kernel
theorem d19_7 : decode method_4_code 7 = .ok (.bipush 90, 2) := by decide +kernel
theorem sg19_6_2 : decs method_4_code [(6, .iload_n 0, 1), (7, .bipush 90, 2)] := ⟨d19_6, d19_7, trivial⟩
theorem d19_9 : decode method_4_code 9 = .ok (.if_icmp .gt 8, 3) := by decide +kernel
theorem d19_24 : decode method_4_code 24 = .ok (.iload_n 0, 1) := by decide +kernel
theorem d19_25 : decode method_4_code 25 = .ok (.sipush 222, 3) := by decide +kernel
theorem sg19_24_2 : decs method_4_code [(24, .iload_n 0, 1), (25, .sipush 222, 3)] := ⟨d19_24, d19_25, trivial⟩
theorem d19_28 : decode method_4_code 28 = .ok (.if_icmp .gt 15, 3) := by decide +kernel
theorem d19_31 : decode method_4_code 31 = .ok (.iload_n 0, 1) := by decide +kernel
theorem d19_32 : decode method_4_code 32 = .ok (.sipush 215, 3) := by decide +kernel
theorem sg19_31_2 : decs method_4_code [(31, .iload_n 0, 1), (32, .sipush 215, 3)] := ⟨d19_31, d19_32, trivial⟩
theorem d19_35 : decode method_4_code 35 = .ok (.if_icmp .eq 8, 3) := by decide +kernel
theorem d19_38 : decode method_4_code 38 = .ok (.iload_n 0, 1) := by decide +kernel
theorem d19_39 : decode method_4_code 39 = .ok (.bipush 32, 2) := by decide +kernel
theorem d19_41 : decode method_4_code 41 = .ok (.iadd, 1) := by decide +kernel
theorem sg19_38_3 : decs method_4_code [(38, .iload_n 0, 1), (39, .bipush 32, 2), (41, .iadd, 1)] := ⟨d19_38, d19_39, d19_41, trivial⟩
theorem d19_42 : decode method_4_code 42 = .ok (.ireturn, 1) := by decide +kernel
theorem d19_12 : decode method_4_code 12 = .ok (.iload_n 0, 1) := by decide +kernel
theorem d19_13 : decode method_4_code 13 = .ok (.bipush 32, 2) := by decide +kernel
theorem d19_15 : decode method_4_code 15 = .ok (.iadd, 1) := by decide +kernel
theorem sg19_12_3 : decs method_4_code [(12, .iload_n 0, 1), (13, .bipush 32, 2), (15, .iadd, 1)] := ⟨d19_12, d19_13, d19_15, trivial⟩
theorem d19_16 : decode method_4_code 16 = .ok (.ireturn, 1) := by decide +kernel
def f_rm19_0 (i0 : Int32) : Int32 := (if i0 < (65 : Int32) then i0 else (if (90 : Int32) < i0 then (if i0 < (192 : Int32) then i0 else (if (222 : Int32) < i0 then i0 else (if i0 = (215 : Int32) then i0 else (i0 + (32 : Int32))))) else (i0 + (32 : Int32))))
theorem ef_rm19_0 (m : MethodId) (x0 : Int32) : entryFrame m #[(.int x0)] 1 = mkF m 0 #[.val (.int x0)] [] := by first | (simp [entryFrame, mkF, argsToLocals, Value.category]; done) | rfl
theorem own_w93 {Z : State} {a0 : Array Value} (hw : HW a0 Z) : (Cond.code ⟨"com/example/invocant/invocant/CanonicalMatchesIgnoringCasePinLaw", "fold", "(I)I"⟩ method_4_code 1 (Option.some Jvm.ClassFile.FieldType.int)).before a0 Z = true := hw _ (List.mem_of_getElem? (i := 93) rfl)
theorem own_pd10 : parseMethodDescriptor "(I)I" = some ⟨[.int], some .int⟩ := by decide +kernel
theorem own_w92 {Z : State} {a0 : Array Value} (hw : HW a0 Z) : (Cond.static ⟨"com/example/invocant/invocant/CanonicalMatchesIgnoringCasePinLaw", "fold", "(I)I"⟩).before a0 Z = true := hw _ (List.mem_of_getElem? (i := 92) rfl)
theorem d12_31 : decode method_5_code 31 = .ok (.iload_n 1, 1) := by decide +kernel
theorem d12_32 : decode method_5_code 32 = .ok (.iconst 0, 1) := by decide +kernel
theorem sg12_31_2 : decs method_5_code [(31, .iload_n 1, 1), (32, .iconst 0, 1)] := ⟨d12_31, d12_32, trivial⟩
theorem d12_33 : decode method_5_code 33 = .ok (.invokestatic 7, 3) := by decide +kernel
theorem d12_36 : decode method_5_code 36 = .ok (.invokestatic 18, 3) := by decide +kernel
theorem d12_39 : decode method_5_code 39 = .ok (.if_icmp .ne 7, 3) := by decide +kernel
theorem d12_42 : decode method_5_code 42 = .ok (.iconst 1, 1) := by decide +kernel
theorem d12_43 : decode method_5_code 43 = .ok (.goto 4, 3) := by decide +kernel
theorem sg12_42_2 : decs method_5_code [(42, .iconst 1, 1), (43, .goto 4, 3)] := ⟨d12_42, d12_43, trivial⟩
theorem d12_46 : decode method_5_code 46 = .ok (.iconst 0, 1) := by decide +kernel
theorem sg12_46_1 : decs method_5_code [(46, .iconst 0, 1)] := ⟨d12_46, trivial⟩
theorem d12_47 : decode method_5_code 47 = .ok (.istore_n 3, 1) := by decide +kernel
theorem sg12_47_1 : decs method_5_code [(47, .istore_n 3, 1)] := ⟨d12_47, trivial⟩
theorem sg12_42_3 : decs method_5_code [(42, .iconst 1, 1), (43, .goto 4, 3), (47, .istore_n 3, 1)] := ⟨d12_42, d12_43, d12_47, trivial⟩
theorem sg12_46_2 : decs method_5_code [(46, .iconst 0, 1), (47, .istore_n 3, 1)] := ⟨d12_46, d12_47, trivial⟩
theorem d12_48 : decode method_5_code 48 = .ok (.iload_n 2, 1) := by decide +kernel
theorem d12_49 : decode method_5_code 49 = .ok (.iconst 1, 1) := by decide +kernel
theorem sg12_48_2 : decs method_5_code [(48, .iload_n 2, 1), (49, .iconst 1, 1)] := ⟨d12_48, d12_49, trivial⟩
theorem d12_50 : decode method_5_code 50 = .ok (.if_icmp .le 32, 3) := by decide +kernel
theorem d12_53 : decode method_5_code 53 = .ok (.iload_n 3, 1) := by decide +kernel
theorem sg12_53_1 : decs method_5_code [(53, .iload_n 3, 1)] := ⟨d12_53, trivial⟩
theorem d12_54 : decode method_5_code 54 = .ok (.ifCond .eq 26, 3) := by decide +kernel
theorem d12_80 : decode method_5_code 80 = .ok (.iconst 0, 1) := by decide +kernel
theorem sg12_80_1 : decs method_5_code [(80, .iconst 0, 1)] := ⟨d12_80, trivial⟩
theorem d12_57 : decode method_5_code 57 = .ok (.iload_n 0, 1) := by decide +kernel
theorem d12_58 : decode method_5_code 58 = .ok (.iconst 1, 1) := by decide +kernel
theorem sg12_57_2 : decs method_5_code [(57, .iload_n 0, 1), (58, .iconst 1, 1)] := ⟨d12_57, d12_58, trivial⟩
theorem d12_59 : decode method_5_code 59 = .ok (.invokestatic 7, 3) := by decide +kernel
theorem d12_62 : decode method_5_code 62 = .ok (.invokestatic 18, 3) := by decide +kernel
theorem d12_65 : decode method_5_code 65 = .ok (.iload_n 1, 1) := by decide +kernel
theorem d12_66 : decode method_5_code 66 = .ok (.iconst 1, 1) := by decide +kernel
theorem sg12_65_2 : decs method_5_code [(65, .iload_n 1, 1), (66, .iconst 1, 1)] := ⟨d12_65, d12_66, trivial⟩
theorem d12_67 : decode method_5_code 67 = .ok (.invokestatic 7, 3) := by decide +kernel
theorem d12_70 : decode method_5_code 70 = .ok (.invokestatic 18, 3) := by decide +kernel
theorem d12_73 : decode method_5_code 73 = .ok (.if_icmp .ne 7, 3) := by decide +kernel
theorem d12_76 : decode method_5_code 76 = .ok (.iconst 1, 1) := by decide +kernel
theorem d12_77 : decode method_5_code 77 = .ok (.goto 4, 3) := by decide +kernel
theorem sg12_76_2 : decs method_5_code [(76, .iconst 1, 1), (77, .goto 4, 3)] := ⟨d12_76, d12_77, trivial⟩
theorem d12_81 : decode method_5_code 81 = .ok (.istore_n 3, 1) := by decide +kernel
theorem sg12_81_1 : decs method_5_code [(81, .istore_n 3, 1)] := ⟨d12_81, trivial⟩
theorem sg12_80_2 : decs method_5_code [(80, .iconst 0, 1), (81, .istore_n 3, 1)] := ⟨d12_80, d12_81, trivial⟩
theorem sg12_76_3 : decs method_5_code [(76, .iconst 1, 1), (77, .goto 4, 3), (81, .istore_n 3, 1)] := ⟨d12_76, d12_77, d12_81, trivial⟩
theorem d12_82 : decode method_5_code 82 = .ok (.iload_n 2, 1) := by decide +kernel
theorem d12_83 : decode method_5_code 83 = .ok (.iconst 2, 1) := by decide +kernel
theorem sg12_82_2 : decs method_5_code [(82, .iload_n 2, 1), (83, .iconst 2, 1)] := ⟨d12_82, d12_83, trivial⟩
theorem d12_84 : decode method_5_code 84 = .ok (.if_icmp .le 32, 3) := by decide +kernel
theorem d12_87 : decode method_5_code 87 = .ok (.iload_n 3, 1) := by decide +kernel
theorem sg12_87_1 : decs method_5_code [(87, .iload_n 3, 1)] := ⟨d12_87, trivial⟩
theorem d12_88 : decode method_5_code 88 = .ok (.ifCond .eq 26, 3) := by decide +kernel
theorem d12_114 : decode method_5_code 114 = .ok (.iconst 0, 1) := by decide +kernel
theorem sg12_114_1 : decs method_5_code [(114, .iconst 0, 1)] := ⟨d12_114, trivial⟩
theorem d12_91 : decode method_5_code 91 = .ok (.iload_n 0, 1) := by decide +kernel
theorem d12_92 : decode method_5_code 92 = .ok (.iconst 2, 1) := by decide +kernel
theorem sg12_91_2 : decs method_5_code [(91, .iload_n 0, 1), (92, .iconst 2, 1)] := ⟨d12_91, d12_92, trivial⟩
theorem d12_93 : decode method_5_code 93 = .ok (.invokestatic 7, 3) := by decide +kernel
theorem d12_96 : decode method_5_code 96 = .ok (.invokestatic 18, 3) := by decide +kernel
theorem d12_99 : decode method_5_code 99 = .ok (.iload_n 1, 1) := by decide +kernel
theorem d12_100 : decode method_5_code 100 = .ok (.iconst 2, 1) := by decide +kernel
theorem sg12_99_2 : decs method_5_code [(99, .iload_n 1, 1), (100, .iconst 2, 1)] := ⟨d12_99, d12_100, trivial⟩
theorem d12_101 : decode method_5_code 101 = .ok (.invokestatic 7, 3) := by decide +kernel
theorem d12_104 : decode method_5_code 104 = .ok (.invokestatic 18, 3) := by decide +kernel
theorem d12_107 : decode method_5_code 107 = .ok (.if_icmp .ne 7, 3) := by decide +kernel
theorem d12_110 : decode method_5_code 110 = .ok (.iconst 1, 1) := by decide +kernel
theorem d12_111 : decode method_5_code 111 = .ok (.goto 4, 3) := by decide +kernel
theorem sg12_110_2 : decs method_5_code [(110, .iconst 1, 1), (111, .goto 4, 3)] := ⟨d12_110, d12_111, trivial⟩
theorem d12_115 : decode method_5_code 115 = .ok (.istore_n 3, 1) := by decide +kernel
theorem sg12_115_1 : decs method_5_code [(115, .istore_n 3, 1)] := ⟨d12_115, trivial⟩
theorem sg12_114_2 : decs method_5_code [(114, .iconst 0, 1), (115, .istore_n 3, 1)] := ⟨d12_114, d12_115, trivial⟩
theorem sg12_110_3 : decs method_5_code [(110, .iconst 1, 1), (111, .goto 4, 3), (115, .istore_n 3, 1)] := ⟨d12_110, d12_111, d12_115, trivial⟩
theorem d12_116 : decode method_5_code 116 = .ok (.iload_n 3, 1) := by decide +kernel
theorem sg12_116_1 : decs method_5_code [(116, .iload_n 3, 1)] := ⟨d12_116, trivial⟩
theorem d12_117 : decode method_5_code 117 = .ok (.ireturn, 1) := by decide +kernel
theorem d12_11 : decode method_5_code 11 = .ok (.iconst 0, 1) := by decide +kernel
theorem sg12_11_1 : decs method_5_code [(11, .iconst 0, 1)] := ⟨d12_11, trivial⟩
theorem d12_12 : decode method_5_code 12 = .ok (.ireturn, 1) := by decide +kernel
def f_rm12_0 (i0 i1 : Int32) : Int32 := (if (i0 &&& (3 : Int32)) = (i1 &&& (3 : Int32)) then (if (2 : Int32) < (i0 &&& (3 : Int32)) then (if (if (1 : Int32) < (i0 &&& (3 : Int32)) then (if (if (0 : Int32) < (i0 &&& (3 : Int32)) then (if (f_rm19_0 (((i0.toUInt32 >>> ((2 : Int32) &&& 31).toUInt32).toInt32) &&& (255 : Int32))) = (f_rm19_0 (((i1.toUInt32 >>> ((2 : Int32) &&& 31).toUInt32).toInt32) &&& (255 : Int32))) then (1 : Int32) else (0 : Int32)) else (1 : Int32)) = (0 : Int32) then (0 : Int32) else (if (f_rm19_0 (((i0.toUInt32 >>> ((10 : Int32) &&& 31).toUInt32).toInt32) &&& (255 : Int32))) = (f_rm19_0 (((i1.toUInt32 >>> ((10 : Int32) &&& 31).toUInt32).toInt32) &&& (255 : Int32))) then (1 : Int32) else (0 : Int32))) else (if (0 : Int32) < (i0 &&& (3 : Int32)) then (if (f_rm19_0 (((i0.toUInt32 >>> ((2 : Int32) &&& 31).toUInt32).toInt32) &&& (255 : Int32))) = (f_rm19_0 (((i1.toUInt32 >>> ((2 : Int32) &&& 31).toUInt32).toInt32) &&& (255 : Int32))) then (1 : Int32) else (0 : Int32)) else (1 : Int32))) = (0 : Int32) then (0 : Int32) else (if (f_rm19_0 (((i0.toUInt32 >>> ((18 : Int32) &&& 31).toUInt32).toInt32) &&& (255 : Int32))) = (f_rm19_0 (((i1.toUInt32 >>> ((18 : Int32) &&& 31).toUInt32).toInt32) &&& (255 : Int32))) then (1 : Int32) else (0 : Int32))) else (if (1 : Int32) < (i0 &&& (3 : Int32)) then (if (if (0 : Int32) < (i0 &&& (3 : Int32)) then (if (f_rm19_0 (((i0.toUInt32 >>> ((2 : Int32) &&& 31).toUInt32).toInt32) &&& (255 : Int32))) = (f_rm19_0 (((i1.toUInt32 >>> ((2 : Int32) &&& 31).toUInt32).toInt32) &&& (255 : Int32))) then (1 : Int32) else (0 : Int32)) else (1 : Int32)) = (0 : Int32) then (0 : Int32) else (if (f_rm19_0 (((i0.toUInt32 >>> ((10 : Int32) &&& 31).toUInt32).toInt32) &&& (255 : Int32))) = (f_rm19_0 (((i1.toUInt32 >>> ((10 : Int32) &&& 31).toUInt32).toInt32) &&& (255 : Int32))) then (1 : Int32) else (0 : Int32))) else (if (0 : Int32) < (i0 &&& (3 : Int32)) then (if (f_rm19_0 (((i0.toUInt32 >>> ((2 : Int32) &&& 31).toUInt32).toInt32) &&& (255 : Int32))) = (f_rm19_0 (((i1.toUInt32 >>> ((2 : Int32) &&& 31).toUInt32).toInt32) &&& (255 : Int32))) then (1 : Int32) else (0 : Int32)) else (1 : Int32)))) else (0 : Int32))
theorem ef_rm12_0 (m : MethodId) (x0 : Int32) (x1 : Int32) : entryFrame m #[(.int x0), (.int x1)] 4 = mkF m 0 #[.val (.int x0), .val (.int x1), .unset, .unset] [] := by first | (simp [entryFrame, mkF, argsToLocals, Value.category]; done) | rfl
theorem own_w61 {Z : State} {a0 : Array Value} (hw : HW a0 Z) : (Cond.code ⟨"com/example/invocant/invocant/CanonicalMatchesIgnoringCasePinLaw", "eqIC", "(II)Z"⟩ method_5_code 4 (Option.some Jvm.ClassFile.FieldType.boolean)).before a0 Z = true := hw _ (List.mem_of_getElem? (i := 61) rfl)
theorem own_pd11 : parseMethodDescriptor "(II)Z" = some ⟨[.int, .int], some .boolean⟩ := by decide +kernel
theorem own_w60 {Z : State} {a0 : Array Value} (hw : HW a0 Z) : (Cond.static ⟨"com/example/invocant/invocant/CanonicalMatchesIgnoringCasePinLaw", "eqIC", "(II)Z"⟩).before a0 Z = true := hw _ (List.mem_of_getElem? (i := 60) rfl)
theorem sg0_94_1 : decs code [(94, .iconst 0, 1)] := ⟨at_94, trivial⟩
theorem sg0_72_1 : decs code [(72, .iload 4, 2)] := ⟨at_72, trivial⟩
theorem sg0_77_1 : decs code [(77, .iload 5, 2)] := ⟨at_77, trivial⟩
theorem sg0_82_2 : decs code [(82, .iload_n 1, 1), (83, .iload_n 3, 1)] := ⟨at_82, at_83, trivial⟩
theorem sg0_90_2 : decs code [(90, .iconst 1, 1), (91, .goto 4, 3)] := ⟨at_90, at_91, trivial⟩
theorem own_w62 {Z : State} {a0 : Array Value} (hw : HW a0 Z) : (Cond.methodLink "com/example/invocant/invocant/CanonicalMatchesIgnoringCasePinLaw" 39 ⟨"com/example/invocant/invocant/Canonical", "matchesIgnoringCase", "(Lcom/example/invocant/invocant/Canonical;)Z"⟩).before a0 Z = true := hw _ (List.mem_of_getElem? (i := 62) rfl)
theorem sg0_95_3 : decs code [(95, .istore 8, 2), (97, .aload 6, 2), (99, .aload 7, 2)] := ⟨at_95, at_97, at_99, trivial⟩
theorem d13_0 : decode prog_3_method_4_code 0 = .ok (.aload_n 0, 1) := by decide +kernel
theorem sg13_0_1 : decs prog_3_method_4_code [(0, .aload_n 0, 1)] := ⟨d13_0, trivial⟩
theorem d13_1 : decode prog_3_method_4_code 1 = .ok (.getfield 7, 3) := by decide +kernel
theorem d13_4 : decode prog_3_method_4_code 4 = .ok (.aload_n 1, 1) := by decide +kernel
theorem sg13_4_1 : decs prog_3_method_4_code [(4, .aload_n 1, 1)] := ⟨d13_4, trivial⟩
theorem d13_5 : decode prog_3_method_4_code 5 = .ok (.getfield 7, 3) := by decide +kernel
theorem own_w67 {Z : State} {a0 : Array Value} (hw : HW a0 Z) : (Cond.methodLink "com/example/invocant/invocant/Canonical" 36 ⟨"java/lang/String", "equalsIgnoreCase", "(Ljava/lang/String;)Z"⟩).before a0 Z = true := hw _ (List.mem_of_getElem? (i := 67) rfl)
theorem d13_8 : decode prog_3_method_4_code 8 = .ok (.invokevirtual 36, 3) := by decide +kernel
theorem d14_0 : decode jdk_42_method_70_code 0 = .ok (.aload_n 0, 1) := by decide +kernel
theorem d14_1 : decode jdk_42_method_70_code 1 = .ok (.aload_n 1, 1) := by decide +kernel
theorem sg14_0_2 : decs jdk_42_method_70_code [(0, .aload_n 0, 1), (1, .aload_n 1, 1)] := ⟨d14_0, d14_1, trivial⟩
theorem d14_2 : decode jdk_42_method_70_code 2 = .ok (.if_acmp .ne 7, 3) := by decide +kernel
theorem d14_9 : decode jdk_42_method_70_code 9 = .ok (.aload_n 1, 1) := by decide +kernel
theorem sg14_9_1 : decs jdk_42_method_70_code [(9, .aload_n 1, 1)] := ⟨d14_9, trivial⟩
theorem d14_10 : decode jdk_42_method_70_code 10 = .ok (.ifnull 33, 3) := by decide +kernel
theorem d14_13 : decode jdk_42_method_70_code 13 = .ok (.aload_n 1, 1) := by decide +kernel
theorem own_w72 {Z : State} {a0 : Array Value} (hw : HW a0 Z) : (Cond.methodLink "java/lang/String" 505 ⟨"java/lang/String", "length", "()I"⟩).before a0 Z = true := hw _ (List.mem_of_getElem? (i := 72) rfl)
theorem sg14_13_1 : decs jdk_42_method_70_code [(13, .aload_n 1, 1)] := ⟨d14_13, trivial⟩
theorem d14_14 : decode jdk_42_method_70_code 14 = .ok (.invokevirtual 505, 3) := by decide +kernel
theorem d15_0 : decode jdk_42_method_54_code 0 = .ok (.aload_n 0, 1) := by decide +kernel
theorem sg15_0_1 : decs jdk_42_method_54_code [(0, .aload_n 0, 1)] := ⟨d15_0, trivial⟩
theorem d15_1 : decode jdk_42_method_54_code 1 = .ok (.getfield 9, 3) := by decide +kernel
theorem d15_4 : decode jdk_42_method_54_code 4 = .ok (.arraylength, 1) := by decide +kernel
theorem d15_5 : decode jdk_42_method_54_code 5 = .ok (.aload_n 0, 1) := by decide +kernel
theorem own_w77 {Z : State} {a0 : Array Value} (hw : HW a0 Z) : (Cond.methodLink "java/lang/String" 335 ⟨"java/lang/String", "coder", "()B"⟩).before a0 Z = true := hw _ (List.mem_of_getElem? (i := 77) rfl)
theorem sg15_5_1 : decs jdk_42_method_54_code [(5, .aload_n 0, 1)] := ⟨d15_5, trivial⟩
theorem d15_6 : decode jdk_42_method_54_code 6 = .ok (.invokevirtual 335, 3) := by decide +kernel
theorem d16_0 : decode jdk_42_method_152_code 0 = .ok (.getstatic 38, 3) := by decide +kernel
theorem d16_3 : decode jdk_42_method_152_code 3 = .ok (.ifCond .eq 10, 3) := by decide +kernel
theorem d16_6 : decode jdk_42_method_152_code 6 = .ok (.aload_n 0, 1) := by decide +kernel
theorem sg16_6_1 : decs jdk_42_method_152_code [(6, .aload_n 0, 1)] := ⟨d16_6, trivial⟩
theorem d16_7 : decode jdk_42_method_152_code 7 = .ok (.getfield 15, 3) := by decide +kernel
theorem d16_10 : decode jdk_42_method_152_code 10 = .ok (.goto 4, 3) := by decide +kernel
theorem sg16_10_1 : decs jdk_42_method_152_code [(10, .goto 4, 3)] := ⟨d16_10, trivial⟩
theorem d16_14 : decode jdk_42_method_152_code 14 = .ok (.ireturn, 1) := by decide +kernel
theorem ef_rm16_0 (m : MethodId) (x0 : Addr) : entryFrame m #[(.ref x0)] 1 = mkF m 0 #[.val (.ref x0)] [] := by first | (simp [entryFrame, mkF, argsToLocals, Value.category]; done) | rfl
theorem own_w81 {Z : State} {a0 : Array Value} (hw : HW a0 Z) : (Cond.code ⟨"java/lang/String", "coder", "()B"⟩ jdk_42_method_152_code 1 (Option.some Jvm.ClassFile.FieldType.byte)).before a0 Z = true := hw _ (List.mem_of_getElem? (i := 81) rfl)
theorem own_pd12 : parseMethodDescriptor "()B" = some ⟨[], some .byte⟩ := by decide +kernel
theorem own_w80 {Z : State} {a0 : Array Value} (hw : HW a0 Z) : (Cond.selects "java/lang/String" ⟨"java/lang/String", "coder", "()B"⟩ ⟨"java/lang/String", "coder", "()B"⟩).before a0 Z = true := hw _ (List.mem_of_getElem? (i := 80) rfl)
theorem own_w78 {Z : State} {a0 : Array Value} (hw : HW a0 Z) : (Cond.declares ⟨"java/lang/String", "coder", "()B"⟩).before a0 Z = true := hw _ (List.mem_of_getElem? (i := 78) rfl)
theorem own_w79 {Z : State} {a0 : Array Value} (hw : HW a0 Z) : (Cond.instanceMethod ⟨"java/lang/String", "coder", "()B"⟩).before a0 Z = true := hw _ (List.mem_of_getElem? (i := 79) rfl)
theorem d15_9 : decode jdk_42_method_54_code 9 = .ok (.ishr, 1) := by decide +kernel
theorem sg15_9_1 : decs jdk_42_method_54_code [(9, .ishr, 1)] := ⟨d15_9, trivial⟩
theorem d15_10 : decode jdk_42_method_54_code 10 = .ok (.ireturn, 1) := by decide +kernel
theorem ef_rm15_0 (m : MethodId) (x0 : Addr) : entryFrame m #[(.ref x0)] 1 = mkF m 0 #[.val (.ref x0)] [] := by first | (simp [entryFrame, mkF, argsToLocals, Value.category]; done) | rfl
theorem own_w76 {Z : State} {a0 : Array Value} (hw : HW a0 Z) : (Cond.code ⟨"java/lang/String", "length", "()I"⟩ jdk_42_method_54_code 1 (Option.some Jvm.ClassFile.FieldType.int)).before a0 Z = true := hw _ (List.mem_of_getElem? (i := 76) rfl)
theorem own_pd13 : parseMethodDescriptor "()I" = some ⟨[], some .int⟩ := by decide +kernel
theorem own_w75 {Z : State} {a0 : Array Value} (hw : HW a0 Z) : (Cond.selects "java/lang/String" ⟨"java/lang/String", "length", "()I"⟩ ⟨"java/lang/String", "length", "()I"⟩).before a0 Z = true := hw _ (List.mem_of_getElem? (i := 75) rfl)
theorem own_w73 {Z : State} {a0 : Array Value} (hw : HW a0 Z) : (Cond.declares ⟨"java/lang/String", "length", "()I"⟩).before a0 Z = true := hw _ (List.mem_of_getElem? (i := 73) rfl)
theorem own_w74 {Z : State} {a0 : Array Value} (hw : HW a0 Z) : (Cond.instanceMethod ⟨"java/lang/String", "length", "()I"⟩).before a0 Z = true := hw _ (List.mem_of_getElem? (i := 74) rfl)
theorem d14_17 : decode jdk_42_method_70_code 17 = .ok (.aload_n 0, 1) := by decide +kernel
theorem sg14_17_1 : decs jdk_42_method_70_code [(17, .aload_n 0, 1)] := ⟨d14_17, trivial⟩
theorem d14_18 : decode jdk_42_method_70_code 18 = .ok (.invokevirtual 505, 3) := by decide +kernel
theorem d14_21 : decode jdk_42_method_70_code 21 = .ok (.if_icmp .ne 22, 3) := by decide +kernel
theorem d14_24 : decode jdk_42_method_70_code 24 = .ok (.aload_n 0, 1) := by decide +kernel
theorem d14_25 : decode jdk_42_method_70_code 25 = .ok (.iconst 1, 1) := by decide +kernel
theorem d14_26 : decode jdk_42_method_70_code 26 = .ok (.iconst 0, 1) := by decide +kernel
theorem d14_27 : decode jdk_42_method_70_code 27 = .ok (.aload_n 1, 1) := by decide +kernel
theorem d14_28 : decode jdk_42_method_70_code 28 = .ok (.iconst 0, 1) := by decide +kernel
theorem d14_29 : decode jdk_42_method_70_code 29 = .ok (.aload_n 0, 1) := by decide +kernel
theorem sg14_24_6 : decs jdk_42_method_70_code [(24, .aload_n 0, 1), (25, .iconst 1, 1), (26, .iconst 0, 1), (27, .aload_n 1, 1), (28, .iconst 0, 1), (29, .aload_n 0, 1)] := ⟨d14_24, d14_25, d14_26, d14_27, d14_28, d14_29, trivial⟩
theorem d14_30 : decode jdk_42_method_70_code 30 = .ok (.invokevirtual 505, 3) := by decide +kernel
theorem own_w82 {Z : State} {a0 : Array Value} (hw : HW a0 Z) : (Cond.methodLink "java/lang/String" 582 ⟨"java/lang/String", "regionMatches", "(ZILjava/lang/String;II)Z"⟩).before a0 Z = true := hw _ (List.mem_of_getElem? (i := 82) rfl)
theorem d14_33 : decode jdk_42_method_70_code 33 = .ok (.invokevirtual 582, 3) := by decide +kernel
theorem d17_0 : decode jdk_42_method_74_code 0 = .ok (.iload_n 1, 1) := by decide +kernel
theorem sg17_0_1 : decs jdk_42_method_74_code [(0, .iload_n 1, 1)] := ⟨d17_0, trivial⟩
theorem d17_1 : decode jdk_42_method_74_code 1 = .ok (.ifCond .ne 14, 3) := by decide +kernel
theorem d17_15 : decode jdk_42_method_74_code 15 = .ok (.iload 4, 2) := by decide +kernel
theorem sg17_15_1 : decs jdk_42_method_74_code [(15, .iload 4, 2)] := ⟨d17_15, trivial⟩
theorem d17_17 : decode jdk_42_method_74_code 17 = .ok (.ifCond .lt 38, 3) := by decide +kernel
theorem d17_20 : decode jdk_42_method_74_code 20 = .ok (.iload_n 2, 1) := by decide +kernel
theorem sg17_20_1 : decs jdk_42_method_74_code [(20, .iload_n 2, 1)] := ⟨d17_20, trivial⟩
theorem d17_21 : decode jdk_42_method_74_code 21 = .ok (.ifCond .lt 34, 3) := by decide +kernel
theorem d17_24 : decode jdk_42_method_74_code 24 = .ok (.iload_n 2, 1) := by decide +kernel
theorem d17_25 : decode jdk_42_method_74_code 25 = .ok (.i2l, 1) := by decide +kernel
theorem d17_26 : decode jdk_42_method_74_code 26 = .ok (.aload_n 0, 1) := by decide +kernel
theorem sg17_24_3 : decs jdk_42_method_74_code [(24, .iload_n 2, 1), (25, .i2l, 1), (26, .aload_n 0, 1)] := ⟨d17_24, d17_25, d17_26, trivial⟩
theorem d17_27 : decode jdk_42_method_74_code 27 = .ok (.invokevirtual 505, 3) := by decide +kernel
theorem d17_30 : decode jdk_42_method_74_code 30 = .ok (.i2l, 1) := by decide +kernel
theorem d17_31 : decode jdk_42_method_74_code 31 = .ok (.iload 5, 2) := by decide +kernel
theorem d17_33 : decode jdk_42_method_74_code 33 = .ok (.i2l, 1) := by decide +kernel
theorem d17_34 : decode jdk_42_method_74_code 34 = .ok (.lsub, 1) := by decide +kernel
theorem d17_35 : decode jdk_42_method_74_code 35 = .ok (.lcmp, 1) := by decide +kernel
theorem sg17_30_5 : decs jdk_42_method_74_code [(30, .i2l, 1), (31, .iload 5, 2), (33, .i2l, 1), (34, .lsub, 1), (35, .lcmp, 1)] := ⟨d17_30, d17_31, d17_33, d17_34, d17_35, trivial⟩
theorem d17_36 : decode jdk_42_method_74_code 36 = .ok (.ifCond .gt 19, 3) := by decide +kernel
theorem d17_39 : decode jdk_42_method_74_code 39 = .ok (.iload 4, 2) := by decide +kernel
theorem d17_41 : decode jdk_42_method_74_code 41 = .ok (.i2l, 1) := by decide +kernel
theorem d17_42 : decode jdk_42_method_74_code 42 = .ok (.aload_n 3, 1) := by decide +kernel
theorem sg17_39_3 : decs jdk_42_method_74_code [(39, .iload 4, 2), (41, .i2l, 1), (42, .aload_n 3, 1)] := ⟨d17_39, d17_41, d17_42, trivial⟩
theorem d17_43 : decode jdk_42_method_74_code 43 = .ok (.invokevirtual 505, 3) := by decide +kernel
theorem d17_46 : decode jdk_42_method_74_code 46 = .ok (.i2l, 1) := by decide +kernel
theorem d17_47 : decode jdk_42_method_74_code 47 = .ok (.iload 5, 2) := by decide +kernel
theorem d17_49 : decode jdk_42_method_74_code 49 = .ok (.i2l, 1) := by decide +kernel
theorem d17_50 : decode jdk_42_method_74_code 50 = .ok (.lsub, 1) := by decide +kernel
theorem d17_51 : decode jdk_42_method_74_code 51 = .ok (.lcmp, 1) := by decide +kernel
theorem sg17_46_5 : decs jdk_42_method_74_code [(46, .i2l, 1), (47, .iload 5, 2), (49, .i2l, 1), (50, .lsub, 1), (51, .lcmp, 1)] := ⟨d17_46, d17_47, d17_49, d17_50, d17_51, trivial⟩
theorem d17_52 : decode jdk_42_method_74_code 52 = .ok (.ifCond .le 5, 3) := by decide +kernel
theorem d17_57 : decode jdk_42_method_74_code 57 = .ok (.aload_n 0, 1) := by decide +kernel
theorem sg17_57_1 : decs jdk_42_method_74_code [(57, .aload_n 0, 1)] := ⟨d17_57, trivial⟩
theorem d17_58 : decode jdk_42_method_74_code 58 = .ok (.getfield 9, 3) := by decide +kernel
theorem d17_61 : decode jdk_42_method_74_code 61 = .ok (.astore 6, 2) := by decide +kernel
theorem d17_63 : decode jdk_42_method_74_code 63 = .ok (.aload_n 3, 1) := by decide +kernel
theorem sg17_61_2 : decs jdk_42_method_74_code [(61, .astore 6, 2), (63, .aload_n 3, 1)] := ⟨d17_61, d17_63, trivial⟩
theorem d17_64 : decode jdk_42_method_74_code 64 = .ok (.getfield 9, 3) := by decide +kernel
theorem d17_67 : decode jdk_42_method_74_code 67 = .ok (.astore 7, 2) := by decide +kernel
theorem d17_69 : decode jdk_42_method_74_code 69 = .ok (.aload_n 0, 1) := by decide +kernel
theorem sg17_67_2 : decs jdk_42_method_74_code [(67, .astore 7, 2), (69, .aload_n 0, 1)] := ⟨d17_67, d17_69, trivial⟩
theorem d17_70 : decode jdk_42_method_74_code 70 = .ok (.invokevirtual 335, 3) := by decide +kernel
theorem d17_73 : decode jdk_42_method_74_code 73 = .ok (.istore 8, 2) := by decide +kernel
theorem d17_75 : decode jdk_42_method_74_code 75 = .ok (.iload 8, 2) := by decide +kernel
theorem d17_77 : decode jdk_42_method_74_code 77 = .ok (.aload_n 3, 1) := by decide +kernel
theorem sg17_73_3 : decs jdk_42_method_74_code [(73, .istore 8, 2), (75, .iload 8, 2), (77, .aload_n 3, 1)] := ⟨d17_73, d17_75, d17_77, trivial⟩
theorem d17_78 : decode jdk_42_method_74_code 78 = .ok (.invokevirtual 335, 3) := by decide +kernel
theorem d17_81 : decode jdk_42_method_74_code 81 = .ok (.if_icmp .ne 36, 3) := by decide +kernel
theorem d17_84 : decode jdk_42_method_74_code 84 = .ok (.iload 8, 2) := by decide +kernel
theorem sg17_84_1 : decs jdk_42_method_74_code [(84, .iload 8, 2)] := ⟨d17_84, trivial⟩
theorem d17_86 : decode jdk_42_method_74_code 86 = .ok (.ifCond .ne 18, 3) := by decide +kernel
theorem d17_89 : decode jdk_42_method_74_code 89 = .ok (.aload 6, 2) := by decide +kernel
theorem d17_91 : decode jdk_42_method_74_code 91 = .ok (.iload_n 2, 1) := by decide +kernel
theorem d17_92 : decode jdk_42_method_74_code 92 = .ok (.aload 7, 2) := by decide +kernel
theorem d17_94 : decode jdk_42_method_74_code 94 = .ok (.iload 4, 2) := by decide +kernel
theorem d17_96 : decode jdk_42_method_74_code 96 = .ok (.iload 5, 2) := by decide +kernel
theorem own_w87 {Z : State} {a0 : Array Value} (hw : HW a0 Z) : (Cond.methodLink "java/lang/String" 613 ⟨"java/lang/StringLatin1", "regionMatchesCI", "([BI[BII)Z"⟩).before a0 Z = true := hw _ (List.mem_of_getElem? (i := 87) rfl)
theorem sg17_89_5 : decs jdk_42_method_74_code [(89, .aload 6, 2), (91, .iload_n 2, 1), (92, .aload 7, 2), (94, .iload 4, 2), (96, .iload 5, 2)] := ⟨d17_89, d17_91, d17_92, d17_94, d17_96, trivial⟩
theorem d17_98 : decode jdk_42_method_74_code 98 = .ok (.invokestatic 613, 3) := by decide +kernel
theorem d18_0 : decode jdk_43_method_30_code 0 = .ok (.iload_n 1, 1) := by decide +kernel
theorem d18_1 : decode jdk_43_method_30_code 1 = .ok (.iload 4, 2) := by decide +kernel
theorem d18_3 : decode jdk_43_method_30_code 3 = .ok (.iadd, 1) := by decide +kernel
theorem d18_4 : decode jdk_43_method_30_code 4 = .ok (.istore 5, 2) := by decide +kernel
theorem d18_6 : decode jdk_43_method_30_code 6 = .ok (.iload_n 1, 1) := by decide +kernel
theorem d18_7 : decode jdk_43_method_30_code 7 = .ok (.iload 5, 2) := by decide +kernel
theorem sg18_0_6 : decs jdk_43_method_30_code [(0, .iload_n 1, 1), (1, .iload 4, 2), (3, .iadd, 1), (4, .istore 5, 2), (6, .iload_n 1, 1), (7, .iload 5, 2)] := ⟨d18_0, d18_1, d18_3, d18_4, d18_6, d18_7, trivial⟩
theorem d18_9 : decode jdk_43_method_30_code 9 = .ok (.if_icmp .ge 34, 3) := by decide +kernel
theorem d18_43 : decode jdk_43_method_30_code 43 = .ok (.iconst 1, 1) := by decide +kernel
theorem sg18_43_1 : decs jdk_43_method_30_code [(43, .iconst 1, 1)] := ⟨d18_43, trivial⟩
theorem d18_44 : decode jdk_43_method_30_code 44 = .ok (.ireturn, 1) := by decide +kernel
theorem ef_rm18_0 (m : MethodId) (x0 : Addr) (x1 : Int32) (x2 : Addr) : entryFrame m #[(.ref x0), (.int x1), (.ref x2), (.int x1), (.int x1)] 8 = mkF m 0 #[.val (.ref x0), .val (.int x1), .val (.ref x2), .val (.int x1), .val (.int x1), .unset, .unset, .unset] [] := by first | (simp [entryFrame, mkF, argsToLocals, Value.category]; done) | rfl
theorem own_pn5 : plainName "java/lang/StringLatin1" = true := by first | (simp [plainName, overriddenIn]; done) | decide +kernel
theorem own_w90 {Z : State} {a0 : Array Value} (hw : HW a0 Z) : (Cond.code ⟨"java/lang/StringLatin1", "regionMatchesCI", "([BI[BII)Z"⟩ jdk_43_method_30_code 8 (Option.some Jvm.ClassFile.FieldType.boolean)).before a0 Z = true := hw _ (List.mem_of_getElem? (i := 90) rfl)
theorem own_w89 {Z : State} {a0 : Array Value} (hw : HW a0 Z) : (Cond.initialized "java/lang/StringLatin1").before a0 Z = true := hw _ (List.mem_of_getElem? (i := 89) rfl)
theorem own_pd14 : parseMethodDescriptor "([BI[BII)Z" = some ⟨[(.array .byte), .int, (.array .byte), .int, .int], some .boolean⟩ := by decide +kernel
theorem own_w88 {Z : State} {a0 : Array Value} (hw : HW a0 Z) : (Cond.static ⟨"java/lang/StringLatin1", "regionMatchesCI", "([BI[BII)Z"⟩).before a0 Z = true := hw _ (List.mem_of_getElem? (i := 88) rfl)
theorem d17_101 : decode jdk_42_method_74_code 101 = .ok (.goto 15, 3) := by decide +kernel
theorem sg17_101_1 : decs jdk_42_method_74_code [(101, .goto 15, 3)] := ⟨d17_101, trivial⟩
theorem d17_116 : decode jdk_42_method_74_code 116 = .ok (.ireturn, 1) := by decide +kernel
theorem ef_rm17_0 (m : MethodId) (x0 : Addr) (x1 : Int32) (x2 : Int32) (x3 : Addr) : entryFrame m #[(.ref x0), (.int x1), (.int x2), (.ref x3), (.int x2), (.int x2)] 9 = mkF m 0 #[.val (.ref x0), .val (.int x1), .val (.int x2), .val (.ref x3), .val (.int x2), .val (.int x2), .unset, .unset, .unset] [] := by first | (simp [entryFrame, mkF, argsToLocals, Value.category]; done) | rfl
theorem own_w86 {Z : State} {a0 : Array Value} (hw : HW a0 Z) : (Cond.code ⟨"java/lang/String", "regionMatches", "(ZILjava/lang/String;II)Z"⟩ jdk_42_method_74_code 9 (Option.some Jvm.ClassFile.FieldType.boolean)).before a0 Z = true := hw _ (List.mem_of_getElem? (i := 86) rfl)
theorem own_pd15 : parseMethodDescriptor "(ZILjava/lang/String;II)Z" = some ⟨[.boolean, .int, (.object "java/lang/String"), .int, .int], some .boolean⟩ := by decide +kernel
theorem own_w85 {Z : State} {a0 : Array Value} (hw : HW a0 Z) : (Cond.selects "java/lang/String" ⟨"java/lang/String", "regionMatches", "(ZILjava/lang/String;II)Z"⟩ ⟨"java/lang/String", "regionMatches", "(ZILjava/lang/String;II)Z"⟩).before a0 Z = true := hw _ (List.mem_of_getElem? (i := 85) rfl)
theorem own_w83 {Z : State} {a0 : Array Value} (hw : HW a0 Z) : (Cond.declares ⟨"java/lang/String", "regionMatches", "(ZILjava/lang/String;II)Z"⟩).before a0 Z = true := hw _ (List.mem_of_getElem? (i := 83) rfl)
theorem own_w84 {Z : State} {a0 : Array Value} (hw : HW a0 Z) : (Cond.instanceMethod ⟨"java/lang/String", "regionMatches", "(ZILjava/lang/String;II)Z"⟩).before a0 Z = true := hw _ (List.mem_of_getElem? (i := 84) rfl)
theorem d14_36 : decode jdk_42_method_70_code 36 = .ok (.ifCond .eq 7, 3) := by decide +kernel
theorem d14_39 : decode jdk_42_method_70_code 39 = .ok (.iconst 1, 1) := by decide +kernel
theorem d14_40 : decode jdk_42_method_70_code 40 = .ok (.goto 4, 3) := by decide +kernel
theorem sg14_39_2 : decs jdk_42_method_70_code [(39, .iconst 1, 1), (40, .goto 4, 3)] := ⟨d14_39, d14_40, trivial⟩
theorem d14_44 : decode jdk_42_method_70_code 44 = .ok (.ireturn, 1) := by decide +kernel
theorem ef_rm14_0 (m : MethodId) (x0 : Addr) (x1 : Addr) : entryFrame m #[(.ref x0), (.ref x1)] 2 = mkF m 0 #[.val (.ref x0), .val (.ref x1)] [] := by first | (simp [entryFrame, mkF, argsToLocals, Value.category]; done) | rfl
theorem ef_rm15_1 (m : MethodId) (x0 : Addr) : entryFrame m #[(.ref x0)] 1 = mkF m 0 #[.val (.ref x0)] [] := by first | (simp [entryFrame, mkF, argsToLocals, Value.category]; done) | rfl
theorem d14_43 : decode jdk_42_method_70_code 43 = .ok (.iconst 0, 1) := by decide +kernel
theorem sg14_43_1 : decs jdk_42_method_70_code [(43, .iconst 0, 1)] := ⟨d14_43, trivial⟩
theorem ef_rm14_1 (m : MethodId) (x0 : Addr) (x1 : Addr) : entryFrame m #[(.ref x0), (.ref x1)] 2 = mkF m 0 #[.val (.ref x0), .val (.ref x1)] [] := by first | (simp [entryFrame, mkF, argsToLocals, Value.category]; done) | rfl
theorem ef_rm15_2 (m : MethodId) (x0 : Addr) : entryFrame m #[(.ref x0)] 1 = mkF m 0 #[.val (.ref x0)] [] := by first | (simp [entryFrame, mkF, argsToLocals, Value.category]; done) | rfl
theorem d18_12 : decode jdk_43_method_30_code 12 = .ok (.aload_n 0, 1) := by decide +kernel
theorem d18_13 : decode jdk_43_method_30_code 13 = .ok (.iload_n 1, 1) := by decide +kernel
theorem d18_14 : decode jdk_43_method_30_code 14 = .ok (.iinc 1 1, 3) := by decide +kernel
theorem sg18_12_3 : decs jdk_43_method_30_code [(12, .aload_n 0, 1), (13, .iload_n 1, 1), (14, .iinc 1 1, 3)] := ⟨d18_12, d18_13, d18_14, trivial⟩
theorem d18_17 : decode jdk_43_method_30_code 17 = .ok (.baload, 1) := by decide +kernel
theorem d18_18 : decode jdk_43_method_30_code 18 = .ok (.istore 6, 2) := by decide +kernel
theorem d18_20 : decode jdk_43_method_30_code 20 = .ok (.aload_n 2, 1) := by decide +kernel
theorem d18_21 : decode jdk_43_method_30_code 21 = .ok (.iload_n 3, 1) := by decide +kernel
theorem d18_22 : decode jdk_43_method_30_code 22 = .ok (.iinc 3 1, 3) := by decide +kernel
theorem sg18_18_4 : decs jdk_43_method_30_code [(18, .istore 6, 2), (20, .aload_n 2, 1), (21, .iload_n 3, 1), (22, .iinc 3 1, 3)] := ⟨d18_18, d18_20, d18_21, d18_22, trivial⟩
theorem d18_25 : decode jdk_43_method_30_code 25 = .ok (.baload, 1) := by decide +kernel
theorem d18_26 : decode jdk_43_method_30_code 26 = .ok (.istore 7, 2) := by decide +kernel
theorem d18_28 : decode jdk_43_method_30_code 28 = .ok (.iload 6, 2) := by decide +kernel
theorem d18_30 : decode jdk_43_method_30_code 30 = .ok (.iload 7, 2) := by decide +kernel
theorem own_w94 {Z : State} {a0 : Array Value} (hw : HW a0 Z) : (Cond.methodLink "java/lang/StringLatin1" 153 ⟨"java/lang/CharacterDataLatin1", "equalsIgnoreCase", "(BB)Z"⟩).before a0 Z = true := hw _ (List.mem_of_getElem? (i := 94) rfl)
theorem sg18_26_3 : decs jdk_43_method_30_code [(26, .istore 7, 2), (28, .iload 6, 2), (30, .iload 7, 2)] := ⟨d18_26, d18_28, d18_30, trivial⟩
theorem d18_32 : decode jdk_43_method_30_code 32 = .ok (.invokestatic 153, 3) := by decide +kernel
theorem d20_0 : decode jdk_116_method_22_code 0 = .ok (.iload_n 0, 1) := by decide +kernel
theorem d20_1 : decode jdk_116_method_22_code 1 = .ok (.iload_n 1, 1) := by decide +kernel
theorem sg20_0_2 : decs jdk_116_method_22_code [(0, .iload_n 0, 1), (1, .iload_n 1, 1)] := ⟨d20_0, d20_1, trivial⟩
theorem d20_2 : decode jdk_116_method_22_code 2 = .ok (.if_icmp .ne 5, 3) := by decide +kernel
theorem d20_5 : decode jdk_116_method_22_code 5 = .ok (.iconst 1, 1) := by decide +kernel
theorem sg20_5_1 : decs jdk_116_method_22_code [(5, .iconst 1, 1)] := ⟨d20_5, trivial⟩
theorem d20_6 : decode jdk_116_method_22_code 6 = .ok (.ireturn, 1) := by decide +kernel
theorem d20_7 : decode jdk_116_method_22_code 7 = .ok (.iload_n 0, 1) := by decide +kernel
theorem d20_8 : decode jdk_116_method_22_code 8 = .ok (.sipush 223, 3) := by decide +kernel
theorem d20_11 : decode jdk_116_method_22_code 11 = .ok (.iand, 1) := by decide +kernel
theorem d20_12 : decode jdk_116_method_22_code 12 = .ok (.istore_n 2, 1) := by decide +kernel
theorem d20_13 : decode jdk_116_method_22_code 13 = .ok (.iload_n 2, 1) := by decide +kernel
theorem d20_14 : decode jdk_116_method_22_code 14 = .ok (.bipush 65, 2) := by decide +kernel
theorem sg20_7_6 : decs jdk_116_method_22_code [(7, .iload_n 0, 1), (8, .sipush 223, 3), (11, .iand, 1), (12, .istore_n 2, 1), (13, .iload_n 2, 1), (14, .bipush 65, 2)] := ⟨d20_7, d20_8, d20_11, d20_12, d20_13, d20_14, trivial⟩
theorem d20_16 : decode jdk_116_method_22_code 16 = .ok (.if_icmp .ge 5, 3) := by decide +kernel
theorem d20_19 : decode jdk_116_method_22_code 19 = .ok (.iconst 0, 1) := by decide +kernel
theorem sg20_19_1 : decs jdk_116_method_22_code [(19, .iconst 0, 1)] := ⟨d20_19, trivial⟩
theorem d20_20 : decode jdk_116_method_22_code 20 = .ok (.ireturn, 1) := by decide +kernel
theorem d20_21 : decode jdk_116_method_22_code 21 = .ok (.iload_n 2, 1) := by decide +kernel
theorem d20_22 : decode jdk_116_method_22_code 22 = .ok (.bipush 90, 2) := by decide +kernel
theorem sg20_21_2 : decs jdk_116_method_22_code [(21, .iload_n 2, 1), (22, .bipush 90, 2)] := ⟨d20_21, d20_22, trivial⟩
theorem d20_24 : decode jdk_116_method_22_code 24 = .ok (.if_icmp .le 24, 3) := by decide +kernel
theorem d20_27 : decode jdk_116_method_22_code 27 = .ok (.iload_n 2, 1) := by decide +kernel
theorem d20_28 : decode jdk_116_method_22_code 28 = .ok (.sipush 192, 3) := by decide +kernel
theorem sg20_27_2 : decs jdk_116_method_22_code [(27, .iload_n 2, 1), (28, .sipush 192, 3)] := ⟨d20_27, d20_28, trivial⟩
theorem d20_31 : decode jdk_116_method_22_code 31 = .ok (.if_icmp .lt 30, 3) := by decide +kernel
theorem d20_61 : decode jdk_116_method_22_code 61 = .ok (.iconst 0, 1) := by decide +kernel
theorem sg20_61_1 : decs jdk_116_method_22_code [(61, .iconst 0, 1)] := ⟨d20_61, trivial⟩
theorem d20_34 : decode jdk_116_method_22_code 34 = .ok (.iload_n 2, 1) := by decide +kernel
theorem d20_35 : decode jdk_116_method_22_code 35 = .ok (.sipush 222, 3) := by decide +kernel
theorem sg20_34_2 : decs jdk_116_method_22_code [(34, .iload_n 2, 1), (35, .sipush 222, 3)] := ⟨d20_34, d20_35, trivial⟩
theorem d20_38 : decode jdk_116_method_22_code 38 = .ok (.if_icmp .gt 23, 3) := by decide +kernel
theorem d20_41 : decode jdk_116_method_22_code 41 = .ok (.iload_n 2, 1) := by decide +kernel
theorem d20_42 : decode jdk_116_method_22_code 42 = .ok (.sipush 215, 3) := by decide +kernel
theorem sg20_41_2 : decs jdk_116_method_22_code [(41, .iload_n 2, 1), (42, .sipush 215, 3)] := ⟨d20_41, d20_42, trivial⟩
theorem d20_45 : decode jdk_116_method_22_code 45 = .ok (.if_icmp .eq 16, 3) := by decide +kernel
theorem d20_48 : decode jdk_116_method_22_code 48 = .ok (.iload_n 2, 1) := by decide +kernel
theorem d20_49 : decode jdk_116_method_22_code 49 = .ok (.iload_n 1, 1) := by decide +kernel
theorem d20_50 : decode jdk_116_method_22_code 50 = .ok (.sipush 223, 3) := by decide +kernel
theorem d20_53 : decode jdk_116_method_22_code 53 = .ok (.iand, 1) := by decide +kernel
theorem sg20_48_4 : decs jdk_116_method_22_code [(48, .iload_n 2, 1), (49, .iload_n 1, 1), (50, .sipush 223, 3), (53, .iand, 1)] := ⟨d20_48, d20_49, d20_50, d20_53, trivial⟩
theorem d20_54 : decode jdk_116_method_22_code 54 = .ok (.if_icmp .ne 7, 3) := by decide +kernel
theorem d20_57 : decode jdk_116_method_22_code 57 = .ok (.iconst 1, 1) := by decide +kernel
theorem d20_58 : decode jdk_116_method_22_code 58 = .ok (.goto 4, 3) := by decide +kernel
theorem sg20_57_2 : decs jdk_116_method_22_code [(57, .iconst 1, 1), (58, .goto 4, 3)] := ⟨d20_57, d20_58, trivial⟩
theorem d20_62 : decode jdk_116_method_22_code 62 = .ok (.ireturn, 1) := by decide +kernel
def f_rm20_0 (i0 i1 : Int32) : Int32 := (if i0 = i1 then (1 : Int32) else (if (i0 &&& (223 : Int32)) < (65 : Int32) then (0 : Int32) else (if (90 : Int32) < (i0 &&& (223 : Int32)) then (if (i0 &&& (223 : Int32)) < (192 : Int32) then (0 : Int32) else (if (222 : Int32) < (i0 &&& (223 : Int32)) then (0 : Int32) else (if (i0 &&& (223 : Int32)) = (215 : Int32) then (0 : Int32) else (if (i0 &&& (223 : Int32)) = (i1 &&& (223 : Int32)) then (1 : Int32) else (0 : Int32))))) else (if (i0 &&& (223 : Int32)) = (i1 &&& (223 : Int32)) then (1 : Int32) else (0 : Int32)))))
theorem ef_rm20_0 (m : MethodId) (x0 : Int32) (x1 : Int32) : entryFrame m #[(.int x0), (.int x1)] 3 = mkF m 0 #[.val (.int x0), .val (.int x1), .unset] [] := by first | (simp [entryFrame, mkF, argsToLocals, Value.category]; done) | rfl
theorem own_pn6 : plainName "java/lang/CharacterDataLatin1" = true := by first | (simp [plainName, overriddenIn]; done) | decide +kernel
theorem own_w97 {Z : State} {a0 : Array Value} (hw : HW a0 Z) : (Cond.code ⟨"java/lang/CharacterDataLatin1", "equalsIgnoreCase", "(BB)Z"⟩ jdk_116_method_22_code 3 (Option.some Jvm.ClassFile.FieldType.boolean)).before a0 Z = true := hw _ (List.mem_of_getElem? (i := 97) rfl)
theorem own_w96 {Z : State} {a0 : Array Value} (hw : HW a0 Z) : (Cond.initialized "java/lang/CharacterDataLatin1").before a0 Z = true := hw _ (List.mem_of_getElem? (i := 96) rfl)
theorem own_pd16 : parseMethodDescriptor "(BB)Z" = some ⟨[.byte, .byte], some .boolean⟩ := by decide +kernel
theorem own_w95 {Z : State} {a0 : Array Value} (hw : HW a0 Z) : (Cond.static ⟨"java/lang/CharacterDataLatin1", "equalsIgnoreCase", "(BB)Z"⟩).before a0 Z = true := hw _ (List.mem_of_getElem? (i := 95) rfl)
theorem d18_35 : decode jdk_43_method_30_code 35 = .ok (.ifCond .eq 6, 3) := by decide +kernel
theorem d18_41 : decode jdk_43_method_30_code 41 = .ok (.iconst 0, 1) := by decide +kernel
theorem sg18_41_1 : decs jdk_43_method_30_code [(41, .iconst 0, 1)] := ⟨d18_41, trivial⟩
theorem d18_42 : decode jdk_43_method_30_code 42 = .ok (.ireturn, 1) := by decide +kernel
theorem d18_38 : decode jdk_43_method_30_code 38 = .ok (.goto (-32), 3) := by decide +kernel
theorem sg18_38_3 : decs jdk_43_method_30_code [(38, .goto (-32), 3), (6, .iload_n 1, 1), (7, .iload 5, 2)] := ⟨d18_38, d18_6, d18_7, trivial⟩
def f_rm18_1 (u1 u2 : Int32) : Int32 := (if (f_rm20_0 u1 u2) = (0 : Int32) then (0 : Int32) else (1 : Int32))
theorem ef_rm18_1 (m : MethodId) (x0 : Addr) (x1 : Int32) (x2 : Addr) (x4 : Int32) : entryFrame m #[(.ref x0), (.int x1), (.ref x2), (.int x1), (.int x4)] 8 = mkF m 0 #[.val (.ref x0), .val (.int x1), .val (.ref x2), .val (.int x1), .val (.int x4), .unset, .unset, .unset] [] := by first | (simp [entryFrame, mkF, argsToLocals, Value.category]; done) | rfl
theorem ef_rm17_1 (m : MethodId) (x0 : Addr) (x1 : Int32) (x2 : Int32) (x3 : Addr) : entryFrame m #[(.ref x0), (.int x1), (.int x2), (.ref x3), (.int x2), (.int x1)] 9 = mkF m 0 #[.val (.ref x0), .val (.int x1), .val (.int x2), .val (.ref x3), .val (.int x2), .val (.int x1), .unset, .unset, .unset] [] := by first | (simp [entryFrame, mkF, argsToLocals, Value.category]; done) | rfl
def f_rm14_2 (u2 u1 : Int32) : Int32 := (if (f_rm18_1 u1 u2) = (0 : Int32) then (0 : Int32) else (1 : Int32))
theorem ef_rm14_2 (m : MethodId) (x0 : Addr) (x1 : Addr) : entryFrame m #[(.ref x0), (.ref x1)] 2 = mkF m 0 #[.val (.ref x0), .val (.ref x1)] [] := by first | (simp [entryFrame, mkF, argsToLocals, Value.category]; done) | rfl
theorem ef_rm15_3 (m : MethodId) (x0 : Addr) : entryFrame m #[(.ref x0)] 1 = mkF m 0 #[.val (.ref x0)] [] := by first | (simp [entryFrame, mkF, argsToLocals, Value.category]; done) | rfl
def f_rm18_2 (u1 u2 u3 u4 : Int32) : Int32 := (if (f_rm20_0 u1 u3) = (0 : Int32) then (0 : Int32) else (if (f_rm20_0 u2 u4) = (0 : Int32) then (0 : Int32) else (1 : Int32)))
theorem ef_rm18_2 (m : MethodId) (x0 : Addr) (x1 : Int32) (x2 : Addr) (x4 : Int32) : entryFrame m #[(.ref x0), (.int x1), (.ref x2), (.int x1), (.int x4)] 8 = mkF m 0 #[.val (.ref x0), .val (.int x1), .val (.ref x2), .val (.int x1), .val (.int x4), .unset, .unset, .unset] [] := by first | (simp [entryFrame, mkF, argsToLocals, Value.category]; done) | rfl
theorem ef_rm17_2 (m : MethodId) (x0 : Addr) (x1 : Int32) (x2 : Int32) (x3 : Addr) (x5 : Int32) : entryFrame m #[(.ref x0), (.int x1), (.int x2), (.ref x3), (.int x2), (.int x5)] 9 = mkF m 0 #[.val (.ref x0), .val (.int x1), .val (.int x2), .val (.ref x3), .val (.int x2), .val (.int x5), .unset, .unset, .unset] [] := by first | (simp [entryFrame, mkF, argsToLocals, Value.category]; done) | rfl
def f_rm14_3 (u3 u4 u1 u2 : Int32) : Int32 := (if (f_rm18_2 u1 u2 u3 u4) = (0 : Int32) then (0 : Int32) else (1 : Int32))
theorem ef_rm14_3 (m : MethodId) (x0 : Addr) (x1 : Addr) : entryFrame m #[(.ref x0), (.ref x1)] 2 = mkF m 0 #[.val (.ref x0), .val (.ref x1)] [] := by first | (simp [entryFrame, mkF, argsToLocals, Value.category]; done) | rfl
theorem ef_rm15_4 (m : MethodId) (x0 : Addr) : entryFrame m #[(.ref x0)] 1 = mkF m 0 #[.val (.ref x0)] [] := by first | (simp [entryFrame, mkF, argsToLocals, Value.category]; done) | rfl
def f_rm18_3 (u1 u2 u3 u4 u5 u6 : Int32) : Int32 := (if (f_rm20_0 u1 u4) = (0 : Int32) then (0 : Int32) else (if (f_rm20_0 u2 u5) = (0 : Int32) then (0 : Int32) else (if (f_rm20_0 u3 u6) = (0 : Int32) then (0 : Int32) else (1 : Int32))))
theorem ef_rm18_3 (m : MethodId) (x0 : Addr) (x1 : Int32) (x2 : Addr) (x4 : Int32) : entryFrame m #[(.ref x0), (.int x1), (.ref x2), (.int x1), (.int x4)] 8 = mkF m 0 #[.val (.ref x0), .val (.int x1), .val (.ref x2), .val (.int x1), .val (.int x4), .unset, .unset, .unset] [] := by first | (simp [entryFrame, mkF, argsToLocals, Value.category]; done) | rfl
theorem ef_rm17_3 (m : MethodId) (x0 : Addr) (x1 : Int32) (x2 : Int32) (x3 : Addr) (x5 : Int32) : entryFrame m #[(.ref x0), (.int x1), (.int x2), (.ref x3), (.int x2), (.int x5)] 9 = mkF m 0 #[.val (.ref x0), .val (.int x1), .val (.int x2), .val (.ref x3), .val (.int x2), .val (.int x5), .unset, .unset, .unset] [] := by first | (simp [entryFrame, mkF, argsToLocals, Value.category]; done) | rfl
def f_rm14_4 (u4 u5 u6 u1 u2 u3 : Int32) : Int32 := (if (f_rm18_3 u1 u2 u3 u4 u5 u6) = (0 : Int32) then (0 : Int32) else (1 : Int32))
theorem ef_rm14_4 (m : MethodId) (x0 : Addr) (x1 : Addr) : entryFrame m #[(.ref x0), (.ref x1)] 2 = mkF m 0 #[.val (.ref x0), .val (.ref x1)] [] := by first | (simp [entryFrame, mkF, argsToLocals, Value.category]; done) | rfl
theorem own_w71 {Z : State} {a0 : Array Value} (hw : HW a0 Z) : (Cond.code ⟨"java/lang/String", "equalsIgnoreCase", "(Ljava/lang/String;)Z"⟩ jdk_42_method_70_code 2 (Option.some Jvm.ClassFile.FieldType.boolean)).before a0 Z = true := hw _ (List.mem_of_getElem? (i := 71) rfl)
theorem own_pd17 : parseMethodDescriptor "(Ljava/lang/String;)Z" = some ⟨[(.object "java/lang/String")], some .boolean⟩ := by decide +kernel
theorem own_w70 {Z : State} {a0 : Array Value} (hw : HW a0 Z) : (Cond.selects "java/lang/String" ⟨"java/lang/String", "equalsIgnoreCase", "(Ljava/lang/String;)Z"⟩ ⟨"java/lang/String", "equalsIgnoreCase", "(Ljava/lang/String;)Z"⟩).before a0 Z = true := hw _ (List.mem_of_getElem? (i := 70) rfl)
theorem own_w68 {Z : State} {a0 : Array Value} (hw : HW a0 Z) : (Cond.declares ⟨"java/lang/String", "equalsIgnoreCase", "(Ljava/lang/String;)Z"⟩).before a0 Z = true := hw _ (List.mem_of_getElem? (i := 68) rfl)
theorem own_w69 {Z : State} {a0 : Array Value} (hw : HW a0 Z) : (Cond.instanceMethod ⟨"java/lang/String", "equalsIgnoreCase", "(Ljava/lang/String;)Z"⟩).before a0 Z = true := hw _ (List.mem_of_getElem? (i := 69) rfl)
theorem d13_11 : decode prog_3_method_4_code 11 = .ok (.ifCond .eq 35, 3) := by decide +kernel
theorem d13_46 : decode prog_3_method_4_code 46 = .ok (.iconst 0, 1) := by decide +kernel
theorem sg13_46_1 : decs prog_3_method_4_code [(46, .iconst 0, 1)] := ⟨d13_46, trivial⟩
theorem d13_14 : decode prog_3_method_4_code 14 = .ok (.aload_n 0, 1) := by decide +kernel
theorem sg13_14_1 : decs prog_3_method_4_code [(14, .aload_n 0, 1)] := ⟨d13_14, trivial⟩
theorem d13_15 : decode prog_3_method_4_code 15 = .ok (.getfield 13, 3) := by decide +kernel
theorem d13_18 : decode prog_3_method_4_code 18 = .ok (.ifnull 24, 3) := by decide +kernel
theorem d13_21 : decode prog_3_method_4_code 21 = .ok (.aload_n 1, 1) := by decide +kernel
theorem sg13_21_1 : decs prog_3_method_4_code [(21, .aload_n 1, 1)] := ⟨d13_21, trivial⟩
theorem d13_22 : decode prog_3_method_4_code 22 = .ok (.getfield 13, 3) := by decide +kernel
theorem d13_25 : decode prog_3_method_4_code 25 = .ok (.ifnull 17, 3) := by decide +kernel
theorem d13_28 : decode prog_3_method_4_code 28 = .ok (.aload_n 0, 1) := by decide +kernel
theorem sg13_28_1 : decs prog_3_method_4_code [(28, .aload_n 0, 1)] := ⟨d13_28, trivial⟩
theorem d13_29 : decode prog_3_method_4_code 29 = .ok (.getfield 13, 3) := by decide +kernel
theorem d13_32 : decode prog_3_method_4_code 32 = .ok (.aload_n 1, 1) := by decide +kernel
theorem sg13_32_1 : decs prog_3_method_4_code [(32, .aload_n 1, 1)] := ⟨d13_32, trivial⟩
theorem d13_33 : decode prog_3_method_4_code 33 = .ok (.getfield 13, 3) := by decide +kernel
theorem d13_36 : decode prog_3_method_4_code 36 = .ok (.invokevirtual 36, 3) := by decide +kernel
theorem d13_39 : decode prog_3_method_4_code 39 = .ok (.ifCond .eq 7, 3) := by decide +kernel
theorem d13_42 : decode prog_3_method_4_code 42 = .ok (.iconst 1, 1) := by decide +kernel
theorem d13_43 : decode prog_3_method_4_code 43 = .ok (.goto 4, 3) := by decide +kernel
theorem sg13_42_2 : decs prog_3_method_4_code [(42, .iconst 1, 1), (43, .goto 4, 3)] := ⟨d13_42, d13_43, trivial⟩
theorem d13_47 : decode prog_3_method_4_code 47 = .ok (.ireturn, 1) := by decide +kernel
def f_rm13_0 (l_1 l_3 l_2 l_4 : List Int32) : Int32 := (if (own_eqic l_1 l_3) = (0 : Int32) then (0 : Int32) else (if (own_eqic l_2 l_4) = (0 : Int32) then (0 : Int32) else (1 : Int32)))
theorem ef_rm13_0 (m : MethodId) (x0 : Addr) (x1 : Addr) : entryFrame m #[(.ref x0), (.ref x1)] 2 = mkF m 0 #[.val (.ref x0), .val (.ref x1)] [] := by first | (simp [entryFrame, mkF, argsToLocals, Value.category]; done) | rfl
theorem own_w66 {Z : State} {a0 : Array Value} (hw : HW a0 Z) : (Cond.code ⟨"com/example/invocant/invocant/Canonical", "matchesIgnoringCase", "(Lcom/example/invocant/invocant/Canonical;)Z"⟩ prog_3_method_4_code 2 (Option.some Jvm.ClassFile.FieldType.boolean)).before a0 Z = true := hw _ (List.mem_of_getElem? (i := 66) rfl)
theorem own_pd18 : parseMethodDescriptor "(Lcom/example/invocant/invocant/Canonical;)Z" = some ⟨[(.object "com/example/invocant/invocant/Canonical")], some .boolean⟩ := by decide +kernel
theorem own_w65 {Z : State} {a0 : Array Value} (hw : HW a0 Z) : (Cond.selects "com/example/invocant/invocant/Canonical" ⟨"com/example/invocant/invocant/Canonical", "matchesIgnoringCase", "(Lcom/example/invocant/invocant/Canonical;)Z"⟩ ⟨"com/example/invocant/invocant/Canonical", "matchesIgnoringCase", "(Lcom/example/invocant/invocant/Canonical;)Z"⟩).before a0 Z = true := hw _ (List.mem_of_getElem? (i := 65) rfl)
theorem own_w63 {Z : State} {a0 : Array Value} (hw : HW a0 Z) : (Cond.declares ⟨"com/example/invocant/invocant/Canonical", "matchesIgnoringCase", "(Lcom/example/invocant/invocant/Canonical;)Z"⟩).before a0 Z = true := hw _ (List.mem_of_getElem? (i := 63) rfl)
theorem own_w64 {Z : State} {a0 : Array Value} (hw : HW a0 Z) : (Cond.instanceMethod ⟨"com/example/invocant/invocant/Canonical", "matchesIgnoringCase", "(Lcom/example/invocant/invocant/Canonical;)Z"⟩).before a0 Z = true := hw _ (List.mem_of_getElem? (i := 64) rfl)
theorem sg0_104_1 : decs code [(104, .iload 8, 2)] := ⟨at_104, trivial⟩
theorem sg0_109_2 : decs code [(109, .iconst 1, 1), (110, .goto 4, 3)] := ⟨at_109, at_110, trivial⟩
theorem sg0_113_1 : decs code [(113, .iconst 0, 1)] := ⟨at_113, trivial⟩
theorem ef_rm10_1 (m : MethodId) (x0 : Addr) (x1 : Addr) : entryFrame m #[(.ref x0), (.ref x1), .null] 3 = mkF m 0 #[.val (.ref x0), .val (.ref x1), .val .null] [] := by first | (simp [entryFrame, mkF, argsToLocals, Value.category]; done) | rfl
def f_rm13_1 (l_1 l_3 : List Int32) : Int32 := (if (own_eqic l_1 l_3) = (0 : Int32) then (0 : Int32) else (1 : Int32))
theorem ef_rm13_1 (m : MethodId) (x0 : Addr) (x1 : Addr) : entryFrame m #[(.ref x0), (.ref x1)] 2 = mkF m 0 #[.val (.ref x0), .val (.ref x1)] [] := by first | (simp [entryFrame, mkF, argsToLocals, Value.category]; done) | rfl
def f_rm13_2 (l_1 l_2 : List Int32) : Int32 := (if (own_eqic l_1 l_2) = (0 : Int32) then (0 : Int32) else (1 : Int32))
theorem ef_rm13_2 (m : MethodId) (x0 : Addr) (x1 : Addr) : entryFrame m #[(.ref x0), (.ref x1)] 2 = mkF m 0 #[.val (.ref x0), .val (.ref x1)] [] := by first | (simp [entryFrame, mkF, argsToLocals, Value.category]; done) | rfl
theorem ef_rm0 (m : MethodId) (x0 : Int32) (x1 : Int32) (x2 : Int32) (x3 : Int32) : entryFrame m #[(.int x0), (.int x1), (.int x2), (.int x3)] maxLocals = mkF m 0 #[.val (.int x0), .val (.int x1), .val (.int x2), .val (.int x3), .unset, .unset, .unset, .unset, .unset] [] := by first | (simp [entryFrame, mkF, argsToLocals, Value.category, maxLocals]; done) | rfl
abbrev own_EL : List (String × Nat) := [("java/lang/String", 7)]
theorem own_hEL {Z : State} {a0 : Array Value} (hw : HW a0 Z) : EW Z a0 own_EL := (EW.cons (own_w24 hw) (by decide) EW.nil)
theorem own_wS0 : ∀ a ∈ Bundle.stringAtoms, a ∈ tables_1 := by decide +kernel
theorem own_wS {Z : State} {a0 : Array Value} (hw : HW a0 Z) : ∀ a ∈ Bundle.stringAtoms, a.before a0 Z = true := fun a ha => hw a (own_wS0 a ha)
theorem rm1_0 (l : Launch) (Z : State) (a0 : Array Value) (hw : HW a0 Z) (ws : List Jvm.Cond) (i0 : Int32) (h0 : Heap) (n0 : Nat) (O0 : Old Z n0 h0) :
    Con l Z (⟨"com/example/invocant/invocant/CanonicalMatchesIgnoringCasePinLaw", "isNull", "(I)Z"⟩ : MethodName) method_6_code 1 (some .boolean) ws ({ frames := 0, cells := 0, slots := 0, locals := 0 } : Room) #[(.int i0)] h0 (Pur (some (.int (f_rm1_0 i0))) h0) := by
 refine own_body (plainFor_of_name own_pn0) (fun m => ef_rm1_0 m i0) ?_
 intro p e s m below meth c s₁ hx hby hlk hml hret hZ hown hnm X0 e0
 have N0 := Fr.nil n0
 refine Home.run X0 hx hby sg1_0_5 (pc' := 6) (L' := #[.val (.int i0)]) (S' := [(.int (((i0.toUInt32 >>> ((26 : Int32) &&& 31).toUInt32).toInt32) &&& (1 : Int32)))]) rfl ?_
 suffices J4 : ∀ {T : State} (X : Stand p l e ({ frames := 0, cells := 0, slots := 0, locals := 0 } : Room) s m #[(.int i0)] below meth c T [] 0 0) (eT : T.heap = h0) (v5 : Int32) (hv5 : v5 = (if (((i0.toUInt32 >>> ((26 : Int32) &&& 31).toUInt32).toInt32) &&& (1 : Int32)) = (0 : Int32) then (0 : Int32) else (1 : Int32))), @Home p e below _ T (mkF m 14 #[.val (.int i0)] [(.int v5)]) by
  by_cases c1 : (((i0.toUInt32 >>> ((26 : Int32) &&& 31).toUInt32).toInt32) &&& (1 : Int32)) = (0 : Int32)
  ·
   refine Home.go (fun _ => XS.ifYes X0.here hx rfl (pc0 := 6) (pc' := 13) rfl (hb hby d1_6) rfl ((if0 _ _).trans (teq c1).1) (by decide) (by decide)) ?_
   have bd2 : ¬ (((i0.toUInt32 >>> ((26 : Int32) &&& 31).toUInt32).toInt32) &&& (1 : Int32)) < (0 : Int32) ∧ ¬ (0 : Int32) < (((i0.toUInt32 >>> ((26 : Int32) &&& 31).toUInt32).toInt32) &&& (1 : Int32)) := ⟨(bnd_eql c1), (bnd_eqr c1)⟩
   refine Home.run X0 hx hby sg1_13_1 (pc' := 14) (L' := #[.val (.int i0)]) (S' := [(.int (0 : Int32))]) rfl ?_
   exact J4 X0 e0 _ (by simp only [if_pos c1])
  ·
   refine Home.go (fun _ => XS.ifNo X0.here hx rfl (hb hby d1_6) rfl ((if0 _ _).trans (feq c1).1)) ?_
   have bd3 : ¬ (((i0.toUInt32 >>> ((26 : Int32) &&& 31).toUInt32).toInt32) &&& (1 : Int32)) < (1 : Int32) ∧ ¬ (1 : Int32) < (((i0.toUInt32 >>> ((26 : Int32) &&& 31).toUInt32).toInt32) &&& (1 : Int32)) := ⟨(bnd_nel (bnd_and ((i0.toUInt32 >>> ((26 : Int32) &&& 31).toUInt32).toInt32) (1 : Int32) (by decide)).1 c1 (by decide +kernel)), (bnd_and ((i0.toUInt32 >>> ((26 : Int32) &&& 31).toUInt32).toInt32) (1 : Int32) (by decide)).2⟩
   refine Home.run X0 hx hby sg1_9_2 (pc' := 14) (L' := #[.val (.int i0)]) (S' := [(.int (1 : Int32))]) rfl ?_
   exact J4 X0 e0 _ (by simp only [if_neg c1])
 intro TJ4 XJ4 eJ4 v5 hv5
 have bv5 : ¬ v5 < (0 : Int32) ∧ ¬ (1 : Int32) < v5 := by rw [hv5]; exact (bnd_ite (bnd_mono (bnd_lit (0 : Int32)) (by decide +kernel) (by decide +kernel)) (bnd_mono (bnd_lit (1 : Int32)) (by decide +kernel) (by decide +kernel)))
 show Home TJ4 (mkF m 14 #[.val (.int i0)] [(.int v5)])
 exact Home.retN XJ4 hx hlk (t := .boolean) hret (by simp) (hb hby d1_14) ⟨congrArg some (congrArg Value.int (by subst hv5; first | rfl | (simp only [f_rm1_0, nar_bool_id bv5 (by decide +kernel) (by decide +kernel), nar_i2c, nar_i2b] <;> rfl) | (simp [f_rm1_0, nar_bool_id bv5 (by decide +kernel) (by decide +kernel)]; done))), rfl, eJ4⟩ (by decide) (by decide)
theorem f_rm1_0_bnd (i0 : Int32) : ¬ (f_rm1_0 i0) < (0 : Int32) ∧ ¬ (1 : Int32) < (f_rm1_0 i0) := by unfold f_rm1_0; (repeat' split) <;> first | exact bnd_mono (bnd_lit (0 : Int32)) (by decide +kernel) (by decide +kernel) | exact bnd_mono (bnd_lit (1 : Int32)) (by decide +kernel) (by decide +kernel)
theorem rm4_0 (l : Launch) (Z : State) (a0 : Array Value) (hw : HW a0 Z) (ws : List Jvm.Cond) (o0 o1 : Addr) (h0 : Heap) (n0 : Nat) (O0 : Old Z n0 h0) (E_o0 : Exa Z h0 o0 "java/lang/String") (F_value_o0 : Fld Z h0 o0 "java/lang/String" "value" "[B" .null) (g_o0 : n0 ≤ o0) (F_coder_o0 : Fld Z h0 o0 "java/lang/String" "coder" "B" (.int (0 : Int32))) :
    ConW l Z own_EL ([o0] : List Addr) false (⟨"java/lang/String", "<init>", "([CIILjava/lang/Void;)V"⟩ : MethodName) jdk_42_method_149_code 6 none ws ({ frames := 1, cells := 4, slots := 8, locals := 12 } : Room) #[(.ref o0), (.ref o1), (.int (0 : Int32)), (.int (0 : Int32)), .null] h0 (fun v h L => ∃ (b2 : Jvm.Addr), ∃ (k2 : ClassId), v = none ∧ Fr n0 L ∧ Keep h0 h [o0] ∧ Exa Z h o0 "java/lang/String" ∧ Fld Z h o0 "java/lang/String" "value" "[B" (.ref b2) ∧ Fld Z h o0 "java/lang/String" "coder" "B" (.int (0 : Int32)) ∧ Arv Z h b2 k2 .byte (0 : Int32) [] (.int (0 : Int32))) := by
 refine own_bodyW (plainFor_of_name own_pn1) (fun m => ef_rm4_0 m o0 o1 (0 : Int32)) ?_
 intro p e s m below meth c s₁ hx hby hlk hml hret hZ hown hnm X0 e0 Cd0
 have N0 := Fr.nil n0
 refine Home.run X0 hx hby sg4_0_1 (pc' := 1) (L' := #[.val (.ref o0), .val (.ref o1), .val (.int (0 : Int32)), .val (.int (0 : Int32)), .val .null, .unset]) (S' := [(.ref o0)]) rfl ?_
 refine Home.st (initO X0 hx hZ hown (own_w21 hw) (own_w22 hw) (own_w23 hw) e0 rfl (by rw [hml]; rfl) rfl (hb hby d4_1) (by decide) (W := 0) (by exact hW0) (by decide)) fun T1 X1 e1 => ?_
 refine Home.run X1 hx hby sg4_4_1 (pc' := 5) (L' := #[.val (.ref o0), .val (.ref o1), .val (.int (0 : Int32)), .val (.int (0 : Int32)), .val .null, .unset]) (S' := [(.int (0 : Int32))]) rfl ?_
 refine Home.go (fun _ => XS.ifNo X1.here hx rfl (hb hby d4_5) rfl ((if0 _ _).trans (teq (by decide)).2)) ?_
 refine Home.run X1 hx hby sg4_8_1 (pc' := 9) (L' := #[.val (.ref o0), .val (.ref o1), .val (.int (0 : Int32)), .val (.int (0 : Int32)), .val .null, .unset]) (S' := [(.ref o0)]) rfl ?_
 obtain ⟨ad2, b2, k2, T2, h2, X2, e2, E2, hZ, hown, Cd2, Ea2, Fc2, Fv2, V2, la2, lb2, hne2, st2⟩ := own_ldcW X1 hx hZ hown (own_hEL hw) Cd0 (own_w24 hw) (own_wS hw) e1 (List.mem_of_getElem? (i := 0) rfl) (vs := []) (z := (0 : Int32)) ⟨by decide, by rfl⟩ (by decide) (by decide) (g := (mkF m 9 #[.val (.ref o0), .val (.ref o1), .val (.int (0 : Int32)), .val (.int (0 : Int32)), .val .null, .unset] [(.ref o0)])) rfl (hb hby d4_9) (n := 0) (by decide) (by decide) (by decide) (by decide)
 refine Home.go st2 ?_
 have O2 := O0.ext E2
 have K2 : Keep h0 h2 ([o0] : List Addr) := Keep.ext (Keep.refl h0 ([o0] : List Addr)) E2
 show Home T2 (mkF m 11 #[.val (.ref o0), .val (.ref o1), .val (.int (0 : Int32)), .val (.int (0 : Int32)), .val .null, .unset] [(.ref ad2), (.ref o0)])
 refine Home.st (getF X2 hx hZ hown (host := "") (Or.inl (own_w30 hw)) Via.refl e2 Fv2 rfl rfl (hb hby d4_11)) fun T3 X3 e3 => ?_
 have q4 := (F_value_o0.ext E2)
 refine Home.wr (putF X3 hx hZ hown (host := "") (Or.inl (own_w30 hw)) Via.refl e3 q4 (E_o0.keep K2) (Or.inr ⟨(own_w26 hw), rfl, hnm⟩) (own_w12 hw) (ty := (.array .byte)) (by decide) rfl rfl rfl rfl (hb hby d4_14)) fun T5 h5 X5 e5 W5 => ?_
 have Fw5 := q4.same W5
 have O5 := O2.wr W5 g_o0
 have K5 : Keep h0 h5 ([o0] : List Addr) := Keep.wr K2 W5 (Or.inl (List.mem_of_getElem? (i := 0) rfl))
 have Cd5 := Cold.wr Cd2 W5 (Cold.safe Cd2 (List.mem_of_getElem? (i := 0) rfl))
 have N5 := Fr.snoc X5 N0 g_o0
 show Home T5 (mkF m 17 #[.val (.ref o0), .val (.ref o1), .val (.int (0 : Int32)), .val (.int (0 : Int32)), .val .null, .unset] [])
 refine Home.run X5 hx hby sg4_17_1 (pc' := 18) (L' := #[.val (.ref o0), .val (.ref o1), .val (.int (0 : Int32)), .val (.int (0 : Int32)), .val .null, .unset]) (S' := [(.ref o0)]) rfl ?_
 obtain ⟨ad6, b6, k6, T6, h6, X6, e6, E6, hZ, hown, Cd6, Ea6, Fc6, Fv6, V6, la6, lb6, hne6, st6⟩ := own_ldcW X5 hx hZ hown (own_hEL hw) Cd5 (own_w24 hw) (own_wS hw) e5 (List.mem_of_getElem? (i := 0) rfl) (vs := []) (z := (0 : Int32)) ⟨by decide, by rfl⟩ (by decide) (by decide) (g := (mkF m 18 #[.val (.ref o0), .val (.ref o1), .val (.int (0 : Int32)), .val (.int (0 : Int32)), .val .null, .unset] [(.ref o0)])) rfl (hb hby d4_18) (n := 0) (by decide) (by decide) (by decide) (by decide)
 refine Home.go st6 ?_
 have O6 := O5.ext E6
 have K6 : Keep h0 h6 ([o0] : List Addr) := Keep.ext K5 E6
 refine Home.st (getF X6 hx hZ hown (host := "") (Or.inl (own_w31 hw)) Via.refl e6 Fc6 rfl rfl (hb hby d4_20)) fun T7 X7 e7 => ?_
 have q8 := (((F_coder_o0.ext E2).other W5 (Or.inr (slot_ne (Or.inr (own_w27 hw)) (Or.inr (own_w26 hw)) (by decide) (t := .byte) (t' := (.array .byte)) (by decide) (by decide)))).ext E6)
 refine Home.wr (putFN X7 hx hZ hown (own_w31 hw) Via.refl e7 q8 (E_o0.keep K6) (Or.inr ⟨(own_w27 hw), rfl, hnm⟩) (own_w12 hw) (ty := .byte) (v := (.int (0 : Int32))) (v' := (.int (0 : Int32))) (by decide) rfl rfl rfl rfl (hb hby d4_23)) fun T9 h9 X9 e9 W9 => ?_
 have Fw9 := q8.same W9
 have O9 := O6.wr W9 g_o0
 have K9 : Keep h0 h9 ([o0] : List Addr) := Keep.wr K6 W9 (Or.inl (List.mem_of_getElem? (i := 0) rfl))
 have Cd9 := Cold.wr Cd6 W9 (Cold.safe Cd6 (List.mem_of_getElem? (i := 0) rfl))
 have N9 := Fr.snoc X9 N5 g_o0
 show Home T9 (mkF m 26 #[.val (.ref o0), .val (.ref o1), .val (.int (0 : Int32)), .val (.int (0 : Int32)), .val .null, .unset] [])
 have q10 := ((Fw5.ext E6).other W9 (Or.inr (slot_ne (Or.inr (own_w26 hw)) (Or.inr (own_w27 hw)) (by decide) (t := (.array .byte)) (t' := .byte) (by decide) (by decide))))
 have ne11 : b2 ≠ o0 := (Ne.symm (hne2 _ (List.mem_of_getElem? (i := 0) rfl)).2)
 have q12 := (((V2.other W5 ne11).ext E6).other W9 ne11)
 exact HomeW.ret0 X9 hx hlk hZ (own_hEL hw) e9 Cd9 hret (hb hby d4_26) (by rw [show T9.heap = h9 from e9]; exact ⟨b2, k2, rfl, N9, K9, (E_o0.keep K9), q10, Fw9, q12⟩) (by decide) (by decide)
theorem rm3_0 (l : Launch) (Z : State) (a0 : Array Value) (hw : HW a0 Z) (ws : List Jvm.Cond) (o0 o1 : Addr) (k_o1 : ClassId) (h0 : Heap) (n0 : Nat) (O0 : Old Z n0 h0) (V_o1 : Arv Z h0 o1 k_o1 .char (0 : Int32) [] (.int (0 : Int32))) (E_o0 : Exa Z h0 o0 "java/lang/String") (F_value_o0 : Fld Z h0 o0 "java/lang/String" "value" "[B" .null) (F_coder_o0 : Fld Z h0 o0 "java/lang/String" "coder" "B" (.int (0 : Int32))) (g_o0 : n0 ≤ o0) :
    ConW l Z own_EL ([o0] : List Addr) false (⟨"java/lang/String", "<init>", "([C)V"⟩ : MethodName) jdk_42_method_3_code 2 none ws ({ frames := 2, cells := 4, slots := 8, locals := 29 } : Room) #[(.ref o0), (.ref o1)] h0 (fun v h L => ∃ (b2_2 : Jvm.Addr), ∃ (k2_2 : ClassId), v = none ∧ Fr n0 L ∧ Keep h0 h [o0] ∧ Exa Z h o0 "java/lang/String" ∧ Fld Z h o0 "java/lang/String" "value" "[B" (.ref b2_2) ∧ Fld Z h o0 "java/lang/String" "coder" "B" (.int (0 : Int32)) ∧ Arv Z h b2_2 k2_2 .byte (0 : Int32) [] (.int (0 : Int32))) := by
 refine own_bodyW (plainFor_of_name own_pn1) (fun m => ef_rm3_0 m o0 o1) ?_
 intro p e s m below meth c s₁ hx hby hlk hml hret hZ hown hnm X0 e0 Cd0
 have N0 := Fr.nil n0
 refine Home.run X0 hx hby sg3_0_4 (pc' := 4) (L' := #[.val (.ref o0), .val (.ref o1)]) (S' := [(.ref o1), (.int (0 : Int32)), (.ref o1), (.ref o0)]) rfl ?_
 obtain ⟨cl1, Ar1, q1, S1, M1, H1, G1⟩ := id V_o1
 refine Home.go (own_alen X0 hx hZ e0 Ar1 S1 M1 rfl rfl (hb hby d3_4)) ?_
 refine Home.run X0 hx hby sg3_5_1 (pc' := 6) (L' := #[.val (.ref o0), .val (.ref o1)]) (S' := [.null, (.int (0 : Int32)), (.int (0 : Int32)), (.ref o1), (.ref o0)]) rfl ?_
 refine Home.call (own_specialW X0 hx hZ hown (own_hEL hw) Cd0 (allS (List.mem_of_getElem? (i := 0) rfl) all0) rfl (own_w17 hw) (own_w18 hw) (own_w13 hw) (own_w20 hw) (by decide) (rm4_0 l Z a0 hw [] o0 o1 h0 n0 O0 E_o0 F_value_o0 g_o0 F_coder_o0) e0 rfl (by rw [hml]; rfl) (a := o0) (argsL := [(.ref o1), (.int (0 : Int32)), (.int (0 : Int32)), .null]) (rest := []) (lenOf own_pd1 rfl) rfl rfl (W := 0) (by exact hW0) (by decide) (by decide) (hb hby d3_6) (by decide) (by decide)) ?_
 rintro _ T2 L2 X2 ⟨⟨b2_2, k2_2, rfl, N2q, K2q, P2_0, P2_1, P2_2, P2_3⟩, hZ, hown, Cd2, sR2⟩
 have O2 := Old.keep O0 K2q (allS g_o0 all0)
 have K2 : Keep h0 T2.heap ([o0] : List Addr) := Keep.trans (Keep.refl h0 ([o0] : List Addr)) K2q (allS (Or.inl (List.mem_of_getElem? (i := 0) rfl)) all0)
 have N2 := Fr.app N0 N2q
 show Home T2 (mkF m 9 #[.val (.ref o0), .val (.ref o1)] [])
 exact HomeW.ret0 X2 hx hlk hZ (own_hEL hw) rfl Cd2 hret (hb hby d3_9) ⟨b2_2, k2_2, rfl, N2, K2, P2_0, P2_1, P2_2, P2_3⟩ (by decide) (by decide)
theorem rm6_0 (l : Launch) (Z : State) (a0 : Array Value) (hw : HW a0 Z) (ws : List Jvm.Cond) (i0 : Int32) (h0 : Heap) (n0 : Nat) (O0 : Old Z n0 h0) :
    Con l Z (⟨"com/example/invocant/invocant/CanonicalMatchesIgnoringCasePinLaw", "ch", "(II)C"⟩ : MethodName) method_2_code 2 (some .char) ws ({ frames := 0, cells := 0, slots := 0, locals := 0 } : Room) #[(.int i0), (.int (0 : Int32))] h0 (Pur (some (.int (((i0.toUInt32 >>> ((2 : Int32) &&& 31).toUInt32).toInt32) &&& (255 : Int32)))) h0) := by
 refine own_body (plainFor_of_name own_pn0) (fun m => ef_rm6_0 m i0 (0 : Int32)) ?_
 intro p e s m below meth c s₁ hx hby hlk hml hret hZ hown hnm X0 e0
 have N0 := Fr.nil n0
 refine Home.run X0 hx hby sg6_0_10 (pc' := 13) (L' := #[.val (.int i0), .val (.int (0 : Int32))]) (S' := [(.int ((((i0.toUInt32 >>> ((2 : Int32) &&& 31).toUInt32).toInt32) &&& (255 : Int32)).toUInt32.toUInt16.toUInt32.toInt32))]) rfl ?_
 rw [i2c_id (bnd_and ((i0.toUInt32 >>> ((2 : Int32) &&& 31).toUInt32).toInt32) (255 : Int32) (by decide)) (by decide +kernel) (by decide +kernel)]
 exact Home.retN X0 hx hlk (t := .char) hret (by simp) (hb hby d6_13) ⟨congrArg some (congrArg Value.int (by first | rfl | exact nar_i2c _ | exact nar_i2b _ | exact nar_char_id (bnd_and ((i0.toUInt32 >>> ((2 : Int32) &&& 31).toUInt32).toInt32) (255 : Int32) (by decide)) (by decide +kernel) (by decide +kernel))), rfl, e0⟩ (by decide) (by decide)
theorem rm8_0 (l : Launch) (Z : State) (a0 : Array Value) (hw : HW a0 Z) (ws : List Jvm.Cond) (o0 o2 : Addr) (k_o0 : ClassId) (u1 : Int32) (k_o2 : ClassId) (h0 : Heap) (n0 : Nat) (O0 : Old Z n0 h0) (V_o0 : Arv Z h0 o0 k_o0 .char (1 : Int32) [(.int u1)] (.int (0 : Int32))) (bnd_u1 : ¬ u1 < (0 : Int32) ∧ ¬ (255 : Int32) < u1) (V_o2 : Arv Z h0 o2 k_o2 .byte (1 : Int32) [(.int (0 : Int32))] (.int (0 : Int32))) (g_o2 : n0 ≤ o2) :
    Con l Z (⟨"java/lang/StringUTF16", "compress", "([CI[BII)I"⟩ : MethodName) jdk_52_method_21_code 7 (some .int) ws ({ frames := 0, cells := 0, slots := 0, locals := 0 } : Room) #[(.ref o0), (.int (0 : Int32)), (.ref o2), (.int (0 : Int32)), (.int (1 : Int32))] h0 (fun v h L => v = some (.int (1 : Int32)) ∧ Fr n0 L ∧ Keep h0 h [o2] ∧ Arv Z h o2 k_o2 .byte (1 : Int32) [(.int (u1.toInt8.toInt32))] (.int (0 : Int32))) := by
 refine own_body (plainFor_of_name own_pn2) (fun m => ef_rm8_0 m o0 (0 : Int32) o2 (1 : Int32)) ?_
 intro p e s m below meth c s₁ hx hby hlk hml hret hZ hown hnm X0 e0
 have N0 := Fr.nil n0
 refine Home.run X0 hx hby sg8_0_4 (pc' := 7) (L' := #[.val (.ref o0), .val (.int (0 : Int32)), .val (.ref o2), .val (.int (0 : Int32)), .val (.int (1 : Int32)), .val (.int (0 : Int32)), .unset]) (S' := [(.int (1 : Int32)), (.int (0 : Int32))]) rfl ?_
 refine Home.go (fun _ => XS.icmpNo X0.here hx rfl (hb hby d8_7) rfl (tlt (by decide)).2.1) ?_
 refine Home.run X0 hx hby sg8_10_2 (pc' := 12) (L' := #[.val (.ref o0), .val (.int (0 : Int32)), .val (.ref o2), .val (.int (0 : Int32)), .val (.int (1 : Int32)), .val (.int (0 : Int32)), .unset]) (S' := [(.int (0 : Int32)), (.ref o0)]) rfl ?_
 obtain ⟨cl1, Ar1, q1, S1, M1, H1, G1⟩ := id V_o0
 have ib1 : ¬ ((0 : Int32) < 0 ∨ cl1.slots.size ≤ ((0 : Int32)).toNatClampNeg) := inb_of S1 ⟨by decide, by decide⟩
 refine Home.go (X0.caload hx (j := (0 : Int32)) (v := (.int u1)) (by rw [e0]; exact Ar1.1) (State.isArrayOf_alike hZ.alike Ar1.2.1) Ar1.2.2 ib1 (Has.at H1 ib1 rfl) rfl rfl (hb hby d8_12)) ?_
 refine Home.run X0 hx hby sg8_13_3 (pc' := 20) (L' := #[.val (.ref o0), .val (.int (0 : Int32)), .val (.ref o2), .val (.int (0 : Int32)), .val (.int (1 : Int32)), .val (.int (0 : Int32)), .val (.int u1)]) (S' := [(.int (255 : Int32)), (.int u1)]) rfl ?_
 refine Home.go (fun _ => XS.icmpYes X0.here hx rfl (pc0 := 20) (pc' := 26) rfl (hb hby d8_20) rfl (flt (bnd_nlt (bnd_lit (255 : Int32)) bnd_u1 (by decide +kernel))).2.2.2 (by decide) (by decide)) ?_
 refine Home.run X0 hx hby sg8_26_4 (pc' := 31) (L' := #[.val (.ref o0), .val (.int (0 : Int32)), .val (.ref o2), .val (.int (0 : Int32)), .val (.int (1 : Int32)), .val (.int (0 : Int32)), .val (.int u1)]) (S' := [(.int (u1.toInt8.toInt32)), (.int (0 : Int32)), (.ref o2)]) rfl ?_
 obtain ⟨cl2, Ar2, q2, S2, M2, H2, G2⟩ := id V_o2
 refine Home.wr (stB X0 hx hZ e0 Ar2 (j := (0 : Int32)) (inb_of S2 ⟨by decide, by decide⟩) rfl rfl (hb hby d8_31)) fun T2 h2 X2 e2 W2 => ?_
 have W2' := Wr.to W2 (congrArg Value.int (nar_byte_id (bnd_i2b u1) (by decide +kernel) (by decide +kernel)))
 have V2 : Arv Z h2 o2 k_o2 .byte (1 : Int32) [(.int (u1.toInt8.toInt32))] (.int (0 : Int32)) := Arv.set Ar2 q2 S2 M2 H2 G2 (fits_byte_b (bnd_i2b u1) (by decide +kernel) (by decide +kernel)) W2' 0 rfl (Nat.le_of_ble_eq_true rfl)
 have O2 := O0.wr W2 g_o2
 have K2 : Keep h0 h2 ([o2] : List Addr) := Keep.wr (Keep.refl h0 ([o2] : List Addr)) W2 (Or.inl (List.mem_of_getElem? (i := 0) rfl))
 have N2 := Fr.snoc X2 N0 g_o2
 show Home T2 (mkF m 32 #[.val (.ref o0), .val (.int (0 : Int32)), .val (.ref o2), .val (.int (0 : Int32)), .val (.int (1 : Int32)), .val (.int (0 : Int32)), .val (.int u1)] [])
 refine Home.run X2 hx hby sg8_32_6 (pc' := 7) (L' := #[.val (.ref o0), .val (.int (1 : Int32)), .val (.ref o2), .val (.int (1 : Int32)), .val (.int (1 : Int32)), .val (.int (1 : Int32)), .val (.int u1)]) (S' := [(.int (1 : Int32)), (.int (1 : Int32))]) rfl ?_
 refine Home.go (fun _ => XS.icmpYes X2.here hx rfl (pc0 := 7) (pc' := 44) rfl (hb hby d8_7) rfl (flt (by decide)).2.1 (by decide) (by decide)) ?_
 refine Home.run X2 hx hby sg8_44_1 (pc' := 46) (L' := #[.val (.ref o0), .val (.int (1 : Int32)), .val (.ref o2), .val (.int (1 : Int32)), .val (.int (1 : Int32)), .val (.int (1 : Int32)), .val (.int u1)]) (S' := [(.int (1 : Int32))]) rfl ?_
 exact Home.retI X2 hx hlk hret (hb hby d8_46) (by rw [show T2.heap = h2 from e2]; exact ⟨rfl, N2, K2, V2⟩) (by decide) (by decide)
theorem rm7_0 (l : Launch) (Z : State) (a0 : Array Value) (hw : HW a0 Z) (ws : List Jvm.Cond) (o0 : Addr) (k_o0 : ClassId) (u1 : Int32) (h0 : Heap) (n0 : Nat) (O0 : Old Z n0 h0) (V_o0 : Arv Z h0 o0 k_o0 .char (1 : Int32) [(.int u1)] (.int (0 : Int32))) (bnd_u1 : ¬ u1 < (0 : Int32) ∧ ¬ (255 : Int32) < u1) :
    Con l Z (⟨"java/lang/StringUTF16", "compress", "([CII)[B"⟩ : MethodName) jdk_52_method_16_code 6 (some (.array .byte)) ws ({ frames := 1, cells := 1, slots := 1, locals := 18 } : Room) #[(.ref o0), (.int (0 : Int32)), (.int (1 : Int32))] h0 (fun v h L => ∃ (b1 : Addr), ∃ (k1 : ClassId), v = some (.ref b1) ∧ Fr n0 L ∧ h0.size ≤ b1 ∧ Keep h0 h [] ∧ Arv Z h b1 k1 .byte (1 : Int32) [(.int (u1.toInt8.toInt32))] (.int (0 : Int32))) := by
 refine own_body (plainFor_of_name own_pn2) (fun m => ef_rm7_0 m o0 (0 : Int32) (1 : Int32)) ?_
 intro p e s m below meth c s₁ hx hby hlk hml hret hZ hown hnm X0 e0
 have N0 := Fr.nil n0
 refine Home.run X0 hx hby sg7_0_1 (pc' := 1) (L' := #[.val (.ref o0), .val (.int (0 : Int32)), .val (.int (1 : Int32)), .unset, .unset, .unset]) (S' := [(.int (1 : Int32))]) rfl ?_
 refine Home.na (own_newP (aty := .byte) X0 hx hZ (own_w25 hw) e0 (g := (mkF m 1 #[.val (.ref o0), .val (.int (0 : Int32)), .val (.int (1 : Int32)), .unset, .unset, .unset] [(.int (1 : Int32))])) rfl (hb hby d7_1) rfl (by decide) (cap := 1) (by decide) (by decide) (by decide) (by decide)) fun T1 h1 k1 b1 g1 X1 e1 E1 A1 => ?_
 have g_b1 : n0 ≤ b1 := Nat.le_trans (Old.le O0) (Nat.le_of_eq g1.symm)
 have V1 : Arv Z h1 b1 k1 .byte (1 : Int32) [(.int (0 : Int32))] (.int (0 : Int32)) := (Arv.new A1 (by decide)).pad (pad_rep [] (.int (0 : Int32)) 1)
 have O1 := O0.ext E1
 have K1 : Keep h0 h1 ([] : List Addr) := Keep.ext (Keep.refl h0 ([] : List Addr)) E1
 refine Home.run X1 hx hby sg7_3_6 (pc' := 9) (L' := #[.val (.ref o0), .val (.int (0 : Int32)), .val (.int (1 : Int32)), .val (.ref b1), .unset, .unset]) (S' := [(.int (1 : Int32)), (.int (0 : Int32)), (.ref b1), (.int (0 : Int32)), (.ref o0)]) rfl ?_
 refine Home.call (own_static X1 hx hZ hown (own_w40 hw) (own_w41 hw) (own_w38 hw) (own_w42 hw) (by decide) (rm8_0 l Z a0 hw [] o0 b1 k_o0 u1 k1 h1 n0 O1 (V_o0.keep K1 nin0) bnd_u1 V1 g_b1) e1 rfl (by rw [hml]; rfl) (argsL := [(.ref o0), (.int (0 : Int32)), (.ref b1), (.int (0 : Int32)), (.int (1 : Int32))]) (rest := []) (lenOf own_pd4 rfl) rfl rfl (W := 0) (by exact hW0) (by decide) (by decide) (hb hby d7_9) (by decide) (by decide)) ?_
 rintro _ T2 L2 X2 ⟨rfl, N2q, K2q, P2_0⟩
 have O2 := Old.keep O1 K2q (allS g_b1 all0)
 have K2 : Keep h0 T2.heap ([] : List Addr) := Keep.trans K1 K2q (allS (Or.inr (Nat.le_trans (Nat.le_refl _) (Nat.le_of_eq g1.symm))) all0)
 have N2 := Fr.app N0 N2q
 show Home T2 (mkF m 12 #[.val (.ref o0), .val (.int (0 : Int32)), .val (.int (1 : Int32)), .val (.ref b1), .unset, .unset] [(.int (1 : Int32))])
 refine Home.run X2 hx hby sg7_12_3 (pc' := 17) (L' := #[.val (.ref o0), .val (.int (0 : Int32)), .val (.int (1 : Int32)), .val (.ref b1), .val (.int (1 : Int32)), .unset]) (S' := [(.int (1 : Int32)), (.int (1 : Int32))]) rfl ?_
 refine Home.go (fun _ => XS.icmpYes X2.here hx rfl (pc0 := 17) (pc' := 57) rfl (hb hby d7_17) rfl (teq (by decide)).1 (by decide) (by decide)) ?_
 refine Home.run X2 hx hby sg7_57_1 (pc' := 58) (L' := #[.val (.ref o0), .val (.int (0 : Int32)), .val (.int (1 : Int32)), .val (.ref b1), .val (.int (1 : Int32)), .unset]) (S' := [(.ref b1)]) rfl ?_
 exact Home.retR X2 hx hlk hret rfl rfl (hb hby d7_58) ⟨b1, k1, rfl, N2, (Nat.le_trans (Nat.le_refl _) (Nat.le_of_eq g1.symm)), K2, P2_0⟩ (by decide) (by decide)
theorem rm9_0 (l : Launch) (Z : State) (a0 : Array Value) (hw : HW a0 Z) (ws : List Jvm.Cond) (o0 : Addr) (k_o0 : ClassId) (u1 : Int32) (h0 : Heap) (n0 : Nat) (O0 : Old Z n0 h0) (V_o0 : Arv Z h0 o0 k_o0 .byte (1 : Int32) [(.int u1)] (.int (0 : Int32))) :
    Con l Z (⟨"java/lang/StringUTF16", "coderFromArrayLen", "([BI)B"⟩ : MethodName) jdk_52_method_15_code 2 (some .byte) ws ({ frames := 0, cells := 0, slots := 0, locals := 0 } : Room) #[(.ref o0), (.int (1 : Int32))] h0 (Pur (some (.int (0 : Int32))) h0) := by
 refine own_body (plainFor_of_name own_pn2) (fun m => ef_rm9_0 m o0 (1 : Int32)) ?_
 intro p e s m below meth c s₁ hx hby hlk hml hret hZ hown hnm X0 e0
 have N0 := Fr.nil n0
 refine Home.run X0 hx hby sg9_0_2 (pc' := 2) (L' := #[.val (.ref o0), .val (.int (1 : Int32))]) (S' := [(.ref o0), (.int (1 : Int32))]) rfl ?_
 obtain ⟨cl1, Ar1, q1, S1, M1, H1, G1⟩ := id V_o0
 refine Home.go (own_alen X0 hx hZ e0 Ar1 S1 M1 rfl rfl (hb hby d9_2)) ?_
 refine Home.run X0 hx hby sg9_3_4 (pc' := 8) (L' := #[.val (.ref o0), .val (.int (1 : Int32))]) (S' := [(.int (0 : Int32))]) rfl ?_
 exact Home.retN X0 hx hlk (t := .byte) hret (by simp) (hb hby d9_8) ⟨congrArg some (congrArg Value.int (by first | rfl | exact nar_i2c _ | exact nar_i2b _)), rfl, e0⟩ (by decide) (by decide)
theorem rm4_1 (l : Launch) (Z : State) (a0 : Array Value) (hw : HW a0 Z) (ws : List Jvm.Cond) (o0 o1 : Addr) (sv_COMPACT_STRINGS : Int32) (k_o1 : ClassId) (u1 : Int32) (h0 : Heap) (n0 : Nat) (O0 : Old Z n0 h0) (S_COMPACT_STRINGS : Sta Z Z.heap "java/lang/String" "COMPACT_STRINGS" "Z" (.int sv_COMPACT_STRINGS)) (hCS : ¬ (sv_COMPACT_STRINGS = (0 : Int32))) (V_o1 : Arv Z h0 o1 k_o1 .char (1 : Int32) [(.int u1)] (.int (0 : Int32))) (bnd_u1 : ¬ u1 < (0 : Int32) ∧ ¬ (255 : Int32) < u1) (E_o0 : Exa Z h0 o0 "java/lang/String") (F_coder_o0 : Fld Z h0 o0 "java/lang/String" "coder" "B" (.int (0 : Int32))) (g_o0 : n0 ≤ o0) (F_value_o0 : Fld Z h0 o0 "java/lang/String" "value" "[B" .null) :
    Con l Z (⟨"java/lang/String", "<init>", "([CIILjava/lang/Void;)V"⟩ : MethodName) jdk_42_method_149_code 6 none ws ({ frames := 2, cells := 1, slots := 1, locals := 35 } : Room) #[(.ref o0), (.ref o1), (.int (0 : Int32)), (.int (1 : Int32)), .null] h0 (fun v h L => ∃ (b1_3 : Addr), ∃ (k1_3 : ClassId), v = none ∧ Fr n0 L ∧ h0.size ≤ b1_3 ∧ Keep h0 h [o0] ∧ Exa Z h o0 "java/lang/String" ∧ Fld Z h o0 "java/lang/String" "coder" "B" (.int (0 : Int32)) ∧ Fld Z h o0 "java/lang/String" "value" "[B" (.ref b1_3) ∧ Arv Z h b1_3 k1_3 .byte (1 : Int32) [(.int (u1.toInt8.toInt32))] (.int (0 : Int32))) := by
 refine own_body (plainFor_of_name own_pn1) (fun m => ef_rm4_1 m o0 o1 (0 : Int32) (1 : Int32)) ?_
 intro p e s m below meth c s₁ hx hby hlk hml hret hZ hown hnm X0 e0
 have N0 := Fr.nil n0
 refine Home.run X0 hx hby sg4_0_1 (pc' := 1) (L' := #[.val (.ref o0), .val (.ref o1), .val (.int (0 : Int32)), .val (.int (1 : Int32)), .val .null, .unset]) (S' := [(.ref o0)]) rfl ?_
 refine Home.st (initO X0 hx hZ hown (own_w21 hw) (own_w22 hw) (own_w23 hw) e0 rfl (by rw [hml]; rfl) rfl (hb hby d4_1) (by decide) (W := 0) (by exact hW0) (by decide)) fun T1 X1 e1 => ?_
 refine Home.run X1 hx hby sg4_4_1 (pc' := 5) (L' := #[.val (.ref o0), .val (.ref o1), .val (.int (0 : Int32)), .val (.int (1 : Int32)), .val .null, .unset]) (S' := [(.int (1 : Int32))]) rfl ?_
 refine Home.go (fun _ => XS.ifYes X1.here hx rfl (pc0 := 5) (pc' := 27) rfl (hb hby d4_5) rfl ((if0 _ _).trans (feq (by decide)).2) (by decide) (by decide)) ?_
 refine Home.st (getS2 X1 hx hZ hown (host := "") (Or.inl (own_w35 hw)) Via.refl e1 (S_COMPACT_STRINGS.ext O0.2) rfl (hb hby d4_27)) fun T2 X2 e2 => ?_
 refine Home.go (fun _ => XS.ifNo X2.here hx rfl (hb hby d4_30) rfl ((if0 _ _).trans (feq hCS).1)) ?_
 refine Home.run X2 hx hby sg4_33_3 (pc' := 36) (L' := #[.val (.ref o0), .val (.ref o1), .val (.int (0 : Int32)), .val (.int (1 : Int32)), .val .null, .unset]) (S' := [(.int (1 : Int32)), (.int (0 : Int32)), (.ref o1)]) rfl ?_
 refine Home.call (own_static X2 hx hZ hown (own_w36 hw) (own_w37 hw) (own_w38 hw) (own_w39 hw) (by decide) (rm7_0 l Z a0 hw [] o1 k_o1 u1 h0 n0 O0 V_o1 bnd_u1) e2 rfl (by rw [hml]; rfl) (argsL := [(.ref o1), (.int (0 : Int32)), (.int (1 : Int32))]) (rest := []) (lenOf own_pd5 rfl) rfl rfl (W := 0) (by exact hW0) (by decide) (by decide) (hb hby d4_36) (by decide) (by decide)) ?_
 rintro _ T3 L3 X3 ⟨b1_3, k1_3, rfl, N3q, sz_b1_3, K3q, P3_0⟩
 have g_b1_3 : n0 ≤ b1_3 := Nat.le_trans (Old.le O0) sz_b1_3
 have O3 := Old.keep O0 K3q all0
 have K3 : Keep h0 T3.heap ([o0] : List Addr) := Keep.trans (Keep.refl h0 ([o0] : List Addr)) K3q all0
 have N3 := Fr.app N0 N3q
 show Home T3 (mkF m 39 #[.val (.ref o0), .val (.ref o1), .val (.int (0 : Int32)), .val (.int (1 : Int32)), .val .null, .unset] [(.ref b1_3)])
 refine Home.run X3 hx hby sg4_39_4 (pc' := 45) (L' := #[.val (.ref o0), .val (.ref o1), .val (.int (0 : Int32)), .val (.int (1 : Int32)), .val .null, .val (.ref b1_3)]) (S' := [(.int (1 : Int32)), (.ref b1_3), (.ref o0)]) rfl ?_
 refine Home.st (own_pure (own_static X3 hx hZ hown (own_w43 hw) (own_w44 hw) (own_w38 hw) (own_w45 hw) (by decide) (rm9_0 l Z a0 hw [] b1_3 k1_3 (u1.toInt8.toInt32) T3.heap n0 O3 P3_0) rfl rfl (by rw [hml]; rfl) (argsL := [(.ref b1_3), (.int (1 : Int32))]) (rest := [(.ref o0)]) (lenOf own_pd6 rfl) rfl rfl (W := 1) (by exact hW0) (by decide) (by decide) (hb hby d4_45) (by decide) (by decide))) fun T4 X4 e4 => ?_
 have q5 := (F_coder_o0.keep K3q nin0)
 refine Home.wr (putFN X4 hx hZ hown (own_w31 hw) Via.refl e4 q5 (E_o0.keep K3) (Or.inr ⟨(own_w27 hw), rfl, hnm⟩) (own_w12 hw) (ty := .byte) (v := (.int (0 : Int32))) (v' := (.int (0 : Int32))) (by decide) rfl rfl rfl rfl (hb hby d4_48)) fun T6 h6 X6 e6 W6 => ?_
 have Fw6 := q5.same W6
 have O6 := O3.wr W6 g_o0
 have K6 : Keep h0 h6 ([o0] : List Addr) := Keep.wr K3 W6 (Or.inl (List.mem_of_getElem? (i := 0) rfl))
 have N6 := Fr.snoc X6 N3 g_o0
 show Home T6 (mkF m 51 #[.val (.ref o0), .val (.ref o1), .val (.int (0 : Int32)), .val (.int (1 : Int32)), .val .null, .val (.ref b1_3)] [])
 refine Home.run X6 hx hby sg4_51_2 (pc' := 54) (L' := #[.val (.ref o0), .val (.ref o1), .val (.int (0 : Int32)), .val (.int (1 : Int32)), .val .null, .val (.ref b1_3)]) (S' := [(.ref b1_3), (.ref o0)]) rfl ?_
 have q7 := ((F_value_o0.keep K3q nin0).other W6 (Or.inr (slot_ne (Or.inr (own_w26 hw)) (Or.inr (own_w27 hw)) (by decide) (t := (.array .byte)) (t' := .byte) (by decide) (by decide))))
 refine Home.wr (putF X6 hx hZ hown (host := "") (Or.inl (own_w30 hw)) Via.refl e6 q7 (E_o0.keep K6) (Or.inr ⟨(own_w26 hw), rfl, hnm⟩) (own_w12 hw) (ty := (.array .byte)) (by decide) rfl rfl rfl rfl (hb hby d4_54)) fun T8 h8 X8 e8 W8 => ?_
 have Fw8 := q7.same W8
 have O8 := O6.wr W8 g_o0
 have K8 : Keep h0 h8 ([o0] : List Addr) := Keep.wr K6 W8 (Or.inl (List.mem_of_getElem? (i := 0) rfl))
 have N8 := Fr.snoc X8 N6 g_o0
 have q9 := (Fw6.other W8 (Or.inr (slot_ne (Or.inr (own_w27 hw)) (Or.inr (own_w26 hw)) (by decide) (t := .byte) (t' := (.array .byte)) (by decide) (by decide))))
 have ne10 : b1_3 ≠ o0 := (Ne.symm (Nat.ne_of_lt (Nat.lt_of_lt_of_le E_o0.lt (Nat.le_trans (Nat.le_refl _) sz_b1_3))))
 have q11 := ((P3_0.other W6 ne10).other W8 ne10)
 exact Home.ret0 X8 hx hlk hret (hb hby d4_57) (by rw [show T8.heap = h8 from e8]; exact ⟨b1_3, k1_3, rfl, N8, (Nat.le_trans (Nat.le_refl _) sz_b1_3), K8, (E_o0.keep K8), q9, Fw8, q11⟩) (by decide) (by decide)
theorem rm3_1 (l : Launch) (Z : State) (a0 : Array Value) (hw : HW a0 Z) (ws : List Jvm.Cond) (o0 o1 : Addr) (k_o1 : ClassId) (u1 sv_COMPACT_STRINGS : Int32) (h0 : Heap) (n0 : Nat) (O0 : Old Z n0 h0) (V_o1 : Arv Z h0 o1 k_o1 .char (1 : Int32) [(.int u1)] (.int (0 : Int32))) (S_COMPACT_STRINGS : Sta Z Z.heap "java/lang/String" "COMPACT_STRINGS" "Z" (.int sv_COMPACT_STRINGS)) (E_o0 : Exa Z h0 o0 "java/lang/String") (F_coder_o0 : Fld Z h0 o0 "java/lang/String" "coder" "B" (.int (0 : Int32))) (F_value_o0 : Fld Z h0 o0 "java/lang/String" "value" "[B" .null) (bnd_u1 : ¬ u1 < (0 : Int32) ∧ ¬ (255 : Int32) < u1) (g_o0 : n0 ≤ o0) (hCS : ¬ (sv_COMPACT_STRINGS = (0 : Int32))) :
    Con l Z (⟨"java/lang/String", "<init>", "([C)V"⟩ : MethodName) jdk_42_method_3_code 2 none ws ({ frames := 3, cells := 1, slots := 1, locals := 52 } : Room) #[(.ref o0), (.ref o1)] h0 (fun v h L => ∃ (b1_3_2 : Addr), ∃ (k1_3_2 : ClassId), v = none ∧ Fr n0 L ∧ h0.size ≤ b1_3_2 ∧ Keep h0 h [o0] ∧ Exa Z h o0 "java/lang/String" ∧ Fld Z h o0 "java/lang/String" "coder" "B" (.int (0 : Int32)) ∧ Fld Z h o0 "java/lang/String" "value" "[B" (.ref b1_3_2) ∧ Arv Z h b1_3_2 k1_3_2 .byte (1 : Int32) [(.int (u1.toInt8.toInt32))] (.int (0 : Int32))) := by
 refine own_body (plainFor_of_name own_pn1) (fun m => ef_rm3_1 m o0 o1) ?_
 intro p e s m below meth c s₁ hx hby hlk hml hret hZ hown hnm X0 e0
 have N0 := Fr.nil n0
 refine Home.run X0 hx hby sg3_0_4 (pc' := 4) (L' := #[.val (.ref o0), .val (.ref o1)]) (S' := [(.ref o1), (.int (0 : Int32)), (.ref o1), (.ref o0)]) rfl ?_
 obtain ⟨cl1, Ar1, q1, S1, M1, H1, G1⟩ := id V_o1
 refine Home.go (own_alen X0 hx hZ e0 Ar1 S1 M1 rfl rfl (hb hby d3_4)) ?_
 refine Home.run X0 hx hby sg3_5_1 (pc' := 6) (L' := #[.val (.ref o0), .val (.ref o1)]) (S' := [.null, (.int (1 : Int32)), (.int (0 : Int32)), (.ref o1), (.ref o0)]) rfl ?_
 refine Home.call (own_special X0 hx hZ hown rfl (own_w17 hw) (own_w18 hw) (own_w13 hw) (own_w20 hw) (by decide) (rm4_1 l Z a0 hw [] o0 o1 sv_COMPACT_STRINGS k_o1 u1 h0 n0 O0 S_COMPACT_STRINGS hCS V_o1 bnd_u1 E_o0 F_coder_o0 g_o0 F_value_o0) e0 rfl (by rw [hml]; rfl) (a := o0) (argsL := [(.ref o1), (.int (0 : Int32)), (.int (1 : Int32)), .null]) (rest := []) (lenOf own_pd1 rfl) rfl rfl (W := 0) (by exact hW0) (by decide) (by decide) (hb hby d3_6) (by decide) (by decide)) ?_
 rintro _ T2 L2 X2 ⟨b1_3_2, k1_3_2, rfl, N2q, sz_b1_3_2, K2q, P2_0, P2_1, P2_2, P2_3⟩
 have g_b1_3_2 : n0 ≤ b1_3_2 := Nat.le_trans (Old.le O0) sz_b1_3_2
 have O2 := Old.keep O0 K2q (allS g_o0 all0)
 have K2 : Keep h0 T2.heap ([o0] : List Addr) := Keep.trans (Keep.refl h0 ([o0] : List Addr)) K2q (allS (Or.inl (List.mem_of_getElem? (i := 0) rfl)) all0)
 have N2 := Fr.app N0 N2q
 show Home T2 (mkF m 9 #[.val (.ref o0), .val (.ref o1)] [])
 exact Home.ret0 X2 hx hlk hret (hb hby d3_9) ⟨b1_3_2, k1_3_2, rfl, N2, (Nat.le_trans (Nat.le_refl _) sz_b1_3_2), K2, P2_0, P2_1, P2_2, P2_3⟩ (by decide) (by decide)
theorem rm6_1 (l : Launch) (Z : State) (a0 : Array Value) (hw : HW a0 Z) (ws : List Jvm.Cond) (i0 : Int32) (h0 : Heap) (n0 : Nat) (O0 : Old Z n0 h0) :
    Con l Z (⟨"com/example/invocant/invocant/CanonicalMatchesIgnoringCasePinLaw", "ch", "(II)C"⟩ : MethodName) method_2_code 2 (some .char) ws ({ frames := 0, cells := 0, slots := 0, locals := 0 } : Room) #[(.int i0), (.int (1 : Int32))] h0 (Pur (some (.int (((i0.toUInt32 >>> ((10 : Int32) &&& 31).toUInt32).toInt32) &&& (255 : Int32)))) h0) := by
 refine own_body (plainFor_of_name own_pn0) (fun m => ef_rm6_1 m i0 (1 : Int32)) ?_
 intro p e s m below meth c s₁ hx hby hlk hml hret hZ hown hnm X0 e0
 have N0 := Fr.nil n0
 refine Home.run X0 hx hby sg6_0_10 (pc' := 13) (L' := #[.val (.int i0), .val (.int (1 : Int32))]) (S' := [(.int ((((i0.toUInt32 >>> ((10 : Int32) &&& 31).toUInt32).toInt32) &&& (255 : Int32)).toUInt32.toUInt16.toUInt32.toInt32))]) rfl ?_
 rw [i2c_id (bnd_and ((i0.toUInt32 >>> ((10 : Int32) &&& 31).toUInt32).toInt32) (255 : Int32) (by decide)) (by decide +kernel) (by decide +kernel)]
 exact Home.retN X0 hx hlk (t := .char) hret (by simp) (hb hby d6_13) ⟨congrArg some (congrArg Value.int (by first | rfl | exact nar_i2c _ | exact nar_i2b _ | exact nar_char_id (bnd_and ((i0.toUInt32 >>> ((10 : Int32) &&& 31).toUInt32).toInt32) (255 : Int32) (by decide)) (by decide +kernel) (by decide +kernel))), rfl, e0⟩ (by decide) (by decide)
theorem rm8_1 (l : Launch) (Z : State) (a0 : Array Value) (hw : HW a0 Z) (ws : List Jvm.Cond) (o0 o2 : Addr) (k_o0 : ClassId) (u1 u2 : Int32) (k_o2 : ClassId) (h0 : Heap) (n0 : Nat) (O0 : Old Z n0 h0) (V_o0 : Arv Z h0 o0 k_o0 .char (2 : Int32) [(.int u1), (.int u2)] (.int (0 : Int32))) (bnd_u1 : ¬ u1 < (0 : Int32) ∧ ¬ (255 : Int32) < u1) (V_o2 : Arv Z h0 o2 k_o2 .byte (2 : Int32) [(.int (0 : Int32)), (.int (0 : Int32))] (.int (0 : Int32))) (g_o2 : n0 ≤ o2) (ne_o0_o2 : o0 ≠ o2) (bnd_u2 : ¬ u2 < (0 : Int32) ∧ ¬ (255 : Int32) < u2) :
    Con l Z (⟨"java/lang/StringUTF16", "compress", "([CI[BII)I"⟩ : MethodName) jdk_52_method_21_code 7 (some .int) ws ({ frames := 0, cells := 0, slots := 0, locals := 0 } : Room) #[(.ref o0), (.int (0 : Int32)), (.ref o2), (.int (0 : Int32)), (.int (2 : Int32))] h0 (fun v h L => v = some (.int (2 : Int32)) ∧ Fr n0 L ∧ Keep h0 h [o2] ∧ Arv Z h o2 k_o2 .byte (2 : Int32) [(.int (u1.toInt8.toInt32)), (.int (u2.toInt8.toInt32))] (.int (0 : Int32))) := by
 refine own_body (plainFor_of_name own_pn2) (fun m => ef_rm8_1 m o0 (0 : Int32) o2 (2 : Int32)) ?_
 intro p e s m below meth c s₁ hx hby hlk hml hret hZ hown hnm X0 e0
 have N0 := Fr.nil n0
 refine Home.run X0 hx hby sg8_0_4 (pc' := 7) (L' := #[.val (.ref o0), .val (.int (0 : Int32)), .val (.ref o2), .val (.int (0 : Int32)), .val (.int (2 : Int32)), .val (.int (0 : Int32)), .unset]) (S' := [(.int (2 : Int32)), (.int (0 : Int32))]) rfl ?_
 refine Home.go (fun _ => XS.icmpNo X0.here hx rfl (hb hby d8_7) rfl (tlt (by decide)).2.1) ?_
 refine Home.run X0 hx hby sg8_10_2 (pc' := 12) (L' := #[.val (.ref o0), .val (.int (0 : Int32)), .val (.ref o2), .val (.int (0 : Int32)), .val (.int (2 : Int32)), .val (.int (0 : Int32)), .unset]) (S' := [(.int (0 : Int32)), (.ref o0)]) rfl ?_
 obtain ⟨cl1, Ar1, q1, S1, M1, H1, G1⟩ := id V_o0
 have ib1 : ¬ ((0 : Int32) < 0 ∨ cl1.slots.size ≤ ((0 : Int32)).toNatClampNeg) := inb_of S1 ⟨by decide, by decide⟩
 refine Home.go (X0.caload hx (j := (0 : Int32)) (v := (.int u1)) (by rw [e0]; exact Ar1.1) (State.isArrayOf_alike hZ.alike Ar1.2.1) Ar1.2.2 ib1 (Has.at H1 ib1 rfl) rfl rfl (hb hby d8_12)) ?_
 refine Home.run X0 hx hby sg8_13_3 (pc' := 20) (L' := #[.val (.ref o0), .val (.int (0 : Int32)), .val (.ref o2), .val (.int (0 : Int32)), .val (.int (2 : Int32)), .val (.int (0 : Int32)), .val (.int u1)]) (S' := [(.int (255 : Int32)), (.int u1)]) rfl ?_
 refine Home.go (fun _ => XS.icmpYes X0.here hx rfl (pc0 := 20) (pc' := 26) rfl (hb hby d8_20) rfl (flt (bnd_nlt (bnd_lit (255 : Int32)) bnd_u1 (by decide +kernel))).2.2.2 (by decide) (by decide)) ?_
 refine Home.run X0 hx hby sg8_26_4 (pc' := 31) (L' := #[.val (.ref o0), .val (.int (0 : Int32)), .val (.ref o2), .val (.int (0 : Int32)), .val (.int (2 : Int32)), .val (.int (0 : Int32)), .val (.int u1)]) (S' := [(.int (u1.toInt8.toInt32)), (.int (0 : Int32)), (.ref o2)]) rfl ?_
 obtain ⟨cl2, Ar2, q2, S2, M2, H2, G2⟩ := id V_o2
 refine Home.wr (stB X0 hx hZ e0 Ar2 (j := (0 : Int32)) (inb_of S2 ⟨by decide, by decide⟩) rfl rfl (hb hby d8_31)) fun T2 h2 X2 e2 W2 => ?_
 have W2' := Wr.to W2 (congrArg Value.int (nar_byte_id (bnd_i2b u1) (by decide +kernel) (by decide +kernel)))
 have V2 : Arv Z h2 o2 k_o2 .byte (2 : Int32) [(.int (u1.toInt8.toInt32)), (.int (0 : Int32))] (.int (0 : Int32)) := Arv.set Ar2 q2 S2 M2 H2 G2 (fits_byte_b (bnd_i2b u1) (by decide +kernel) (by decide +kernel)) W2' 0 rfl (Nat.le_of_ble_eq_true rfl)
 have O2 := O0.wr W2 g_o2
 have K2 : Keep h0 h2 ([o2] : List Addr) := Keep.wr (Keep.refl h0 ([o2] : List Addr)) W2 (Or.inl (List.mem_of_getElem? (i := 0) rfl))
 have N2 := Fr.snoc X2 N0 g_o2
 show Home T2 (mkF m 32 #[.val (.ref o0), .val (.int (0 : Int32)), .val (.ref o2), .val (.int (0 : Int32)), .val (.int (2 : Int32)), .val (.int (0 : Int32)), .val (.int u1)] [])
 refine Home.run X2 hx hby sg8_32_6 (pc' := 7) (L' := #[.val (.ref o0), .val (.int (1 : Int32)), .val (.ref o2), .val (.int (1 : Int32)), .val (.int (2 : Int32)), .val (.int (1 : Int32)), .val (.int u1)]) (S' := [(.int (2 : Int32)), (.int (1 : Int32))]) rfl ?_
 refine Home.go (fun _ => XS.icmpNo X2.here hx rfl (hb hby d8_7) rfl (tlt (by decide)).2.1) ?_
 refine Home.run X2 hx hby sg8_10_2 (pc' := 12) (L' := #[.val (.ref o0), .val (.int (1 : Int32)), .val (.ref o2), .val (.int (1 : Int32)), .val (.int (2 : Int32)), .val (.int (1 : Int32)), .val (.int u1)]) (S' := [(.int (1 : Int32)), (.ref o0)]) rfl ?_
 have q3 := (V_o0.other W2 ne_o0_o2)
 obtain ⟨cl4, Ar4, q4, S4, M4, H4, G4⟩ := id q3
 have ib4 : ¬ ((1 : Int32) < 0 ∨ cl4.slots.size ≤ ((1 : Int32)).toNatClampNeg) := inb_of S4 ⟨by decide, by decide⟩
 refine Home.go (X2.caload hx (j := (1 : Int32)) (v := (.int u2)) (by rw [e2]; exact Ar4.1) (State.isArrayOf_alike hZ.alike Ar4.2.1) Ar4.2.2 ib4 (Has.at H4 ib4 rfl) rfl rfl (hb hby d8_12)) ?_
 refine Home.run X2 hx hby sg8_13_3 (pc' := 20) (L' := #[.val (.ref o0), .val (.int (1 : Int32)), .val (.ref o2), .val (.int (1 : Int32)), .val (.int (2 : Int32)), .val (.int (1 : Int32)), .val (.int u2)]) (S' := [(.int (255 : Int32)), (.int u2)]) rfl ?_
 refine Home.go (fun _ => XS.icmpYes X2.here hx rfl (pc0 := 20) (pc' := 26) rfl (hb hby d8_20) rfl (flt (bnd_nlt (bnd_lit (255 : Int32)) bnd_u2 (by decide +kernel))).2.2.2 (by decide) (by decide)) ?_
 refine Home.run X2 hx hby sg8_26_4 (pc' := 31) (L' := #[.val (.ref o0), .val (.int (1 : Int32)), .val (.ref o2), .val (.int (1 : Int32)), .val (.int (2 : Int32)), .val (.int (1 : Int32)), .val (.int u2)]) (S' := [(.int (u2.toInt8.toInt32)), (.int (1 : Int32)), (.ref o2)]) rfl ?_
 obtain ⟨cl5, Ar5, q5, S5, M5, H5, G5⟩ := id V2
 refine Home.wr (stB X2 hx hZ e2 Ar5 (j := (1 : Int32)) (inb_of S5 ⟨by decide, by decide⟩) rfl rfl (hb hby d8_31)) fun T5 h5 X5 e5 W5 => ?_
 have W5' := Wr.to W5 (congrArg Value.int (nar_byte_id (bnd_i2b u2) (by decide +kernel) (by decide +kernel)))
 have V5 : Arv Z h5 o2 k_o2 .byte (2 : Int32) [(.int (u1.toInt8.toInt32)), (.int (u2.toInt8.toInt32))] (.int (0 : Int32)) := Arv.set Ar5 q5 S5 M5 H5 G5 (fits_byte_b (bnd_i2b u2) (by decide +kernel) (by decide +kernel)) W5' 1 rfl (Nat.le_of_ble_eq_true rfl)
 have O5 := O2.wr W5 g_o2
 have K5 : Keep h0 h5 ([o2] : List Addr) := Keep.wr K2 W5 (Or.inl (List.mem_of_getElem? (i := 0) rfl))
 have N5 := Fr.snoc X5 N2 g_o2
 show Home T5 (mkF m 32 #[.val (.ref o0), .val (.int (1 : Int32)), .val (.ref o2), .val (.int (1 : Int32)), .val (.int (2 : Int32)), .val (.int (1 : Int32)), .val (.int u2)] [])
 refine Home.run X5 hx hby sg8_32_6 (pc' := 7) (L' := #[.val (.ref o0), .val (.int (2 : Int32)), .val (.ref o2), .val (.int (2 : Int32)), .val (.int (2 : Int32)), .val (.int (2 : Int32)), .val (.int u2)]) (S' := [(.int (2 : Int32)), (.int (2 : Int32))]) rfl ?_
 refine Home.go (fun _ => XS.icmpYes X5.here hx rfl (pc0 := 7) (pc' := 44) rfl (hb hby d8_7) rfl (flt (by decide)).2.1 (by decide) (by decide)) ?_
 refine Home.run X5 hx hby sg8_44_1 (pc' := 46) (L' := #[.val (.ref o0), .val (.int (2 : Int32)), .val (.ref o2), .val (.int (2 : Int32)), .val (.int (2 : Int32)), .val (.int (2 : Int32)), .val (.int u2)]) (S' := [(.int (2 : Int32))]) rfl ?_
 exact Home.retI X5 hx hlk hret (hb hby d8_46) (by rw [show T5.heap = h5 from e5]; exact ⟨rfl, N5, K5, V5⟩) (by decide) (by decide)
theorem rm7_1 (l : Launch) (Z : State) (a0 : Array Value) (hw : HW a0 Z) (ws : List Jvm.Cond) (o0 : Addr) (k_o0 : ClassId) (u1 u2 : Int32) (h0 : Heap) (n0 : Nat) (O0 : Old Z n0 h0) (V_o0 : Arv Z h0 o0 k_o0 .char (2 : Int32) [(.int u1), (.int u2)] (.int (0 : Int32))) (bnd_u1 : ¬ u1 < (0 : Int32) ∧ ¬ (255 : Int32) < u1) (bnd_u2 : ¬ u2 < (0 : Int32) ∧ ¬ (255 : Int32) < u2) :
    Con l Z (⟨"java/lang/StringUTF16", "compress", "([CII)[B"⟩ : MethodName) jdk_52_method_16_code 6 (some (.array .byte)) ws ({ frames := 1, cells := 1, slots := 2, locals := 18 } : Room) #[(.ref o0), (.int (0 : Int32)), (.int (2 : Int32))] h0 (fun v h L => ∃ (b1 : Addr), ∃ (k1 : ClassId), v = some (.ref b1) ∧ Fr n0 L ∧ h0.size ≤ b1 ∧ Keep h0 h [] ∧ Arv Z h b1 k1 .byte (2 : Int32) [(.int (u1.toInt8.toInt32)), (.int (u2.toInt8.toInt32))] (.int (0 : Int32))) := by
 refine own_body (plainFor_of_name own_pn2) (fun m => ef_rm7_1 m o0 (0 : Int32) (2 : Int32)) ?_
 intro p e s m below meth c s₁ hx hby hlk hml hret hZ hown hnm X0 e0
 have N0 := Fr.nil n0
 refine Home.run X0 hx hby sg7_0_1 (pc' := 1) (L' := #[.val (.ref o0), .val (.int (0 : Int32)), .val (.int (2 : Int32)), .unset, .unset, .unset]) (S' := [(.int (2 : Int32))]) rfl ?_
 refine Home.na (own_newP (aty := .byte) X0 hx hZ (own_w25 hw) e0 (g := (mkF m 1 #[.val (.ref o0), .val (.int (0 : Int32)), .val (.int (2 : Int32)), .unset, .unset, .unset] [(.int (2 : Int32))])) rfl (hb hby d7_1) rfl (by decide) (cap := 2) (by decide) (by decide) (by decide) (by decide)) fun T1 h1 k1 b1 g1 X1 e1 E1 A1 => ?_
 have g_b1 : n0 ≤ b1 := Nat.le_trans (Old.le O0) (Nat.le_of_eq g1.symm)
 have V1 : Arv Z h1 b1 k1 .byte (2 : Int32) [(.int (0 : Int32)), (.int (0 : Int32))] (.int (0 : Int32)) := (Arv.new A1 (by decide)).pad (pad_rep [] (.int (0 : Int32)) 2)
 have O1 := O0.ext E1
 have K1 : Keep h0 h1 ([] : List Addr) := Keep.ext (Keep.refl h0 ([] : List Addr)) E1
 refine Home.run X1 hx hby sg7_3_6 (pc' := 9) (L' := #[.val (.ref o0), .val (.int (0 : Int32)), .val (.int (2 : Int32)), .val (.ref b1), .unset, .unset]) (S' := [(.int (2 : Int32)), (.int (0 : Int32)), (.ref b1), (.int (0 : Int32)), (.ref o0)]) rfl ?_
 have ne2 : o0 ≠ b1 := (Nat.ne_of_lt (Nat.lt_of_lt_of_le V_o0.lt (Nat.le_trans (Nat.le_refl _) (Nat.le_of_eq g1.symm))))
 refine Home.call (own_static X1 hx hZ hown (own_w40 hw) (own_w41 hw) (own_w38 hw) (own_w42 hw) (by decide) (rm8_1 l Z a0 hw [] o0 b1 k_o0 u1 u2 k1 h1 n0 O1 (V_o0.keep K1 nin0) bnd_u1 V1 g_b1 ne2 bnd_u2) e1 rfl (by rw [hml]; rfl) (argsL := [(.ref o0), (.int (0 : Int32)), (.ref b1), (.int (0 : Int32)), (.int (2 : Int32))]) (rest := []) (lenOf own_pd4 rfl) rfl rfl (W := 0) (by exact hW0) (by decide) (by decide) (hb hby d7_9) (by decide) (by decide)) ?_
 rintro _ T3 L3 X3 ⟨rfl, N3q, K3q, P3_0⟩
 have O3 := Old.keep O1 K3q (allS g_b1 all0)
 have K3 : Keep h0 T3.heap ([] : List Addr) := Keep.trans K1 K3q (allS (Or.inr (Nat.le_trans (Nat.le_refl _) (Nat.le_of_eq g1.symm))) all0)
 have N3 := Fr.app N0 N3q
 show Home T3 (mkF m 12 #[.val (.ref o0), .val (.int (0 : Int32)), .val (.int (2 : Int32)), .val (.ref b1), .unset, .unset] [(.int (2 : Int32))])
 refine Home.run X3 hx hby sg7_12_3 (pc' := 17) (L' := #[.val (.ref o0), .val (.int (0 : Int32)), .val (.int (2 : Int32)), .val (.ref b1), .val (.int (2 : Int32)), .unset]) (S' := [(.int (2 : Int32)), (.int (2 : Int32))]) rfl ?_
 refine Home.go (fun _ => XS.icmpYes X3.here hx rfl (pc0 := 17) (pc' := 57) rfl (hb hby d7_17) rfl (teq (by decide)).1 (by decide) (by decide)) ?_
 refine Home.run X3 hx hby sg7_57_1 (pc' := 58) (L' := #[.val (.ref o0), .val (.int (0 : Int32)), .val (.int (2 : Int32)), .val (.ref b1), .val (.int (2 : Int32)), .unset]) (S' := [(.ref b1)]) rfl ?_
 exact Home.retR X3 hx hlk hret rfl rfl (hb hby d7_58) ⟨b1, k1, rfl, N3, (Nat.le_trans (Nat.le_refl _) (Nat.le_of_eq g1.symm)), K3, P3_0⟩ (by decide) (by decide)
theorem rm9_1 (l : Launch) (Z : State) (a0 : Array Value) (hw : HW a0 Z) (ws : List Jvm.Cond) (o0 : Addr) (k_o0 : ClassId) (u1 u2 : Int32) (h0 : Heap) (n0 : Nat) (O0 : Old Z n0 h0) (V_o0 : Arv Z h0 o0 k_o0 .byte (2 : Int32) [(.int u1), (.int u2)] (.int (0 : Int32))) :
    Con l Z (⟨"java/lang/StringUTF16", "coderFromArrayLen", "([BI)B"⟩ : MethodName) jdk_52_method_15_code 2 (some .byte) ws ({ frames := 0, cells := 0, slots := 0, locals := 0 } : Room) #[(.ref o0), (.int (2 : Int32))] h0 (Pur (some (.int (0 : Int32))) h0) := by
 refine own_body (plainFor_of_name own_pn2) (fun m => ef_rm9_1 m o0 (2 : Int32)) ?_
 intro p e s m below meth c s₁ hx hby hlk hml hret hZ hown hnm X0 e0
 have N0 := Fr.nil n0
 refine Home.run X0 hx hby sg9_0_2 (pc' := 2) (L' := #[.val (.ref o0), .val (.int (2 : Int32))]) (S' := [(.ref o0), (.int (2 : Int32))]) rfl ?_
 obtain ⟨cl1, Ar1, q1, S1, M1, H1, G1⟩ := id V_o0
 refine Home.go (own_alen X0 hx hZ e0 Ar1 S1 M1 rfl rfl (hb hby d9_2)) ?_
 refine Home.run X0 hx hby sg9_3_4 (pc' := 8) (L' := #[.val (.ref o0), .val (.int (2 : Int32))]) (S' := [(.int (0 : Int32))]) rfl ?_
 exact Home.retN X0 hx hlk (t := .byte) hret (by simp) (hb hby d9_8) ⟨congrArg some (congrArg Value.int (by first | rfl | exact nar_i2c _ | exact nar_i2b _)), rfl, e0⟩ (by decide) (by decide)
theorem rm4_2 (l : Launch) (Z : State) (a0 : Array Value) (hw : HW a0 Z) (ws : List Jvm.Cond) (o0 o1 : Addr) (sv_COMPACT_STRINGS : Int32) (k_o1 : ClassId) (u1 u2 : Int32) (h0 : Heap) (n0 : Nat) (O0 : Old Z n0 h0) (S_COMPACT_STRINGS : Sta Z Z.heap "java/lang/String" "COMPACT_STRINGS" "Z" (.int sv_COMPACT_STRINGS)) (hCS : ¬ (sv_COMPACT_STRINGS = (0 : Int32))) (V_o1 : Arv Z h0 o1 k_o1 .char (2 : Int32) [(.int u1), (.int u2)] (.int (0 : Int32))) (bnd_u1 : ¬ u1 < (0 : Int32) ∧ ¬ (255 : Int32) < u1) (bnd_u2 : ¬ u2 < (0 : Int32) ∧ ¬ (255 : Int32) < u2) (E_o0 : Exa Z h0 o0 "java/lang/String") (F_coder_o0 : Fld Z h0 o0 "java/lang/String" "coder" "B" (.int (0 : Int32))) (g_o0 : n0 ≤ o0) (F_value_o0 : Fld Z h0 o0 "java/lang/String" "value" "[B" .null) :
    Con l Z (⟨"java/lang/String", "<init>", "([CIILjava/lang/Void;)V"⟩ : MethodName) jdk_42_method_149_code 6 none ws ({ frames := 2, cells := 1, slots := 2, locals := 35 } : Room) #[(.ref o0), (.ref o1), (.int (0 : Int32)), (.int (2 : Int32)), .null] h0 (fun v h L => ∃ (b1_3 : Addr), ∃ (k1_3 : ClassId), v = none ∧ Fr n0 L ∧ h0.size ≤ b1_3 ∧ Keep h0 h [o0] ∧ Exa Z h o0 "java/lang/String" ∧ Fld Z h o0 "java/lang/String" "coder" "B" (.int (0 : Int32)) ∧ Fld Z h o0 "java/lang/String" "value" "[B" (.ref b1_3) ∧ Arv Z h b1_3 k1_3 .byte (2 : Int32) [(.int (u1.toInt8.toInt32)), (.int (u2.toInt8.toInt32))] (.int (0 : Int32))) := by
 refine own_body (plainFor_of_name own_pn1) (fun m => ef_rm4_2 m o0 o1 (0 : Int32) (2 : Int32)) ?_
 intro p e s m below meth c s₁ hx hby hlk hml hret hZ hown hnm X0 e0
 have N0 := Fr.nil n0
 refine Home.run X0 hx hby sg4_0_1 (pc' := 1) (L' := #[.val (.ref o0), .val (.ref o1), .val (.int (0 : Int32)), .val (.int (2 : Int32)), .val .null, .unset]) (S' := [(.ref o0)]) rfl ?_
 refine Home.st (initO X0 hx hZ hown (own_w21 hw) (own_w22 hw) (own_w23 hw) e0 rfl (by rw [hml]; rfl) rfl (hb hby d4_1) (by decide) (W := 0) (by exact hW0) (by decide)) fun T1 X1 e1 => ?_
 refine Home.run X1 hx hby sg4_4_1 (pc' := 5) (L' := #[.val (.ref o0), .val (.ref o1), .val (.int (0 : Int32)), .val (.int (2 : Int32)), .val .null, .unset]) (S' := [(.int (2 : Int32))]) rfl ?_
 refine Home.go (fun _ => XS.ifYes X1.here hx rfl (pc0 := 5) (pc' := 27) rfl (hb hby d4_5) rfl ((if0 _ _).trans (feq (by decide)).2) (by decide) (by decide)) ?_
 refine Home.st (getS2 X1 hx hZ hown (host := "") (Or.inl (own_w35 hw)) Via.refl e1 (S_COMPACT_STRINGS.ext O0.2) rfl (hb hby d4_27)) fun T2 X2 e2 => ?_
 refine Home.go (fun _ => XS.ifNo X2.here hx rfl (hb hby d4_30) rfl ((if0 _ _).trans (feq hCS).1)) ?_
 refine Home.run X2 hx hby sg4_33_3 (pc' := 36) (L' := #[.val (.ref o0), .val (.ref o1), .val (.int (0 : Int32)), .val (.int (2 : Int32)), .val .null, .unset]) (S' := [(.int (2 : Int32)), (.int (0 : Int32)), (.ref o1)]) rfl ?_
 refine Home.call (own_static X2 hx hZ hown (own_w36 hw) (own_w37 hw) (own_w38 hw) (own_w39 hw) (by decide) (rm7_1 l Z a0 hw [] o1 k_o1 u1 u2 h0 n0 O0 V_o1 bnd_u1 bnd_u2) e2 rfl (by rw [hml]; rfl) (argsL := [(.ref o1), (.int (0 : Int32)), (.int (2 : Int32))]) (rest := []) (lenOf own_pd5 rfl) rfl rfl (W := 0) (by exact hW0) (by decide) (by decide) (hb hby d4_36) (by decide) (by decide)) ?_
 rintro _ T3 L3 X3 ⟨b1_3, k1_3, rfl, N3q, sz_b1_3, K3q, P3_0⟩
 have g_b1_3 : n0 ≤ b1_3 := Nat.le_trans (Old.le O0) sz_b1_3
 have O3 := Old.keep O0 K3q all0
 have K3 : Keep h0 T3.heap ([o0] : List Addr) := Keep.trans (Keep.refl h0 ([o0] : List Addr)) K3q all0
 have N3 := Fr.app N0 N3q
 show Home T3 (mkF m 39 #[.val (.ref o0), .val (.ref o1), .val (.int (0 : Int32)), .val (.int (2 : Int32)), .val .null, .unset] [(.ref b1_3)])
 refine Home.run X3 hx hby sg4_39_4 (pc' := 45) (L' := #[.val (.ref o0), .val (.ref o1), .val (.int (0 : Int32)), .val (.int (2 : Int32)), .val .null, .val (.ref b1_3)]) (S' := [(.int (2 : Int32)), (.ref b1_3), (.ref o0)]) rfl ?_
 refine Home.st (own_pure (own_static X3 hx hZ hown (own_w43 hw) (own_w44 hw) (own_w38 hw) (own_w45 hw) (by decide) (rm9_1 l Z a0 hw [] b1_3 k1_3 (u1.toInt8.toInt32) (u2.toInt8.toInt32) T3.heap n0 O3 P3_0) rfl rfl (by rw [hml]; rfl) (argsL := [(.ref b1_3), (.int (2 : Int32))]) (rest := [(.ref o0)]) (lenOf own_pd6 rfl) rfl rfl (W := 1) (by exact hW0) (by decide) (by decide) (hb hby d4_45) (by decide) (by decide))) fun T4 X4 e4 => ?_
 have q5 := (F_coder_o0.keep K3q nin0)
 refine Home.wr (putFN X4 hx hZ hown (own_w31 hw) Via.refl e4 q5 (E_o0.keep K3) (Or.inr ⟨(own_w27 hw), rfl, hnm⟩) (own_w12 hw) (ty := .byte) (v := (.int (0 : Int32))) (v' := (.int (0 : Int32))) (by decide) rfl rfl rfl rfl (hb hby d4_48)) fun T6 h6 X6 e6 W6 => ?_
 have Fw6 := q5.same W6
 have O6 := O3.wr W6 g_o0
 have K6 : Keep h0 h6 ([o0] : List Addr) := Keep.wr K3 W6 (Or.inl (List.mem_of_getElem? (i := 0) rfl))
 have N6 := Fr.snoc X6 N3 g_o0
 show Home T6 (mkF m 51 #[.val (.ref o0), .val (.ref o1), .val (.int (0 : Int32)), .val (.int (2 : Int32)), .val .null, .val (.ref b1_3)] [])
 refine Home.run X6 hx hby sg4_51_2 (pc' := 54) (L' := #[.val (.ref o0), .val (.ref o1), .val (.int (0 : Int32)), .val (.int (2 : Int32)), .val .null, .val (.ref b1_3)]) (S' := [(.ref b1_3), (.ref o0)]) rfl ?_
 have q7 := ((F_value_o0.keep K3q nin0).other W6 (Or.inr (slot_ne (Or.inr (own_w26 hw)) (Or.inr (own_w27 hw)) (by decide) (t := (.array .byte)) (t' := .byte) (by decide) (by decide))))
 refine Home.wr (putF X6 hx hZ hown (host := "") (Or.inl (own_w30 hw)) Via.refl e6 q7 (E_o0.keep K6) (Or.inr ⟨(own_w26 hw), rfl, hnm⟩) (own_w12 hw) (ty := (.array .byte)) (by decide) rfl rfl rfl rfl (hb hby d4_54)) fun T8 h8 X8 e8 W8 => ?_
 have Fw8 := q7.same W8
 have O8 := O6.wr W8 g_o0
 have K8 : Keep h0 h8 ([o0] : List Addr) := Keep.wr K6 W8 (Or.inl (List.mem_of_getElem? (i := 0) rfl))
 have N8 := Fr.snoc X8 N6 g_o0
 have q9 := (Fw6.other W8 (Or.inr (slot_ne (Or.inr (own_w27 hw)) (Or.inr (own_w26 hw)) (by decide) (t := .byte) (t' := (.array .byte)) (by decide) (by decide))))
 have ne10 : b1_3 ≠ o0 := (Ne.symm (Nat.ne_of_lt (Nat.lt_of_lt_of_le E_o0.lt (Nat.le_trans (Nat.le_refl _) sz_b1_3))))
 have q11 := ((P3_0.other W6 ne10).other W8 ne10)
 exact Home.ret0 X8 hx hlk hret (hb hby d4_57) (by rw [show T8.heap = h8 from e8]; exact ⟨b1_3, k1_3, rfl, N8, (Nat.le_trans (Nat.le_refl _) sz_b1_3), K8, (E_o0.keep K8), q9, Fw8, q11⟩) (by decide) (by decide)
theorem rm3_2 (l : Launch) (Z : State) (a0 : Array Value) (hw : HW a0 Z) (ws : List Jvm.Cond) (o0 o1 : Addr) (k_o1 : ClassId) (u1 u2 sv_COMPACT_STRINGS : Int32) (h0 : Heap) (n0 : Nat) (O0 : Old Z n0 h0) (V_o1 : Arv Z h0 o1 k_o1 .char (2 : Int32) [(.int u1), (.int u2)] (.int (0 : Int32))) (S_COMPACT_STRINGS : Sta Z Z.heap "java/lang/String" "COMPACT_STRINGS" "Z" (.int sv_COMPACT_STRINGS)) (E_o0 : Exa Z h0 o0 "java/lang/String") (F_coder_o0 : Fld Z h0 o0 "java/lang/String" "coder" "B" (.int (0 : Int32))) (F_value_o0 : Fld Z h0 o0 "java/lang/String" "value" "[B" .null) (bnd_u1 : ¬ u1 < (0 : Int32) ∧ ¬ (255 : Int32) < u1) (bnd_u2 : ¬ u2 < (0 : Int32) ∧ ¬ (255 : Int32) < u2) (g_o0 : n0 ≤ o0) (hCS : ¬ (sv_COMPACT_STRINGS = (0 : Int32))) :
    Con l Z (⟨"java/lang/String", "<init>", "([C)V"⟩ : MethodName) jdk_42_method_3_code 2 none ws ({ frames := 3, cells := 1, slots := 2, locals := 52 } : Room) #[(.ref o0), (.ref o1)] h0 (fun v h L => ∃ (b1_3_2 : Addr), ∃ (k1_3_2 : ClassId), v = none ∧ Fr n0 L ∧ h0.size ≤ b1_3_2 ∧ Keep h0 h [o0] ∧ Exa Z h o0 "java/lang/String" ∧ Fld Z h o0 "java/lang/String" "coder" "B" (.int (0 : Int32)) ∧ Fld Z h o0 "java/lang/String" "value" "[B" (.ref b1_3_2) ∧ Arv Z h b1_3_2 k1_3_2 .byte (2 : Int32) [(.int (u1.toInt8.toInt32)), (.int (u2.toInt8.toInt32))] (.int (0 : Int32))) := by
 refine own_body (plainFor_of_name own_pn1) (fun m => ef_rm3_2 m o0 o1) ?_
 intro p e s m below meth c s₁ hx hby hlk hml hret hZ hown hnm X0 e0
 have N0 := Fr.nil n0
 refine Home.run X0 hx hby sg3_0_4 (pc' := 4) (L' := #[.val (.ref o0), .val (.ref o1)]) (S' := [(.ref o1), (.int (0 : Int32)), (.ref o1), (.ref o0)]) rfl ?_
 obtain ⟨cl1, Ar1, q1, S1, M1, H1, G1⟩ := id V_o1
 refine Home.go (own_alen X0 hx hZ e0 Ar1 S1 M1 rfl rfl (hb hby d3_4)) ?_
 refine Home.run X0 hx hby sg3_5_1 (pc' := 6) (L' := #[.val (.ref o0), .val (.ref o1)]) (S' := [.null, (.int (2 : Int32)), (.int (0 : Int32)), (.ref o1), (.ref o0)]) rfl ?_
 refine Home.call (own_special X0 hx hZ hown rfl (own_w17 hw) (own_w18 hw) (own_w13 hw) (own_w20 hw) (by decide) (rm4_2 l Z a0 hw [] o0 o1 sv_COMPACT_STRINGS k_o1 u1 u2 h0 n0 O0 S_COMPACT_STRINGS hCS V_o1 bnd_u1 bnd_u2 E_o0 F_coder_o0 g_o0 F_value_o0) e0 rfl (by rw [hml]; rfl) (a := o0) (argsL := [(.ref o1), (.int (0 : Int32)), (.int (2 : Int32)), .null]) (rest := []) (lenOf own_pd1 rfl) rfl rfl (W := 0) (by exact hW0) (by decide) (by decide) (hb hby d3_6) (by decide) (by decide)) ?_
 rintro _ T2 L2 X2 ⟨b1_3_2, k1_3_2, rfl, N2q, sz_b1_3_2, K2q, P2_0, P2_1, P2_2, P2_3⟩
 have g_b1_3_2 : n0 ≤ b1_3_2 := Nat.le_trans (Old.le O0) sz_b1_3_2
 have O2 := Old.keep O0 K2q (allS g_o0 all0)
 have K2 : Keep h0 T2.heap ([o0] : List Addr) := Keep.trans (Keep.refl h0 ([o0] : List Addr)) K2q (allS (Or.inl (List.mem_of_getElem? (i := 0) rfl)) all0)
 have N2 := Fr.app N0 N2q
 show Home T2 (mkF m 9 #[.val (.ref o0), .val (.ref o1)] [])
 exact Home.ret0 X2 hx hlk hret (hb hby d3_9) ⟨b1_3_2, k1_3_2, rfl, N2, (Nat.le_trans (Nat.le_refl _) sz_b1_3_2), K2, P2_0, P2_1, P2_2, P2_3⟩ (by decide) (by decide)
theorem rm6_2 (l : Launch) (Z : State) (a0 : Array Value) (hw : HW a0 Z) (ws : List Jvm.Cond) (i0 : Int32) (h0 : Heap) (n0 : Nat) (O0 : Old Z n0 h0) :
    Con l Z (⟨"com/example/invocant/invocant/CanonicalMatchesIgnoringCasePinLaw", "ch", "(II)C"⟩ : MethodName) method_2_code 2 (some .char) ws ({ frames := 0, cells := 0, slots := 0, locals := 0 } : Room) #[(.int i0), (.int (2 : Int32))] h0 (Pur (some (.int (((i0.toUInt32 >>> ((18 : Int32) &&& 31).toUInt32).toInt32) &&& (255 : Int32)))) h0) := by
 refine own_body (plainFor_of_name own_pn0) (fun m => ef_rm6_2 m i0 (2 : Int32)) ?_
 intro p e s m below meth c s₁ hx hby hlk hml hret hZ hown hnm X0 e0
 have N0 := Fr.nil n0
 refine Home.run X0 hx hby sg6_0_10 (pc' := 13) (L' := #[.val (.int i0), .val (.int (2 : Int32))]) (S' := [(.int ((((i0.toUInt32 >>> ((18 : Int32) &&& 31).toUInt32).toInt32) &&& (255 : Int32)).toUInt32.toUInt16.toUInt32.toInt32))]) rfl ?_
 rw [i2c_id (bnd_and ((i0.toUInt32 >>> ((18 : Int32) &&& 31).toUInt32).toInt32) (255 : Int32) (by decide)) (by decide +kernel) (by decide +kernel)]
 exact Home.retN X0 hx hlk (t := .char) hret (by simp) (hb hby d6_13) ⟨congrArg some (congrArg Value.int (by first | rfl | exact nar_i2c _ | exact nar_i2b _ | exact nar_char_id (bnd_and ((i0.toUInt32 >>> ((18 : Int32) &&& 31).toUInt32).toInt32) (255 : Int32) (by decide)) (by decide +kernel) (by decide +kernel))), rfl, e0⟩ (by decide) (by decide)
theorem rm8_2 (l : Launch) (Z : State) (a0 : Array Value) (hw : HW a0 Z) (ws : List Jvm.Cond) (o0 o2 : Addr) (k_o0 : ClassId) (u1 u2 u3 : Int32) (k_o2 : ClassId) (h0 : Heap) (n0 : Nat) (O0 : Old Z n0 h0) (V_o0 : Arv Z h0 o0 k_o0 .char (3 : Int32) [(.int u1), (.int u2), (.int u3)] (.int (0 : Int32))) (bnd_u1 : ¬ u1 < (0 : Int32) ∧ ¬ (255 : Int32) < u1) (V_o2 : Arv Z h0 o2 k_o2 .byte (3 : Int32) [(.int (0 : Int32)), (.int (0 : Int32)), (.int (0 : Int32))] (.int (0 : Int32))) (g_o2 : n0 ≤ o2) (ne_o0_o2 : o0 ≠ o2) (bnd_u2 : ¬ u2 < (0 : Int32) ∧ ¬ (255 : Int32) < u2) (bnd_u3 : ¬ u3 < (0 : Int32) ∧ ¬ (255 : Int32) < u3) :
    Con l Z (⟨"java/lang/StringUTF16", "compress", "([CI[BII)I"⟩ : MethodName) jdk_52_method_21_code 7 (some .int) ws ({ frames := 0, cells := 0, slots := 0, locals := 0 } : Room) #[(.ref o0), (.int (0 : Int32)), (.ref o2), (.int (0 : Int32)), (.int (3 : Int32))] h0 (fun v h L => v = some (.int (3 : Int32)) ∧ Fr n0 L ∧ Keep h0 h [o2] ∧ Arv Z h o2 k_o2 .byte (3 : Int32) [(.int (u1.toInt8.toInt32)), (.int (u2.toInt8.toInt32)), (.int (u3.toInt8.toInt32))] (.int (0 : Int32))) := by
 refine own_body (plainFor_of_name own_pn2) (fun m => ef_rm8_2 m o0 (0 : Int32) o2 (3 : Int32)) ?_
 intro p e s m below meth c s₁ hx hby hlk hml hret hZ hown hnm X0 e0
 have N0 := Fr.nil n0
 refine Home.run X0 hx hby sg8_0_4 (pc' := 7) (L' := #[.val (.ref o0), .val (.int (0 : Int32)), .val (.ref o2), .val (.int (0 : Int32)), .val (.int (3 : Int32)), .val (.int (0 : Int32)), .unset]) (S' := [(.int (3 : Int32)), (.int (0 : Int32))]) rfl ?_
 refine Home.go (fun _ => XS.icmpNo X0.here hx rfl (hb hby d8_7) rfl (tlt (by decide)).2.1) ?_
 refine Home.run X0 hx hby sg8_10_2 (pc' := 12) (L' := #[.val (.ref o0), .val (.int (0 : Int32)), .val (.ref o2), .val (.int (0 : Int32)), .val (.int (3 : Int32)), .val (.int (0 : Int32)), .unset]) (S' := [(.int (0 : Int32)), (.ref o0)]) rfl ?_
 obtain ⟨cl1, Ar1, q1, S1, M1, H1, G1⟩ := id V_o0
 have ib1 : ¬ ((0 : Int32) < 0 ∨ cl1.slots.size ≤ ((0 : Int32)).toNatClampNeg) := inb_of S1 ⟨by decide, by decide⟩
 refine Home.go (X0.caload hx (j := (0 : Int32)) (v := (.int u1)) (by rw [e0]; exact Ar1.1) (State.isArrayOf_alike hZ.alike Ar1.2.1) Ar1.2.2 ib1 (Has.at H1 ib1 rfl) rfl rfl (hb hby d8_12)) ?_
 refine Home.run X0 hx hby sg8_13_3 (pc' := 20) (L' := #[.val (.ref o0), .val (.int (0 : Int32)), .val (.ref o2), .val (.int (0 : Int32)), .val (.int (3 : Int32)), .val (.int (0 : Int32)), .val (.int u1)]) (S' := [(.int (255 : Int32)), (.int u1)]) rfl ?_
 refine Home.go (fun _ => XS.icmpYes X0.here hx rfl (pc0 := 20) (pc' := 26) rfl (hb hby d8_20) rfl (flt (bnd_nlt (bnd_lit (255 : Int32)) bnd_u1 (by decide +kernel))).2.2.2 (by decide) (by decide)) ?_
 refine Home.run X0 hx hby sg8_26_4 (pc' := 31) (L' := #[.val (.ref o0), .val (.int (0 : Int32)), .val (.ref o2), .val (.int (0 : Int32)), .val (.int (3 : Int32)), .val (.int (0 : Int32)), .val (.int u1)]) (S' := [(.int (u1.toInt8.toInt32)), (.int (0 : Int32)), (.ref o2)]) rfl ?_
 obtain ⟨cl2, Ar2, q2, S2, M2, H2, G2⟩ := id V_o2
 refine Home.wr (stB X0 hx hZ e0 Ar2 (j := (0 : Int32)) (inb_of S2 ⟨by decide, by decide⟩) rfl rfl (hb hby d8_31)) fun T2 h2 X2 e2 W2 => ?_
 have W2' := Wr.to W2 (congrArg Value.int (nar_byte_id (bnd_i2b u1) (by decide +kernel) (by decide +kernel)))
 have V2 : Arv Z h2 o2 k_o2 .byte (3 : Int32) [(.int (u1.toInt8.toInt32)), (.int (0 : Int32)), (.int (0 : Int32))] (.int (0 : Int32)) := Arv.set Ar2 q2 S2 M2 H2 G2 (fits_byte_b (bnd_i2b u1) (by decide +kernel) (by decide +kernel)) W2' 0 rfl (Nat.le_of_ble_eq_true rfl)
 have O2 := O0.wr W2 g_o2
 have K2 : Keep h0 h2 ([o2] : List Addr) := Keep.wr (Keep.refl h0 ([o2] : List Addr)) W2 (Or.inl (List.mem_of_getElem? (i := 0) rfl))
 have N2 := Fr.snoc X2 N0 g_o2
 show Home T2 (mkF m 32 #[.val (.ref o0), .val (.int (0 : Int32)), .val (.ref o2), .val (.int (0 : Int32)), .val (.int (3 : Int32)), .val (.int (0 : Int32)), .val (.int u1)] [])
 refine Home.run X2 hx hby sg8_32_6 (pc' := 7) (L' := #[.val (.ref o0), .val (.int (1 : Int32)), .val (.ref o2), .val (.int (1 : Int32)), .val (.int (3 : Int32)), .val (.int (1 : Int32)), .val (.int u1)]) (S' := [(.int (3 : Int32)), (.int (1 : Int32))]) rfl ?_
 refine Home.go (fun _ => XS.icmpNo X2.here hx rfl (hb hby d8_7) rfl (tlt (by decide)).2.1) ?_
 refine Home.run X2 hx hby sg8_10_2 (pc' := 12) (L' := #[.val (.ref o0), .val (.int (1 : Int32)), .val (.ref o2), .val (.int (1 : Int32)), .val (.int (3 : Int32)), .val (.int (1 : Int32)), .val (.int u1)]) (S' := [(.int (1 : Int32)), (.ref o0)]) rfl ?_
 have q3 := (V_o0.other W2 ne_o0_o2)
 obtain ⟨cl4, Ar4, q4, S4, M4, H4, G4⟩ := id q3
 have ib4 : ¬ ((1 : Int32) < 0 ∨ cl4.slots.size ≤ ((1 : Int32)).toNatClampNeg) := inb_of S4 ⟨by decide, by decide⟩
 refine Home.go (X2.caload hx (j := (1 : Int32)) (v := (.int u2)) (by rw [e2]; exact Ar4.1) (State.isArrayOf_alike hZ.alike Ar4.2.1) Ar4.2.2 ib4 (Has.at H4 ib4 rfl) rfl rfl (hb hby d8_12)) ?_
 refine Home.run X2 hx hby sg8_13_3 (pc' := 20) (L' := #[.val (.ref o0), .val (.int (1 : Int32)), .val (.ref o2), .val (.int (1 : Int32)), .val (.int (3 : Int32)), .val (.int (1 : Int32)), .val (.int u2)]) (S' := [(.int (255 : Int32)), (.int u2)]) rfl ?_
 refine Home.go (fun _ => XS.icmpYes X2.here hx rfl (pc0 := 20) (pc' := 26) rfl (hb hby d8_20) rfl (flt (bnd_nlt (bnd_lit (255 : Int32)) bnd_u2 (by decide +kernel))).2.2.2 (by decide) (by decide)) ?_
 refine Home.run X2 hx hby sg8_26_4 (pc' := 31) (L' := #[.val (.ref o0), .val (.int (1 : Int32)), .val (.ref o2), .val (.int (1 : Int32)), .val (.int (3 : Int32)), .val (.int (1 : Int32)), .val (.int u2)]) (S' := [(.int (u2.toInt8.toInt32)), (.int (1 : Int32)), (.ref o2)]) rfl ?_
 obtain ⟨cl5, Ar5, q5, S5, M5, H5, G5⟩ := id V2
 refine Home.wr (stB X2 hx hZ e2 Ar5 (j := (1 : Int32)) (inb_of S5 ⟨by decide, by decide⟩) rfl rfl (hb hby d8_31)) fun T5 h5 X5 e5 W5 => ?_
 have W5' := Wr.to W5 (congrArg Value.int (nar_byte_id (bnd_i2b u2) (by decide +kernel) (by decide +kernel)))
 have V5 : Arv Z h5 o2 k_o2 .byte (3 : Int32) [(.int (u1.toInt8.toInt32)), (.int (u2.toInt8.toInt32)), (.int (0 : Int32))] (.int (0 : Int32)) := Arv.set Ar5 q5 S5 M5 H5 G5 (fits_byte_b (bnd_i2b u2) (by decide +kernel) (by decide +kernel)) W5' 1 rfl (Nat.le_of_ble_eq_true rfl)
 have O5 := O2.wr W5 g_o2
 have K5 : Keep h0 h5 ([o2] : List Addr) := Keep.wr K2 W5 (Or.inl (List.mem_of_getElem? (i := 0) rfl))
 have N5 := Fr.snoc X5 N2 g_o2
 show Home T5 (mkF m 32 #[.val (.ref o0), .val (.int (1 : Int32)), .val (.ref o2), .val (.int (1 : Int32)), .val (.int (3 : Int32)), .val (.int (1 : Int32)), .val (.int u2)] [])
 refine Home.run X5 hx hby sg8_32_6 (pc' := 7) (L' := #[.val (.ref o0), .val (.int (2 : Int32)), .val (.ref o2), .val (.int (2 : Int32)), .val (.int (3 : Int32)), .val (.int (2 : Int32)), .val (.int u2)]) (S' := [(.int (3 : Int32)), (.int (2 : Int32))]) rfl ?_
 refine Home.go (fun _ => XS.icmpNo X5.here hx rfl (hb hby d8_7) rfl (tlt (by decide)).2.1) ?_
 refine Home.run X5 hx hby sg8_10_2 (pc' := 12) (L' := #[.val (.ref o0), .val (.int (2 : Int32)), .val (.ref o2), .val (.int (2 : Int32)), .val (.int (3 : Int32)), .val (.int (2 : Int32)), .val (.int u2)]) (S' := [(.int (2 : Int32)), (.ref o0)]) rfl ?_
 have q6 := (q3.other W5 ne_o0_o2)
 obtain ⟨cl7, Ar7, q7, S7, M7, H7, G7⟩ := id q6
 have ib7 : ¬ ((2 : Int32) < 0 ∨ cl7.slots.size ≤ ((2 : Int32)).toNatClampNeg) := inb_of S7 ⟨by decide, by decide⟩
 refine Home.go (X5.caload hx (j := (2 : Int32)) (v := (.int u3)) (by rw [e5]; exact Ar7.1) (State.isArrayOf_alike hZ.alike Ar7.2.1) Ar7.2.2 ib7 (Has.at H7 ib7 rfl) rfl rfl (hb hby d8_12)) ?_
 refine Home.run X5 hx hby sg8_13_3 (pc' := 20) (L' := #[.val (.ref o0), .val (.int (2 : Int32)), .val (.ref o2), .val (.int (2 : Int32)), .val (.int (3 : Int32)), .val (.int (2 : Int32)), .val (.int u3)]) (S' := [(.int (255 : Int32)), (.int u3)]) rfl ?_
 refine Home.go (fun _ => XS.icmpYes X5.here hx rfl (pc0 := 20) (pc' := 26) rfl (hb hby d8_20) rfl (flt (bnd_nlt (bnd_lit (255 : Int32)) bnd_u3 (by decide +kernel))).2.2.2 (by decide) (by decide)) ?_
 refine Home.run X5 hx hby sg8_26_4 (pc' := 31) (L' := #[.val (.ref o0), .val (.int (2 : Int32)), .val (.ref o2), .val (.int (2 : Int32)), .val (.int (3 : Int32)), .val (.int (2 : Int32)), .val (.int u3)]) (S' := [(.int (u3.toInt8.toInt32)), (.int (2 : Int32)), (.ref o2)]) rfl ?_
 obtain ⟨cl8, Ar8, q8, S8, M8, H8, G8⟩ := id V5
 refine Home.wr (stB X5 hx hZ e5 Ar8 (j := (2 : Int32)) (inb_of S8 ⟨by decide, by decide⟩) rfl rfl (hb hby d8_31)) fun T8 h8 X8 e8 W8 => ?_
 have W8' := Wr.to W8 (congrArg Value.int (nar_byte_id (bnd_i2b u3) (by decide +kernel) (by decide +kernel)))
 have V8 : Arv Z h8 o2 k_o2 .byte (3 : Int32) [(.int (u1.toInt8.toInt32)), (.int (u2.toInt8.toInt32)), (.int (u3.toInt8.toInt32))] (.int (0 : Int32)) := Arv.set Ar8 q8 S8 M8 H8 G8 (fits_byte_b (bnd_i2b u3) (by decide +kernel) (by decide +kernel)) W8' 2 rfl (Nat.le_of_ble_eq_true rfl)
 have O8 := O5.wr W8 g_o2
 have K8 : Keep h0 h8 ([o2] : List Addr) := Keep.wr K5 W8 (Or.inl (List.mem_of_getElem? (i := 0) rfl))
 have N8 := Fr.snoc X8 N5 g_o2
 show Home T8 (mkF m 32 #[.val (.ref o0), .val (.int (2 : Int32)), .val (.ref o2), .val (.int (2 : Int32)), .val (.int (3 : Int32)), .val (.int (2 : Int32)), .val (.int u3)] [])
 refine Home.run X8 hx hby sg8_32_6 (pc' := 7) (L' := #[.val (.ref o0), .val (.int (3 : Int32)), .val (.ref o2), .val (.int (3 : Int32)), .val (.int (3 : Int32)), .val (.int (3 : Int32)), .val (.int u3)]) (S' := [(.int (3 : Int32)), (.int (3 : Int32))]) rfl ?_
 refine Home.go (fun _ => XS.icmpYes X8.here hx rfl (pc0 := 7) (pc' := 44) rfl (hb hby d8_7) rfl (flt (by decide)).2.1 (by decide) (by decide)) ?_
 refine Home.run X8 hx hby sg8_44_1 (pc' := 46) (L' := #[.val (.ref o0), .val (.int (3 : Int32)), .val (.ref o2), .val (.int (3 : Int32)), .val (.int (3 : Int32)), .val (.int (3 : Int32)), .val (.int u3)]) (S' := [(.int (3 : Int32))]) rfl ?_
 exact Home.retI X8 hx hlk hret (hb hby d8_46) (by rw [show T8.heap = h8 from e8]; exact ⟨rfl, N8, K8, V8⟩) (by decide) (by decide)
theorem rm7_2 (l : Launch) (Z : State) (a0 : Array Value) (hw : HW a0 Z) (ws : List Jvm.Cond) (o0 : Addr) (k_o0 : ClassId) (u1 u2 u3 : Int32) (h0 : Heap) (n0 : Nat) (O0 : Old Z n0 h0) (V_o0 : Arv Z h0 o0 k_o0 .char (3 : Int32) [(.int u1), (.int u2), (.int u3)] (.int (0 : Int32))) (bnd_u1 : ¬ u1 < (0 : Int32) ∧ ¬ (255 : Int32) < u1) (bnd_u2 : ¬ u2 < (0 : Int32) ∧ ¬ (255 : Int32) < u2) (bnd_u3 : ¬ u3 < (0 : Int32) ∧ ¬ (255 : Int32) < u3) :
    Con l Z (⟨"java/lang/StringUTF16", "compress", "([CII)[B"⟩ : MethodName) jdk_52_method_16_code 6 (some (.array .byte)) ws ({ frames := 1, cells := 1, slots := 3, locals := 18 } : Room) #[(.ref o0), (.int (0 : Int32)), (.int (3 : Int32))] h0 (fun v h L => ∃ (b1 : Addr), ∃ (k1 : ClassId), v = some (.ref b1) ∧ Fr n0 L ∧ h0.size ≤ b1 ∧ Keep h0 h [] ∧ Arv Z h b1 k1 .byte (3 : Int32) [(.int (u1.toInt8.toInt32)), (.int (u2.toInt8.toInt32)), (.int (u3.toInt8.toInt32))] (.int (0 : Int32))) := by
 refine own_body (plainFor_of_name own_pn2) (fun m => ef_rm7_2 m o0 (0 : Int32) (3 : Int32)) ?_
 intro p e s m below meth c s₁ hx hby hlk hml hret hZ hown hnm X0 e0
 have N0 := Fr.nil n0
 refine Home.run X0 hx hby sg7_0_1 (pc' := 1) (L' := #[.val (.ref o0), .val (.int (0 : Int32)), .val (.int (3 : Int32)), .unset, .unset, .unset]) (S' := [(.int (3 : Int32))]) rfl ?_
 refine Home.na (own_newP (aty := .byte) X0 hx hZ (own_w25 hw) e0 (g := (mkF m 1 #[.val (.ref o0), .val (.int (0 : Int32)), .val (.int (3 : Int32)), .unset, .unset, .unset] [(.int (3 : Int32))])) rfl (hb hby d7_1) rfl (by decide) (cap := 3) (by decide) (by decide) (by decide) (by decide)) fun T1 h1 k1 b1 g1 X1 e1 E1 A1 => ?_
 have g_b1 : n0 ≤ b1 := Nat.le_trans (Old.le O0) (Nat.le_of_eq g1.symm)
 have V1 : Arv Z h1 b1 k1 .byte (3 : Int32) [(.int (0 : Int32)), (.int (0 : Int32)), (.int (0 : Int32))] (.int (0 : Int32)) := (Arv.new A1 (by decide)).pad (pad_rep [] (.int (0 : Int32)) 3)
 have O1 := O0.ext E1
 have K1 : Keep h0 h1 ([] : List Addr) := Keep.ext (Keep.refl h0 ([] : List Addr)) E1
 refine Home.run X1 hx hby sg7_3_6 (pc' := 9) (L' := #[.val (.ref o0), .val (.int (0 : Int32)), .val (.int (3 : Int32)), .val (.ref b1), .unset, .unset]) (S' := [(.int (3 : Int32)), (.int (0 : Int32)), (.ref b1), (.int (0 : Int32)), (.ref o0)]) rfl ?_
 have ne2 : o0 ≠ b1 := (Nat.ne_of_lt (Nat.lt_of_lt_of_le V_o0.lt (Nat.le_trans (Nat.le_refl _) (Nat.le_of_eq g1.symm))))
 refine Home.call (own_static X1 hx hZ hown (own_w40 hw) (own_w41 hw) (own_w38 hw) (own_w42 hw) (by decide) (rm8_2 l Z a0 hw [] o0 b1 k_o0 u1 u2 u3 k1 h1 n0 O1 (V_o0.keep K1 nin0) bnd_u1 V1 g_b1 ne2 bnd_u2 bnd_u3) e1 rfl (by rw [hml]; rfl) (argsL := [(.ref o0), (.int (0 : Int32)), (.ref b1), (.int (0 : Int32)), (.int (3 : Int32))]) (rest := []) (lenOf own_pd4 rfl) rfl rfl (W := 0) (by exact hW0) (by decide) (by decide) (hb hby d7_9) (by decide) (by decide)) ?_
 rintro _ T3 L3 X3 ⟨rfl, N3q, K3q, P3_0⟩
 have O3 := Old.keep O1 K3q (allS g_b1 all0)
 have K3 : Keep h0 T3.heap ([] : List Addr) := Keep.trans K1 K3q (allS (Or.inr (Nat.le_trans (Nat.le_refl _) (Nat.le_of_eq g1.symm))) all0)
 have N3 := Fr.app N0 N3q
 show Home T3 (mkF m 12 #[.val (.ref o0), .val (.int (0 : Int32)), .val (.int (3 : Int32)), .val (.ref b1), .unset, .unset] [(.int (3 : Int32))])
 refine Home.run X3 hx hby sg7_12_3 (pc' := 17) (L' := #[.val (.ref o0), .val (.int (0 : Int32)), .val (.int (3 : Int32)), .val (.ref b1), .val (.int (3 : Int32)), .unset]) (S' := [(.int (3 : Int32)), (.int (3 : Int32))]) rfl ?_
 refine Home.go (fun _ => XS.icmpYes X3.here hx rfl (pc0 := 17) (pc' := 57) rfl (hb hby d7_17) rfl (teq (by decide)).1 (by decide) (by decide)) ?_
 refine Home.run X3 hx hby sg7_57_1 (pc' := 58) (L' := #[.val (.ref o0), .val (.int (0 : Int32)), .val (.int (3 : Int32)), .val (.ref b1), .val (.int (3 : Int32)), .unset]) (S' := [(.ref b1)]) rfl ?_
 exact Home.retR X3 hx hlk hret rfl rfl (hb hby d7_58) ⟨b1, k1, rfl, N3, (Nat.le_trans (Nat.le_refl _) (Nat.le_of_eq g1.symm)), K3, P3_0⟩ (by decide) (by decide)
theorem rm9_2 (l : Launch) (Z : State) (a0 : Array Value) (hw : HW a0 Z) (ws : List Jvm.Cond) (o0 : Addr) (k_o0 : ClassId) (u1 u2 u3 : Int32) (h0 : Heap) (n0 : Nat) (O0 : Old Z n0 h0) (V_o0 : Arv Z h0 o0 k_o0 .byte (3 : Int32) [(.int u1), (.int u2), (.int u3)] (.int (0 : Int32))) :
    Con l Z (⟨"java/lang/StringUTF16", "coderFromArrayLen", "([BI)B"⟩ : MethodName) jdk_52_method_15_code 2 (some .byte) ws ({ frames := 0, cells := 0, slots := 0, locals := 0 } : Room) #[(.ref o0), (.int (3 : Int32))] h0 (Pur (some (.int (0 : Int32))) h0) := by
 refine own_body (plainFor_of_name own_pn2) (fun m => ef_rm9_2 m o0 (3 : Int32)) ?_
 intro p e s m below meth c s₁ hx hby hlk hml hret hZ hown hnm X0 e0
 have N0 := Fr.nil n0
 refine Home.run X0 hx hby sg9_0_2 (pc' := 2) (L' := #[.val (.ref o0), .val (.int (3 : Int32))]) (S' := [(.ref o0), (.int (3 : Int32))]) rfl ?_
 obtain ⟨cl1, Ar1, q1, S1, M1, H1, G1⟩ := id V_o0
 refine Home.go (own_alen X0 hx hZ e0 Ar1 S1 M1 rfl rfl (hb hby d9_2)) ?_
 refine Home.run X0 hx hby sg9_3_4 (pc' := 8) (L' := #[.val (.ref o0), .val (.int (3 : Int32))]) (S' := [(.int (0 : Int32))]) rfl ?_
 exact Home.retN X0 hx hlk (t := .byte) hret (by simp) (hb hby d9_8) ⟨congrArg some (congrArg Value.int (by first | rfl | exact nar_i2c _ | exact nar_i2b _)), rfl, e0⟩ (by decide) (by decide)
theorem rm4_3 (l : Launch) (Z : State) (a0 : Array Value) (hw : HW a0 Z) (ws : List Jvm.Cond) (o0 o1 : Addr) (sv_COMPACT_STRINGS : Int32) (k_o1 : ClassId) (u1 u2 u3 : Int32) (h0 : Heap) (n0 : Nat) (O0 : Old Z n0 h0) (S_COMPACT_STRINGS : Sta Z Z.heap "java/lang/String" "COMPACT_STRINGS" "Z" (.int sv_COMPACT_STRINGS)) (hCS : ¬ (sv_COMPACT_STRINGS = (0 : Int32))) (V_o1 : Arv Z h0 o1 k_o1 .char (3 : Int32) [(.int u1), (.int u2), (.int u3)] (.int (0 : Int32))) (bnd_u1 : ¬ u1 < (0 : Int32) ∧ ¬ (255 : Int32) < u1) (bnd_u2 : ¬ u2 < (0 : Int32) ∧ ¬ (255 : Int32) < u2) (bnd_u3 : ¬ u3 < (0 : Int32) ∧ ¬ (255 : Int32) < u3) (E_o0 : Exa Z h0 o0 "java/lang/String") (F_coder_o0 : Fld Z h0 o0 "java/lang/String" "coder" "B" (.int (0 : Int32))) (g_o0 : n0 ≤ o0) (F_value_o0 : Fld Z h0 o0 "java/lang/String" "value" "[B" .null) :
    Con l Z (⟨"java/lang/String", "<init>", "([CIILjava/lang/Void;)V"⟩ : MethodName) jdk_42_method_149_code 6 none ws ({ frames := 2, cells := 1, slots := 3, locals := 35 } : Room) #[(.ref o0), (.ref o1), (.int (0 : Int32)), (.int (3 : Int32)), .null] h0 (fun v h L => ∃ (b1_3 : Addr), ∃ (k1_3 : ClassId), v = none ∧ Fr n0 L ∧ h0.size ≤ b1_3 ∧ Keep h0 h [o0] ∧ Exa Z h o0 "java/lang/String" ∧ Fld Z h o0 "java/lang/String" "coder" "B" (.int (0 : Int32)) ∧ Fld Z h o0 "java/lang/String" "value" "[B" (.ref b1_3) ∧ Arv Z h b1_3 k1_3 .byte (3 : Int32) [(.int (u1.toInt8.toInt32)), (.int (u2.toInt8.toInt32)), (.int (u3.toInt8.toInt32))] (.int (0 : Int32))) := by
 refine own_body (plainFor_of_name own_pn1) (fun m => ef_rm4_3 m o0 o1 (0 : Int32) (3 : Int32)) ?_
 intro p e s m below meth c s₁ hx hby hlk hml hret hZ hown hnm X0 e0
 have N0 := Fr.nil n0
 refine Home.run X0 hx hby sg4_0_1 (pc' := 1) (L' := #[.val (.ref o0), .val (.ref o1), .val (.int (0 : Int32)), .val (.int (3 : Int32)), .val .null, .unset]) (S' := [(.ref o0)]) rfl ?_
 refine Home.st (initO X0 hx hZ hown (own_w21 hw) (own_w22 hw) (own_w23 hw) e0 rfl (by rw [hml]; rfl) rfl (hb hby d4_1) (by decide) (W := 0) (by exact hW0) (by decide)) fun T1 X1 e1 => ?_
 refine Home.run X1 hx hby sg4_4_1 (pc' := 5) (L' := #[.val (.ref o0), .val (.ref o1), .val (.int (0 : Int32)), .val (.int (3 : Int32)), .val .null, .unset]) (S' := [(.int (3 : Int32))]) rfl ?_
 refine Home.go (fun _ => XS.ifYes X1.here hx rfl (pc0 := 5) (pc' := 27) rfl (hb hby d4_5) rfl ((if0 _ _).trans (feq (by decide)).2) (by decide) (by decide)) ?_
 refine Home.st (getS2 X1 hx hZ hown (host := "") (Or.inl (own_w35 hw)) Via.refl e1 (S_COMPACT_STRINGS.ext O0.2) rfl (hb hby d4_27)) fun T2 X2 e2 => ?_
 refine Home.go (fun _ => XS.ifNo X2.here hx rfl (hb hby d4_30) rfl ((if0 _ _).trans (feq hCS).1)) ?_
 refine Home.run X2 hx hby sg4_33_3 (pc' := 36) (L' := #[.val (.ref o0), .val (.ref o1), .val (.int (0 : Int32)), .val (.int (3 : Int32)), .val .null, .unset]) (S' := [(.int (3 : Int32)), (.int (0 : Int32)), (.ref o1)]) rfl ?_
 refine Home.call (own_static X2 hx hZ hown (own_w36 hw) (own_w37 hw) (own_w38 hw) (own_w39 hw) (by decide) (rm7_2 l Z a0 hw [] o1 k_o1 u1 u2 u3 h0 n0 O0 V_o1 bnd_u1 bnd_u2 bnd_u3) e2 rfl (by rw [hml]; rfl) (argsL := [(.ref o1), (.int (0 : Int32)), (.int (3 : Int32))]) (rest := []) (lenOf own_pd5 rfl) rfl rfl (W := 0) (by exact hW0) (by decide) (by decide) (hb hby d4_36) (by decide) (by decide)) ?_
 rintro _ T3 L3 X3 ⟨b1_3, k1_3, rfl, N3q, sz_b1_3, K3q, P3_0⟩
 have g_b1_3 : n0 ≤ b1_3 := Nat.le_trans (Old.le O0) sz_b1_3
 have O3 := Old.keep O0 K3q all0
 have K3 : Keep h0 T3.heap ([o0] : List Addr) := Keep.trans (Keep.refl h0 ([o0] : List Addr)) K3q all0
 have N3 := Fr.app N0 N3q
 show Home T3 (mkF m 39 #[.val (.ref o0), .val (.ref o1), .val (.int (0 : Int32)), .val (.int (3 : Int32)), .val .null, .unset] [(.ref b1_3)])
 refine Home.run X3 hx hby sg4_39_4 (pc' := 45) (L' := #[.val (.ref o0), .val (.ref o1), .val (.int (0 : Int32)), .val (.int (3 : Int32)), .val .null, .val (.ref b1_3)]) (S' := [(.int (3 : Int32)), (.ref b1_3), (.ref o0)]) rfl ?_
 refine Home.st (own_pure (own_static X3 hx hZ hown (own_w43 hw) (own_w44 hw) (own_w38 hw) (own_w45 hw) (by decide) (rm9_2 l Z a0 hw [] b1_3 k1_3 (u1.toInt8.toInt32) (u2.toInt8.toInt32) (u3.toInt8.toInt32) T3.heap n0 O3 P3_0) rfl rfl (by rw [hml]; rfl) (argsL := [(.ref b1_3), (.int (3 : Int32))]) (rest := [(.ref o0)]) (lenOf own_pd6 rfl) rfl rfl (W := 1) (by exact hW0) (by decide) (by decide) (hb hby d4_45) (by decide) (by decide))) fun T4 X4 e4 => ?_
 have q5 := (F_coder_o0.keep K3q nin0)
 refine Home.wr (putFN X4 hx hZ hown (own_w31 hw) Via.refl e4 q5 (E_o0.keep K3) (Or.inr ⟨(own_w27 hw), rfl, hnm⟩) (own_w12 hw) (ty := .byte) (v := (.int (0 : Int32))) (v' := (.int (0 : Int32))) (by decide) rfl rfl rfl rfl (hb hby d4_48)) fun T6 h6 X6 e6 W6 => ?_
 have Fw6 := q5.same W6
 have O6 := O3.wr W6 g_o0
 have K6 : Keep h0 h6 ([o0] : List Addr) := Keep.wr K3 W6 (Or.inl (List.mem_of_getElem? (i := 0) rfl))
 have N6 := Fr.snoc X6 N3 g_o0
 show Home T6 (mkF m 51 #[.val (.ref o0), .val (.ref o1), .val (.int (0 : Int32)), .val (.int (3 : Int32)), .val .null, .val (.ref b1_3)] [])
 refine Home.run X6 hx hby sg4_51_2 (pc' := 54) (L' := #[.val (.ref o0), .val (.ref o1), .val (.int (0 : Int32)), .val (.int (3 : Int32)), .val .null, .val (.ref b1_3)]) (S' := [(.ref b1_3), (.ref o0)]) rfl ?_
 have q7 := ((F_value_o0.keep K3q nin0).other W6 (Or.inr (slot_ne (Or.inr (own_w26 hw)) (Or.inr (own_w27 hw)) (by decide) (t := (.array .byte)) (t' := .byte) (by decide) (by decide))))
 refine Home.wr (putF X6 hx hZ hown (host := "") (Or.inl (own_w30 hw)) Via.refl e6 q7 (E_o0.keep K6) (Or.inr ⟨(own_w26 hw), rfl, hnm⟩) (own_w12 hw) (ty := (.array .byte)) (by decide) rfl rfl rfl rfl (hb hby d4_54)) fun T8 h8 X8 e8 W8 => ?_
 have Fw8 := q7.same W8
 have O8 := O6.wr W8 g_o0
 have K8 : Keep h0 h8 ([o0] : List Addr) := Keep.wr K6 W8 (Or.inl (List.mem_of_getElem? (i := 0) rfl))
 have N8 := Fr.snoc X8 N6 g_o0
 have q9 := (Fw6.other W8 (Or.inr (slot_ne (Or.inr (own_w27 hw)) (Or.inr (own_w26 hw)) (by decide) (t := .byte) (t' := (.array .byte)) (by decide) (by decide))))
 have ne10 : b1_3 ≠ o0 := (Ne.symm (Nat.ne_of_lt (Nat.lt_of_lt_of_le E_o0.lt (Nat.le_trans (Nat.le_refl _) sz_b1_3))))
 have q11 := ((P3_0.other W6 ne10).other W8 ne10)
 exact Home.ret0 X8 hx hlk hret (hb hby d4_57) (by rw [show T8.heap = h8 from e8]; exact ⟨b1_3, k1_3, rfl, N8, (Nat.le_trans (Nat.le_refl _) sz_b1_3), K8, (E_o0.keep K8), q9, Fw8, q11⟩) (by decide) (by decide)
theorem rm3_3 (l : Launch) (Z : State) (a0 : Array Value) (hw : HW a0 Z) (ws : List Jvm.Cond) (o0 o1 : Addr) (k_o1 : ClassId) (u1 u2 u3 sv_COMPACT_STRINGS : Int32) (h0 : Heap) (n0 : Nat) (O0 : Old Z n0 h0) (V_o1 : Arv Z h0 o1 k_o1 .char (3 : Int32) [(.int u1), (.int u2), (.int u3)] (.int (0 : Int32))) (S_COMPACT_STRINGS : Sta Z Z.heap "java/lang/String" "COMPACT_STRINGS" "Z" (.int sv_COMPACT_STRINGS)) (E_o0 : Exa Z h0 o0 "java/lang/String") (F_coder_o0 : Fld Z h0 o0 "java/lang/String" "coder" "B" (.int (0 : Int32))) (F_value_o0 : Fld Z h0 o0 "java/lang/String" "value" "[B" .null) (bnd_u1 : ¬ u1 < (0 : Int32) ∧ ¬ (255 : Int32) < u1) (bnd_u2 : ¬ u2 < (0 : Int32) ∧ ¬ (255 : Int32) < u2) (bnd_u3 : ¬ u3 < (0 : Int32) ∧ ¬ (255 : Int32) < u3) (g_o0 : n0 ≤ o0) (hCS : ¬ (sv_COMPACT_STRINGS = (0 : Int32))) :
    Con l Z (⟨"java/lang/String", "<init>", "([C)V"⟩ : MethodName) jdk_42_method_3_code 2 none ws ({ frames := 3, cells := 1, slots := 3, locals := 52 } : Room) #[(.ref o0), (.ref o1)] h0 (fun v h L => ∃ (b1_3_2 : Addr), ∃ (k1_3_2 : ClassId), v = none ∧ Fr n0 L ∧ h0.size ≤ b1_3_2 ∧ Keep h0 h [o0] ∧ Exa Z h o0 "java/lang/String" ∧ Fld Z h o0 "java/lang/String" "coder" "B" (.int (0 : Int32)) ∧ Fld Z h o0 "java/lang/String" "value" "[B" (.ref b1_3_2) ∧ Arv Z h b1_3_2 k1_3_2 .byte (3 : Int32) [(.int (u1.toInt8.toInt32)), (.int (u2.toInt8.toInt32)), (.int (u3.toInt8.toInt32))] (.int (0 : Int32))) := by
 refine own_body (plainFor_of_name own_pn1) (fun m => ef_rm3_3 m o0 o1) ?_
 intro p e s m below meth c s₁ hx hby hlk hml hret hZ hown hnm X0 e0
 have N0 := Fr.nil n0
 refine Home.run X0 hx hby sg3_0_4 (pc' := 4) (L' := #[.val (.ref o0), .val (.ref o1)]) (S' := [(.ref o1), (.int (0 : Int32)), (.ref o1), (.ref o0)]) rfl ?_
 obtain ⟨cl1, Ar1, q1, S1, M1, H1, G1⟩ := id V_o1
 refine Home.go (own_alen X0 hx hZ e0 Ar1 S1 M1 rfl rfl (hb hby d3_4)) ?_
 refine Home.run X0 hx hby sg3_5_1 (pc' := 6) (L' := #[.val (.ref o0), .val (.ref o1)]) (S' := [.null, (.int (3 : Int32)), (.int (0 : Int32)), (.ref o1), (.ref o0)]) rfl ?_
 refine Home.call (own_special X0 hx hZ hown rfl (own_w17 hw) (own_w18 hw) (own_w13 hw) (own_w20 hw) (by decide) (rm4_3 l Z a0 hw [] o0 o1 sv_COMPACT_STRINGS k_o1 u1 u2 u3 h0 n0 O0 S_COMPACT_STRINGS hCS V_o1 bnd_u1 bnd_u2 bnd_u3 E_o0 F_coder_o0 g_o0 F_value_o0) e0 rfl (by rw [hml]; rfl) (a := o0) (argsL := [(.ref o1), (.int (0 : Int32)), (.int (3 : Int32)), .null]) (rest := []) (lenOf own_pd1 rfl) rfl rfl (W := 0) (by exact hW0) (by decide) (by decide) (hb hby d3_6) (by decide) (by decide)) ?_
 rintro _ T2 L2 X2 ⟨b1_3_2, k1_3_2, rfl, N2q, sz_b1_3_2, K2q, P2_0, P2_1, P2_2, P2_3⟩
 have g_b1_3_2 : n0 ≤ b1_3_2 := Nat.le_trans (Old.le O0) sz_b1_3_2
 have O2 := Old.keep O0 K2q (allS g_o0 all0)
 have K2 : Keep h0 T2.heap ([o0] : List Addr) := Keep.trans (Keep.refl h0 ([o0] : List Addr)) K2q (allS (Or.inl (List.mem_of_getElem? (i := 0) rfl)) all0)
 have N2 := Fr.app N0 N2q
 show Home T2 (mkF m 9 #[.val (.ref o0), .val (.ref o1)] [])
 exact Home.ret0 X2 hx hlk hret (hb hby d3_9) ⟨b1_3_2, k1_3_2, rfl, N2, (Nat.le_trans (Nat.le_refl _) sz_b1_3_2), K2, P2_0, P2_1, P2_2, P2_3⟩ (by decide) (by decide)
theorem rm2_0 (l : Launch) (Z : State) (a0 : Array Value) (hw : HW a0 Z) (ws : List Jvm.Cond) (i0 sv_COMPACT_STRINGS : Int32) (h0 : Heap) (n0 : Nat) (O0 : Old Z n0 h0) (S_COMPACT_STRINGS : Sta Z Z.heap "java/lang/String" "COMPACT_STRINGS" "Z" (.int sv_COMPACT_STRINGS)) (hCS : ¬ (sv_COMPACT_STRINGS = (0 : Int32))) :
    ConW l Z own_EL ([] : List Addr) true (⟨"com/example/invocant/invocant/CanonicalMatchesIgnoringCasePinLaw", "str", "(I)Ljava/lang/String;"⟩ : MethodName) method_3_code 3 (some (.object "java/lang/String")) ws ({ frames := 4, cells := 6, slots := 12, locals := 66 } : Room) #[(.int i0)] h0 (fun v h L => ∃ (rs : Addr) (rb : Jvm.Addr) (rk : ClassId), v = some (.ref rs) ∧ Fr n0 L ∧ h0.size ≤ rs ∧ Keep h0 h [] ∧ Exa Z h rs "java/lang/String" ∧ Fld Z h rs "java/lang/String" "coder" "B" (.int (0 : Int32)) ∧ Fld Z h rs "java/lang/String" "value" "[B" (.ref rb) ∧ Arv Z h rb rk .byte (own_n (cs_rm2_0 i0)) (List.map Value.int (cs_rm2_0 i0)) (.int (0 : Int32))) := by
 refine own_bodyW (plainFor_of_name own_pn0) (fun m => ef_rm2_0 m i0) ?_
 intro p e s m below meth c s₁ hx hby hlk hml hret hZ hown hnm X0 e0 Cd0
 have N0 := Fr.nil n0
 refine Home.run X0 hx hby sg2_0_4 (pc' := 4) (L' := #[.val (.int i0), .val (.int (i0 &&& (3 : Int32))), .unset]) (S' := []) rfl ?_
 obtain ⟨v1, hv1⟩ : ∃ z, z = (i0 &&& (3 : Int32)) := ⟨_, rfl⟩
 rw [← hv1]
 have bv1 : ¬ v1 < (0 : Int32) ∧ ¬ (3 : Int32) < v1 := by rw [hv1]; exact (bnd_and i0 (3 : Int32) (by decide))
 by_cases c2 : v1 = (0 : Int32)
 ·
  have bd3 : ¬ v1 < (0 : Int32) ∧ ¬ (0 : Int32) < v1 := ⟨(bnd_eql c2), (bnd_eqr c2)⟩
  have fx4 : v1 = (0 : Int32) := bnd_fix bd3
  try rw [fx4]
  show Home s₁ (mkF m 4 #[.val (.int i0), .val (.int (0 : Int32)), .unset] [])
  refine Home.run X0 hx hby sg2_4_1 (pc' := 5) (L' := #[.val (.int i0), .val (.int (0 : Int32)), .unset]) (S' := [(.int (0 : Int32))]) rfl ?_
  refine Home.na (own_newP (aty := .char) X0 hx hZ (own_w10 hw) e0 (g := (mkF m 5 #[.val (.int i0), .val (.int (0 : Int32)), .unset] [(.int (0 : Int32))])) rfl (hb hby d2_5) rfl (by decide) (cap := 0) (by decide) (by decide) (by decide) (by decide)) fun T6 h6 k6 b6 g6 X6 e6 E6 A6 => ?_
  have g_b6 : n0 ≤ b6 := Nat.le_trans (Old.le O0) (Nat.le_of_eq g6.symm)
  have V6 : Arv Z h6 b6 k6 .char (0 : Int32) [] (.int (0 : Int32)) := Arv.new A6 (by decide)
  have O6 := O0.ext E6
  have K6 : Keep h0 h6 ([] : List Addr) := Keep.ext (Keep.refl h0 ([] : List Addr)) E6
  have Cd6 := Cold.ext Cd0 E6
  refine Home.run X6 hx hby sg2_7_2 (pc' := 9) (L' := #[.val (.int i0), .val (.int (0 : Int32)), .val (.ref b6)]) (S' := [(.int (0 : Int32))]) rfl ?_
  refine Home.go (fun _ => XS.ifYes X6.here hx rfl (pc0 := 9) (pc' := 20) rfl (hb hby d2_9) rfl ((if0 _ _).trans (flt (by decide)).2.2.2) (by decide) (by decide)) ?_
  refine Home.run X6 hx hby sg2_20_2 (pc' := 22) (L' := #[.val (.int i0), .val (.int (0 : Int32)), .val (.ref b6)]) (S' := [(.int (1 : Int32)), (.int (0 : Int32))]) rfl ?_
  refine Home.go (fun _ => XS.icmpYes X6.here hx rfl (pc0 := 22) (pc' := 33) rfl (hb hby d2_22) rfl (flt (by decide)).2.2.2 (by decide) (by decide)) ?_
  refine Home.run X6 hx hby sg2_33_2 (pc' := 35) (L' := #[.val (.int i0), .val (.int (0 : Int32)), .val (.ref b6)]) (S' := [(.int (2 : Int32)), (.int (0 : Int32))]) rfl ?_
  refine Home.go (fun _ => XS.icmpYes X6.here hx rfl (pc0 := 35) (pc' := 46) rfl (hb hby d2_35) rfl (flt (by decide)).2.2.2 (by decide) (by decide)) ?_
  refine Home.nw (own_newO X6 hx hZ hown (own_w11 hw) (own_w12 hw) (own_w13 hw) e6 rfl (hb hby d2_46) (by decide) (by decide)) fun T7 h7 b7 g7 X7 e7 E7 A7 D7 => ?_
  have g_b7 : n0 ≤ b7 := Nat.le_trans (Old.le O6) (Nat.le_of_eq g7.symm)
  have F_value_b7 : Fld Z h7 b7 "java/lang/String" "value" "[B" .null := D7 (Or.inr (own_w26 hw)) (ty := (.array .byte)) (by decide)
  have F_coder_b7 : Fld Z h7 b7 "java/lang/String" "coder" "B" (.int (0 : Int32)) := D7 (Or.inr (own_w27 hw)) (ty := .byte) (by decide)
  have O7 := O6.ext E7
  have K7 : Keep h0 h7 ([] : List Addr) := Keep.ext K6 E7
  have Cd7 := Cold.add Cd6 E7 (Nat.le_of_eq g7.symm) A7.lt
  show Home T7 (mkF m 49 #[.val (.int i0), .val (.int (0 : Int32)), .val (.ref b6)] [(.ref b7)])
  refine Home.run X7 hx hby sg2_49_2 (pc' := 51) (L' := #[.val (.int i0), .val (.int (0 : Int32)), .val (.ref b6)]) (S' := [(.ref b6), (.ref b7), (.ref b7)]) rfl ?_
  have q8 := (V6.ext E7)
  refine Home.call (own_specialW X7 hx hZ hown (own_hEL hw) Cd7 (allS (List.mem_of_getElem? (i := 0) rfl) all0) rfl (own_w14 hw) (own_w15 hw) (own_w13 hw) (own_w16 hw) (by decide) (rm3_0 l Z a0 hw [] b7 b6 k6 h7 n0 O7 q8 A7 F_value_b7 F_coder_b7 g_b7) e7 rfl (by rw [hml]; rfl) (a := b7) (argsL := [(.ref b6)]) (rest := [(.ref b7)]) (lenOf own_pd2 rfl) rfl rfl (W := 1) (by exact hW0) (by decide) (by decide) (hb hby d2_51) (by decide) (by decide)) ?_
  rintro _ T9 L9 X9 ⟨⟨b2_2_9, k2_2_9, rfl, N9q, K9q, P9_0, P9_1, P9_2, P9_3⟩, hZ, hown, Cd9, sR9⟩
  have O9 := Old.keep O7 K9q (allS g_b7 all0)
  have K9 : Keep h0 T9.heap ([] : List Addr) := Keep.trans K7 K9q (allS (Or.inr (Nat.le_trans E6.1 (Nat.le_of_eq g7.symm))) all0)
  have N9 := Fr.app N0 N9q
  exact HomeW.retR X9 hx hlk hZ (own_hEL hw) rfl Cd9 (fun _ _ q => by cases q; exact (List.mem_of_getElem? (i := 0) rfl)) hret rfl rfl (hb hby d2_54) ⟨b7, b2_2_9, k2_2_9, rfl, N9, (Nat.le_trans E6.1 (Nat.le_of_eq g7.symm)), K9, P9_0, P9_2, P9_1, Arv.lst P9_3 (cs := []) (cs' := (cs_rm2_0 i0)) (by subst hv1; first | rfl | (simp only [cs_rm2_0, if_pos c2] <;> rfl) | (simp [cs_rm2_0, if_pos c2]; done)) rfl rfl⟩ (by decide) (by decide)
 ·
  have bd5 : ¬ v1 < (1 : Int32) ∧ ¬ (3 : Int32) < v1 := ⟨(bnd_nel bv1.1 c2 (by decide +kernel)), bv1.2⟩
  by_cases c10 : v1 = (1 : Int32)
  ·
   have bd11 : ¬ v1 < (1 : Int32) ∧ ¬ (1 : Int32) < v1 := ⟨(bnd_eql c10), (bnd_eqr c10)⟩
   have fx12 : v1 = (1 : Int32) := bnd_fix bd11
   try rw [fx12]
   show Home s₁ (mkF m 4 #[.val (.int i0), .val (.int (1 : Int32)), .unset] [])
   refine Home.run X0 hx hby sg2_4_1 (pc' := 5) (L' := #[.val (.int i0), .val (.int (1 : Int32)), .unset]) (S' := [(.int (1 : Int32))]) rfl ?_
   refine Home.na (own_newP (aty := .char) X0 hx hZ (own_w10 hw) e0 (g := (mkF m 5 #[.val (.int i0), .val (.int (1 : Int32)), .unset] [(.int (1 : Int32))])) rfl (hb hby d2_5) rfl (by decide) (cap := 1) (by decide) (by decide) (by decide) (by decide)) fun T14 h14 k14 b14 g14 X14 e14 E14 A14 => ?_
   have g_b14 : n0 ≤ b14 := Nat.le_trans (Old.le O0) (Nat.le_of_eq g14.symm)
   have V14 : Arv Z h14 b14 k14 .char (1 : Int32) [(.int (0 : Int32))] (.int (0 : Int32)) := (Arv.new A14 (by decide)).pad (pad_rep [] (.int (0 : Int32)) 1)
   have O14 := O0.ext E14
   have K14 : Keep h0 h14 ([] : List Addr) := Keep.ext (Keep.refl h0 ([] : List Addr)) E14
   have Cd14 := Cold.ext Cd0 E14
   refine Home.run X14 hx hby sg2_7_2 (pc' := 9) (L' := #[.val (.int i0), .val (.int (1 : Int32)), .val (.ref b14)]) (S' := [(.int (1 : Int32))]) rfl ?_
   refine Home.go (fun _ => XS.ifNo X14.here hx rfl (hb hby d2_9) rfl ((if0 _ _).trans (tlt (by decide)).2.2.2)) ?_
   refine Home.run X14 hx hby sg2_12_4 (pc' := 16) (L' := #[.val (.int i0), .val (.int (1 : Int32)), .val (.ref b14)]) (S' := [(.int (0 : Int32)), (.int i0), (.int (0 : Int32)), (.ref b14)]) rfl ?_
   refine Home.st (own_pure (own_static X14 hx hZ hown (own_w32 hw) (own_w33 hw) (own_w2 hw) (own_w34 hw) (by decide) (rm6_0 l Z a0 hw [] i0 h14 n0 O14) e14 rfl (by rw [hml]; rfl) (argsL := [(.int i0), (.int (0 : Int32))]) (rest := [(.int (0 : Int32)), (.ref b14)]) (lenOf own_pd3 rfl) rfl rfl (W := 2) (by exact hW0) (by decide) (by decide) (hb hby d2_16) (by decide) (by decide))) fun T15 X15 e15 => ?_
   show Home T15 (mkF m 19 #[.val (.int i0), .val (.int (1 : Int32)), .val (.ref b14)] [(.int (((i0.toUInt32 >>> ((2 : Int32) &&& 31).toUInt32).toInt32) &&& (255 : Int32))), (.int (0 : Int32)), (.ref b14)])
   obtain ⟨cl16, Ar16, q16, S16, M16, H16, G16⟩ := id V14
   refine Home.wr (stC X15 hx hZ e15 Ar16 (j := (0 : Int32)) (inb_of S16 ⟨by decide, by decide⟩) rfl rfl (hb hby d2_19)) fun T16 h16 X16 e16 W16 => ?_
   have W16' := Wr.to W16 (congrArg Value.int (nar_char_id (bnd_and ((i0.toUInt32 >>> ((2 : Int32) &&& 31).toUInt32).toInt32) (255 : Int32) (by decide)) (by decide +kernel) (by decide +kernel)))
   have V16 : Arv Z h16 b14 k14 .char (1 : Int32) [(.int (((i0.toUInt32 >>> ((2 : Int32) &&& 31).toUInt32).toInt32) &&& (255 : Int32)))] (.int (0 : Int32)) := Arv.set Ar16 q16 S16 M16 H16 G16 (fits_char_b (bnd_and ((i0.toUInt32 >>> ((2 : Int32) &&& 31).toUInt32).toInt32) (255 : Int32) (by decide)) (by decide +kernel) (by decide +kernel)) W16' 0 rfl (Nat.le_of_ble_eq_true rfl)
   have O16 := O14.wr W16 g_b14
   have K16 : Keep h0 h16 ([] : List Addr) := Keep.wr K14 W16 (Or.inr (Nat.le_trans (Nat.le_refl _) (Nat.le_of_eq g14.symm)))
   have Cd16 := Cold.wr Cd14 W16 (Safe.arv hZ.alike V14 (by simp))
   have N16 := Fr.snoc X16 N0 g_b14
   show Home T16 (mkF m 20 #[.val (.int i0), .val (.int (1 : Int32)), .val (.ref b14)] [])
   refine Home.run X16 hx hby sg2_20_2 (pc' := 22) (L' := #[.val (.int i0), .val (.int (1 : Int32)), .val (.ref b14)]) (S' := [(.int (1 : Int32)), (.int (1 : Int32))]) rfl ?_
   refine Home.go (fun _ => XS.icmpYes X16.here hx rfl (pc0 := 22) (pc' := 33) rfl (hb hby d2_22) rfl (flt (by decide)).2.2.2 (by decide) (by decide)) ?_
   refine Home.run X16 hx hby sg2_33_2 (pc' := 35) (L' := #[.val (.int i0), .val (.int (1 : Int32)), .val (.ref b14)]) (S' := [(.int (2 : Int32)), (.int (1 : Int32))]) rfl ?_
   refine Home.go (fun _ => XS.icmpYes X16.here hx rfl (pc0 := 35) (pc' := 46) rfl (hb hby d2_35) rfl (flt (by decide)).2.2.2 (by decide) (by decide)) ?_
   refine Home.nw (own_newO X16 hx hZ hown (own_w11 hw) (own_w12 hw) (own_w13 hw) e16 rfl (hb hby d2_46) (by decide) (by decide)) fun T17 h17 b17 g17 X17 e17 E17 A17 D17 => ?_
   have g_b17 : n0 ≤ b17 := Nat.le_trans (Old.le O16) (Nat.le_of_eq g17.symm)
   have F_value_b17 : Fld Z h17 b17 "java/lang/String" "value" "[B" .null := D17 (Or.inr (own_w26 hw)) (ty := (.array .byte)) (by decide)
   have F_coder_b17 : Fld Z h17 b17 "java/lang/String" "coder" "B" (.int (0 : Int32)) := D17 (Or.inr (own_w27 hw)) (ty := .byte) (by decide)
   have O17 := O16.ext E17
   have K17 : Keep h0 h17 ([] : List Addr) := Keep.ext K16 E17
   have Cd17 := Cold.add Cd16 E17 (Nat.le_of_eq g17.symm) A17.lt
   show Home T17 (mkF m 49 #[.val (.int i0), .val (.int (1 : Int32)), .val (.ref b14)] [(.ref b17)])
   refine Home.run X17 hx hby sg2_49_2 (pc' := 51) (L' := #[.val (.int i0), .val (.int (1 : Int32)), .val (.ref b14)]) (S' := [(.ref b14), (.ref b17), (.ref b17)]) rfl ?_
   have q18 := (V16.ext E17)
   refine Home.call (own_special X17 hx hZ hown rfl (own_w14 hw) (own_w15 hw) (own_w13 hw) (own_w16 hw) (by decide) (rm3_1 l Z a0 hw [] b17 b14 k14 (((i0.toUInt32 >>> ((2 : Int32) &&& 31).toUInt32).toInt32) &&& (255 : Int32)) sv_COMPACT_STRINGS h17 n0 O17 q18 S_COMPACT_STRINGS A17 F_coder_b17 F_value_b17 (bnd_and ((i0.toUInt32 >>> ((2 : Int32) &&& 31).toUInt32).toInt32) (255 : Int32) (by decide)) g_b17 hCS) e17 rfl (by rw [hml]; rfl) (a := b17) (argsL := [(.ref b14)]) (rest := [(.ref b17)]) (lenOf own_pd2 rfl) rfl rfl (W := 1) (by exact hW0) (by decide) (by decide) (hb hby d2_51) (by decide) (by decide)) ?_
   rintro _ T19 L19 X19 ⟨b1_3_2_19, k1_3_2_19, rfl, N19q, sz_b1_3_2_19, K19q, P19_0, P19_1, P19_2, P19_3⟩
   have Cd19 := Cold.keep Cd17 K19q (allS (Cold.safe Cd17 (List.mem_of_getElem? (i := 0) rfl)) all0)
   have Cd19b1_3_2_19 := Cold.put Cd19 ⟨Safe.keep K19q (allS (Cold.safe Cd17 (List.mem_of_getElem? (i := 0) rfl)) all0) Cd17.2.1.1 (Safe.new sz_b1_3_2_19), P19_3.lt⟩
   have g_b1_3_2_19 : n0 ≤ b1_3_2_19 := Nat.le_trans (Old.le O17) sz_b1_3_2_19
   have le20 : h0.size ≤ h16.size := Nat.le_trans E14.1 (Nat.le_of_eq W16.size.symm)
   have O19 := Old.keep O17 K19q (allS g_b17 all0)
   have K19 : Keep h0 T19.heap ([] : List Addr) := Keep.trans K17 K19q (allS (Or.inr (Nat.le_trans le20 (Nat.le_of_eq g17.symm))) all0)
   have N19 := Fr.app N16 N19q
   show Home T19 (mkF m 54 #[.val (.int i0), .val (.int (1 : Int32)), .val (.ref b14)] [(.ref b17)])
   exact HomeW.retR X19 hx hlk hZ (own_hEL hw) rfl Cd19b1_3_2_19 (fun _ _ q => by cases q; exact (List.mem_of_getElem? (i := 1) rfl)) hret rfl rfl (hb hby d2_54) ⟨b17, b1_3_2_19, k1_3_2_19, rfl, N19, (Nat.le_trans le20 (Nat.le_of_eq g17.symm)), K19, P19_0, P19_1, P19_2, Arv.lst P19_3 (cs := [((((i0.toUInt32 >>> ((2 : Int32) &&& 31).toUInt32).toInt32) &&& (255 : Int32)).toInt8.toInt32)]) (cs' := (cs_rm2_0 i0)) (by subst hv1; first | rfl | (simp only [cs_rm2_0, if_neg c2, if_pos c10] <;> rfl) | (simp [cs_rm2_0, if_neg c2, if_pos c10]; done)) rfl rfl⟩ (by decide) (by decide)
  ·
   have bd13 : ¬ v1 < (2 : Int32) ∧ ¬ (3 : Int32) < v1 := ⟨(bnd_nel bd5.1 c10 (by decide +kernel)), bd5.2⟩
   by_cases c21 : v1 = (2 : Int32)
   ·
    have bd22 : ¬ v1 < (2 : Int32) ∧ ¬ (2 : Int32) < v1 := ⟨(bnd_eql c21), (bnd_eqr c21)⟩
    have fx23 : v1 = (2 : Int32) := bnd_fix bd22
    try rw [fx23]
    show Home s₁ (mkF m 4 #[.val (.int i0), .val (.int (2 : Int32)), .unset] [])
    refine Home.run X0 hx hby sg2_4_1 (pc' := 5) (L' := #[.val (.int i0), .val (.int (2 : Int32)), .unset]) (S' := [(.int (2 : Int32))]) rfl ?_
    refine Home.na (own_newP (aty := .char) X0 hx hZ (own_w10 hw) e0 (g := (mkF m 5 #[.val (.int i0), .val (.int (2 : Int32)), .unset] [(.int (2 : Int32))])) rfl (hb hby d2_5) rfl (by decide) (cap := 2) (by decide) (by decide) (by decide) (by decide)) fun T26 h26 k26 b26 g26 X26 e26 E26 A26 => ?_
    have g_b26 : n0 ≤ b26 := Nat.le_trans (Old.le O0) (Nat.le_of_eq g26.symm)
    have V26 : Arv Z h26 b26 k26 .char (2 : Int32) [(.int (0 : Int32)), (.int (0 : Int32))] (.int (0 : Int32)) := (Arv.new A26 (by decide)).pad (pad_rep [] (.int (0 : Int32)) 2)
    have O26 := O0.ext E26
    have K26 : Keep h0 h26 ([] : List Addr) := Keep.ext (Keep.refl h0 ([] : List Addr)) E26
    have Cd26 := Cold.ext Cd0 E26
    refine Home.run X26 hx hby sg2_7_2 (pc' := 9) (L' := #[.val (.int i0), .val (.int (2 : Int32)), .val (.ref b26)]) (S' := [(.int (2 : Int32))]) rfl ?_
    refine Home.go (fun _ => XS.ifNo X26.here hx rfl (hb hby d2_9) rfl ((if0 _ _).trans (tlt (by decide)).2.2.2)) ?_
    refine Home.run X26 hx hby sg2_12_4 (pc' := 16) (L' := #[.val (.int i0), .val (.int (2 : Int32)), .val (.ref b26)]) (S' := [(.int (0 : Int32)), (.int i0), (.int (0 : Int32)), (.ref b26)]) rfl ?_
    refine Home.st (own_pure (own_static X26 hx hZ hown (own_w32 hw) (own_w33 hw) (own_w2 hw) (own_w34 hw) (by decide) (rm6_0 l Z a0 hw [] i0 h26 n0 O26) e26 rfl (by rw [hml]; rfl) (argsL := [(.int i0), (.int (0 : Int32))]) (rest := [(.int (0 : Int32)), (.ref b26)]) (lenOf own_pd3 rfl) rfl rfl (W := 2) (by exact hW0) (by decide) (by decide) (hb hby d2_16) (by decide) (by decide))) fun T27 X27 e27 => ?_
    show Home T27 (mkF m 19 #[.val (.int i0), .val (.int (2 : Int32)), .val (.ref b26)] [(.int (((i0.toUInt32 >>> ((2 : Int32) &&& 31).toUInt32).toInt32) &&& (255 : Int32))), (.int (0 : Int32)), (.ref b26)])
    obtain ⟨cl28, Ar28, q28, S28, M28, H28, G28⟩ := id V26
    refine Home.wr (stC X27 hx hZ e27 Ar28 (j := (0 : Int32)) (inb_of S28 ⟨by decide, by decide⟩) rfl rfl (hb hby d2_19)) fun T28 h28 X28 e28 W28 => ?_
    have W28' := Wr.to W28 (congrArg Value.int (nar_char_id (bnd_and ((i0.toUInt32 >>> ((2 : Int32) &&& 31).toUInt32).toInt32) (255 : Int32) (by decide)) (by decide +kernel) (by decide +kernel)))
    have V28 : Arv Z h28 b26 k26 .char (2 : Int32) [(.int (((i0.toUInt32 >>> ((2 : Int32) &&& 31).toUInt32).toInt32) &&& (255 : Int32))), (.int (0 : Int32))] (.int (0 : Int32)) := Arv.set Ar28 q28 S28 M28 H28 G28 (fits_char_b (bnd_and ((i0.toUInt32 >>> ((2 : Int32) &&& 31).toUInt32).toInt32) (255 : Int32) (by decide)) (by decide +kernel) (by decide +kernel)) W28' 0 rfl (Nat.le_of_ble_eq_true rfl)
    have O28 := O26.wr W28 g_b26
    have K28 : Keep h0 h28 ([] : List Addr) := Keep.wr K26 W28 (Or.inr (Nat.le_trans (Nat.le_refl _) (Nat.le_of_eq g26.symm)))
    have Cd28 := Cold.wr Cd26 W28 (Safe.arv hZ.alike V26 (by simp))
    have N28 := Fr.snoc X28 N0 g_b26
    show Home T28 (mkF m 20 #[.val (.int i0), .val (.int (2 : Int32)), .val (.ref b26)] [])
    refine Home.run X28 hx hby sg2_20_2 (pc' := 22) (L' := #[.val (.int i0), .val (.int (2 : Int32)), .val (.ref b26)]) (S' := [(.int (1 : Int32)), (.int (2 : Int32))]) rfl ?_
    refine Home.go (fun _ => XS.icmpNo X28.here hx rfl (hb hby d2_22) rfl (tlt (by decide)).2.2.2) ?_
    refine Home.run X28 hx hby sg2_25_4 (pc' := 29) (L' := #[.val (.int i0), .val (.int (2 : Int32)), .val (.ref b26)]) (S' := [(.int (1 : Int32)), (.int i0), (.int (1 : Int32)), (.ref b26)]) rfl ?_
    refine Home.st (own_pure (own_static X28 hx hZ hown (own_w32 hw) (own_w33 hw) (own_w2 hw) (own_w34 hw) (by decide) (rm6_1 l Z a0 hw [] i0 h28 n0 O28) e28 rfl (by rw [hml]; rfl) (argsL := [(.int i0), (.int (1 : Int32))]) (rest := [(.int (1 : Int32)), (.ref b26)]) (lenOf own_pd3 rfl) rfl rfl (W := 2) (by exact hW0) (by decide) (by decide) (hb hby d2_29) (by decide) (by decide))) fun T29 X29 e29 => ?_
    obtain ⟨cl30, Ar30, q30, S30, M30, H30, G30⟩ := id V28
    refine Home.wr (stC X29 hx hZ e29 Ar30 (j := (1 : Int32)) (inb_of S30 ⟨by decide, by decide⟩) rfl rfl (hb hby d2_32)) fun T30 h30 X30 e30 W30 => ?_
    have W30' := Wr.to W30 (congrArg Value.int (nar_char_id (bnd_and ((i0.toUInt32 >>> ((10 : Int32) &&& 31).toUInt32).toInt32) (255 : Int32) (by decide)) (by decide +kernel) (by decide +kernel)))
    have V30 : Arv Z h30 b26 k26 .char (2 : Int32) [(.int (((i0.toUInt32 >>> ((2 : Int32) &&& 31).toUInt32).toInt32) &&& (255 : Int32))), (.int (((i0.toUInt32 >>> ((10 : Int32) &&& 31).toUInt32).toInt32) &&& (255 : Int32)))] (.int (0 : Int32)) := Arv.set Ar30 q30 S30 M30 H30 G30 (fits_char_b (bnd_and ((i0.toUInt32 >>> ((10 : Int32) &&& 31).toUInt32).toInt32) (255 : Int32) (by decide)) (by decide +kernel) (by decide +kernel)) W30' 1 rfl (Nat.le_of_ble_eq_true rfl)
    have O30 := O28.wr W30 g_b26
    have K30 : Keep h0 h30 ([] : List Addr) := Keep.wr K28 W30 (Or.inr (Nat.le_trans (Nat.le_refl _) (Nat.le_of_eq g26.symm)))
    have Cd30 := Cold.wr Cd28 W30 (Safe.arv hZ.alike V28 (by simp))
    have N30 := Fr.snoc X30 N28 g_b26
    show Home T30 (mkF m 33 #[.val (.int i0), .val (.int (2 : Int32)), .val (.ref b26)] [])
    refine Home.run X30 hx hby sg2_33_2 (pc' := 35) (L' := #[.val (.int i0), .val (.int (2 : Int32)), .val (.ref b26)]) (S' := [(.int (2 : Int32)), (.int (2 : Int32))]) rfl ?_
    refine Home.go (fun _ => XS.icmpYes X30.here hx rfl (pc0 := 35) (pc' := 46) rfl (hb hby d2_35) rfl (flt (by decide)).2.2.2 (by decide) (by decide)) ?_
    refine Home.nw (own_newO X30 hx hZ hown (own_w11 hw) (own_w12 hw) (own_w13 hw) e30 rfl (hb hby d2_46) (by decide) (by decide)) fun T31 h31 b31 g31 X31 e31 E31 A31 D31 => ?_
    have g_b31 : n0 ≤ b31 := Nat.le_trans (Old.le O30) (Nat.le_of_eq g31.symm)
    have F_value_b31 : Fld Z h31 b31 "java/lang/String" "value" "[B" .null := D31 (Or.inr (own_w26 hw)) (ty := (.array .byte)) (by decide)
    have F_coder_b31 : Fld Z h31 b31 "java/lang/String" "coder" "B" (.int (0 : Int32)) := D31 (Or.inr (own_w27 hw)) (ty := .byte) (by decide)
    have O31 := O30.ext E31
    have K31 : Keep h0 h31 ([] : List Addr) := Keep.ext K30 E31
    have Cd31 := Cold.add Cd30 E31 (Nat.le_of_eq g31.symm) A31.lt
    show Home T31 (mkF m 49 #[.val (.int i0), .val (.int (2 : Int32)), .val (.ref b26)] [(.ref b31)])
    refine Home.run X31 hx hby sg2_49_2 (pc' := 51) (L' := #[.val (.int i0), .val (.int (2 : Int32)), .val (.ref b26)]) (S' := [(.ref b26), (.ref b31), (.ref b31)]) rfl ?_
    have q32 := (V30.ext E31)
    refine Home.call (own_special X31 hx hZ hown rfl (own_w14 hw) (own_w15 hw) (own_w13 hw) (own_w16 hw) (by decide) (rm3_2 l Z a0 hw [] b31 b26 k26 (((i0.toUInt32 >>> ((2 : Int32) &&& 31).toUInt32).toInt32) &&& (255 : Int32)) (((i0.toUInt32 >>> ((10 : Int32) &&& 31).toUInt32).toInt32) &&& (255 : Int32)) sv_COMPACT_STRINGS h31 n0 O31 q32 S_COMPACT_STRINGS A31 F_coder_b31 F_value_b31 (bnd_and ((i0.toUInt32 >>> ((2 : Int32) &&& 31).toUInt32).toInt32) (255 : Int32) (by decide)) (bnd_and ((i0.toUInt32 >>> ((10 : Int32) &&& 31).toUInt32).toInt32) (255 : Int32) (by decide)) g_b31 hCS) e31 rfl (by rw [hml]; rfl) (a := b31) (argsL := [(.ref b26)]) (rest := [(.ref b31)]) (lenOf own_pd2 rfl) rfl rfl (W := 1) (by exact hW0) (by decide) (by decide) (hb hby d2_51) (by decide) (by decide)) ?_
    rintro _ T33 L33 X33 ⟨b1_3_2_33, k1_3_2_33, rfl, N33q, sz_b1_3_2_33, K33q, P33_0, P33_1, P33_2, P33_3⟩
    have Cd33 := Cold.keep Cd31 K33q (allS (Cold.safe Cd31 (List.mem_of_getElem? (i := 0) rfl)) all0)
    have Cd33b1_3_2_33 := Cold.put Cd33 ⟨Safe.keep K33q (allS (Cold.safe Cd31 (List.mem_of_getElem? (i := 0) rfl)) all0) Cd31.2.1.1 (Safe.new sz_b1_3_2_33), P33_3.lt⟩
    have g_b1_3_2_33 : n0 ≤ b1_3_2_33 := Nat.le_trans (Old.le O31) sz_b1_3_2_33
    have le34 : h0.size ≤ h28.size := Nat.le_trans E26.1 (Nat.le_of_eq W28.size.symm)
    have le35 : h0.size ≤ h30.size := Nat.le_trans le34 (Nat.le_of_eq W30.size.symm)
    have O33 := Old.keep O31 K33q (allS g_b31 all0)
    have K33 : Keep h0 T33.heap ([] : List Addr) := Keep.trans K31 K33q (allS (Or.inr (Nat.le_trans le35 (Nat.le_of_eq g31.symm))) all0)
    have N33 := Fr.app N30 N33q
    show Home T33 (mkF m 54 #[.val (.int i0), .val (.int (2 : Int32)), .val (.ref b26)] [(.ref b31)])
    exact HomeW.retR X33 hx hlk hZ (own_hEL hw) rfl Cd33b1_3_2_33 (fun _ _ q => by cases q; exact (List.mem_of_getElem? (i := 1) rfl)) hret rfl rfl (hb hby d2_54) ⟨b31, b1_3_2_33, k1_3_2_33, rfl, N33, (Nat.le_trans le35 (Nat.le_of_eq g31.symm)), K33, P33_0, P33_1, P33_2, Arv.lst P33_3 (cs := [((((i0.toUInt32 >>> ((2 : Int32) &&& 31).toUInt32).toInt32) &&& (255 : Int32)).toInt8.toInt32), ((((i0.toUInt32 >>> ((10 : Int32) &&& 31).toUInt32).toInt32) &&& (255 : Int32)).toInt8.toInt32)]) (cs' := (cs_rm2_0 i0)) (by subst hv1; first | rfl | (simp only [cs_rm2_0, if_neg c2, if_neg c10, if_pos c21] <;> rfl) | (simp [cs_rm2_0, if_neg c2, if_neg c10, if_pos c21]; done)) rfl rfl⟩ (by decide) (by decide)
   ·
    have bd24 : ¬ v1 < (3 : Int32) ∧ ¬ (3 : Int32) < v1 := ⟨(bnd_nel bd13.1 c21 (by decide +kernel)), bd13.2⟩
    have fx25 : v1 = (3 : Int32) := bnd_fix bd24
    try rw [fx25]
    show Home s₁ (mkF m 4 #[.val (.int i0), .val (.int (3 : Int32)), .unset] [])
    refine Home.run X0 hx hby sg2_4_1 (pc' := 5) (L' := #[.val (.int i0), .val (.int (3 : Int32)), .unset]) (S' := [(.int (3 : Int32))]) rfl ?_
    refine Home.na (own_newP (aty := .char) X0 hx hZ (own_w10 hw) e0 (g := (mkF m 5 #[.val (.int i0), .val (.int (3 : Int32)), .unset] [(.int (3 : Int32))])) rfl (hb hby d2_5) rfl (by decide) (cap := 3) (by decide) (by decide) (by decide) (by decide)) fun T36 h36 k36 b36 g36 X36 e36 E36 A36 => ?_
    have g_b36 : n0 ≤ b36 := Nat.le_trans (Old.le O0) (Nat.le_of_eq g36.symm)
    have V36 : Arv Z h36 b36 k36 .char (3 : Int32) [(.int (0 : Int32)), (.int (0 : Int32)), (.int (0 : Int32))] (.int (0 : Int32)) := (Arv.new A36 (by decide)).pad (pad_rep [] (.int (0 : Int32)) 3)
    have O36 := O0.ext E36
    have K36 : Keep h0 h36 ([] : List Addr) := Keep.ext (Keep.refl h0 ([] : List Addr)) E36
    have Cd36 := Cold.ext Cd0 E36
    refine Home.run X36 hx hby sg2_7_2 (pc' := 9) (L' := #[.val (.int i0), .val (.int (3 : Int32)), .val (.ref b36)]) (S' := [(.int (3 : Int32))]) rfl ?_
    refine Home.go (fun _ => XS.ifNo X36.here hx rfl (hb hby d2_9) rfl ((if0 _ _).trans (tlt (by decide)).2.2.2)) ?_
    refine Home.run X36 hx hby sg2_12_4 (pc' := 16) (L' := #[.val (.int i0), .val (.int (3 : Int32)), .val (.ref b36)]) (S' := [(.int (0 : Int32)), (.int i0), (.int (0 : Int32)), (.ref b36)]) rfl ?_
    refine Home.st (own_pure (own_static X36 hx hZ hown (own_w32 hw) (own_w33 hw) (own_w2 hw) (own_w34 hw) (by decide) (rm6_0 l Z a0 hw [] i0 h36 n0 O36) e36 rfl (by rw [hml]; rfl) (argsL := [(.int i0), (.int (0 : Int32))]) (rest := [(.int (0 : Int32)), (.ref b36)]) (lenOf own_pd3 rfl) rfl rfl (W := 2) (by exact hW0) (by decide) (by decide) (hb hby d2_16) (by decide) (by decide))) fun T37 X37 e37 => ?_
    show Home T37 (mkF m 19 #[.val (.int i0), .val (.int (3 : Int32)), .val (.ref b36)] [(.int (((i0.toUInt32 >>> ((2 : Int32) &&& 31).toUInt32).toInt32) &&& (255 : Int32))), (.int (0 : Int32)), (.ref b36)])
    obtain ⟨cl38, Ar38, q38, S38, M38, H38, G38⟩ := id V36
    refine Home.wr (stC X37 hx hZ e37 Ar38 (j := (0 : Int32)) (inb_of S38 ⟨by decide, by decide⟩) rfl rfl (hb hby d2_19)) fun T38 h38 X38 e38 W38 => ?_
    have W38' := Wr.to W38 (congrArg Value.int (nar_char_id (bnd_and ((i0.toUInt32 >>> ((2 : Int32) &&& 31).toUInt32).toInt32) (255 : Int32) (by decide)) (by decide +kernel) (by decide +kernel)))
    have V38 : Arv Z h38 b36 k36 .char (3 : Int32) [(.int (((i0.toUInt32 >>> ((2 : Int32) &&& 31).toUInt32).toInt32) &&& (255 : Int32))), (.int (0 : Int32)), (.int (0 : Int32))] (.int (0 : Int32)) := Arv.set Ar38 q38 S38 M38 H38 G38 (fits_char_b (bnd_and ((i0.toUInt32 >>> ((2 : Int32) &&& 31).toUInt32).toInt32) (255 : Int32) (by decide)) (by decide +kernel) (by decide +kernel)) W38' 0 rfl (Nat.le_of_ble_eq_true rfl)
    have O38 := O36.wr W38 g_b36
    have K38 : Keep h0 h38 ([] : List Addr) := Keep.wr K36 W38 (Or.inr (Nat.le_trans (Nat.le_refl _) (Nat.le_of_eq g36.symm)))
    have Cd38 := Cold.wr Cd36 W38 (Safe.arv hZ.alike V36 (by simp))
    have N38 := Fr.snoc X38 N0 g_b36
    show Home T38 (mkF m 20 #[.val (.int i0), .val (.int (3 : Int32)), .val (.ref b36)] [])
    refine Home.run X38 hx hby sg2_20_2 (pc' := 22) (L' := #[.val (.int i0), .val (.int (3 : Int32)), .val (.ref b36)]) (S' := [(.int (1 : Int32)), (.int (3 : Int32))]) rfl ?_
    refine Home.go (fun _ => XS.icmpNo X38.here hx rfl (hb hby d2_22) rfl (tlt (by decide)).2.2.2) ?_
    refine Home.run X38 hx hby sg2_25_4 (pc' := 29) (L' := #[.val (.int i0), .val (.int (3 : Int32)), .val (.ref b36)]) (S' := [(.int (1 : Int32)), (.int i0), (.int (1 : Int32)), (.ref b36)]) rfl ?_
    refine Home.st (own_pure (own_static X38 hx hZ hown (own_w32 hw) (own_w33 hw) (own_w2 hw) (own_w34 hw) (by decide) (rm6_1 l Z a0 hw [] i0 h38 n0 O38) e38 rfl (by rw [hml]; rfl) (argsL := [(.int i0), (.int (1 : Int32))]) (rest := [(.int (1 : Int32)), (.ref b36)]) (lenOf own_pd3 rfl) rfl rfl (W := 2) (by exact hW0) (by decide) (by decide) (hb hby d2_29) (by decide) (by decide))) fun T39 X39 e39 => ?_
    obtain ⟨cl40, Ar40, q40, S40, M40, H40, G40⟩ := id V38
    refine Home.wr (stC X39 hx hZ e39 Ar40 (j := (1 : Int32)) (inb_of S40 ⟨by decide, by decide⟩) rfl rfl (hb hby d2_32)) fun T40 h40 X40 e40 W40 => ?_
    have W40' := Wr.to W40 (congrArg Value.int (nar_char_id (bnd_and ((i0.toUInt32 >>> ((10 : Int32) &&& 31).toUInt32).toInt32) (255 : Int32) (by decide)) (by decide +kernel) (by decide +kernel)))
    have V40 : Arv Z h40 b36 k36 .char (3 : Int32) [(.int (((i0.toUInt32 >>> ((2 : Int32) &&& 31).toUInt32).toInt32) &&& (255 : Int32))), (.int (((i0.toUInt32 >>> ((10 : Int32) &&& 31).toUInt32).toInt32) &&& (255 : Int32))), (.int (0 : Int32))] (.int (0 : Int32)) := Arv.set Ar40 q40 S40 M40 H40 G40 (fits_char_b (bnd_and ((i0.toUInt32 >>> ((10 : Int32) &&& 31).toUInt32).toInt32) (255 : Int32) (by decide)) (by decide +kernel) (by decide +kernel)) W40' 1 rfl (Nat.le_of_ble_eq_true rfl)
    have O40 := O38.wr W40 g_b36
    have K40 : Keep h0 h40 ([] : List Addr) := Keep.wr K38 W40 (Or.inr (Nat.le_trans (Nat.le_refl _) (Nat.le_of_eq g36.symm)))
    have Cd40 := Cold.wr Cd38 W40 (Safe.arv hZ.alike V38 (by simp))
    have N40 := Fr.snoc X40 N38 g_b36
    show Home T40 (mkF m 33 #[.val (.int i0), .val (.int (3 : Int32)), .val (.ref b36)] [])
    refine Home.run X40 hx hby sg2_33_2 (pc' := 35) (L' := #[.val (.int i0), .val (.int (3 : Int32)), .val (.ref b36)]) (S' := [(.int (2 : Int32)), (.int (3 : Int32))]) rfl ?_
    refine Home.go (fun _ => XS.icmpNo X40.here hx rfl (hb hby d2_35) rfl (tlt (by decide)).2.2.2) ?_
    refine Home.run X40 hx hby sg2_38_4 (pc' := 42) (L' := #[.val (.int i0), .val (.int (3 : Int32)), .val (.ref b36)]) (S' := [(.int (2 : Int32)), (.int i0), (.int (2 : Int32)), (.ref b36)]) rfl ?_
    refine Home.st (own_pure (own_static X40 hx hZ hown (own_w32 hw) (own_w33 hw) (own_w2 hw) (own_w34 hw) (by decide) (rm6_2 l Z a0 hw [] i0 h40 n0 O40) e40 rfl (by rw [hml]; rfl) (argsL := [(.int i0), (.int (2 : Int32))]) (rest := [(.int (2 : Int32)), (.ref b36)]) (lenOf own_pd3 rfl) rfl rfl (W := 2) (by exact hW0) (by decide) (by decide) (hb hby d2_42) (by decide) (by decide))) fun T41 X41 e41 => ?_
    obtain ⟨cl42, Ar42, q42, S42, M42, H42, G42⟩ := id V40
    refine Home.wr (stC X41 hx hZ e41 Ar42 (j := (2 : Int32)) (inb_of S42 ⟨by decide, by decide⟩) rfl rfl (hb hby d2_45)) fun T42 h42 X42 e42 W42 => ?_
    have W42' := Wr.to W42 (congrArg Value.int (nar_char_id (bnd_and ((i0.toUInt32 >>> ((18 : Int32) &&& 31).toUInt32).toInt32) (255 : Int32) (by decide)) (by decide +kernel) (by decide +kernel)))
    have V42 : Arv Z h42 b36 k36 .char (3 : Int32) [(.int (((i0.toUInt32 >>> ((2 : Int32) &&& 31).toUInt32).toInt32) &&& (255 : Int32))), (.int (((i0.toUInt32 >>> ((10 : Int32) &&& 31).toUInt32).toInt32) &&& (255 : Int32))), (.int (((i0.toUInt32 >>> ((18 : Int32) &&& 31).toUInt32).toInt32) &&& (255 : Int32)))] (.int (0 : Int32)) := Arv.set Ar42 q42 S42 M42 H42 G42 (fits_char_b (bnd_and ((i0.toUInt32 >>> ((18 : Int32) &&& 31).toUInt32).toInt32) (255 : Int32) (by decide)) (by decide +kernel) (by decide +kernel)) W42' 2 rfl (Nat.le_of_ble_eq_true rfl)
    have O42 := O40.wr W42 g_b36
    have K42 : Keep h0 h42 ([] : List Addr) := Keep.wr K40 W42 (Or.inr (Nat.le_trans (Nat.le_refl _) (Nat.le_of_eq g36.symm)))
    have Cd42 := Cold.wr Cd40 W42 (Safe.arv hZ.alike V40 (by simp))
    have N42 := Fr.snoc X42 N40 g_b36
    show Home T42 (mkF m 46 #[.val (.int i0), .val (.int (3 : Int32)), .val (.ref b36)] [])
    refine Home.nw (own_newO X42 hx hZ hown (own_w11 hw) (own_w12 hw) (own_w13 hw) e42 rfl (hb hby d2_46) (by decide) (by decide)) fun T43 h43 b43 g43 X43 e43 E43 A43 D43 => ?_
    have g_b43 : n0 ≤ b43 := Nat.le_trans (Old.le O42) (Nat.le_of_eq g43.symm)
    have F_value_b43 : Fld Z h43 b43 "java/lang/String" "value" "[B" .null := D43 (Or.inr (own_w26 hw)) (ty := (.array .byte)) (by decide)
    have F_coder_b43 : Fld Z h43 b43 "java/lang/String" "coder" "B" (.int (0 : Int32)) := D43 (Or.inr (own_w27 hw)) (ty := .byte) (by decide)
    have O43 := O42.ext E43
    have K43 : Keep h0 h43 ([] : List Addr) := Keep.ext K42 E43
    have Cd43 := Cold.add Cd42 E43 (Nat.le_of_eq g43.symm) A43.lt
    refine Home.run X43 hx hby sg2_49_2 (pc' := 51) (L' := #[.val (.int i0), .val (.int (3 : Int32)), .val (.ref b36)]) (S' := [(.ref b36), (.ref b43), (.ref b43)]) rfl ?_
    have q44 := (V42.ext E43)
    refine Home.call (own_special X43 hx hZ hown rfl (own_w14 hw) (own_w15 hw) (own_w13 hw) (own_w16 hw) (by decide) (rm3_3 l Z a0 hw [] b43 b36 k36 (((i0.toUInt32 >>> ((2 : Int32) &&& 31).toUInt32).toInt32) &&& (255 : Int32)) (((i0.toUInt32 >>> ((10 : Int32) &&& 31).toUInt32).toInt32) &&& (255 : Int32)) (((i0.toUInt32 >>> ((18 : Int32) &&& 31).toUInt32).toInt32) &&& (255 : Int32)) sv_COMPACT_STRINGS h43 n0 O43 q44 S_COMPACT_STRINGS A43 F_coder_b43 F_value_b43 (bnd_and ((i0.toUInt32 >>> ((2 : Int32) &&& 31).toUInt32).toInt32) (255 : Int32) (by decide)) (bnd_and ((i0.toUInt32 >>> ((10 : Int32) &&& 31).toUInt32).toInt32) (255 : Int32) (by decide)) (bnd_and ((i0.toUInt32 >>> ((18 : Int32) &&& 31).toUInt32).toInt32) (255 : Int32) (by decide)) g_b43 hCS) e43 rfl (by rw [hml]; rfl) (a := b43) (argsL := [(.ref b36)]) (rest := [(.ref b43)]) (lenOf own_pd2 rfl) rfl rfl (W := 1) (by exact hW0) (by decide) (by decide) (hb hby d2_51) (by decide) (by decide)) ?_
    rintro _ T45 L45 X45 ⟨b1_3_2_45, k1_3_2_45, rfl, N45q, sz_b1_3_2_45, K45q, P45_0, P45_1, P45_2, P45_3⟩
    have Cd45 := Cold.keep Cd43 K45q (allS (Cold.safe Cd43 (List.mem_of_getElem? (i := 0) rfl)) all0)
    have Cd45b1_3_2_45 := Cold.put Cd45 ⟨Safe.keep K45q (allS (Cold.safe Cd43 (List.mem_of_getElem? (i := 0) rfl)) all0) Cd43.2.1.1 (Safe.new sz_b1_3_2_45), P45_3.lt⟩
    have g_b1_3_2_45 : n0 ≤ b1_3_2_45 := Nat.le_trans (Old.le O43) sz_b1_3_2_45
    have le46 : h0.size ≤ h38.size := Nat.le_trans E36.1 (Nat.le_of_eq W38.size.symm)
    have le47 : h0.size ≤ h40.size := Nat.le_trans le46 (Nat.le_of_eq W40.size.symm)
    have le48 : h0.size ≤ h42.size := Nat.le_trans le47 (Nat.le_of_eq W42.size.symm)
    have O45 := Old.keep O43 K45q (allS g_b43 all0)
    have K45 : Keep h0 T45.heap ([] : List Addr) := Keep.trans K43 K45q (allS (Or.inr (Nat.le_trans le48 (Nat.le_of_eq g43.symm))) all0)
    have N45 := Fr.app N42 N45q
    show Home T45 (mkF m 54 #[.val (.int i0), .val (.int (3 : Int32)), .val (.ref b36)] [(.ref b43)])
    exact HomeW.retR X45 hx hlk hZ (own_hEL hw) rfl Cd45b1_3_2_45 (fun _ _ q => by cases q; exact (List.mem_of_getElem? (i := 1) rfl)) hret rfl rfl (hb hby d2_54) ⟨b43, b1_3_2_45, k1_3_2_45, rfl, N45, (Nat.le_trans le48 (Nat.le_of_eq g43.symm)), K45, P45_0, P45_1, P45_2, Arv.lst P45_3 (cs := [((((i0.toUInt32 >>> ((2 : Int32) &&& 31).toUInt32).toInt32) &&& (255 : Int32)).toInt8.toInt32), ((((i0.toUInt32 >>> ((10 : Int32) &&& 31).toUInt32).toInt32) &&& (255 : Int32)).toInt8.toInt32), ((((i0.toUInt32 >>> ((18 : Int32) &&& 31).toUInt32).toInt32) &&& (255 : Int32)).toInt8.toInt32)]) (cs' := (cs_rm2_0 i0)) (by subst hv1; first | rfl | (simp only [cs_rm2_0, if_neg c2, if_neg c10, if_neg c21] <;> rfl) | (simp [cs_rm2_0, if_neg c2, if_neg c10, if_neg c21]; done)) rfl rfl⟩ (by decide) (by decide)
theorem rm11_0 (l : Launch) (Z : State) (a0 : Array Value) (hw : HW a0 Z) (ws : List Jvm.Cond) (o0 : Addr) (h0 : Heap) (n0 : Nat) (O0 : Old Z n0 h0) :
    Con l Z (⟨"java/lang/Record", "<init>", "()V"⟩ : MethodName) jdk_30_method_1_code 1 none ws ({ frames := 1, cells := 0, slots := 0, locals := 12 } : Room) #[(.ref o0)] h0 (Pur none h0) := by
 refine own_body (plainFor_of_name own_pn3) (fun m => ef_rm11_0 m o0) ?_
 intro p e s m below meth c s₁ hx hby hlk hml hret hZ hown hnm X0 e0
 have N0 := Fr.nil n0
 refine Home.run X0 hx hby sg11_0_1 (pc' := 1) (L' := #[.val (.ref o0)]) (S' := [(.ref o0)]) rfl ?_
 refine Home.st (initO X0 hx hZ hown (own_w54 hw) (own_w22 hw) (own_w23 hw) e0 rfl (by rw [hml]; rfl) rfl (hb hby d11_1) (by decide) (W := 0) (by exact hW0) (by decide)) fun T1 X1 e1 => ?_
 exact Home.ret0 X1 hx hlk hret (hb hby d11_4) ⟨rfl, rfl, e1⟩ (by decide) (by decide)
theorem rm10_0 (l : Launch) (Z : State) (a0 : Array Value) (hw : HW a0 Z) (ws : List Jvm.Cond) (o0 o1 o2 : Addr) (h0 : Heap) (n0 : Nat) (O0 : Old Z n0 h0) (E_o0 : Exa Z h0 o0 "com/example/invocant/invocant/Canonical") (F_url_o0 : Fld Z h0 o0 "com/example/invocant/invocant/Canonical" "url" "Ljava/lang/String;" .null) (g_o0 : n0 ≤ o0) (F_version_o0 : Fld Z h0 o0 "com/example/invocant/invocant/Canonical" "version" "Ljava/lang/String;" .null) :
    Con l Z (⟨"com/example/invocant/invocant/Canonical", "<init>", "(Ljava/lang/String;Ljava/lang/String;)V"⟩ : MethodName) prog_3_method_1_code 3 none ws ({ frames := 2, cells := 0, slots := 0, locals := 24 } : Room) #[(.ref o0), (.ref o1), (.ref o2)] h0 (fun v h L => v = none ∧ Fr n0 L ∧ Keep h0 h [o0] ∧ Exa Z h o0 "com/example/invocant/invocant/Canonical" ∧ Fld Z h o0 "com/example/invocant/invocant/Canonical" "url" "Ljava/lang/String;" (.ref o1) ∧ Fld Z h o0 "com/example/invocant/invocant/Canonical" "version" "Ljava/lang/String;" (.ref o2)) := by
 refine own_body (plainFor_of_name own_pn4) (fun m => ef_rm10_0 m o0 o1 o2) ?_
 intro p e s m below meth c s₁ hx hby hlk hml hret hZ hown hnm X0 e0
 have N0 := Fr.nil n0
 refine Home.run X0 hx hby sg10_0_1 (pc' := 1) (L' := #[.val (.ref o0), .val (.ref o1), .val (.ref o2)]) (S' := [(.ref o0)]) rfl ?_
 refine Home.st (own_pure (own_special X0 hx hZ hown rfl (own_w49 hw) (own_w50 hw) (own_w52 hw) (own_w53 hw) (by decide) (rm11_0 l Z a0 hw [] o0 h0 n0 O0) e0 rfl (by rw [hml]; rfl) (a := o0) (argsL := []) (rest := []) (lenOf own_pd8 rfl) rfl rfl (W := 0) (by exact hW0) (by decide) (by decide) (hb hby d10_1) (by decide) (by decide))) fun T1 X1 e1 => ?_
 refine Home.run X1 hx hby sg10_4_2 (pc' := 6) (L' := #[.val (.ref o0), .val (.ref o1), .val (.ref o2)]) (S' := [(.ref o1), (.ref o0)]) rfl ?_
 refine Home.wr (putF X1 hx hZ hown (host := "") (Or.inl (own_w55 hw)) Via.refl e1 F_url_o0 E_o0 (Or.inr ⟨(own_w56 hw), rfl, hnm⟩) (own_w5 hw) (ty := (.object "java/lang/String")) (by decide) rfl rfl rfl rfl (hb hby d10_6)) fun T2 h2 X2 e2 W2 => ?_
 have Fw2 := F_url_o0.same W2
 have O2 := O0.wr W2 g_o0
 have K2 : Keep h0 h2 ([o0] : List Addr) := Keep.wr (Keep.refl h0 ([o0] : List Addr)) W2 (Or.inl (List.mem_of_getElem? (i := 0) rfl))
 have N2 := Fr.snoc X2 N0 g_o0
 show Home T2 (mkF m 9 #[.val (.ref o0), .val (.ref o1), .val (.ref o2)] [])
 refine Home.run X2 hx hby sg10_9_2 (pc' := 11) (L' := #[.val (.ref o0), .val (.ref o1), .val (.ref o2)]) (S' := [(.ref o2), (.ref o0)]) rfl ?_
 have q3 := (F_version_o0.other W2 (Or.inr (slot_ne (Or.inr (own_w58 hw)) (Or.inr (own_w56 hw)) (by decide) (t := (.object "java/lang/String")) (t' := (.object "java/lang/String")) (by decide) (by decide))))
 refine Home.wr (putF X2 hx hZ hown (host := "") (Or.inl (own_w57 hw)) Via.refl e2 q3 (E_o0.keep K2) (Or.inr ⟨(own_w58 hw), rfl, hnm⟩) (own_w5 hw) (ty := (.object "java/lang/String")) (by decide) rfl rfl rfl rfl (hb hby d10_11)) fun T4 h4 X4 e4 W4 => ?_
 have Fw4 := q3.same W4
 have O4 := O2.wr W4 g_o0
 have K4 : Keep h0 h4 ([o0] : List Addr) := Keep.wr K2 W4 (Or.inl (List.mem_of_getElem? (i := 0) rfl))
 have N4 := Fr.snoc X4 N2 g_o0
 have q5 := (Fw2.other W4 (Or.inr (slot_ne (Or.inr (own_w56 hw)) (Or.inr (own_w58 hw)) (by decide) (t := (.object "java/lang/String")) (t' := (.object "java/lang/String")) (by decide) (by decide))))
 exact Home.ret0 X4 hx hlk hret (hb hby d10_14) (by rw [show T4.heap = h4 from e4]; exact ⟨rfl, N4, K4, (E_o0.keep K4), q5, Fw4⟩) (by decide) (by decide)
theorem rm19_0 (l : Launch) (Z : State) (a0 : Array Value) (hw : HW a0 Z) (ws : List Jvm.Cond) (i0 : Int32) (h0 : Heap) (n0 : Nat) (O0 : Old Z n0 h0) (bnd_i0 : ¬ i0 < (0 : Int32) ∧ ¬ (255 : Int32) < i0) :
    Con l Z (⟨"com/example/invocant/invocant/CanonicalMatchesIgnoringCasePinLaw", "fold", "(I)I"⟩ : MethodName) method_4_code 1 (some .int) ws ({ frames := 0, cells := 0, slots := 0, locals := 0 } : Room) #[(.int i0)] h0 (Pur (some (.int (f_rm19_0 i0))) h0) := by
 refine own_body (plainFor_of_name own_pn0) (fun m => ef_rm19_0 m i0) ?_
 intro p e s m below meth c s₁ hx hby hlk hml hret hZ hown hnm X0 e0
 have N0 := Fr.nil n0
 refine Home.run X0 hx hby sg19_0_2 (pc' := 3) (L' := #[.val (.int i0)]) (S' := [(.int (65 : Int32)), (.int i0)]) rfl ?_
 by_cases c1 : i0 < (65 : Int32)
 ·
  refine Home.go (fun _ => XS.icmpYes X0.here hx rfl (pc0 := 3) (pc' := 17) rfl (hb hby d19_3) rfl (tlt c1).1 (by decide) (by decide)) ?_
  have bd2 : ¬ i0 < (0 : Int32) ∧ ¬ (64 : Int32) < i0 := ⟨bnd_i0.1, (bnd_dn c1 (by decide +kernel))⟩
  refine Home.run X0 hx hby sg19_17_2 (pc' := 21) (L' := #[.val (.int i0)]) (S' := [(.int (192 : Int32)), (.int i0)]) rfl ?_
  refine Home.go (fun _ => XS.icmpYes X0.here hx rfl (pc0 := 21) (pc' := 43) rfl (hb hby d19_21) rfl (tlt (bnd_lt bd2 (bnd_lit (192 : Int32)) (by decide +kernel))).1 (by decide) (by decide)) ?_
  refine Home.run X0 hx hby sg19_43_1 (pc' := 44) (L' := #[.val (.int i0)]) (S' := [(.int i0)]) rfl ?_
  exact Home.retI X0 hx hlk hret (hb hby d19_44) ⟨congrArg some (congrArg Value.int (by first | rfl | (simp only [f_rm19_0, if_pos c1, nar_i2c, nar_i2b] <;> rfl) | (simp [f_rm19_0, if_pos c1]; done))), rfl, e0⟩ (by decide) (by decide)
 ·
  refine Home.go (fun _ => XS.icmpNo X0.here hx rfl (hb hby d19_3) rfl (flt c1).1) ?_
  have bd3 : ¬ i0 < (65 : Int32) ∧ ¬ (255 : Int32) < i0 := ⟨c1, bnd_i0.2⟩
  refine Home.run X0 hx hby sg19_6_2 (pc' := 9) (L' := #[.val (.int i0)]) (S' := [(.int (90 : Int32)), (.int i0)]) rfl ?_
  by_cases c4 : (90 : Int32) < i0
  ·
   refine Home.go (fun _ => XS.icmpYes X0.here hx rfl (pc0 := 9) (pc' := 17) rfl (hb hby d19_9) rfl (tlt c4).2.2.1 (by decide) (by decide)) ?_
   have bd5 : ¬ i0 < (91 : Int32) ∧ ¬ (255 : Int32) < i0 := ⟨(bnd_up c4 (by decide +kernel)), bd3.2⟩
   refine Home.run X0 hx hby sg19_17_2 (pc' := 21) (L' := #[.val (.int i0)]) (S' := [(.int (192 : Int32)), (.int i0)]) rfl ?_
   by_cases c7 : i0 < (192 : Int32)
   ·
    refine Home.go (fun _ => XS.icmpYes X0.here hx rfl (pc0 := 21) (pc' := 43) rfl (hb hby d19_21) rfl (tlt c7).1 (by decide) (by decide)) ?_
    have bd8 : ¬ i0 < (91 : Int32) ∧ ¬ (191 : Int32) < i0 := ⟨bd5.1, (bnd_dn c7 (by decide +kernel))⟩
    refine Home.run X0 hx hby sg19_43_1 (pc' := 44) (L' := #[.val (.int i0)]) (S' := [(.int i0)]) rfl ?_
    exact Home.retI X0 hx hlk hret (hb hby d19_44) ⟨congrArg some (congrArg Value.int (by first | rfl | (simp only [f_rm19_0, if_neg c1, if_pos c4, if_pos c7, nar_i2c, nar_i2b] <;> rfl) | (simp [f_rm19_0, if_neg c1, if_pos c4, if_pos c7]; done))), rfl, e0⟩ (by decide) (by decide)
   ·
    refine Home.go (fun _ => XS.icmpNo X0.here hx rfl (hb hby d19_21) rfl (flt c7).1) ?_
    have bd9 : ¬ i0 < (192 : Int32) ∧ ¬ (255 : Int32) < i0 := ⟨c7, bd5.2⟩
    refine Home.run X0 hx hby sg19_24_2 (pc' := 28) (L' := #[.val (.int i0)]) (S' := [(.int (222 : Int32)), (.int i0)]) rfl ?_
    by_cases c10 : (222 : Int32) < i0
    ·
     refine Home.go (fun _ => XS.icmpYes X0.here hx rfl (pc0 := 28) (pc' := 43) rfl (hb hby d19_28) rfl (tlt c10).2.2.1 (by decide) (by decide)) ?_
     have bd11 : ¬ i0 < (223 : Int32) ∧ ¬ (255 : Int32) < i0 := ⟨(bnd_up c10 (by decide +kernel)), bd9.2⟩
     refine Home.run X0 hx hby sg19_43_1 (pc' := 44) (L' := #[.val (.int i0)]) (S' := [(.int i0)]) rfl ?_
     exact Home.retI X0 hx hlk hret (hb hby d19_44) ⟨congrArg some (congrArg Value.int (by first | rfl | (simp only [f_rm19_0, if_neg c1, if_pos c4, if_neg c7, if_pos c10, nar_i2c, nar_i2b] <;> rfl) | (simp [f_rm19_0, if_neg c1, if_pos c4, if_neg c7, if_pos c10]; done))), rfl, e0⟩ (by decide) (by decide)
    ·
     refine Home.go (fun _ => XS.icmpNo X0.here hx rfl (hb hby d19_28) rfl (flt c10).2.2.1) ?_
     have bd12 : ¬ i0 < (192 : Int32) ∧ ¬ (222 : Int32) < i0 := ⟨bd9.1, c10⟩
     refine Home.run X0 hx hby sg19_31_2 (pc' := 35) (L' := #[.val (.int i0)]) (S' := [(.int (215 : Int32)), (.int i0)]) rfl ?_
     by_cases c13 : i0 = (215 : Int32)
     ·
      refine Home.go (fun _ => XS.icmpYes X0.here hx rfl (pc0 := 35) (pc' := 43) rfl (hb hby d19_35) rfl (teq c13).1 (by decide) (by decide)) ?_
      have bd14 : ¬ i0 < (215 : Int32) ∧ ¬ (215 : Int32) < i0 := ⟨(bnd_eql c13), (bnd_eqr c13)⟩
      refine Home.run X0 hx hby sg19_43_1 (pc' := 44) (L' := #[.val (.int i0)]) (S' := [(.int i0)]) rfl ?_
      exact Home.retI X0 hx hlk hret (hb hby d19_44) ⟨congrArg some (congrArg Value.int (by first | rfl | (simp only [f_rm19_0, if_neg c1, if_pos c4, if_neg c7, if_neg c10, if_pos c13, nar_i2c, nar_i2b] <;> rfl) | (simp [f_rm19_0, if_neg c1, if_pos c4, if_neg c7, if_neg c10, if_pos c13]; done))), rfl, e0⟩ (by decide) (by decide)
     ·
      refine Home.go (fun _ => XS.icmpNo X0.here hx rfl (hb hby d19_35) rfl (feq c13).1) ?_
      refine Home.run X0 hx hby sg19_38_3 (pc' := 42) (L' := #[.val (.int i0)]) (S' := [(.int (i0 + (32 : Int32)))]) rfl ?_
      exact Home.retI X0 hx hlk hret (hb hby d19_42) ⟨congrArg some (congrArg Value.int (by first | rfl | (simp only [f_rm19_0, if_neg c1, if_pos c4, if_neg c7, if_neg c10, if_neg c13, nar_i2c, nar_i2b] <;> rfl) | (simp [f_rm19_0, if_neg c1, if_pos c4, if_neg c7, if_neg c10, if_neg c13]; done))), rfl, e0⟩ (by decide) (by decide)
  ·
   refine Home.go (fun _ => XS.icmpNo X0.here hx rfl (hb hby d19_9) rfl (flt c4).2.2.1) ?_
   have bd6 : ¬ i0 < (65 : Int32) ∧ ¬ (90 : Int32) < i0 := ⟨bd3.1, c4⟩
   refine Home.run X0 hx hby sg19_12_3 (pc' := 16) (L' := #[.val (.int i0)]) (S' := [(.int (i0 + (32 : Int32)))]) rfl ?_
   exact Home.retI X0 hx hlk hret (hb hby d19_16) ⟨congrArg some (congrArg Value.int (by first | rfl | (simp only [f_rm19_0, if_neg c1, if_neg c4, nar_i2c, nar_i2b] <;> rfl) | (simp [f_rm19_0, if_neg c1, if_neg c4]; done))), rfl, e0⟩ (by decide) (by decide)
theorem f_rm19_0_bnd (i0 : Int32) (bnd_i0 : ¬ i0 < (0 : Int32) ∧ ¬ (255 : Int32) < i0) : ¬ (f_rm19_0 i0) < (0 : Int32) ∧ ¬ (255 : Int32) < (f_rm19_0 i0) := by unfold f_rm19_0; exact (bnd_dite (fun c1 => (bnd_mono (show ¬ i0 < (0 : Int32) ∧ ¬ (64 : Int32) < i0 from ⟨bnd_i0.1, (bnd_dn c1 (by decide +kernel))⟩) (by decide +kernel) (by decide +kernel))) (fun c1 => (bnd_dite (fun c4 => (bnd_dite (fun c7 => (bnd_mono (show ¬ i0 < (91 : Int32) ∧ ¬ (191 : Int32) < i0 from ⟨(show ¬ i0 < (91 : Int32) ∧ ¬ (255 : Int32) < i0 from ⟨(bnd_up c4 (by decide +kernel)), (show ¬ i0 < (65 : Int32) ∧ ¬ (255 : Int32) < i0 from ⟨c1, bnd_i0.2⟩).2⟩).1, (bnd_dn c7 (by decide +kernel))⟩) (by decide +kernel) (by decide +kernel))) (fun c7 => (bnd_dite (fun c10 => (bnd_mono (show ¬ i0 < (223 : Int32) ∧ ¬ (255 : Int32) < i0 from ⟨(bnd_up c10 (by decide +kernel)), (show ¬ i0 < (192 : Int32) ∧ ¬ (255 : Int32) < i0 from ⟨c7, (show ¬ i0 < (91 : Int32) ∧ ¬ (255 : Int32) < i0 from ⟨(bnd_up c4 (by decide +kernel)), (show ¬ i0 < (65 : Int32) ∧ ¬ (255 : Int32) < i0 from ⟨c1, bnd_i0.2⟩).2⟩).2⟩).2⟩) (by decide +kernel) (by decide +kernel))) (fun c10 => (bnd_dite (fun c13 => (bnd_mono (show ¬ i0 < (215 : Int32) ∧ ¬ (215 : Int32) < i0 from ⟨(bnd_eql c13), (bnd_eqr c13)⟩) (by decide +kernel) (by decide +kernel))) (fun c13 => (bnd_mono (bnd_add (show ¬ i0 < (192 : Int32) ∧ ¬ (222 : Int32) < i0 from ⟨(show ¬ i0 < (192 : Int32) ∧ ¬ (255 : Int32) < i0 from ⟨c7, (show ¬ i0 < (91 : Int32) ∧ ¬ (255 : Int32) < i0 from ⟨(bnd_up c4 (by decide +kernel)), (show ¬ i0 < (65 : Int32) ∧ ¬ (255 : Int32) < i0 from ⟨c1, bnd_i0.2⟩).2⟩).2⟩).1, c10⟩) (bnd_lit (32 : Int32)) (lo := (224 : Int32)) (hi := (254 : Int32)) (by decide +kernel) (by decide +kernel) (by decide +kernel) (by decide +kernel)) (by decide +kernel) (by decide +kernel))))))))) (fun c4 => (bnd_mono (bnd_add (show ¬ i0 < (65 : Int32) ∧ ¬ (90 : Int32) < i0 from ⟨(show ¬ i0 < (65 : Int32) ∧ ¬ (255 : Int32) < i0 from ⟨c1, bnd_i0.2⟩).1, c4⟩) (bnd_lit (32 : Int32)) (lo := (97 : Int32)) (hi := (122 : Int32)) (by decide +kernel) (by decide +kernel) (by decide +kernel) (by decide +kernel)) (by decide +kernel) (by decide +kernel))))))
theorem rm12_0 (l : Launch) (Z : State) (a0 : Array Value) (hw : HW a0 Z) (ws : List Jvm.Cond) (i0 i1 : Int32) (h0 : Heap) (n0 : Nat) (O0 : Old Z n0 h0) :
    Con l Z (⟨"com/example/invocant/invocant/CanonicalMatchesIgnoringCasePinLaw", "eqIC", "(II)Z"⟩ : MethodName) method_5_code 4 (some .boolean) ws ({ frames := 1, cells := 0, slots := 0, locals := 14 } : Room) #[(.int i0), (.int i1)] h0 (Pur (some (.int (f_rm12_0 i0 i1))) h0) := by
 refine own_body (plainFor_of_name own_pn0) (fun m => ef_rm12_0 m i0 i1) ?_
 intro p e s m below meth c s₁ hx hby hlk hml hret hZ hown hnm X0 e0
 have N0 := Fr.nil n0
 refine Home.run X0 hx hby sg12_0_8 (pc' := 8) (L' := #[.val (.int i0), .val (.int i1), .val (.int (i0 &&& (3 : Int32))), .unset]) (S' := [(.int (i1 &&& (3 : Int32))), (.int (i0 &&& (3 : Int32)))]) rfl ?_
 by_cases c1 : (i0 &&& (3 : Int32)) = (i1 &&& (3 : Int32))
 ·
  refine Home.go (fun _ => XS.icmpYes X0.here hx rfl (pc0 := 8) (pc' := 13) rfl (hb hby d12_8) rfl (teq c1).1 (by decide) (by decide)) ?_
  refine Home.run X0 hx hby sg12_13_3 (pc' := 16) (L' := #[.val (.int i0), .val (.int i1), .val (.int (i0 &&& (3 : Int32))), .val (.int (1 : Int32))]) (S' := [(.int (i0 &&& (3 : Int32)))]) rfl ?_
  suffices J10 : ∀ {T : State} (X : Stand p l e ({ frames := 1, cells := 0, slots := 0, locals := 14 } : Room) s m #[(.int i0), (.int i1)] below meth c T [] 0 0) (eT : T.heap = h0) (v11 : Int32) (hv11 : v11 = (if (0 : Int32) < (i0 &&& (3 : Int32)) then (if (f_rm19_0 (((i0.toUInt32 >>> ((2 : Int32) &&& 31).toUInt32).toInt32) &&& (255 : Int32))) = (f_rm19_0 (((i1.toUInt32 >>> ((2 : Int32) &&& 31).toUInt32).toInt32) &&& (255 : Int32))) then (1 : Int32) else (0 : Int32)) else (1 : Int32))), @Home p e below _ T (mkF m 48 #[.val (.int i0), .val (.int i1), .val (.int (i0 &&& (3 : Int32))), .val (.int v11)] []) by
   by_cases c2 : (0 : Int32) < (i0 &&& (3 : Int32))
   ·
    refine Home.go (fun _ => XS.ifNo X0.here hx rfl (hb hby d12_16) rfl ((if0 _ _).trans (tlt c2).2.2.2)) ?_
    have bd3 : ¬ (i0 &&& (3 : Int32)) < (1 : Int32) ∧ ¬ (3 : Int32) < (i0 &&& (3 : Int32)) := ⟨(bnd_up c2 (by decide +kernel)), (bnd_and i0 (3 : Int32) (by decide)).2⟩
    refine Home.run X0 hx hby sg12_19_1 (pc' := 20) (L' := #[.val (.int i0), .val (.int i1), .val (.int (i0 &&& (3 : Int32))), .val (.int (1 : Int32))]) (S' := [(.int (1 : Int32))]) rfl ?_
    refine Home.go (fun _ => XS.ifNo X0.here hx rfl (hb hby d12_20) rfl ((if0 _ _).trans (feq (by decide)).1)) ?_
    refine Home.run X0 hx hby sg12_23_2 (pc' := 25) (L' := #[.val (.int i0), .val (.int i1), .val (.int (i0 &&& (3 : Int32))), .val (.int (1 : Int32))]) (S' := [(.int (0 : Int32)), (.int i0)]) rfl ?_
    refine Home.st (own_pure (own_static X0 hx hZ hown (own_w32 hw) (own_w33 hw) (own_w2 hw) (own_w34 hw) (by decide) (rm6_0 l Z a0 hw [] i0 h0 n0 O0) e0 rfl (by rw [hml]; rfl) (argsL := [(.int i0), (.int (0 : Int32))]) (rest := []) (lenOf own_pd3 rfl) rfl rfl (W := 0) (by exact hW0) (by decide) (by decide) (hb hby d12_25) (by decide) (by decide))) fun T5 X5 e5 => ?_
    refine Home.st (own_pure (own_static X5 hx hZ hown (own_w91 hw) (own_w92 hw) (own_w2 hw) (own_w93 hw) (by decide) (rm19_0 l Z a0 hw [] (((i0.toUInt32 >>> ((2 : Int32) &&& 31).toUInt32).toInt32) &&& (255 : Int32)) h0 n0 O0 (bnd_and ((i0.toUInt32 >>> ((2 : Int32) &&& 31).toUInt32).toInt32) (255 : Int32) (by decide))) e5 rfl (by rw [hml]; rfl) (argsL := [(.int (((i0.toUInt32 >>> ((2 : Int32) &&& 31).toUInt32).toInt32) &&& (255 : Int32)))]) (rest := []) (lenOf own_pd10 rfl) rfl rfl (W := 0) (by exact hW0) (by decide) (by decide) (hb hby d12_28) (by decide) (by decide))) fun T6 X6 e6 => ?_
    refine Home.run X6 hx hby sg12_31_2 (pc' := 33) (L' := #[.val (.int i0), .val (.int i1), .val (.int (i0 &&& (3 : Int32))), .val (.int (1 : Int32))]) (S' := [(.int (0 : Int32)), (.int i1), (.int (f_rm19_0 (((i0.toUInt32 >>> ((2 : Int32) &&& 31).toUInt32).toInt32) &&& (255 : Int32))))]) rfl ?_
    refine Home.st (own_pure (own_static X6 hx hZ hown (own_w32 hw) (own_w33 hw) (own_w2 hw) (own_w34 hw) (by decide) (rm6_0 l Z a0 hw [] i1 h0 n0 O0) e6 rfl (by rw [hml]; rfl) (argsL := [(.int i1), (.int (0 : Int32))]) (rest := [(.int (f_rm19_0 (((i0.toUInt32 >>> ((2 : Int32) &&& 31).toUInt32).toInt32) &&& (255 : Int32))))]) (lenOf own_pd3 rfl) rfl rfl (W := 1) (by exact hW0) (by decide) (by decide) (hb hby d12_33) (by decide) (by decide))) fun T7 X7 e7 => ?_
    refine Home.st (own_pure (own_static X7 hx hZ hown (own_w91 hw) (own_w92 hw) (own_w2 hw) (own_w93 hw) (by decide) (rm19_0 l Z a0 hw [] (((i1.toUInt32 >>> ((2 : Int32) &&& 31).toUInt32).toInt32) &&& (255 : Int32)) h0 n0 O0 (bnd_and ((i1.toUInt32 >>> ((2 : Int32) &&& 31).toUInt32).toInt32) (255 : Int32) (by decide))) e7 rfl (by rw [hml]; rfl) (argsL := [(.int (((i1.toUInt32 >>> ((2 : Int32) &&& 31).toUInt32).toInt32) &&& (255 : Int32)))]) (rest := [(.int (f_rm19_0 (((i0.toUInt32 >>> ((2 : Int32) &&& 31).toUInt32).toInt32) &&& (255 : Int32))))]) (lenOf own_pd10 rfl) rfl rfl (W := 1) (by exact hW0) (by decide) (by decide) (hb hby d12_36) (by decide) (by decide))) fun T8 X8 e8 => ?_
    show Home T8 (mkF m 39 #[.val (.int i0), .val (.int i1), .val (.int (i0 &&& (3 : Int32))), .val (.int (1 : Int32))] [(.int (f_rm19_0 (((i1.toUInt32 >>> ((2 : Int32) &&& 31).toUInt32).toInt32) &&& (255 : Int32)))), (.int (f_rm19_0 (((i0.toUInt32 >>> ((2 : Int32) &&& 31).toUInt32).toInt32) &&& (255 : Int32))))])
    by_cases c9 : (f_rm19_0 (((i0.toUInt32 >>> ((2 : Int32) &&& 31).toUInt32).toInt32) &&& (255 : Int32))) = (f_rm19_0 (((i1.toUInt32 >>> ((2 : Int32) &&& 31).toUInt32).toInt32) &&& (255 : Int32)))
    ·
     refine Home.go (fun _ => XS.icmpNo X8.here hx rfl (hb hby d12_39) rfl (teq c9).2) ?_
     refine Home.run X8 hx hby sg12_42_3 (pc' := 48) (L' := #[.val (.int i0), .val (.int i1), .val (.int (i0 &&& (3 : Int32))), .val (.int (1 : Int32))]) (S' := []) rfl ?_
     exact J10 X8 e8 _ (by simp only [if_pos c2, if_pos c9])
    ·
     refine Home.go (fun _ => XS.icmpYes X8.here hx rfl (pc0 := 39) (pc' := 46) rfl (hb hby d12_39) rfl (feq c9).2 (by decide) (by decide)) ?_
     refine Home.run X8 hx hby sg12_46_2 (pc' := 48) (L' := #[.val (.int i0), .val (.int i1), .val (.int (i0 &&& (3 : Int32))), .val (.int (0 : Int32))]) (S' := []) rfl ?_
     exact J10 X8 e8 _ (by simp only [if_pos c2, if_neg c9])
   ·
    refine Home.go (fun _ => XS.ifYes X0.here hx rfl (pc0 := 16) (pc' := 48) rfl (hb hby d12_16) rfl ((if0 _ _).trans (flt c2).2.2.2) (by decide) (by decide)) ?_
    have bd4 : ¬ (i0 &&& (3 : Int32)) < (0 : Int32) ∧ ¬ (0 : Int32) < (i0 &&& (3 : Int32)) := ⟨(bnd_and i0 (3 : Int32) (by decide)).1, c2⟩
    exact J10 X0 e0 _ (by simp only [if_neg c2])
  intro TJ10 XJ10 eJ10 v11 hv11
  have bv11 : ¬ v11 < (0 : Int32) ∧ ¬ (1 : Int32) < v11 := by rw [hv11]; exact (bnd_ite (bnd_ite (bnd_mono (bnd_lit (1 : Int32)) (by decide +kernel) (by decide +kernel)) (bnd_mono (bnd_lit (0 : Int32)) (by decide +kernel) (by decide +kernel))) (bnd_mono (bnd_lit (1 : Int32)) (by decide +kernel) (by decide +kernel)))
  show Home TJ10 (mkF m 48 #[.val (.int i0), .val (.int i1), .val (.int (i0 &&& (3 : Int32))), .val (.int v11)] [])
  refine Home.run XJ10 hx hby sg12_48_2 (pc' := 50) (L' := #[.val (.int i0), .val (.int i1), .val (.int (i0 &&& (3 : Int32))), .val (.int v11)]) (S' := [(.int (1 : Int32)), (.int (i0 &&& (3 : Int32)))]) rfl ?_
  suffices J23 : ∀ {T : State} (X : Stand p l e ({ frames := 1, cells := 0, slots := 0, locals := 14 } : Room) s m #[(.int i0), (.int i1)] below meth c T [] 0 0) (eT : T.heap = h0) (v24 : Int32) (hv24 : v24 = (if (1 : Int32) < (i0 &&& (3 : Int32)) then (if v11 = (0 : Int32) then (0 : Int32) else (if (f_rm19_0 (((i0.toUInt32 >>> ((10 : Int32) &&& 31).toUInt32).toInt32) &&& (255 : Int32))) = (f_rm19_0 (((i1.toUInt32 >>> ((10 : Int32) &&& 31).toUInt32).toInt32) &&& (255 : Int32))) then (1 : Int32) else (0 : Int32))) else v11)), @Home p e below _ T (mkF m 82 #[.val (.int i0), .val (.int i1), .val (.int (i0 &&& (3 : Int32))), .val (.int v24)] []) by
   by_cases c12 : (1 : Int32) < (i0 &&& (3 : Int32))
   ·
    refine Home.go (fun _ => XS.icmpNo XJ10.here hx rfl (hb hby d12_50) rfl (tlt c12).2.2.2) ?_
    have bd13 : ¬ (i0 &&& (3 : Int32)) < (2 : Int32) ∧ ¬ (3 : Int32) < (i0 &&& (3 : Int32)) := ⟨(bnd_up c12 (by decide +kernel)), (bnd_and i0 (3 : Int32) (by decide)).2⟩
    refine Home.run XJ10 hx hby sg12_53_1 (pc' := 54) (L' := #[.val (.int i0), .val (.int i1), .val (.int (i0 &&& (3 : Int32))), .val (.int v11)]) (S' := [(.int v11)]) rfl ?_
    by_cases c15 : v11 = (0 : Int32)
    ·
     refine Home.go (fun _ => XS.ifYes XJ10.here hx rfl (pc0 := 54) (pc' := 80) rfl (hb hby d12_54) rfl ((if0 _ _).trans (teq c15).1) (by decide) (by decide)) ?_
     have bd16 : ¬ v11 < (0 : Int32) ∧ ¬ (0 : Int32) < v11 := ⟨(bnd_eql c15), (bnd_eqr c15)⟩
     refine Home.run XJ10 hx hby sg12_80_2 (pc' := 82) (L' := #[.val (.int i0), .val (.int i1), .val (.int (i0 &&& (3 : Int32))), .val (.int (0 : Int32))]) (S' := []) rfl ?_
     exact J23 XJ10 eJ10 _ (by simp only [if_pos c12, if_pos c15])
    ·
     refine Home.go (fun _ => XS.ifNo XJ10.here hx rfl (hb hby d12_54) rfl ((if0 _ _).trans (feq c15).1)) ?_
     have bd17 : ¬ v11 < (1 : Int32) ∧ ¬ (1 : Int32) < v11 := ⟨(bnd_nel bv11.1 c15 (by decide +kernel)), bv11.2⟩
     refine Home.run XJ10 hx hby sg12_57_2 (pc' := 59) (L' := #[.val (.int i0), .val (.int i1), .val (.int (i0 &&& (3 : Int32))), .val (.int v11)]) (S' := [(.int (1 : Int32)), (.int i0)]) rfl ?_
     refine Home.st (own_pure (own_static XJ10 hx hZ hown (own_w32 hw) (own_w33 hw) (own_w2 hw) (own_w34 hw) (by decide) (rm6_1 l Z a0 hw [] i0 h0 n0 O0) eJ10 rfl (by rw [hml]; rfl) (argsL := [(.int i0), (.int (1 : Int32))]) (rest := []) (lenOf own_pd3 rfl) rfl rfl (W := 0) (by exact hW0) (by decide) (by decide) (hb hby d12_59) (by decide) (by decide))) fun T18 X18 e18 => ?_
     refine Home.st (own_pure (own_static X18 hx hZ hown (own_w91 hw) (own_w92 hw) (own_w2 hw) (own_w93 hw) (by decide) (rm19_0 l Z a0 hw [] (((i0.toUInt32 >>> ((10 : Int32) &&& 31).toUInt32).toInt32) &&& (255 : Int32)) h0 n0 O0 (bnd_and ((i0.toUInt32 >>> ((10 : Int32) &&& 31).toUInt32).toInt32) (255 : Int32) (by decide))) e18 rfl (by rw [hml]; rfl) (argsL := [(.int (((i0.toUInt32 >>> ((10 : Int32) &&& 31).toUInt32).toInt32) &&& (255 : Int32)))]) (rest := []) (lenOf own_pd10 rfl) rfl rfl (W := 0) (by exact hW0) (by decide) (by decide) (hb hby d12_62) (by decide) (by decide))) fun T19 X19 e19 => ?_
     refine Home.run X19 hx hby sg12_65_2 (pc' := 67) (L' := #[.val (.int i0), .val (.int i1), .val (.int (i0 &&& (3 : Int32))), .val (.int v11)]) (S' := [(.int (1 : Int32)), (.int i1), (.int (f_rm19_0 (((i0.toUInt32 >>> ((10 : Int32) &&& 31).toUInt32).toInt32) &&& (255 : Int32))))]) rfl ?_
     refine Home.st (own_pure (own_static X19 hx hZ hown (own_w32 hw) (own_w33 hw) (own_w2 hw) (own_w34 hw) (by decide) (rm6_1 l Z a0 hw [] i1 h0 n0 O0) e19 rfl (by rw [hml]; rfl) (argsL := [(.int i1), (.int (1 : Int32))]) (rest := [(.int (f_rm19_0 (((i0.toUInt32 >>> ((10 : Int32) &&& 31).toUInt32).toInt32) &&& (255 : Int32))))]) (lenOf own_pd3 rfl) rfl rfl (W := 1) (by exact hW0) (by decide) (by decide) (hb hby d12_67) (by decide) (by decide))) fun T20 X20 e20 => ?_
     refine Home.st (own_pure (own_static X20 hx hZ hown (own_w91 hw) (own_w92 hw) (own_w2 hw) (own_w93 hw) (by decide) (rm19_0 l Z a0 hw [] (((i1.toUInt32 >>> ((10 : Int32) &&& 31).toUInt32).toInt32) &&& (255 : Int32)) h0 n0 O0 (bnd_and ((i1.toUInt32 >>> ((10 : Int32) &&& 31).toUInt32).toInt32) (255 : Int32) (by decide))) e20 rfl (by rw [hml]; rfl) (argsL := [(.int (((i1.toUInt32 >>> ((10 : Int32) &&& 31).toUInt32).toInt32) &&& (255 : Int32)))]) (rest := [(.int (f_rm19_0 (((i0.toUInt32 >>> ((10 : Int32) &&& 31).toUInt32).toInt32) &&& (255 : Int32))))]) (lenOf own_pd10 rfl) rfl rfl (W := 1) (by exact hW0) (by decide) (by decide) (hb hby d12_70) (by decide) (by decide))) fun T21 X21 e21 => ?_
     by_cases c22 : (f_rm19_0 (((i0.toUInt32 >>> ((10 : Int32) &&& 31).toUInt32).toInt32) &&& (255 : Int32))) = (f_rm19_0 (((i1.toUInt32 >>> ((10 : Int32) &&& 31).toUInt32).toInt32) &&& (255 : Int32)))
     ·
      refine Home.go (fun _ => XS.icmpNo X21.here hx rfl (hb hby d12_73) rfl (teq c22).2) ?_
      refine Home.run X21 hx hby sg12_76_3 (pc' := 82) (L' := #[.val (.int i0), .val (.int i1), .val (.int (i0 &&& (3 : Int32))), .val (.int (1 : Int32))]) (S' := []) rfl ?_
      exact J23 X21 e21 _ (by simp only [if_pos c12, if_neg c15, if_pos c22])
     ·
      refine Home.go (fun _ => XS.icmpYes X21.here hx rfl (pc0 := 73) (pc' := 80) rfl (hb hby d12_73) rfl (feq c22).2 (by decide) (by decide)) ?_
      refine Home.run X21 hx hby sg12_80_2 (pc' := 82) (L' := #[.val (.int i0), .val (.int i1), .val (.int (i0 &&& (3 : Int32))), .val (.int (0 : Int32))]) (S' := []) rfl ?_
      exact J23 X21 e21 _ (by simp only [if_pos c12, if_neg c15, if_neg c22])
   ·
    refine Home.go (fun _ => XS.icmpYes XJ10.here hx rfl (pc0 := 50) (pc' := 82) rfl (hb hby d12_50) rfl (flt c12).2.2.2 (by decide) (by decide)) ?_
    have bd14 : ¬ (i0 &&& (3 : Int32)) < (0 : Int32) ∧ ¬ (1 : Int32) < (i0 &&& (3 : Int32)) := ⟨(bnd_and i0 (3 : Int32) (by decide)).1, c12⟩
    exact J23 XJ10 eJ10 _ (by simp only [if_neg c12])
  intro TJ23 XJ23 eJ23 v24 hv24
  have bv24 : ¬ v24 < (0 : Int32) ∧ ¬ (1 : Int32) < v24 := by rw [hv24]; exact (bnd_ite (bnd_ite (bnd_mono (bnd_lit (0 : Int32)) (by decide +kernel) (by decide +kernel)) (bnd_ite (bnd_mono (bnd_lit (1 : Int32)) (by decide +kernel) (by decide +kernel)) (bnd_mono (bnd_lit (0 : Int32)) (by decide +kernel) (by decide +kernel)))) (bnd_mono bv11 (by decide +kernel) (by decide +kernel)))
  show Home TJ23 (mkF m 82 #[.val (.int i0), .val (.int i1), .val (.int (i0 &&& (3 : Int32))), .val (.int v24)] [])
  refine Home.run XJ23 hx hby sg12_82_2 (pc' := 84) (L' := #[.val (.int i0), .val (.int i1), .val (.int (i0 &&& (3 : Int32))), .val (.int v24)]) (S' := [(.int (2 : Int32)), (.int (i0 &&& (3 : Int32)))]) rfl ?_
  suffices J36 : ∀ {T : State} (X : Stand p l e ({ frames := 1, cells := 0, slots := 0, locals := 14 } : Room) s m #[(.int i0), (.int i1)] below meth c T [] 0 0) (eT : T.heap = h0) (v37 : Int32) (hv37 : v37 = (if (2 : Int32) < (i0 &&& (3 : Int32)) then (if v24 = (0 : Int32) then (0 : Int32) else (if (f_rm19_0 (((i0.toUInt32 >>> ((18 : Int32) &&& 31).toUInt32).toInt32) &&& (255 : Int32))) = (f_rm19_0 (((i1.toUInt32 >>> ((18 : Int32) &&& 31).toUInt32).toInt32) &&& (255 : Int32))) then (1 : Int32) else (0 : Int32))) else v24)), @Home p e below _ T (mkF m 116 #[.val (.int i0), .val (.int i1), .val (.int (i0 &&& (3 : Int32))), .val (.int v37)] []) by
   by_cases c25 : (2 : Int32) < (i0 &&& (3 : Int32))
   ·
    refine Home.go (fun _ => XS.icmpNo XJ23.here hx rfl (hb hby d12_84) rfl (tlt c25).2.2.2) ?_
    have bd26 : ¬ (i0 &&& (3 : Int32)) < (3 : Int32) ∧ ¬ (3 : Int32) < (i0 &&& (3 : Int32)) := ⟨(bnd_up c25 (by decide +kernel)), (bnd_and i0 (3 : Int32) (by decide)).2⟩
    refine Home.run XJ23 hx hby sg12_87_1 (pc' := 88) (L' := #[.val (.int i0), .val (.int i1), .val (.int (i0 &&& (3 : Int32))), .val (.int v24)]) (S' := [(.int v24)]) rfl ?_
    by_cases c28 : v24 = (0 : Int32)
    ·
     refine Home.go (fun _ => XS.ifYes XJ23.here hx rfl (pc0 := 88) (pc' := 114) rfl (hb hby d12_88) rfl ((if0 _ _).trans (teq c28).1) (by decide) (by decide)) ?_
     have bd29 : ¬ v24 < (0 : Int32) ∧ ¬ (0 : Int32) < v24 := ⟨(bnd_eql c28), (bnd_eqr c28)⟩
     refine Home.run XJ23 hx hby sg12_114_2 (pc' := 116) (L' := #[.val (.int i0), .val (.int i1), .val (.int (i0 &&& (3 : Int32))), .val (.int (0 : Int32))]) (S' := []) rfl ?_
     exact J36 XJ23 eJ23 _ (by simp only [if_pos c25, if_pos c28])
    ·
     refine Home.go (fun _ => XS.ifNo XJ23.here hx rfl (hb hby d12_88) rfl ((if0 _ _).trans (feq c28).1)) ?_
     have bd30 : ¬ v24 < (1 : Int32) ∧ ¬ (1 : Int32) < v24 := ⟨(bnd_nel bv24.1 c28 (by decide +kernel)), bv24.2⟩
     refine Home.run XJ23 hx hby sg12_91_2 (pc' := 93) (L' := #[.val (.int i0), .val (.int i1), .val (.int (i0 &&& (3 : Int32))), .val (.int v24)]) (S' := [(.int (2 : Int32)), (.int i0)]) rfl ?_
     refine Home.st (own_pure (own_static XJ23 hx hZ hown (own_w32 hw) (own_w33 hw) (own_w2 hw) (own_w34 hw) (by decide) (rm6_2 l Z a0 hw [] i0 h0 n0 O0) eJ23 rfl (by rw [hml]; rfl) (argsL := [(.int i0), (.int (2 : Int32))]) (rest := []) (lenOf own_pd3 rfl) rfl rfl (W := 0) (by exact hW0) (by decide) (by decide) (hb hby d12_93) (by decide) (by decide))) fun T31 X31 e31 => ?_
     refine Home.st (own_pure (own_static X31 hx hZ hown (own_w91 hw) (own_w92 hw) (own_w2 hw) (own_w93 hw) (by decide) (rm19_0 l Z a0 hw [] (((i0.toUInt32 >>> ((18 : Int32) &&& 31).toUInt32).toInt32) &&& (255 : Int32)) h0 n0 O0 (bnd_and ((i0.toUInt32 >>> ((18 : Int32) &&& 31).toUInt32).toInt32) (255 : Int32) (by decide))) e31 rfl (by rw [hml]; rfl) (argsL := [(.int (((i0.toUInt32 >>> ((18 : Int32) &&& 31).toUInt32).toInt32) &&& (255 : Int32)))]) (rest := []) (lenOf own_pd10 rfl) rfl rfl (W := 0) (by exact hW0) (by decide) (by decide) (hb hby d12_96) (by decide) (by decide))) fun T32 X32 e32 => ?_
     refine Home.run X32 hx hby sg12_99_2 (pc' := 101) (L' := #[.val (.int i0), .val (.int i1), .val (.int (i0 &&& (3 : Int32))), .val (.int v24)]) (S' := [(.int (2 : Int32)), (.int i1), (.int (f_rm19_0 (((i0.toUInt32 >>> ((18 : Int32) &&& 31).toUInt32).toInt32) &&& (255 : Int32))))]) rfl ?_
     refine Home.st (own_pure (own_static X32 hx hZ hown (own_w32 hw) (own_w33 hw) (own_w2 hw) (own_w34 hw) (by decide) (rm6_2 l Z a0 hw [] i1 h0 n0 O0) e32 rfl (by rw [hml]; rfl) (argsL := [(.int i1), (.int (2 : Int32))]) (rest := [(.int (f_rm19_0 (((i0.toUInt32 >>> ((18 : Int32) &&& 31).toUInt32).toInt32) &&& (255 : Int32))))]) (lenOf own_pd3 rfl) rfl rfl (W := 1) (by exact hW0) (by decide) (by decide) (hb hby d12_101) (by decide) (by decide))) fun T33 X33 e33 => ?_
     refine Home.st (own_pure (own_static X33 hx hZ hown (own_w91 hw) (own_w92 hw) (own_w2 hw) (own_w93 hw) (by decide) (rm19_0 l Z a0 hw [] (((i1.toUInt32 >>> ((18 : Int32) &&& 31).toUInt32).toInt32) &&& (255 : Int32)) h0 n0 O0 (bnd_and ((i1.toUInt32 >>> ((18 : Int32) &&& 31).toUInt32).toInt32) (255 : Int32) (by decide))) e33 rfl (by rw [hml]; rfl) (argsL := [(.int (((i1.toUInt32 >>> ((18 : Int32) &&& 31).toUInt32).toInt32) &&& (255 : Int32)))]) (rest := [(.int (f_rm19_0 (((i0.toUInt32 >>> ((18 : Int32) &&& 31).toUInt32).toInt32) &&& (255 : Int32))))]) (lenOf own_pd10 rfl) rfl rfl (W := 1) (by exact hW0) (by decide) (by decide) (hb hby d12_104) (by decide) (by decide))) fun T34 X34 e34 => ?_
     by_cases c35 : (f_rm19_0 (((i0.toUInt32 >>> ((18 : Int32) &&& 31).toUInt32).toInt32) &&& (255 : Int32))) = (f_rm19_0 (((i1.toUInt32 >>> ((18 : Int32) &&& 31).toUInt32).toInt32) &&& (255 : Int32)))
     ·
      refine Home.go (fun _ => XS.icmpNo X34.here hx rfl (hb hby d12_107) rfl (teq c35).2) ?_
      refine Home.run X34 hx hby sg12_110_3 (pc' := 116) (L' := #[.val (.int i0), .val (.int i1), .val (.int (i0 &&& (3 : Int32))), .val (.int (1 : Int32))]) (S' := []) rfl ?_
      exact J36 X34 e34 _ (by simp only [if_pos c25, if_neg c28, if_pos c35])
     ·
      refine Home.go (fun _ => XS.icmpYes X34.here hx rfl (pc0 := 107) (pc' := 114) rfl (hb hby d12_107) rfl (feq c35).2 (by decide) (by decide)) ?_
      refine Home.run X34 hx hby sg12_114_2 (pc' := 116) (L' := #[.val (.int i0), .val (.int i1), .val (.int (i0 &&& (3 : Int32))), .val (.int (0 : Int32))]) (S' := []) rfl ?_
      exact J36 X34 e34 _ (by simp only [if_pos c25, if_neg c28, if_neg c35])
   ·
    refine Home.go (fun _ => XS.icmpYes XJ23.here hx rfl (pc0 := 84) (pc' := 116) rfl (hb hby d12_84) rfl (flt c25).2.2.2 (by decide) (by decide)) ?_
    have bd27 : ¬ (i0 &&& (3 : Int32)) < (0 : Int32) ∧ ¬ (2 : Int32) < (i0 &&& (3 : Int32)) := ⟨(bnd_and i0 (3 : Int32) (by decide)).1, c25⟩
    exact J36 XJ23 eJ23 _ (by simp only [if_neg c25])
  intro TJ36 XJ36 eJ36 v37 hv37
  have bv37 : ¬ v37 < (0 : Int32) ∧ ¬ (1 : Int32) < v37 := by rw [hv37]; exact (bnd_ite (bnd_ite (bnd_mono (bnd_lit (0 : Int32)) (by decide +kernel) (by decide +kernel)) (bnd_ite (bnd_mono (bnd_lit (1 : Int32)) (by decide +kernel) (by decide +kernel)) (bnd_mono (bnd_lit (0 : Int32)) (by decide +kernel) (by decide +kernel)))) (bnd_mono bv24 (by decide +kernel) (by decide +kernel)))
  show Home TJ36 (mkF m 116 #[.val (.int i0), .val (.int i1), .val (.int (i0 &&& (3 : Int32))), .val (.int v37)] [])
  refine Home.run XJ36 hx hby sg12_116_1 (pc' := 117) (L' := #[.val (.int i0), .val (.int i1), .val (.int (i0 &&& (3 : Int32))), .val (.int v37)]) (S' := [(.int v37)]) rfl ?_
  exact Home.retN XJ36 hx hlk (t := .boolean) hret (by simp) (hb hby d12_117) ⟨congrArg some (congrArg Value.int (by subst hv37; subst hv24; subst hv11; first | rfl | (simp only [f_rm12_0, if_pos c1, nar_bool_id bv37 (by decide +kernel) (by decide +kernel), nar_i2c, nar_i2b] <;> rfl) | (simp [f_rm12_0, if_pos c1, nar_bool_id bv37 (by decide +kernel) (by decide +kernel)]; done))), rfl, eJ36⟩ (by decide) (by decide)
 ·
  refine Home.go (fun _ => XS.icmpNo X0.here hx rfl (hb hby d12_8) rfl (feq c1).1) ?_
  refine Home.run X0 hx hby sg12_11_1 (pc' := 12) (L' := #[.val (.int i0), .val (.int i1), .val (.int (i0 &&& (3 : Int32))), .unset]) (S' := [(.int (0 : Int32))]) rfl ?_
  exact Home.retN X0 hx hlk (t := .boolean) hret (by simp) (hb hby d12_12) ⟨congrArg some (congrArg Value.int (by first | rfl | (simp only [f_rm12_0, if_neg c1, nar_i2c, nar_i2b] <;> rfl) | (simp [f_rm12_0, if_neg c1]; done))), rfl, e0⟩ (by decide) (by decide)
theorem rm16_0 (l : Launch) (Z : State) (a0 : Array Value) (hw : HW a0 Z) (ws : List Jvm.Cond) (o0 : Addr) (sv_COMPACT_STRINGS : Int32) (h0 : Heap) (n0 : Nat) (O0 : Old Z n0 h0) (S_COMPACT_STRINGS : Sta Z Z.heap "java/lang/String" "COMPACT_STRINGS" "Z" (.int sv_COMPACT_STRINGS)) (hCS : ¬ (sv_COMPACT_STRINGS = (0 : Int32))) (F_coder_o0 : Fld Z h0 o0 "java/lang/String" "coder" "B" (.int (0 : Int32))) :
    Con l Z (⟨"java/lang/String", "coder", "()B"⟩ : MethodName) jdk_42_method_152_code 1 (some .byte) ws ({ frames := 0, cells := 0, slots := 0, locals := 0 } : Room) #[(.ref o0)] h0 (Pur (some (.int (0 : Int32))) h0) := by
 refine own_body (plainFor_of_name own_pn1) (fun m => ef_rm16_0 m o0) ?_
 intro p e s m below meth c s₁ hx hby hlk hml hret hZ hown hnm X0 e0
 have N0 := Fr.nil n0
 refine Home.st (getS2 X0 hx hZ hown (host := "") (Or.inl (own_w35 hw)) Via.refl e0 (S_COMPACT_STRINGS.ext O0.2) rfl (hb hby d16_0)) fun T1 X1 e1 => ?_
 refine Home.go (fun _ => XS.ifNo X1.here hx rfl (hb hby d16_3) rfl ((if0 _ _).trans (feq hCS).1)) ?_
 refine Home.run X1 hx hby sg16_6_1 (pc' := 7) (L' := #[.val (.ref o0)]) (S' := [(.ref o0)]) rfl ?_
 refine Home.st (getF X1 hx hZ hown (host := "") (Or.inl (own_w31 hw)) Via.refl e1 F_coder_o0 rfl rfl (hb hby d16_7)) fun T2 X2 e2 => ?_
 refine Home.run X2 hx hby sg16_10_1 (pc' := 14) (L' := #[.val (.ref o0)]) (S' := [(.int (0 : Int32))]) rfl ?_
 exact Home.retN X2 hx hlk (t := .byte) hret (by simp) (hb hby d16_14) ⟨congrArg some (congrArg Value.int (by first | rfl | exact nar_i2c _ | exact nar_i2b _)), rfl, e2⟩ (by decide) (by decide)
theorem rm15_0 (l : Launch) (Z : State) (a0 : Array Value) (hw : HW a0 Z) (ws : List Jvm.Cond) (o0 p2 : Addr) (k_p2 : ClassId) (sv_COMPACT_STRINGS : Int32) (h0 : Heap) (n0 : Nat) (O0 : Old Z n0 h0) (F_value_o0 : Fld Z h0 o0 "java/lang/String" "value" "[B" (.ref p2)) (V_p2 : Arv Z h0 p2 k_p2 .byte (0 : Int32) [] (.int (0 : Int32))) (E_o0 : Exa Z h0 o0 "java/lang/String") (S_COMPACT_STRINGS : Sta Z Z.heap "java/lang/String" "COMPACT_STRINGS" "Z" (.int sv_COMPACT_STRINGS)) (F_coder_o0 : Fld Z h0 o0 "java/lang/String" "coder" "B" (.int (0 : Int32))) (hCS : ¬ (sv_COMPACT_STRINGS = (0 : Int32))) :
    Con l Z (⟨"java/lang/String", "length", "()I"⟩ : MethodName) jdk_42_method_54_code 1 (some .int) ws ({ frames := 1, cells := 0, slots := 0, locals := 13 } : Room) #[(.ref o0)] h0 (Pur (some (.int (0 : Int32))) h0) := by
 refine own_body (plainFor_of_name own_pn1) (fun m => ef_rm15_0 m o0) ?_
 intro p e s m below meth c s₁ hx hby hlk hml hret hZ hown hnm X0 e0
 have N0 := Fr.nil n0
 refine Home.run X0 hx hby sg15_0_1 (pc' := 1) (L' := #[.val (.ref o0)]) (S' := [(.ref o0)]) rfl ?_
 refine Home.st (getF X0 hx hZ hown (host := "") (Or.inl (own_w30 hw)) Via.refl e0 F_value_o0 rfl rfl (hb hby d15_1)) fun T1 X1 e1 => ?_
 obtain ⟨cl2, Ar2, q2, S2, M2, H2, G2⟩ := id V_p2
 refine Home.go (own_alen X1 hx hZ e1 Ar2 S2 M2 rfl rfl (hb hby d15_4)) ?_
 refine Home.run X1 hx hby sg15_5_1 (pc' := 6) (L' := #[.val (.ref o0)]) (S' := [(.ref o0), (.int (0 : Int32))]) rfl ?_
 refine Home.st (own_pure (own_virtual X1 hx hZ hown (own_w77 hw) (own_w78 hw) (notFace_of_selects (args := #[]) (mvT hZ (own_w80 hw))) (own_w80 hw) (own_w79 hw) (own_w13 hw) (own_w81 hw) (by decide) (rm16_0 l Z a0 hw [] o0 sv_COMPACT_STRINGS h0 n0 O0 S_COMPACT_STRINGS hCS F_coder_o0) e1 E_o0 rfl (by rw [hml]; rfl) (argsL := []) (rest := [(.int (0 : Int32))]) (lenOf own_pd12 rfl) rfl rfl (W := 1) (by exact hW0) (by decide) (by decide) (hb hby d15_6) (by decide) (by decide))) fun T3 X3 e3 => ?_
 refine Home.run X3 hx hby sg15_9_1 (pc' := 10) (L' := #[.val (.ref o0)]) (S' := [(.int (0 : Int32))]) rfl ?_
 exact Home.retI X3 hx hlk hret (hb hby d15_10) ⟨rfl, rfl, e3⟩ (by decide) (by decide)
theorem rm18_0 (l : Launch) (Z : State) (a0 : Array Value) (hw : HW a0 Z) (ws : List Jvm.Cond) (o0 o2 : Addr) (h0 : Heap) (n0 : Nat) (O0 : Old Z n0 h0) :
    Con l Z (⟨"java/lang/StringLatin1", "regionMatchesCI", "([BI[BII)Z"⟩ : MethodName) jdk_43_method_30_code 8 (some .boolean) ws ({ frames := 0, cells := 0, slots := 0, locals := 0 } : Room) #[(.ref o0), (.int (0 : Int32)), (.ref o2), (.int (0 : Int32)), (.int (0 : Int32))] h0 (Pur (some (.int (1 : Int32))) h0) := by
 refine own_body (plainFor_of_name own_pn5) (fun m => ef_rm18_0 m o0 (0 : Int32) o2) ?_
 intro p e s m below meth c s₁ hx hby hlk hml hret hZ hown hnm X0 e0
 have N0 := Fr.nil n0
 refine Home.run X0 hx hby sg18_0_6 (pc' := 9) (L' := #[.val (.ref o0), .val (.int (0 : Int32)), .val (.ref o2), .val (.int (0 : Int32)), .val (.int (0 : Int32)), .val (.int (0 : Int32)), .unset, .unset]) (S' := [(.int (0 : Int32)), (.int (0 : Int32))]) rfl ?_
 refine Home.go (fun _ => XS.icmpYes X0.here hx rfl (pc0 := 9) (pc' := 43) rfl (hb hby d18_9) rfl (flt (by decide)).2.1 (by decide) (by decide)) ?_
 refine Home.run X0 hx hby sg18_43_1 (pc' := 44) (L' := #[.val (.ref o0), .val (.int (0 : Int32)), .val (.ref o2), .val (.int (0 : Int32)), .val (.int (0 : Int32)), .val (.int (0 : Int32)), .unset, .unset]) (S' := [(.int (1 : Int32))]) rfl ?_
 exact Home.retN X0 hx hlk (t := .boolean) hret (by simp) (hb hby d18_44) ⟨congrArg some (congrArg Value.int (by first | rfl | exact nar_i2c _ | exact nar_i2b _)), rfl, e0⟩ (by decide) (by decide)
theorem rm17_0 (l : Launch) (Z : State) (a0 : Array Value) (hw : HW a0 Z) (ws : List Jvm.Cond) (o0 o3 p3 : Addr) (k_p3 : ClassId) (sv_COMPACT_STRINGS : Int32) (p4 : Addr) (k_p4 : ClassId) (h0 : Heap) (n0 : Nat) (O0 : Old Z n0 h0) (E_o0 : Exa Z h0 o0 "java/lang/String") (F_value_o0 : Fld Z h0 o0 "java/lang/String" "value" "[B" (.ref p3)) (V_p3 : Arv Z h0 p3 k_p3 .byte (0 : Int32) [] (.int (0 : Int32))) (S_COMPACT_STRINGS : Sta Z Z.heap "java/lang/String" "COMPACT_STRINGS" "Z" (.int sv_COMPACT_STRINGS)) (F_coder_o0 : Fld Z h0 o0 "java/lang/String" "coder" "B" (.int (0 : Int32))) (hCS : ¬ (sv_COMPACT_STRINGS = (0 : Int32))) (E_o3 : Exa Z h0 o3 "java/lang/String") (F_value_o3 : Fld Z h0 o3 "java/lang/String" "value" "[B" (.ref p4)) (V_p4 : Arv Z h0 p4 k_p4 .byte (0 : Int32) [] (.int (0 : Int32))) (F_coder_o3 : Fld Z h0 o3 "java/lang/String" "coder" "B" (.int (0 : Int32))) :
    Con l Z (⟨"java/lang/String", "regionMatches", "(ZILjava/lang/String;II)Z"⟩ : MethodName) jdk_42_method_74_code 9 (some .boolean) ws ({ frames := 2, cells := 0, slots := 0, locals := 27 } : Room) #[(.ref o0), (.int (1 : Int32)), (.int (0 : Int32)), (.ref o3), (.int (0 : Int32)), (.int (0 : Int32))] h0 (Pur (some (.int (1 : Int32))) h0) := by
 refine own_body (plainFor_of_name own_pn1) (fun m => ef_rm17_0 m o0 (1 : Int32) (0 : Int32) o3) ?_
 intro p e s m below meth c s₁ hx hby hlk hml hret hZ hown hnm X0 e0
 have N0 := Fr.nil n0
 refine Home.run X0 hx hby sg17_0_1 (pc' := 1) (L' := #[.val (.ref o0), .val (.int (1 : Int32)), .val (.int (0 : Int32)), .val (.ref o3), .val (.int (0 : Int32)), .val (.int (0 : Int32)), .unset, .unset, .unset]) (S' := [(.int (1 : Int32))]) rfl ?_
 refine Home.go (fun _ => XS.ifYes X0.here hx rfl (pc0 := 1) (pc' := 15) rfl (hb hby d17_1) rfl ((if0 _ _).trans (feq (by decide)).2) (by decide) (by decide)) ?_
 refine Home.run X0 hx hby sg17_15_1 (pc' := 17) (L' := #[.val (.ref o0), .val (.int (1 : Int32)), .val (.int (0 : Int32)), .val (.ref o3), .val (.int (0 : Int32)), .val (.int (0 : Int32)), .unset, .unset, .unset]) (S' := [(.int (0 : Int32))]) rfl ?_
 refine Home.go (fun _ => XS.ifNo X0.here hx rfl (hb hby d17_17) rfl ((if0 _ _).trans (flt (by decide)).1)) ?_
 refine Home.run X0 hx hby sg17_20_1 (pc' := 21) (L' := #[.val (.ref o0), .val (.int (1 : Int32)), .val (.int (0 : Int32)), .val (.ref o3), .val (.int (0 : Int32)), .val (.int (0 : Int32)), .unset, .unset, .unset]) (S' := [(.int (0 : Int32))]) rfl ?_
 refine Home.go (fun _ => XS.ifNo X0.here hx rfl (hb hby d17_21) rfl ((if0 _ _).trans (flt (by decide)).1)) ?_
 refine Home.run X0 hx hby sg17_24_3 (pc' := 27) (L' := #[.val (.ref o0), .val (.int (1 : Int32)), .val (.int (0 : Int32)), .val (.ref o3), .val (.int (0 : Int32)), .val (.int (0 : Int32)), .unset, .unset, .unset]) (S' := [(.ref o0), (.long (0 : Int64))]) rfl ?_
 refine Home.st (own_pure (own_virtual X0 hx hZ hown (own_w72 hw) (own_w73 hw) (notFace_of_selects (args := #[]) (mvT hZ (own_w75 hw))) (own_w75 hw) (own_w74 hw) (own_w13 hw) (own_w76 hw) (by decide) (rm15_0 l Z a0 hw [] o0 p3 k_p3 sv_COMPACT_STRINGS h0 n0 O0 F_value_o0 V_p3 E_o0 S_COMPACT_STRINGS F_coder_o0 hCS) e0 E_o0 rfl (by rw [hml]; rfl) (argsL := []) (rest := [(.long (0 : Int64))]) (lenOf own_pd13 rfl) rfl rfl (W := 2) (by exact hW0) (by decide) (by decide) (hb hby d17_27) (by decide) (by decide))) fun T1 X1 e1 => ?_
 show Home T1 (mkF m 30 #[.val (.ref o0), .val (.int (1 : Int32)), .val (.int (0 : Int32)), .val (.ref o3), .val (.int (0 : Int32)), .val (.int (0 : Int32)), .unset, .unset, .unset] [(.int (0 : Int32)), (.long (0 : Int64))])
 refine Home.run X1 hx hby sg17_30_5 (pc' := 36) (L' := #[.val (.ref o0), .val (.int (1 : Int32)), .val (.int (0 : Int32)), .val (.ref o3), .val (.int (0 : Int32)), .val (.int (0 : Int32)), .unset, .unset, .unset]) (S' := [(.int (0 : Int32))]) rfl ?_
 refine Home.go (fun _ => XS.ifNo X1.here hx rfl (hb hby d17_36) rfl ((if0 _ _).trans (flt (by decide)).2.2.1)) ?_
 refine Home.run X1 hx hby sg17_39_3 (pc' := 43) (L' := #[.val (.ref o0), .val (.int (1 : Int32)), .val (.int (0 : Int32)), .val (.ref o3), .val (.int (0 : Int32)), .val (.int (0 : Int32)), .unset, .unset, .unset]) (S' := [(.ref o3), (.long (0 : Int64))]) rfl ?_
 refine Home.st (own_pure (own_virtual X1 hx hZ hown (own_w72 hw) (own_w73 hw) (notFace_of_selects (args := #[]) (mvT hZ (own_w75 hw))) (own_w75 hw) (own_w74 hw) (own_w13 hw) (own_w76 hw) (by decide) (rm15_0 l Z a0 hw [] o3 p4 k_p4 sv_COMPACT_STRINGS h0 n0 O0 F_value_o3 V_p4 E_o3 S_COMPACT_STRINGS F_coder_o3 hCS) e1 E_o3 rfl (by rw [hml]; rfl) (argsL := []) (rest := [(.long (0 : Int64))]) (lenOf own_pd13 rfl) rfl rfl (W := 2) (by exact hW0) (by decide) (by decide) (hb hby d17_43) (by decide) (by decide))) fun T2 X2 e2 => ?_
 refine Home.run X2 hx hby sg17_46_5 (pc' := 52) (L' := #[.val (.ref o0), .val (.int (1 : Int32)), .val (.int (0 : Int32)), .val (.ref o3), .val (.int (0 : Int32)), .val (.int (0 : Int32)), .unset, .unset, .unset]) (S' := [(.int (0 : Int32))]) rfl ?_
 refine Home.go (fun _ => XS.ifYes X2.here hx rfl (pc0 := 52) (pc' := 57) rfl (hb hby d17_52) rfl ((if0 _ _).trans (flt (by decide)).2.2.2) (by decide) (by decide)) ?_
 refine Home.run X2 hx hby sg17_57_1 (pc' := 58) (L' := #[.val (.ref o0), .val (.int (1 : Int32)), .val (.int (0 : Int32)), .val (.ref o3), .val (.int (0 : Int32)), .val (.int (0 : Int32)), .unset, .unset, .unset]) (S' := [(.ref o0)]) rfl ?_
 refine Home.st (getF X2 hx hZ hown (host := "") (Or.inl (own_w30 hw)) Via.refl e2 F_value_o0 rfl rfl (hb hby d17_58)) fun T3 X3 e3 => ?_
 show Home T3 (mkF m 61 #[.val (.ref o0), .val (.int (1 : Int32)), .val (.int (0 : Int32)), .val (.ref o3), .val (.int (0 : Int32)), .val (.int (0 : Int32)), .unset, .unset, .unset] [(.ref p3)])
 refine Home.run X3 hx hby sg17_61_2 (pc' := 64) (L' := #[.val (.ref o0), .val (.int (1 : Int32)), .val (.int (0 : Int32)), .val (.ref o3), .val (.int (0 : Int32)), .val (.int (0 : Int32)), .val (.ref p3), .unset, .unset]) (S' := [(.ref o3)]) rfl ?_
 refine Home.st (getF X3 hx hZ hown (host := "") (Or.inl (own_w30 hw)) Via.refl e3 F_value_o3 rfl rfl (hb hby d17_64)) fun T4 X4 e4 => ?_
 refine Home.run X4 hx hby sg17_67_2 (pc' := 70) (L' := #[.val (.ref o0), .val (.int (1 : Int32)), .val (.int (0 : Int32)), .val (.ref o3), .val (.int (0 : Int32)), .val (.int (0 : Int32)), .val (.ref p3), .val (.ref p4), .unset]) (S' := [(.ref o0)]) rfl ?_
 refine Home.st (own_pure (own_virtual X4 hx hZ hown (own_w77 hw) (own_w78 hw) (notFace_of_selects (args := #[]) (mvT hZ (own_w80 hw))) (own_w80 hw) (own_w79 hw) (own_w13 hw) (own_w81 hw) (by decide) (rm16_0 l Z a0 hw [] o0 sv_COMPACT_STRINGS h0 n0 O0 S_COMPACT_STRINGS hCS F_coder_o0) e4 E_o0 rfl (by rw [hml]; rfl) (argsL := []) (rest := []) (lenOf own_pd12 rfl) rfl rfl (W := 0) (by exact hW0) (by decide) (by decide) (hb hby d17_70) (by decide) (by decide))) fun T5 X5 e5 => ?_
 refine Home.run X5 hx hby sg17_73_3 (pc' := 78) (L' := #[.val (.ref o0), .val (.int (1 : Int32)), .val (.int (0 : Int32)), .val (.ref o3), .val (.int (0 : Int32)), .val (.int (0 : Int32)), .val (.ref p3), .val (.ref p4), .val (.int (0 : Int32))]) (S' := [(.ref o3), (.int (0 : Int32))]) rfl ?_
 refine Home.st (own_pure (own_virtual X5 hx hZ hown (own_w77 hw) (own_w78 hw) (notFace_of_selects (args := #[]) (mvT hZ (own_w80 hw))) (own_w80 hw) (own_w79 hw) (own_w13 hw) (own_w81 hw) (by decide) (rm16_0 l Z a0 hw [] o3 sv_COMPACT_STRINGS h0 n0 O0 S_COMPACT_STRINGS hCS F_coder_o3) e5 E_o3 rfl (by rw [hml]; rfl) (argsL := []) (rest := [(.int (0 : Int32))]) (lenOf own_pd12 rfl) rfl rfl (W := 1) (by exact hW0) (by decide) (by decide) (hb hby d17_78) (by decide) (by decide))) fun T6 X6 e6 => ?_
 refine Home.go (fun _ => XS.icmpNo X6.here hx rfl (hb hby d17_81) rfl (teq (by decide)).2) ?_
 refine Home.run X6 hx hby sg17_84_1 (pc' := 86) (L' := #[.val (.ref o0), .val (.int (1 : Int32)), .val (.int (0 : Int32)), .val (.ref o3), .val (.int (0 : Int32)), .val (.int (0 : Int32)), .val (.ref p3), .val (.ref p4), .val (.int (0 : Int32))]) (S' := [(.int (0 : Int32))]) rfl ?_
 refine Home.go (fun _ => XS.ifNo X6.here hx rfl (hb hby d17_86) rfl ((if0 _ _).trans (teq (by decide)).2)) ?_
 refine Home.run X6 hx hby sg17_89_5 (pc' := 98) (L' := #[.val (.ref o0), .val (.int (1 : Int32)), .val (.int (0 : Int32)), .val (.ref o3), .val (.int (0 : Int32)), .val (.int (0 : Int32)), .val (.ref p3), .val (.ref p4), .val (.int (0 : Int32))]) (S' := [(.int (0 : Int32)), (.int (0 : Int32)), (.ref p4), (.int (0 : Int32)), (.ref p3)]) rfl ?_
 refine Home.st (own_pure (own_static X6 hx hZ hown (own_w87 hw) (own_w88 hw) (own_w89 hw) (own_w90 hw) (by decide) (rm18_0 l Z a0 hw [] p3 p4 h0 n0 O0) e6 rfl (by rw [hml]; rfl) (argsL := [(.ref p3), (.int (0 : Int32)), (.ref p4), (.int (0 : Int32)), (.int (0 : Int32))]) (rest := []) (lenOf own_pd14 rfl) rfl rfl (W := 0) (by exact hW0) (by decide) (by decide) (hb hby d17_98) (by decide) (by decide))) fun T7 X7 e7 => ?_
 show Home T7 (mkF m 101 #[.val (.ref o0), .val (.int (1 : Int32)), .val (.int (0 : Int32)), .val (.ref o3), .val (.int (0 : Int32)), .val (.int (0 : Int32)), .val (.ref p3), .val (.ref p4), .val (.int (0 : Int32))] [(.int (1 : Int32))])
 refine Home.run X7 hx hby sg17_101_1 (pc' := 116) (L' := #[.val (.ref o0), .val (.int (1 : Int32)), .val (.int (0 : Int32)), .val (.ref o3), .val (.int (0 : Int32)), .val (.int (0 : Int32)), .val (.ref p3), .val (.ref p4), .val (.int (0 : Int32))]) (S' := [(.int (1 : Int32))]) rfl ?_
 exact Home.retN X7 hx hlk (t := .boolean) hret (by simp) (hb hby d17_116) ⟨congrArg some (congrArg Value.int (by first | rfl | exact nar_i2c _ | exact nar_i2b _)), rfl, e7⟩ (by decide) (by decide)
theorem rm14_0 (l : Launch) (Z : State) (a0 : Array Value) (hw : HW a0 Z) (ws : List Jvm.Cond) (o0 o1 p4 : Addr) (k_p4 : ClassId) (sv_COMPACT_STRINGS : Int32) (p3 : Addr) (k_p3 : ClassId) (h0 : Heap) (n0 : Nat) (O0 : Old Z n0 h0) (E_o0 : Exa Z h0 o0 "java/lang/String") (E_o1 : Exa Z h0 o1 "java/lang/String") (ne_o0_o1 : o0 ≠ o1) (F_value_o1 : Fld Z h0 o1 "java/lang/String" "value" "[B" (.ref p4)) (V_p4 : Arv Z h0 p4 k_p4 .byte (0 : Int32) [] (.int (0 : Int32))) (S_COMPACT_STRINGS : Sta Z Z.heap "java/lang/String" "COMPACT_STRINGS" "Z" (.int sv_COMPACT_STRINGS)) (F_coder_o1 : Fld Z h0 o1 "java/lang/String" "coder" "B" (.int (0 : Int32))) (hCS : ¬ (sv_COMPACT_STRINGS = (0 : Int32))) (F_value_o0 : Fld Z h0 o0 "java/lang/String" "value" "[B" (.ref p3)) (V_p3 : Arv Z h0 p3 k_p3 .byte (0 : Int32) [] (.int (0 : Int32))) (F_coder_o0 : Fld Z h0 o0 "java/lang/String" "coder" "B" (.int (0 : Int32))) :
    Con l Z (⟨"java/lang/String", "equalsIgnoreCase", "(Ljava/lang/String;)Z"⟩ : MethodName) jdk_42_method_70_code 2 (some .boolean) ws ({ frames := 3, cells := 0, slots := 0, locals := 53 } : Room) #[(.ref o0), (.ref o1)] h0 (Pur (some (.int (1 : Int32))) h0) := by
 refine own_body (plainFor_of_name own_pn1) (fun m => ef_rm14_0 m o0 o1) ?_
 intro p e s m below meth c s₁ hx hby hlk hml hret hZ hown hnm X0 e0
 have N0 := Fr.nil n0
 refine Home.run X0 hx hby sg14_0_2 (pc' := 2) (L' := #[.val (.ref o0), .val (.ref o1)]) (S' := [(.ref o1), (.ref o0)]) rfl ?_
 refine Home.go (fun _ => Jvm.RoadKit.acmp X0 hx rfl rfl rfl (pc0 := 2) (pc' := 9) (same := false) rfl (hb hby d14_2) rfl (decide_eq_false fun q => ne_o0_o1 (Value.ref.inj q)) (by decide) (by decide)) ?_
 show Home s₁ (mkF m 9 #[.val (.ref o0), .val (.ref o1)] [])
 refine Home.run X0 hx hby sg14_9_1 (pc' := 10) (L' := #[.val (.ref o0), .val (.ref o1)]) (S' := [(.ref o1)]) rfl ?_
 refine Home.go (fun _ => XS.ifnullNo X0.here hx rfl (hb hby d14_10) rfl) ?_
 show Home s₁ (mkF m 13 #[.val (.ref o0), .val (.ref o1)] [])
 refine Home.run X0 hx hby sg14_13_1 (pc' := 14) (L' := #[.val (.ref o0), .val (.ref o1)]) (S' := [(.ref o1)]) rfl ?_
 refine Home.st (own_pure (own_virtual X0 hx hZ hown (own_w72 hw) (own_w73 hw) (notFace_of_selects (args := #[]) (mvT hZ (own_w75 hw))) (own_w75 hw) (own_w74 hw) (own_w13 hw) (own_w76 hw) (by decide) (rm15_0 l Z a0 hw [] o1 p4 k_p4 sv_COMPACT_STRINGS h0 n0 O0 F_value_o1 V_p4 E_o1 S_COMPACT_STRINGS F_coder_o1 hCS) e0 E_o1 rfl (by rw [hml]; rfl) (argsL := []) (rest := []) (lenOf own_pd13 rfl) rfl rfl (W := 0) (by exact hW0) (by decide) (by decide) (hb hby d14_14) (by decide) (by decide))) fun T1 X1 e1 => ?_
 refine Home.run X1 hx hby sg14_17_1 (pc' := 18) (L' := #[.val (.ref o0), .val (.ref o1)]) (S' := [(.ref o0), (.int (0 : Int32))]) rfl ?_
 refine Home.st (own_pure (own_virtual X1 hx hZ hown (own_w72 hw) (own_w73 hw) (notFace_of_selects (args := #[]) (mvT hZ (own_w75 hw))) (own_w75 hw) (own_w74 hw) (own_w13 hw) (own_w76 hw) (by decide) (rm15_0 l Z a0 hw [] o0 p3 k_p3 sv_COMPACT_STRINGS h0 n0 O0 F_value_o0 V_p3 E_o0 S_COMPACT_STRINGS F_coder_o0 hCS) e1 E_o0 rfl (by rw [hml]; rfl) (argsL := []) (rest := [(.int (0 : Int32))]) (lenOf own_pd13 rfl) rfl rfl (W := 1) (by exact hW0) (by decide) (by decide) (hb hby d14_18) (by decide) (by decide))) fun T2 X2 e2 => ?_
 refine Home.go (fun _ => XS.icmpNo X2.here hx rfl (hb hby d14_21) rfl (teq (by decide)).2) ?_
 refine Home.run X2 hx hby sg14_24_6 (pc' := 30) (L' := #[.val (.ref o0), .val (.ref o1)]) (S' := [(.ref o0), (.int (0 : Int32)), (.ref o1), (.int (0 : Int32)), (.int (1 : Int32)), (.ref o0)]) rfl ?_
 refine Home.st (own_pure (own_virtual X2 hx hZ hown (own_w72 hw) (own_w73 hw) (notFace_of_selects (args := #[]) (mvT hZ (own_w75 hw))) (own_w75 hw) (own_w74 hw) (own_w13 hw) (own_w76 hw) (by decide) (rm15_0 l Z a0 hw [] o0 p3 k_p3 sv_COMPACT_STRINGS h0 n0 O0 F_value_o0 V_p3 E_o0 S_COMPACT_STRINGS F_coder_o0 hCS) e2 E_o0 rfl (by rw [hml]; rfl) (argsL := []) (rest := [(.int (0 : Int32)), (.ref o1), (.int (0 : Int32)), (.int (1 : Int32)), (.ref o0)]) (lenOf own_pd13 rfl) rfl rfl (W := 5) (by exact hW0) (by decide) (by decide) (hb hby d14_30) (by decide) (by decide))) fun T3 X3 e3 => ?_
 refine Home.st (own_pure (own_virtual X3 hx hZ hown (own_w82 hw) (own_w83 hw) (notFace_of_selects (args := #[]) (mvT hZ (own_w85 hw))) (own_w85 hw) (own_w84 hw) (own_w13 hw) (own_w86 hw) (by decide) (rm17_0 l Z a0 hw [] o0 o1 p3 k_p3 sv_COMPACT_STRINGS p4 k_p4 h0 n0 O0 E_o0 F_value_o0 V_p3 S_COMPACT_STRINGS F_coder_o0 hCS E_o1 F_value_o1 V_p4 F_coder_o1) e3 E_o0 rfl (by rw [hml]; rfl) (argsL := [(.int (1 : Int32)), (.int (0 : Int32)), (.ref o1), (.int (0 : Int32)), (.int (0 : Int32))]) (rest := []) (lenOf own_pd15 rfl) rfl rfl (W := 0) (by exact hW0) (by decide) (by decide) (hb hby d14_33) (by decide) (by decide))) fun T4 X4 e4 => ?_
 show Home T4 (mkF m 36 #[.val (.ref o0), .val (.ref o1)] [(.int (1 : Int32))])
 refine Home.go (fun _ => XS.ifNo X4.here hx rfl (hb hby d14_36) rfl ((if0 _ _).trans (feq (by decide)).1)) ?_
 refine Home.run X4 hx hby sg14_39_2 (pc' := 44) (L' := #[.val (.ref o0), .val (.ref o1)]) (S' := [(.int (1 : Int32))]) rfl ?_
 exact Home.retN X4 hx hlk (t := .boolean) hret (by simp) (hb hby d14_44) ⟨congrArg some (congrArg Value.int (by first | rfl | exact nar_i2c _ | exact nar_i2b _)), rfl, e4⟩ (by decide) (by decide)
theorem rm15_1 (l : Launch) (Z : State) (a0 : Array Value) (hw : HW a0 Z) (ws : List Jvm.Cond) (o0 p2 : Addr) (k_p2 : ClassId) (u1 : Int32) (l_p2 : List Value) (sv_COMPACT_STRINGS : Int32) (h0 : Heap) (n0 : Nat) (O0 : Old Z n0 h0) (F_value_o0 : Fld Z h0 o0 "java/lang/String" "value" "[B" (.ref p2)) (V_p2 : Arv Z h0 p2 k_p2 .byte u1 l_p2 (.int (0 : Int32))) (E_o0 : Exa Z h0 o0 "java/lang/String") (S_COMPACT_STRINGS : Sta Z Z.heap "java/lang/String" "COMPACT_STRINGS" "Z" (.int sv_COMPACT_STRINGS)) (F_coder_o0 : Fld Z h0 o0 "java/lang/String" "coder" "B" (.int (0 : Int32))) (hCS : ¬ (sv_COMPACT_STRINGS = (0 : Int32))) :
    Con l Z (⟨"java/lang/String", "length", "()I"⟩ : MethodName) jdk_42_method_54_code 1 (some .int) ws ({ frames := 1, cells := 0, slots := 0, locals := 13 } : Room) #[(.ref o0)] h0 (Pur (some (.int u1)) h0) := by
 refine own_body (plainFor_of_name own_pn1) (fun m => ef_rm15_1 m o0) ?_
 intro p e s m below meth c s₁ hx hby hlk hml hret hZ hown hnm X0 e0
 have N0 := Fr.nil n0
 refine Home.run X0 hx hby sg15_0_1 (pc' := 1) (L' := #[.val (.ref o0)]) (S' := [(.ref o0)]) rfl ?_
 refine Home.st (getF X0 hx hZ hown (host := "") (Or.inl (own_w30 hw)) Via.refl e0 F_value_o0 rfl rfl (hb hby d15_1)) fun T1 X1 e1 => ?_
 obtain ⟨cl2, Ar2, q2, S2, M2, H2, G2⟩ := id V_p2
 refine Home.go (own_alen X1 hx hZ e1 Ar2 S2 M2 rfl rfl (hb hby d15_4)) ?_
 refine Home.run X1 hx hby sg15_5_1 (pc' := 6) (L' := #[.val (.ref o0)]) (S' := [(.ref o0), (.int u1)]) rfl ?_
 refine Home.st (own_pure (own_virtual X1 hx hZ hown (own_w77 hw) (own_w78 hw) (notFace_of_selects (args := #[]) (mvT hZ (own_w80 hw))) (own_w80 hw) (own_w79 hw) (own_w13 hw) (own_w81 hw) (by decide) (rm16_0 l Z a0 hw [] o0 sv_COMPACT_STRINGS h0 n0 O0 S_COMPACT_STRINGS hCS F_coder_o0) e1 E_o0 rfl (by rw [hml]; rfl) (argsL := []) (rest := [(.int u1)]) (lenOf own_pd12 rfl) rfl rfl (W := 1) (by exact hW0) (by decide) (by decide) (hb hby d15_6) (by decide) (by decide))) fun T3 X3 e3 => ?_
 refine Home.run X3 hx hby sg15_9_1 (pc' := 10) (L' := #[.val (.ref o0)]) (S' := [(.int (u1 >>> ((0 : Int32) &&& 31)))]) rfl ?_
 rw [own_shr0]
 exact Home.retI X3 hx hlk hret (hb hby d15_10) ⟨rfl, rfl, e3⟩ (by decide) (by decide)
theorem rm14_1 (l : Launch) (Z : State) (a0 : Array Value) (hw : HW a0 Z) (ws : List Jvm.Cond) (o0 o1 p3 : Addr) (k_p3 : ClassId) (n_p3 : Int32) (l_p3 : List Value) (p4 : Addr) (k_p4 : ClassId) (n_p4 : Int32) (l_p4 : List Value) (sv_COMPACT_STRINGS : Int32) (h0 : Heap) (n0 : Nat) (O0 : Old Z n0 h0) (V_p3 : Arv Z h0 p3 k_p3 .byte n_p3 l_p3 (.int (0 : Int32))) (V_p4 : Arv Z h0 p4 k_p4 .byte n_p4 l_p4 (.int (0 : Int32))) (pn0 : ¬ (n_p3 = n_p4)) (E_o0 : Exa Z h0 o0 "java/lang/String") (E_o1 : Exa Z h0 o1 "java/lang/String") (ne_o0_o1 : o0 ≠ o1) (F_value_o1 : Fld Z h0 o1 "java/lang/String" "value" "[B" (.ref p4)) (S_COMPACT_STRINGS : Sta Z Z.heap "java/lang/String" "COMPACT_STRINGS" "Z" (.int sv_COMPACT_STRINGS)) (F_coder_o1 : Fld Z h0 o1 "java/lang/String" "coder" "B" (.int (0 : Int32))) (hCS : ¬ (sv_COMPACT_STRINGS = (0 : Int32))) (F_value_o0 : Fld Z h0 o0 "java/lang/String" "value" "[B" (.ref p3)) (F_coder_o0 : Fld Z h0 o0 "java/lang/String" "coder" "B" (.int (0 : Int32))) :
    Con l Z (⟨"java/lang/String", "equalsIgnoreCase", "(Ljava/lang/String;)Z"⟩ : MethodName) jdk_42_method_70_code 2 (some .boolean) ws ({ frames := 3, cells := 0, slots := 0, locals := 53 } : Room) #[(.ref o0), (.ref o1)] h0 (Pur (some (.int (0 : Int32))) h0) := by
 refine own_body (plainFor_of_name own_pn1) (fun m => ef_rm14_1 m o0 o1) ?_
 intro p e s m below meth c s₁ hx hby hlk hml hret hZ hown hnm X0 e0
 have N0 := Fr.nil n0
 refine Home.run X0 hx hby sg14_0_2 (pc' := 2) (L' := #[.val (.ref o0), .val (.ref o1)]) (S' := [(.ref o1), (.ref o0)]) rfl ?_
 refine Home.go (fun _ => Jvm.RoadKit.acmp X0 hx rfl rfl rfl (pc0 := 2) (pc' := 9) (same := false) rfl (hb hby d14_2) rfl (decide_eq_false fun q => ne_o0_o1 (Value.ref.inj q)) (by decide) (by decide)) ?_
 show Home s₁ (mkF m 9 #[.val (.ref o0), .val (.ref o1)] [])
 refine Home.run X0 hx hby sg14_9_1 (pc' := 10) (L' := #[.val (.ref o0), .val (.ref o1)]) (S' := [(.ref o1)]) rfl ?_
 refine Home.go (fun _ => XS.ifnullNo X0.here hx rfl (hb hby d14_10) rfl) ?_
 show Home s₁ (mkF m 13 #[.val (.ref o0), .val (.ref o1)] [])
 refine Home.run X0 hx hby sg14_13_1 (pc' := 14) (L' := #[.val (.ref o0), .val (.ref o1)]) (S' := [(.ref o1)]) rfl ?_
 refine Home.st (own_pure (own_virtual X0 hx hZ hown (own_w72 hw) (own_w73 hw) (notFace_of_selects (args := #[]) (mvT hZ (own_w75 hw))) (own_w75 hw) (own_w74 hw) (own_w13 hw) (own_w76 hw) (by decide) (rm15_1 l Z a0 hw [] o1 p4 k_p4 n_p4 l_p4 sv_COMPACT_STRINGS h0 n0 O0 F_value_o1 V_p4 E_o1 S_COMPACT_STRINGS F_coder_o1 hCS) e0 E_o1 rfl (by rw [hml]; rfl) (argsL := []) (rest := []) (lenOf own_pd13 rfl) rfl rfl (W := 0) (by exact hW0) (by decide) (by decide) (hb hby d14_14) (by decide) (by decide))) fun T1 X1 e1 => ?_
 refine Home.run X1 hx hby sg14_17_1 (pc' := 18) (L' := #[.val (.ref o0), .val (.ref o1)]) (S' := [(.ref o0), (.int n_p4)]) rfl ?_
 refine Home.st (own_pure (own_virtual X1 hx hZ hown (own_w72 hw) (own_w73 hw) (notFace_of_selects (args := #[]) (mvT hZ (own_w75 hw))) (own_w75 hw) (own_w74 hw) (own_w13 hw) (own_w76 hw) (by decide) (rm15_1 l Z a0 hw [] o0 p3 k_p3 n_p3 l_p3 sv_COMPACT_STRINGS h0 n0 O0 F_value_o0 V_p3 E_o0 S_COMPACT_STRINGS F_coder_o0 hCS) e1 E_o0 rfl (by rw [hml]; rfl) (argsL := []) (rest := [(.int n_p4)]) (lenOf own_pd13 rfl) rfl rfl (W := 1) (by exact hW0) (by decide) (by decide) (hb hby d14_18) (by decide) (by decide))) fun T2 X2 e2 => ?_
 refine Home.go (fun _ => XS.icmpYes X2.here hx rfl (pc0 := 21) (pc' := 43) rfl (hb hby d14_21) rfl (feq (Ne.symm pn0)).2 (by decide) (by decide)) ?_
 refine Home.run X2 hx hby sg14_43_1 (pc' := 44) (L' := #[.val (.ref o0), .val (.ref o1)]) (S' := [(.int (0 : Int32))]) rfl ?_
 exact Home.retN X2 hx hlk (t := .boolean) hret (by simp) (hb hby d14_44) ⟨congrArg some (congrArg Value.int (by first | rfl | exact nar_i2c _ | exact nar_i2b _)), rfl, e2⟩ (by decide) (by decide)
theorem rm15_2 (l : Launch) (Z : State) (a0 : Array Value) (hw : HW a0 Z) (ws : List Jvm.Cond) (o0 p2 : Addr) (k_p2 : ClassId) (u1 sv_COMPACT_STRINGS : Int32) (h0 : Heap) (n0 : Nat) (O0 : Old Z n0 h0) (F_value_o0 : Fld Z h0 o0 "java/lang/String" "value" "[B" (.ref p2)) (V_p2 : Arv Z h0 p2 k_p2 .byte (1 : Int32) [(.int u1)] (.int (0 : Int32))) (E_o0 : Exa Z h0 o0 "java/lang/String") (S_COMPACT_STRINGS : Sta Z Z.heap "java/lang/String" "COMPACT_STRINGS" "Z" (.int sv_COMPACT_STRINGS)) (F_coder_o0 : Fld Z h0 o0 "java/lang/String" "coder" "B" (.int (0 : Int32))) (hCS : ¬ (sv_COMPACT_STRINGS = (0 : Int32))) :
    Con l Z (⟨"java/lang/String", "length", "()I"⟩ : MethodName) jdk_42_method_54_code 1 (some .int) ws ({ frames := 1, cells := 0, slots := 0, locals := 13 } : Room) #[(.ref o0)] h0 (Pur (some (.int (1 : Int32))) h0) := by
 refine own_body (plainFor_of_name own_pn1) (fun m => ef_rm15_2 m o0) ?_
 intro p e s m below meth c s₁ hx hby hlk hml hret hZ hown hnm X0 e0
 have N0 := Fr.nil n0
 refine Home.run X0 hx hby sg15_0_1 (pc' := 1) (L' := #[.val (.ref o0)]) (S' := [(.ref o0)]) rfl ?_
 refine Home.st (getF X0 hx hZ hown (host := "") (Or.inl (own_w30 hw)) Via.refl e0 F_value_o0 rfl rfl (hb hby d15_1)) fun T1 X1 e1 => ?_
 obtain ⟨cl2, Ar2, q2, S2, M2, H2, G2⟩ := id V_p2
 refine Home.go (own_alen X1 hx hZ e1 Ar2 S2 M2 rfl rfl (hb hby d15_4)) ?_
 refine Home.run X1 hx hby sg15_5_1 (pc' := 6) (L' := #[.val (.ref o0)]) (S' := [(.ref o0), (.int (1 : Int32))]) rfl ?_
 refine Home.st (own_pure (own_virtual X1 hx hZ hown (own_w77 hw) (own_w78 hw) (notFace_of_selects (args := #[]) (mvT hZ (own_w80 hw))) (own_w80 hw) (own_w79 hw) (own_w13 hw) (own_w81 hw) (by decide) (rm16_0 l Z a0 hw [] o0 sv_COMPACT_STRINGS h0 n0 O0 S_COMPACT_STRINGS hCS F_coder_o0) e1 E_o0 rfl (by rw [hml]; rfl) (argsL := []) (rest := [(.int (1 : Int32))]) (lenOf own_pd12 rfl) rfl rfl (W := 1) (by exact hW0) (by decide) (by decide) (hb hby d15_6) (by decide) (by decide))) fun T3 X3 e3 => ?_
 refine Home.run X3 hx hby sg15_9_1 (pc' := 10) (L' := #[.val (.ref o0)]) (S' := [(.int (1 : Int32))]) rfl ?_
 exact Home.retI X3 hx hlk hret (hb hby d15_10) ⟨rfl, rfl, e3⟩ (by decide) (by decide)
theorem rm20_0 (l : Launch) (Z : State) (a0 : Array Value) (hw : HW a0 Z) (ws : List Jvm.Cond) (i0 i1 : Int32) (h0 : Heap) (n0 : Nat) (O0 : Old Z n0 h0) :
    Con l Z (⟨"java/lang/CharacterDataLatin1", "equalsIgnoreCase", "(BB)Z"⟩ : MethodName) jdk_116_method_22_code 3 (some .boolean) ws ({ frames := 0, cells := 0, slots := 0, locals := 0 } : Room) #[(.int i0), (.int i1)] h0 (Pur (some (.int (f_rm20_0 i0 i1))) h0) := by
 refine own_body (plainFor_of_name own_pn6) (fun m => ef_rm20_0 m i0 i1) ?_
 intro p e s m below meth c s₁ hx hby hlk hml hret hZ hown hnm X0 e0
 have N0 := Fr.nil n0
 refine Home.run X0 hx hby sg20_0_2 (pc' := 2) (L' := #[.val (.int i0), .val (.int i1), .unset]) (S' := [(.int i1), (.int i0)]) rfl ?_
 by_cases c1 : i0 = i1
 ·
  refine Home.go (fun _ => XS.icmpNo X0.here hx rfl (hb hby d20_2) rfl (teq c1).2) ?_
  refine Home.run X0 hx hby sg20_5_1 (pc' := 6) (L' := #[.val (.int i0), .val (.int i1), .unset]) (S' := [(.int (1 : Int32))]) rfl ?_
  exact Home.retN X0 hx hlk (t := .boolean) hret (by simp) (hb hby d20_6) ⟨congrArg some (congrArg Value.int (by first | rfl | (simp only [f_rm20_0, if_pos c1, nar_i2c, nar_i2b] <;> rfl) | (simp [f_rm20_0, if_pos c1]; done))), rfl, e0⟩ (by decide) (by decide)
 ·
  refine Home.go (fun _ => XS.icmpYes X0.here hx rfl (pc0 := 2) (pc' := 7) rfl (hb hby d20_2) rfl (feq c1).2 (by decide) (by decide)) ?_
  refine Home.run X0 hx hby sg20_7_6 (pc' := 16) (L' := #[.val (.int i0), .val (.int i1), .val (.int (i0 &&& (223 : Int32)))]) (S' := [(.int (65 : Int32)), (.int (i0 &&& (223 : Int32)))]) rfl ?_
  by_cases c2 : (i0 &&& (223 : Int32)) < (65 : Int32)
  ·
   refine Home.go (fun _ => XS.icmpNo X0.here hx rfl (hb hby d20_16) rfl (tlt c2).2.1) ?_
   have bd3 : ¬ (i0 &&& (223 : Int32)) < (0 : Int32) ∧ ¬ (64 : Int32) < (i0 &&& (223 : Int32)) := ⟨(bnd_and i0 (223 : Int32) (by decide)).1, (bnd_dn c2 (by decide +kernel))⟩
   refine Home.run X0 hx hby sg20_19_1 (pc' := 20) (L' := #[.val (.int i0), .val (.int i1), .val (.int (i0 &&& (223 : Int32)))]) (S' := [(.int (0 : Int32))]) rfl ?_
   exact Home.retN X0 hx hlk (t := .boolean) hret (by simp) (hb hby d20_20) ⟨congrArg some (congrArg Value.int (by first | rfl | (simp only [f_rm20_0, if_neg c1, if_pos c2, nar_i2c, nar_i2b] <;> rfl) | (simp [f_rm20_0, if_neg c1, if_pos c2]; done))), rfl, e0⟩ (by decide) (by decide)
  ·
   refine Home.go (fun _ => XS.icmpYes X0.here hx rfl (pc0 := 16) (pc' := 21) rfl (hb hby d20_16) rfl (flt c2).2.1 (by decide) (by decide)) ?_
   have bd4 : ¬ (i0 &&& (223 : Int32)) < (65 : Int32) ∧ ¬ (223 : Int32) < (i0 &&& (223 : Int32)) := ⟨c2, (bnd_and i0 (223 : Int32) (by decide)).2⟩
   refine Home.run X0 hx hby sg20_21_2 (pc' := 24) (L' := #[.val (.int i0), .val (.int i1), .val (.int (i0 &&& (223 : Int32)))]) (S' := [(.int (90 : Int32)), (.int (i0 &&& (223 : Int32)))]) rfl ?_
   suffices J18 : ∀ {T : State} (X : Stand p l e ({ frames := 0, cells := 0, slots := 0, locals := 0 } : Room) s m #[(.int i0), (.int i1)] below meth c T [] 0 0) (eT : T.heap = h0) (v19 : Int32) (hv19 : v19 = (if (90 : Int32) < (i0 &&& (223 : Int32)) then (if (i0 &&& (223 : Int32)) < (192 : Int32) then (0 : Int32) else (if (222 : Int32) < (i0 &&& (223 : Int32)) then (0 : Int32) else (if (i0 &&& (223 : Int32)) = (215 : Int32) then (0 : Int32) else (if (i0 &&& (223 : Int32)) = (i1 &&& (223 : Int32)) then (1 : Int32) else (0 : Int32))))) else (if (i0 &&& (223 : Int32)) = (i1 &&& (223 : Int32)) then (1 : Int32) else (0 : Int32)))), @Home p e below _ T (mkF m 62 #[.val (.int i0), .val (.int i1), .val (.int (i0 &&& (223 : Int32)))] [(.int v19)]) by
    by_cases c5 : (90 : Int32) < (i0 &&& (223 : Int32))
    ·
     refine Home.go (fun _ => XS.icmpNo X0.here hx rfl (hb hby d20_24) rfl (tlt c5).2.2.2) ?_
     have bd6 : ¬ (i0 &&& (223 : Int32)) < (91 : Int32) ∧ ¬ (223 : Int32) < (i0 &&& (223 : Int32)) := ⟨(bnd_up c5 (by decide +kernel)), bd4.2⟩
     refine Home.run X0 hx hby sg20_27_2 (pc' := 31) (L' := #[.val (.int i0), .val (.int i1), .val (.int (i0 &&& (223 : Int32)))]) (S' := [(.int (192 : Int32)), (.int (i0 &&& (223 : Int32)))]) rfl ?_
     by_cases c8 : (i0 &&& (223 : Int32)) < (192 : Int32)
     ·
      refine Home.go (fun _ => XS.icmpYes X0.here hx rfl (pc0 := 31) (pc' := 61) rfl (hb hby d20_31) rfl (tlt c8).1 (by decide) (by decide)) ?_
      have bd9 : ¬ (i0 &&& (223 : Int32)) < (91 : Int32) ∧ ¬ (191 : Int32) < (i0 &&& (223 : Int32)) := ⟨bd6.1, (bnd_dn c8 (by decide +kernel))⟩
      refine Home.run X0 hx hby sg20_61_1 (pc' := 62) (L' := #[.val (.int i0), .val (.int i1), .val (.int (i0 &&& (223 : Int32)))]) (S' := [(.int (0 : Int32))]) rfl ?_
      exact J18 X0 e0 _ (by simp only [if_pos c5, if_pos c8])
     ·
      refine Home.go (fun _ => XS.icmpNo X0.here hx rfl (hb hby d20_31) rfl (flt c8).1) ?_
      have bd10 : ¬ (i0 &&& (223 : Int32)) < (192 : Int32) ∧ ¬ (223 : Int32) < (i0 &&& (223 : Int32)) := ⟨c8, bd6.2⟩
      refine Home.run X0 hx hby sg20_34_2 (pc' := 38) (L' := #[.val (.int i0), .val (.int i1), .val (.int (i0 &&& (223 : Int32)))]) (S' := [(.int (222 : Int32)), (.int (i0 &&& (223 : Int32)))]) rfl ?_
      by_cases c11 : (222 : Int32) < (i0 &&& (223 : Int32))
      ·
       refine Home.go (fun _ => XS.icmpYes X0.here hx rfl (pc0 := 38) (pc' := 61) rfl (hb hby d20_38) rfl (tlt c11).2.2.1 (by decide) (by decide)) ?_
       have bd12 : ¬ (i0 &&& (223 : Int32)) < (223 : Int32) ∧ ¬ (223 : Int32) < (i0 &&& (223 : Int32)) := ⟨(bnd_up c11 (by decide +kernel)), bd10.2⟩
       refine Home.run X0 hx hby sg20_61_1 (pc' := 62) (L' := #[.val (.int i0), .val (.int i1), .val (.int (i0 &&& (223 : Int32)))]) (S' := [(.int (0 : Int32))]) rfl ?_
       exact J18 X0 e0 _ (by simp only [if_pos c5, if_neg c8, if_pos c11])
      ·
       refine Home.go (fun _ => XS.icmpNo X0.here hx rfl (hb hby d20_38) rfl (flt c11).2.2.1) ?_
       have bd13 : ¬ (i0 &&& (223 : Int32)) < (192 : Int32) ∧ ¬ (222 : Int32) < (i0 &&& (223 : Int32)) := ⟨bd10.1, c11⟩
       refine Home.run X0 hx hby sg20_41_2 (pc' := 45) (L' := #[.val (.int i0), .val (.int i1), .val (.int (i0 &&& (223 : Int32)))]) (S' := [(.int (215 : Int32)), (.int (i0 &&& (223 : Int32)))]) rfl ?_
       by_cases c14 : (i0 &&& (223 : Int32)) = (215 : Int32)
       ·
        refine Home.go (fun _ => XS.icmpYes X0.here hx rfl (pc0 := 45) (pc' := 61) rfl (hb hby d20_45) rfl (teq c14).1 (by decide) (by decide)) ?_
        have bd15 : ¬ (i0 &&& (223 : Int32)) < (215 : Int32) ∧ ¬ (215 : Int32) < (i0 &&& (223 : Int32)) := ⟨(bnd_eql c14), (bnd_eqr c14)⟩
        refine Home.run X0 hx hby sg20_61_1 (pc' := 62) (L' := #[.val (.int i0), .val (.int i1), .val (.int (i0 &&& (223 : Int32)))]) (S' := [(.int (0 : Int32))]) rfl ?_
        exact J18 X0 e0 _ (by simp only [if_pos c5, if_neg c8, if_neg c11, if_pos c14])
       ·
        refine Home.go (fun _ => XS.icmpNo X0.here hx rfl (hb hby d20_45) rfl (feq c14).1) ?_
        refine Home.run X0 hx hby sg20_48_4 (pc' := 54) (L' := #[.val (.int i0), .val (.int i1), .val (.int (i0 &&& (223 : Int32)))]) (S' := [(.int (i1 &&& (223 : Int32))), (.int (i0 &&& (223 : Int32)))]) rfl ?_
        by_cases c16 : (i0 &&& (223 : Int32)) = (i1 &&& (223 : Int32))
        ·
         refine Home.go (fun _ => XS.icmpNo X0.here hx rfl (hb hby d20_54) rfl (teq c16).2) ?_
         refine Home.run X0 hx hby sg20_57_2 (pc' := 62) (L' := #[.val (.int i0), .val (.int i1), .val (.int (i0 &&& (223 : Int32)))]) (S' := [(.int (1 : Int32))]) rfl ?_
         exact J18 X0 e0 _ (by simp only [if_pos c5, if_neg c8, if_neg c11, if_neg c14, if_pos c16])
        ·
         refine Home.go (fun _ => XS.icmpYes X0.here hx rfl (pc0 := 54) (pc' := 61) rfl (hb hby d20_54) rfl (feq c16).2 (by decide) (by decide)) ?_
         refine Home.run X0 hx hby sg20_61_1 (pc' := 62) (L' := #[.val (.int i0), .val (.int i1), .val (.int (i0 &&& (223 : Int32)))]) (S' := [(.int (0 : Int32))]) rfl ?_
         exact J18 X0 e0 _ (by simp only [if_pos c5, if_neg c8, if_neg c11, if_neg c14, if_neg c16])
    ·
     refine Home.go (fun _ => XS.icmpYes X0.here hx rfl (pc0 := 24) (pc' := 48) rfl (hb hby d20_24) rfl (flt c5).2.2.2 (by decide) (by decide)) ?_
     have bd7 : ¬ (i0 &&& (223 : Int32)) < (65 : Int32) ∧ ¬ (90 : Int32) < (i0 &&& (223 : Int32)) := ⟨bd4.1, c5⟩
     refine Home.run X0 hx hby sg20_48_4 (pc' := 54) (L' := #[.val (.int i0), .val (.int i1), .val (.int (i0 &&& (223 : Int32)))]) (S' := [(.int (i1 &&& (223 : Int32))), (.int (i0 &&& (223 : Int32)))]) rfl ?_
     by_cases c17 : (i0 &&& (223 : Int32)) = (i1 &&& (223 : Int32))
     ·
      refine Home.go (fun _ => XS.icmpNo X0.here hx rfl (hb hby d20_54) rfl (teq c17).2) ?_
      refine Home.run X0 hx hby sg20_57_2 (pc' := 62) (L' := #[.val (.int i0), .val (.int i1), .val (.int (i0 &&& (223 : Int32)))]) (S' := [(.int (1 : Int32))]) rfl ?_
      exact J18 X0 e0 _ (by simp only [if_neg c5, if_pos c17])
     ·
      refine Home.go (fun _ => XS.icmpYes X0.here hx rfl (pc0 := 54) (pc' := 61) rfl (hb hby d20_54) rfl (feq c17).2 (by decide) (by decide)) ?_
      refine Home.run X0 hx hby sg20_61_1 (pc' := 62) (L' := #[.val (.int i0), .val (.int i1), .val (.int (i0 &&& (223 : Int32)))]) (S' := [(.int (0 : Int32))]) rfl ?_
      exact J18 X0 e0 _ (by simp only [if_neg c5, if_neg c17])
   intro TJ18 XJ18 eJ18 v19 hv19
   have bv19 : ¬ v19 < (0 : Int32) ∧ ¬ (1 : Int32) < v19 := by rw [hv19]; exact (bnd_ite (bnd_ite (bnd_mono (bnd_lit (0 : Int32)) (by decide +kernel) (by decide +kernel)) (bnd_ite (bnd_mono (bnd_lit (0 : Int32)) (by decide +kernel) (by decide +kernel)) (bnd_ite (bnd_mono (bnd_lit (0 : Int32)) (by decide +kernel) (by decide +kernel)) (bnd_ite (bnd_mono (bnd_lit (1 : Int32)) (by decide +kernel) (by decide +kernel)) (bnd_mono (bnd_lit (0 : Int32)) (by decide +kernel) (by decide +kernel)))))) (bnd_ite (bnd_mono (bnd_lit (1 : Int32)) (by decide +kernel) (by decide +kernel)) (bnd_mono (bnd_lit (0 : Int32)) (by decide +kernel) (by decide +kernel))))
   show Home TJ18 (mkF m 62 #[.val (.int i0), .val (.int i1), .val (.int (i0 &&& (223 : Int32)))] [(.int v19)])
   exact Home.retN XJ18 hx hlk (t := .boolean) hret (by simp) (hb hby d20_62) ⟨congrArg some (congrArg Value.int (by subst hv19; first | rfl | (simp only [f_rm20_0, if_neg c1, if_neg c2, nar_bool_id bv19 (by decide +kernel) (by decide +kernel), nar_i2c, nar_i2b] <;> rfl) | (simp [f_rm20_0, if_neg c1, if_neg c2, nar_bool_id bv19 (by decide +kernel) (by decide +kernel)]; done))), rfl, eJ18⟩ (by decide) (by decide)
theorem f_rm20_0_bnd (i0 : Int32) (i1 : Int32) : ¬ (f_rm20_0 i0 i1) < (0 : Int32) ∧ ¬ (1 : Int32) < (f_rm20_0 i0 i1) := by unfold f_rm20_0; (repeat' split) <;> first | exact bnd_mono (bnd_lit (1 : Int32)) (by decide +kernel) (by decide +kernel) | exact bnd_mono (bnd_lit (0 : Int32)) (by decide +kernel) (by decide +kernel)
theorem rm18_1 (l : Launch) (Z : State) (a0 : Array Value) (hw : HW a0 Z) (ws : List Jvm.Cond) (o0 o2 : Addr) (k_o0 : ClassId) (u1 : Int32) (k_o2 : ClassId) (u2 : Int32) (h0 : Heap) (n0 : Nat) (O0 : Old Z n0 h0) (V_o0 : Arv Z h0 o0 k_o0 .byte (1 : Int32) [(.int u1)] (.int (0 : Int32))) (V_o2 : Arv Z h0 o2 k_o2 .byte (1 : Int32) [(.int u2)] (.int (0 : Int32))) :
    Con l Z (⟨"java/lang/StringLatin1", "regionMatchesCI", "([BI[BII)Z"⟩ : MethodName) jdk_43_method_30_code 8 (some .boolean) ws ({ frames := 1, cells := 0, slots := 0, locals := 14 } : Room) #[(.ref o0), (.int (0 : Int32)), (.ref o2), (.int (0 : Int32)), (.int (1 : Int32))] h0 (Pur (some (.int (f_rm18_1 u1 u2))) h0) := by
 refine own_body (plainFor_of_name own_pn5) (fun m => ef_rm18_1 m o0 (0 : Int32) o2 (1 : Int32)) ?_
 intro p e s m below meth c s₁ hx hby hlk hml hret hZ hown hnm X0 e0
 have N0 := Fr.nil n0
 refine Home.run X0 hx hby sg18_0_6 (pc' := 9) (L' := #[.val (.ref o0), .val (.int (0 : Int32)), .val (.ref o2), .val (.int (0 : Int32)), .val (.int (1 : Int32)), .val (.int (1 : Int32)), .unset, .unset]) (S' := [(.int (1 : Int32)), (.int (0 : Int32))]) rfl ?_
 refine Home.go (fun _ => XS.icmpNo X0.here hx rfl (hb hby d18_9) rfl (tlt (by decide)).2.1) ?_
 refine Home.run X0 hx hby sg18_12_3 (pc' := 17) (L' := #[.val (.ref o0), .val (.int (1 : Int32)), .val (.ref o2), .val (.int (0 : Int32)), .val (.int (1 : Int32)), .val (.int (1 : Int32)), .unset, .unset]) (S' := [(.int (0 : Int32)), (.ref o0)]) rfl ?_
 obtain ⟨cl1, Ar1, q1, S1, M1, H1, G1⟩ := id V_o0
 have ib1 : ¬ ((0 : Int32) < 0 ∨ cl1.slots.size ≤ ((0 : Int32)).toNatClampNeg) := inb_of S1 ⟨by decide, by decide⟩
 refine Home.go (X0.baloadBytes hx (j := (0 : Int32)) (v := (.int u1)) (by rw [e0]; exact Ar1.1) (State.isArrayOf_alike hZ.alike Ar1.2.1) Ar1.2.2 ib1 (Has.at H1 ib1 rfl) rfl rfl (hb hby d18_17)) ?_
 refine Home.run X0 hx hby sg18_18_4 (pc' := 25) (L' := #[.val (.ref o0), .val (.int (1 : Int32)), .val (.ref o2), .val (.int (1 : Int32)), .val (.int (1 : Int32)), .val (.int (1 : Int32)), .val (.int u1), .unset]) (S' := [(.int (0 : Int32)), (.ref o2)]) rfl ?_
 obtain ⟨cl2, Ar2, q2, S2, M2, H2, G2⟩ := id V_o2
 have ib2 : ¬ ((0 : Int32) < 0 ∨ cl2.slots.size ≤ ((0 : Int32)).toNatClampNeg) := inb_of S2 ⟨by decide, by decide⟩
 refine Home.go (X0.baloadBytes hx (j := (0 : Int32)) (v := (.int u2)) (by rw [e0]; exact Ar2.1) (State.isArrayOf_alike hZ.alike Ar2.2.1) Ar2.2.2 ib2 (Has.at H2 ib2 rfl) rfl rfl (hb hby d18_25)) ?_
 show Home s₁ (mkF m 26 #[.val (.ref o0), .val (.int (1 : Int32)), .val (.ref o2), .val (.int (1 : Int32)), .val (.int (1 : Int32)), .val (.int (1 : Int32)), .val (.int u1), .unset] [(.int u2)])
 refine Home.run X0 hx hby sg18_26_3 (pc' := 32) (L' := #[.val (.ref o0), .val (.int (1 : Int32)), .val (.ref o2), .val (.int (1 : Int32)), .val (.int (1 : Int32)), .val (.int (1 : Int32)), .val (.int u1), .val (.int u2)]) (S' := [(.int u2), (.int u1)]) rfl ?_
 refine Home.st (own_pure (own_static X0 hx hZ hown (own_w94 hw) (own_w95 hw) (own_w96 hw) (own_w97 hw) (by decide) (rm20_0 l Z a0 hw [] u1 u2 h0 n0 O0) e0 rfl (by rw [hml]; rfl) (argsL := [(.int u1), (.int u2)]) (rest := []) (lenOf own_pd16 rfl) rfl rfl (W := 0) (by exact hW0) (by decide) (by decide) (hb hby d18_32) (by decide) (by decide))) fun T3 X3 e3 => ?_
 show Home T3 (mkF m 35 #[.val (.ref o0), .val (.int (1 : Int32)), .val (.ref o2), .val (.int (1 : Int32)), .val (.int (1 : Int32)), .val (.int (1 : Int32)), .val (.int u1), .val (.int u2)] [(.int (f_rm20_0 u1 u2))])
 obtain ⟨r4, hr4⟩ : ∃ z, z = (f_rm20_0 u1 u2) := ⟨_, rfl⟩
 rw [← hr4]
 have br4 : ¬ r4 < (0 : Int32) ∧ ¬ (1 : Int32) < r4 := by rw [hr4]; exact f_rm20_0_bnd u1 u2
 by_cases c5 : r4 = (0 : Int32)
 ·
  refine Home.go (fun _ => XS.ifYes X3.here hx rfl (pc0 := 35) (pc' := 41) rfl (hb hby d18_35) rfl ((if0 _ _).trans (teq c5).1) (by decide) (by decide)) ?_
  have bd6 : ¬ r4 < (0 : Int32) ∧ ¬ (0 : Int32) < r4 := ⟨(bnd_eql c5), (bnd_eqr c5)⟩
  have fx7 : r4 = (0 : Int32) := bnd_fix bd6
  try rw [fx7]
  show Home T3 (mkF m 41 #[.val (.ref o0), .val (.int (1 : Int32)), .val (.ref o2), .val (.int (1 : Int32)), .val (.int (1 : Int32)), .val (.int (1 : Int32)), .val (.int u1), .val (.int u2)] [])
  refine Home.run X3 hx hby sg18_41_1 (pc' := 42) (L' := #[.val (.ref o0), .val (.int (1 : Int32)), .val (.ref o2), .val (.int (1 : Int32)), .val (.int (1 : Int32)), .val (.int (1 : Int32)), .val (.int u1), .val (.int u2)]) (S' := [(.int (0 : Int32))]) rfl ?_
  exact Home.retN X3 hx hlk (t := .boolean) hret (by simp) (hb hby d18_42) ⟨congrArg some (congrArg Value.int (by subst hr4; first | rfl | (simp only [f_rm18_1, if_pos c5, nar_i2c, nar_i2b] <;> rfl) | (simp [f_rm18_1, if_pos c5]; done))), rfl, e3⟩ (by decide) (by decide)
 ·
  refine Home.go (fun _ => XS.ifNo X3.here hx rfl (hb hby d18_35) rfl ((if0 _ _).trans (feq c5).1)) ?_
  have bd8 : ¬ r4 < (1 : Int32) ∧ ¬ (1 : Int32) < r4 := ⟨(bnd_nel br4.1 c5 (by decide +kernel)), br4.2⟩
  have fx9 : r4 = (1 : Int32) := bnd_fix bd8
  try rw [fx9]
  show Home T3 (mkF m 38 #[.val (.ref o0), .val (.int (1 : Int32)), .val (.ref o2), .val (.int (1 : Int32)), .val (.int (1 : Int32)), .val (.int (1 : Int32)), .val (.int u1), .val (.int u2)] [])
  refine Home.run X3 hx hby sg18_38_3 (pc' := 9) (L' := #[.val (.ref o0), .val (.int (1 : Int32)), .val (.ref o2), .val (.int (1 : Int32)), .val (.int (1 : Int32)), .val (.int (1 : Int32)), .val (.int u1), .val (.int u2)]) (S' := [(.int (1 : Int32)), (.int (1 : Int32))]) rfl ?_
  refine Home.go (fun _ => XS.icmpYes X3.here hx rfl (pc0 := 9) (pc' := 43) rfl (hb hby d18_9) rfl (flt (by decide)).2.1 (by decide) (by decide)) ?_
  refine Home.run X3 hx hby sg18_43_1 (pc' := 44) (L' := #[.val (.ref o0), .val (.int (1 : Int32)), .val (.ref o2), .val (.int (1 : Int32)), .val (.int (1 : Int32)), .val (.int (1 : Int32)), .val (.int u1), .val (.int u2)]) (S' := [(.int (1 : Int32))]) rfl ?_
  exact Home.retN X3 hx hlk (t := .boolean) hret (by simp) (hb hby d18_44) ⟨congrArg some (congrArg Value.int (by subst hr4; first | rfl | (simp only [f_rm18_1, if_neg c5, nar_i2c, nar_i2b] <;> rfl) | (simp [f_rm18_1, if_neg c5]; done))), rfl, e3⟩ (by decide) (by decide)
theorem f_rm18_1_bnd (u1 : Int32) (u2 : Int32) : ¬ (f_rm18_1 u1 u2) < (0 : Int32) ∧ ¬ (1 : Int32) < (f_rm18_1 u1 u2) := by unfold f_rm18_1; (repeat' split) <;> first | exact bnd_mono (bnd_lit (0 : Int32)) (by decide +kernel) (by decide +kernel) | exact bnd_mono (bnd_lit (1 : Int32)) (by decide +kernel) (by decide +kernel)
theorem rm17_1 (l : Launch) (Z : State) (a0 : Array Value) (hw : HW a0 Z) (ws : List Jvm.Cond) (o0 o3 p3 : Addr) (k_p3 : ClassId) (u1 sv_COMPACT_STRINGS : Int32) (p4 : Addr) (k_p4 : ClassId) (u2 : Int32) (h0 : Heap) (n0 : Nat) (O0 : Old Z n0 h0) (E_o0 : Exa Z h0 o0 "java/lang/String") (F_value_o0 : Fld Z h0 o0 "java/lang/String" "value" "[B" (.ref p3)) (V_p3 : Arv Z h0 p3 k_p3 .byte (1 : Int32) [(.int u1)] (.int (0 : Int32))) (S_COMPACT_STRINGS : Sta Z Z.heap "java/lang/String" "COMPACT_STRINGS" "Z" (.int sv_COMPACT_STRINGS)) (F_coder_o0 : Fld Z h0 o0 "java/lang/String" "coder" "B" (.int (0 : Int32))) (hCS : ¬ (sv_COMPACT_STRINGS = (0 : Int32))) (E_o3 : Exa Z h0 o3 "java/lang/String") (F_value_o3 : Fld Z h0 o3 "java/lang/String" "value" "[B" (.ref p4)) (V_p4 : Arv Z h0 p4 k_p4 .byte (1 : Int32) [(.int u2)] (.int (0 : Int32))) (F_coder_o3 : Fld Z h0 o3 "java/lang/String" "coder" "B" (.int (0 : Int32))) :
    Con l Z (⟨"java/lang/String", "regionMatches", "(ZILjava/lang/String;II)Z"⟩ : MethodName) jdk_42_method_74_code 9 (some .boolean) ws ({ frames := 2, cells := 0, slots := 0, locals := 33 } : Room) #[(.ref o0), (.int (1 : Int32)), (.int (0 : Int32)), (.ref o3), (.int (0 : Int32)), (.int (1 : Int32))] h0 (Pur (some (.int (f_rm18_1 u1 u2))) h0) := by
 refine own_body (plainFor_of_name own_pn1) (fun m => ef_rm17_1 m o0 (1 : Int32) (0 : Int32) o3) ?_
 intro p e s m below meth c s₁ hx hby hlk hml hret hZ hown hnm X0 e0
 have N0 := Fr.nil n0
 refine Home.run X0 hx hby sg17_0_1 (pc' := 1) (L' := #[.val (.ref o0), .val (.int (1 : Int32)), .val (.int (0 : Int32)), .val (.ref o3), .val (.int (0 : Int32)), .val (.int (1 : Int32)), .unset, .unset, .unset]) (S' := [(.int (1 : Int32))]) rfl ?_
 refine Home.go (fun _ => XS.ifYes X0.here hx rfl (pc0 := 1) (pc' := 15) rfl (hb hby d17_1) rfl ((if0 _ _).trans (feq (by decide)).2) (by decide) (by decide)) ?_
 refine Home.run X0 hx hby sg17_15_1 (pc' := 17) (L' := #[.val (.ref o0), .val (.int (1 : Int32)), .val (.int (0 : Int32)), .val (.ref o3), .val (.int (0 : Int32)), .val (.int (1 : Int32)), .unset, .unset, .unset]) (S' := [(.int (0 : Int32))]) rfl ?_
 refine Home.go (fun _ => XS.ifNo X0.here hx rfl (hb hby d17_17) rfl ((if0 _ _).trans (flt (by decide)).1)) ?_
 refine Home.run X0 hx hby sg17_20_1 (pc' := 21) (L' := #[.val (.ref o0), .val (.int (1 : Int32)), .val (.int (0 : Int32)), .val (.ref o3), .val (.int (0 : Int32)), .val (.int (1 : Int32)), .unset, .unset, .unset]) (S' := [(.int (0 : Int32))]) rfl ?_
 refine Home.go (fun _ => XS.ifNo X0.here hx rfl (hb hby d17_21) rfl ((if0 _ _).trans (flt (by decide)).1)) ?_
 refine Home.run X0 hx hby sg17_24_3 (pc' := 27) (L' := #[.val (.ref o0), .val (.int (1 : Int32)), .val (.int (0 : Int32)), .val (.ref o3), .val (.int (0 : Int32)), .val (.int (1 : Int32)), .unset, .unset, .unset]) (S' := [(.ref o0), (.long (0 : Int64))]) rfl ?_
 refine Home.st (own_pure (own_virtual X0 hx hZ hown (own_w72 hw) (own_w73 hw) (notFace_of_selects (args := #[]) (mvT hZ (own_w75 hw))) (own_w75 hw) (own_w74 hw) (own_w13 hw) (own_w76 hw) (by decide) (rm15_2 l Z a0 hw [] o0 p3 k_p3 u1 sv_COMPACT_STRINGS h0 n0 O0 F_value_o0 V_p3 E_o0 S_COMPACT_STRINGS F_coder_o0 hCS) e0 E_o0 rfl (by rw [hml]; rfl) (argsL := []) (rest := [(.long (0 : Int64))]) (lenOf own_pd13 rfl) rfl rfl (W := 2) (by exact hW0) (by decide) (by decide) (hb hby d17_27) (by decide) (by decide))) fun T1 X1 e1 => ?_
 show Home T1 (mkF m 30 #[.val (.ref o0), .val (.int (1 : Int32)), .val (.int (0 : Int32)), .val (.ref o3), .val (.int (0 : Int32)), .val (.int (1 : Int32)), .unset, .unset, .unset] [(.int (1 : Int32)), (.long (0 : Int64))])
 refine Home.run X1 hx hby sg17_30_5 (pc' := 36) (L' := #[.val (.ref o0), .val (.int (1 : Int32)), .val (.int (0 : Int32)), .val (.ref o3), .val (.int (0 : Int32)), .val (.int (1 : Int32)), .unset, .unset, .unset]) (S' := [(.int (0 : Int32))]) rfl ?_
 refine Home.go (fun _ => XS.ifNo X1.here hx rfl (hb hby d17_36) rfl ((if0 _ _).trans (flt (by decide)).2.2.1)) ?_
 refine Home.run X1 hx hby sg17_39_3 (pc' := 43) (L' := #[.val (.ref o0), .val (.int (1 : Int32)), .val (.int (0 : Int32)), .val (.ref o3), .val (.int (0 : Int32)), .val (.int (1 : Int32)), .unset, .unset, .unset]) (S' := [(.ref o3), (.long (0 : Int64))]) rfl ?_
 refine Home.st (own_pure (own_virtual X1 hx hZ hown (own_w72 hw) (own_w73 hw) (notFace_of_selects (args := #[]) (mvT hZ (own_w75 hw))) (own_w75 hw) (own_w74 hw) (own_w13 hw) (own_w76 hw) (by decide) (rm15_2 l Z a0 hw [] o3 p4 k_p4 u2 sv_COMPACT_STRINGS h0 n0 O0 F_value_o3 V_p4 E_o3 S_COMPACT_STRINGS F_coder_o3 hCS) e1 E_o3 rfl (by rw [hml]; rfl) (argsL := []) (rest := [(.long (0 : Int64))]) (lenOf own_pd13 rfl) rfl rfl (W := 2) (by exact hW0) (by decide) (by decide) (hb hby d17_43) (by decide) (by decide))) fun T2 X2 e2 => ?_
 refine Home.run X2 hx hby sg17_46_5 (pc' := 52) (L' := #[.val (.ref o0), .val (.int (1 : Int32)), .val (.int (0 : Int32)), .val (.ref o3), .val (.int (0 : Int32)), .val (.int (1 : Int32)), .unset, .unset, .unset]) (S' := [(.int (0 : Int32))]) rfl ?_
 refine Home.go (fun _ => XS.ifYes X2.here hx rfl (pc0 := 52) (pc' := 57) rfl (hb hby d17_52) rfl ((if0 _ _).trans (flt (by decide)).2.2.2) (by decide) (by decide)) ?_
 refine Home.run X2 hx hby sg17_57_1 (pc' := 58) (L' := #[.val (.ref o0), .val (.int (1 : Int32)), .val (.int (0 : Int32)), .val (.ref o3), .val (.int (0 : Int32)), .val (.int (1 : Int32)), .unset, .unset, .unset]) (S' := [(.ref o0)]) rfl ?_
 refine Home.st (getF X2 hx hZ hown (host := "") (Or.inl (own_w30 hw)) Via.refl e2 F_value_o0 rfl rfl (hb hby d17_58)) fun T3 X3 e3 => ?_
 show Home T3 (mkF m 61 #[.val (.ref o0), .val (.int (1 : Int32)), .val (.int (0 : Int32)), .val (.ref o3), .val (.int (0 : Int32)), .val (.int (1 : Int32)), .unset, .unset, .unset] [(.ref p3)])
 refine Home.run X3 hx hby sg17_61_2 (pc' := 64) (L' := #[.val (.ref o0), .val (.int (1 : Int32)), .val (.int (0 : Int32)), .val (.ref o3), .val (.int (0 : Int32)), .val (.int (1 : Int32)), .val (.ref p3), .unset, .unset]) (S' := [(.ref o3)]) rfl ?_
 refine Home.st (getF X3 hx hZ hown (host := "") (Or.inl (own_w30 hw)) Via.refl e3 F_value_o3 rfl rfl (hb hby d17_64)) fun T4 X4 e4 => ?_
 refine Home.run X4 hx hby sg17_67_2 (pc' := 70) (L' := #[.val (.ref o0), .val (.int (1 : Int32)), .val (.int (0 : Int32)), .val (.ref o3), .val (.int (0 : Int32)), .val (.int (1 : Int32)), .val (.ref p3), .val (.ref p4), .unset]) (S' := [(.ref o0)]) rfl ?_
 refine Home.st (own_pure (own_virtual X4 hx hZ hown (own_w77 hw) (own_w78 hw) (notFace_of_selects (args := #[]) (mvT hZ (own_w80 hw))) (own_w80 hw) (own_w79 hw) (own_w13 hw) (own_w81 hw) (by decide) (rm16_0 l Z a0 hw [] o0 sv_COMPACT_STRINGS h0 n0 O0 S_COMPACT_STRINGS hCS F_coder_o0) e4 E_o0 rfl (by rw [hml]; rfl) (argsL := []) (rest := []) (lenOf own_pd12 rfl) rfl rfl (W := 0) (by exact hW0) (by decide) (by decide) (hb hby d17_70) (by decide) (by decide))) fun T5 X5 e5 => ?_
 refine Home.run X5 hx hby sg17_73_3 (pc' := 78) (L' := #[.val (.ref o0), .val (.int (1 : Int32)), .val (.int (0 : Int32)), .val (.ref o3), .val (.int (0 : Int32)), .val (.int (1 : Int32)), .val (.ref p3), .val (.ref p4), .val (.int (0 : Int32))]) (S' := [(.ref o3), (.int (0 : Int32))]) rfl ?_
 refine Home.st (own_pure (own_virtual X5 hx hZ hown (own_w77 hw) (own_w78 hw) (notFace_of_selects (args := #[]) (mvT hZ (own_w80 hw))) (own_w80 hw) (own_w79 hw) (own_w13 hw) (own_w81 hw) (by decide) (rm16_0 l Z a0 hw [] o3 sv_COMPACT_STRINGS h0 n0 O0 S_COMPACT_STRINGS hCS F_coder_o3) e5 E_o3 rfl (by rw [hml]; rfl) (argsL := []) (rest := [(.int (0 : Int32))]) (lenOf own_pd12 rfl) rfl rfl (W := 1) (by exact hW0) (by decide) (by decide) (hb hby d17_78) (by decide) (by decide))) fun T6 X6 e6 => ?_
 refine Home.go (fun _ => XS.icmpNo X6.here hx rfl (hb hby d17_81) rfl (teq (by decide)).2) ?_
 refine Home.run X6 hx hby sg17_84_1 (pc' := 86) (L' := #[.val (.ref o0), .val (.int (1 : Int32)), .val (.int (0 : Int32)), .val (.ref o3), .val (.int (0 : Int32)), .val (.int (1 : Int32)), .val (.ref p3), .val (.ref p4), .val (.int (0 : Int32))]) (S' := [(.int (0 : Int32))]) rfl ?_
 refine Home.go (fun _ => XS.ifNo X6.here hx rfl (hb hby d17_86) rfl ((if0 _ _).trans (teq (by decide)).2)) ?_
 refine Home.run X6 hx hby sg17_89_5 (pc' := 98) (L' := #[.val (.ref o0), .val (.int (1 : Int32)), .val (.int (0 : Int32)), .val (.ref o3), .val (.int (0 : Int32)), .val (.int (1 : Int32)), .val (.ref p3), .val (.ref p4), .val (.int (0 : Int32))]) (S' := [(.int (1 : Int32)), (.int (0 : Int32)), (.ref p4), (.int (0 : Int32)), (.ref p3)]) rfl ?_
 refine Home.st (own_pure (own_static X6 hx hZ hown (own_w87 hw) (own_w88 hw) (own_w89 hw) (own_w90 hw) (by decide) (rm18_1 l Z a0 hw [] p3 p4 k_p3 u1 k_p4 u2 h0 n0 O0 V_p3 V_p4) e6 rfl (by rw [hml]; rfl) (argsL := [(.ref p3), (.int (0 : Int32)), (.ref p4), (.int (0 : Int32)), (.int (1 : Int32))]) (rest := []) (lenOf own_pd14 rfl) rfl rfl (W := 0) (by exact hW0) (by decide) (by decide) (hb hby d17_98) (by decide) (by decide))) fun T7 X7 e7 => ?_
 show Home T7 (mkF m 101 #[.val (.ref o0), .val (.int (1 : Int32)), .val (.int (0 : Int32)), .val (.ref o3), .val (.int (0 : Int32)), .val (.int (1 : Int32)), .val (.ref p3), .val (.ref p4), .val (.int (0 : Int32))] [(.int (f_rm18_1 u1 u2))])
 obtain ⟨r8, hr8⟩ : ∃ z, z = (f_rm18_1 u1 u2) := ⟨_, rfl⟩
 rw [← hr8]
 have br8 : ¬ r8 < (0 : Int32) ∧ ¬ (1 : Int32) < r8 := by rw [hr8]; exact f_rm18_1_bnd u1 u2
 refine Home.run X7 hx hby sg17_101_1 (pc' := 116) (L' := #[.val (.ref o0), .val (.int (1 : Int32)), .val (.int (0 : Int32)), .val (.ref o3), .val (.int (0 : Int32)), .val (.int (1 : Int32)), .val (.ref p3), .val (.ref p4), .val (.int (0 : Int32))]) (S' := [(.int r8)]) rfl ?_
 subst hr8
 exact Home.retN X7 hx hlk (t := .boolean) hret (by simp) (hb hby d17_116) ⟨congrArg some (congrArg Value.int (by first | rfl | exact nar_i2c _ | exact nar_i2b _ | exact nar_bool_id br8 (by decide +kernel) (by decide +kernel))), rfl, e7⟩ (by decide) (by decide)
theorem rm14_2 (l : Launch) (Z : State) (a0 : Array Value) (hw : HW a0 Z) (ws : List Jvm.Cond) (o0 o1 p4 : Addr) (k_p4 : ClassId) (u2 sv_COMPACT_STRINGS : Int32) (p3 : Addr) (k_p3 : ClassId) (u1 : Int32) (h0 : Heap) (n0 : Nat) (O0 : Old Z n0 h0) (E_o0 : Exa Z h0 o0 "java/lang/String") (E_o1 : Exa Z h0 o1 "java/lang/String") (ne_o0_o1 : o0 ≠ o1) (F_value_o1 : Fld Z h0 o1 "java/lang/String" "value" "[B" (.ref p4)) (V_p4 : Arv Z h0 p4 k_p4 .byte (1 : Int32) [(.int u2)] (.int (0 : Int32))) (S_COMPACT_STRINGS : Sta Z Z.heap "java/lang/String" "COMPACT_STRINGS" "Z" (.int sv_COMPACT_STRINGS)) (F_coder_o1 : Fld Z h0 o1 "java/lang/String" "coder" "B" (.int (0 : Int32))) (hCS : ¬ (sv_COMPACT_STRINGS = (0 : Int32))) (F_value_o0 : Fld Z h0 o0 "java/lang/String" "value" "[B" (.ref p3)) (V_p3 : Arv Z h0 p3 k_p3 .byte (1 : Int32) [(.int u1)] (.int (0 : Int32))) (F_coder_o0 : Fld Z h0 o0 "java/lang/String" "coder" "B" (.int (0 : Int32))) :
    Con l Z (⟨"java/lang/String", "equalsIgnoreCase", "(Ljava/lang/String;)Z"⟩ : MethodName) jdk_42_method_70_code 2 (some .boolean) ws ({ frames := 3, cells := 0, slots := 0, locals := 53 } : Room) #[(.ref o0), (.ref o1)] h0 (Pur (some (.int (f_rm14_2 u2 u1))) h0) := by
 refine own_body (plainFor_of_name own_pn1) (fun m => ef_rm14_2 m o0 o1) ?_
 intro p e s m below meth c s₁ hx hby hlk hml hret hZ hown hnm X0 e0
 have N0 := Fr.nil n0
 refine Home.run X0 hx hby sg14_0_2 (pc' := 2) (L' := #[.val (.ref o0), .val (.ref o1)]) (S' := [(.ref o1), (.ref o0)]) rfl ?_
 refine Home.go (fun _ => Jvm.RoadKit.acmp X0 hx rfl rfl rfl (pc0 := 2) (pc' := 9) (same := false) rfl (hb hby d14_2) rfl (decide_eq_false fun q => ne_o0_o1 (Value.ref.inj q)) (by decide) (by decide)) ?_
 show Home s₁ (mkF m 9 #[.val (.ref o0), .val (.ref o1)] [])
 refine Home.run X0 hx hby sg14_9_1 (pc' := 10) (L' := #[.val (.ref o0), .val (.ref o1)]) (S' := [(.ref o1)]) rfl ?_
 refine Home.go (fun _ => XS.ifnullNo X0.here hx rfl (hb hby d14_10) rfl) ?_
 show Home s₁ (mkF m 13 #[.val (.ref o0), .val (.ref o1)] [])
 refine Home.run X0 hx hby sg14_13_1 (pc' := 14) (L' := #[.val (.ref o0), .val (.ref o1)]) (S' := [(.ref o1)]) rfl ?_
 refine Home.st (own_pure (own_virtual X0 hx hZ hown (own_w72 hw) (own_w73 hw) (notFace_of_selects (args := #[]) (mvT hZ (own_w75 hw))) (own_w75 hw) (own_w74 hw) (own_w13 hw) (own_w76 hw) (by decide) (rm15_2 l Z a0 hw [] o1 p4 k_p4 u2 sv_COMPACT_STRINGS h0 n0 O0 F_value_o1 V_p4 E_o1 S_COMPACT_STRINGS F_coder_o1 hCS) e0 E_o1 rfl (by rw [hml]; rfl) (argsL := []) (rest := []) (lenOf own_pd13 rfl) rfl rfl (W := 0) (by exact hW0) (by decide) (by decide) (hb hby d14_14) (by decide) (by decide))) fun T1 X1 e1 => ?_
 refine Home.run X1 hx hby sg14_17_1 (pc' := 18) (L' := #[.val (.ref o0), .val (.ref o1)]) (S' := [(.ref o0), (.int (1 : Int32))]) rfl ?_
 refine Home.st (own_pure (own_virtual X1 hx hZ hown (own_w72 hw) (own_w73 hw) (notFace_of_selects (args := #[]) (mvT hZ (own_w75 hw))) (own_w75 hw) (own_w74 hw) (own_w13 hw) (own_w76 hw) (by decide) (rm15_2 l Z a0 hw [] o0 p3 k_p3 u1 sv_COMPACT_STRINGS h0 n0 O0 F_value_o0 V_p3 E_o0 S_COMPACT_STRINGS F_coder_o0 hCS) e1 E_o0 rfl (by rw [hml]; rfl) (argsL := []) (rest := [(.int (1 : Int32))]) (lenOf own_pd13 rfl) rfl rfl (W := 1) (by exact hW0) (by decide) (by decide) (hb hby d14_18) (by decide) (by decide))) fun T2 X2 e2 => ?_
 refine Home.go (fun _ => XS.icmpNo X2.here hx rfl (hb hby d14_21) rfl (teq (by decide)).2) ?_
 refine Home.run X2 hx hby sg14_24_6 (pc' := 30) (L' := #[.val (.ref o0), .val (.ref o1)]) (S' := [(.ref o0), (.int (0 : Int32)), (.ref o1), (.int (0 : Int32)), (.int (1 : Int32)), (.ref o0)]) rfl ?_
 refine Home.st (own_pure (own_virtual X2 hx hZ hown (own_w72 hw) (own_w73 hw) (notFace_of_selects (args := #[]) (mvT hZ (own_w75 hw))) (own_w75 hw) (own_w74 hw) (own_w13 hw) (own_w76 hw) (by decide) (rm15_2 l Z a0 hw [] o0 p3 k_p3 u1 sv_COMPACT_STRINGS h0 n0 O0 F_value_o0 V_p3 E_o0 S_COMPACT_STRINGS F_coder_o0 hCS) e2 E_o0 rfl (by rw [hml]; rfl) (argsL := []) (rest := [(.int (0 : Int32)), (.ref o1), (.int (0 : Int32)), (.int (1 : Int32)), (.ref o0)]) (lenOf own_pd13 rfl) rfl rfl (W := 5) (by exact hW0) (by decide) (by decide) (hb hby d14_30) (by decide) (by decide))) fun T3 X3 e3 => ?_
 refine Home.st (own_pure (own_virtual X3 hx hZ hown (own_w82 hw) (own_w83 hw) (notFace_of_selects (args := #[]) (mvT hZ (own_w85 hw))) (own_w85 hw) (own_w84 hw) (own_w13 hw) (own_w86 hw) (by decide) (rm17_1 l Z a0 hw [] o0 o1 p3 k_p3 u1 sv_COMPACT_STRINGS p4 k_p4 u2 h0 n0 O0 E_o0 F_value_o0 V_p3 S_COMPACT_STRINGS F_coder_o0 hCS E_o1 F_value_o1 V_p4 F_coder_o1) e3 E_o0 rfl (by rw [hml]; rfl) (argsL := [(.int (1 : Int32)), (.int (0 : Int32)), (.ref o1), (.int (0 : Int32)), (.int (1 : Int32))]) (rest := []) (lenOf own_pd15 rfl) rfl rfl (W := 0) (by exact hW0) (by decide) (by decide) (hb hby d14_33) (by decide) (by decide))) fun T4 X4 e4 => ?_
 show Home T4 (mkF m 36 #[.val (.ref o0), .val (.ref o1)] [(.int (f_rm18_1 u1 u2))])
 suffices J7 : ∀ {T : State} (X : Stand p l e ({ frames := 3, cells := 0, slots := 0, locals := 53 } : Room) s m #[(.ref o0), (.ref o1)] below meth c T [] 0 0) (eT : T.heap = h0) (v8 : Int32) (hv8 : v8 = (if (f_rm18_1 u1 u2) = (0 : Int32) then (0 : Int32) else (1 : Int32))), @Home p e below _ T (mkF m 44 #[.val (.ref o0), .val (.ref o1)] [(.int v8)]) by
  by_cases c5 : (f_rm18_1 u1 u2) = (0 : Int32)
  ·
   refine Home.go (fun _ => XS.ifYes X4.here hx rfl (pc0 := 36) (pc' := 43) rfl (hb hby d14_36) rfl ((if0 _ _).trans (teq c5).1) (by decide) (by decide)) ?_
   have bd6 : ¬ (f_rm18_1 u1 u2) < (0 : Int32) ∧ ¬ (0 : Int32) < (f_rm18_1 u1 u2) := ⟨(bnd_eql c5), (bnd_eqr c5)⟩
   refine Home.run X4 hx hby sg14_43_1 (pc' := 44) (L' := #[.val (.ref o0), .val (.ref o1)]) (S' := [(.int (0 : Int32))]) rfl ?_
   exact J7 X4 e4 _ (by simp only [if_pos c5])
  ·
   refine Home.go (fun _ => XS.ifNo X4.here hx rfl (hb hby d14_36) rfl ((if0 _ _).trans (feq c5).1)) ?_
   refine Home.run X4 hx hby sg14_39_2 (pc' := 44) (L' := #[.val (.ref o0), .val (.ref o1)]) (S' := [(.int (1 : Int32))]) rfl ?_
   exact J7 X4 e4 _ (by simp only [if_neg c5])
 intro TJ7 XJ7 eJ7 v8 hv8
 have bv8 : ¬ v8 < (0 : Int32) ∧ ¬ (1 : Int32) < v8 := by rw [hv8]; exact (bnd_ite (bnd_mono (bnd_lit (0 : Int32)) (by decide +kernel) (by decide +kernel)) (bnd_mono (bnd_lit (1 : Int32)) (by decide +kernel) (by decide +kernel)))
 show Home TJ7 (mkF m 44 #[.val (.ref o0), .val (.ref o1)] [(.int v8)])
 exact Home.retN XJ7 hx hlk (t := .boolean) hret (by simp) (hb hby d14_44) ⟨congrArg some (congrArg Value.int (by subst hv8; first | rfl | (simp only [f_rm14_2, nar_bool_id bv8 (by decide +kernel) (by decide +kernel), nar_i2c, nar_i2b] <;> rfl) | (simp [f_rm14_2, nar_bool_id bv8 (by decide +kernel) (by decide +kernel)]; done))), rfl, eJ7⟩ (by decide) (by decide)
theorem f_rm14_2_bnd (u2 : Int32) (u1 : Int32) : ¬ (f_rm14_2 u2 u1) < (0 : Int32) ∧ ¬ (1 : Int32) < (f_rm14_2 u2 u1) := by unfold f_rm14_2; (repeat' split) <;> first | exact bnd_mono (bnd_lit (0 : Int32)) (by decide +kernel) (by decide +kernel) | exact bnd_mono (bnd_lit (1 : Int32)) (by decide +kernel) (by decide +kernel)
theorem rm15_3 (l : Launch) (Z : State) (a0 : Array Value) (hw : HW a0 Z) (ws : List Jvm.Cond) (o0 p2 : Addr) (k_p2 : ClassId) (u1 u2 sv_COMPACT_STRINGS : Int32) (h0 : Heap) (n0 : Nat) (O0 : Old Z n0 h0) (F_value_o0 : Fld Z h0 o0 "java/lang/String" "value" "[B" (.ref p2)) (V_p2 : Arv Z h0 p2 k_p2 .byte (2 : Int32) [(.int u1), (.int u2)] (.int (0 : Int32))) (E_o0 : Exa Z h0 o0 "java/lang/String") (S_COMPACT_STRINGS : Sta Z Z.heap "java/lang/String" "COMPACT_STRINGS" "Z" (.int sv_COMPACT_STRINGS)) (F_coder_o0 : Fld Z h0 o0 "java/lang/String" "coder" "B" (.int (0 : Int32))) (hCS : ¬ (sv_COMPACT_STRINGS = (0 : Int32))) :
    Con l Z (⟨"java/lang/String", "length", "()I"⟩ : MethodName) jdk_42_method_54_code 1 (some .int) ws ({ frames := 1, cells := 0, slots := 0, locals := 13 } : Room) #[(.ref o0)] h0 (Pur (some (.int (2 : Int32))) h0) := by
 refine own_body (plainFor_of_name own_pn1) (fun m => ef_rm15_3 m o0) ?_
 intro p e s m below meth c s₁ hx hby hlk hml hret hZ hown hnm X0 e0
 have N0 := Fr.nil n0
 refine Home.run X0 hx hby sg15_0_1 (pc' := 1) (L' := #[.val (.ref o0)]) (S' := [(.ref o0)]) rfl ?_
 refine Home.st (getF X0 hx hZ hown (host := "") (Or.inl (own_w30 hw)) Via.refl e0 F_value_o0 rfl rfl (hb hby d15_1)) fun T1 X1 e1 => ?_
 obtain ⟨cl2, Ar2, q2, S2, M2, H2, G2⟩ := id V_p2
 refine Home.go (own_alen X1 hx hZ e1 Ar2 S2 M2 rfl rfl (hb hby d15_4)) ?_
 refine Home.run X1 hx hby sg15_5_1 (pc' := 6) (L' := #[.val (.ref o0)]) (S' := [(.ref o0), (.int (2 : Int32))]) rfl ?_
 refine Home.st (own_pure (own_virtual X1 hx hZ hown (own_w77 hw) (own_w78 hw) (notFace_of_selects (args := #[]) (mvT hZ (own_w80 hw))) (own_w80 hw) (own_w79 hw) (own_w13 hw) (own_w81 hw) (by decide) (rm16_0 l Z a0 hw [] o0 sv_COMPACT_STRINGS h0 n0 O0 S_COMPACT_STRINGS hCS F_coder_o0) e1 E_o0 rfl (by rw [hml]; rfl) (argsL := []) (rest := [(.int (2 : Int32))]) (lenOf own_pd12 rfl) rfl rfl (W := 1) (by exact hW0) (by decide) (by decide) (hb hby d15_6) (by decide) (by decide))) fun T3 X3 e3 => ?_
 refine Home.run X3 hx hby sg15_9_1 (pc' := 10) (L' := #[.val (.ref o0)]) (S' := [(.int (2 : Int32))]) rfl ?_
 exact Home.retI X3 hx hlk hret (hb hby d15_10) ⟨rfl, rfl, e3⟩ (by decide) (by decide)
theorem rm18_2 (l : Launch) (Z : State) (a0 : Array Value) (hw : HW a0 Z) (ws : List Jvm.Cond) (o0 o2 : Addr) (k_o0 : ClassId) (u1 u2 : Int32) (k_o2 : ClassId) (u3 u4 : Int32) (h0 : Heap) (n0 : Nat) (O0 : Old Z n0 h0) (V_o0 : Arv Z h0 o0 k_o0 .byte (2 : Int32) [(.int u1), (.int u2)] (.int (0 : Int32))) (V_o2 : Arv Z h0 o2 k_o2 .byte (2 : Int32) [(.int u3), (.int u4)] (.int (0 : Int32))) :
    Con l Z (⟨"java/lang/StringLatin1", "regionMatchesCI", "([BI[BII)Z"⟩ : MethodName) jdk_43_method_30_code 8 (some .boolean) ws ({ frames := 1, cells := 0, slots := 0, locals := 14 } : Room) #[(.ref o0), (.int (0 : Int32)), (.ref o2), (.int (0 : Int32)), (.int (2 : Int32))] h0 (Pur (some (.int (f_rm18_2 u1 u2 u3 u4))) h0) := by
 refine own_body (plainFor_of_name own_pn5) (fun m => ef_rm18_2 m o0 (0 : Int32) o2 (2 : Int32)) ?_
 intro p e s m below meth c s₁ hx hby hlk hml hret hZ hown hnm X0 e0
 have N0 := Fr.nil n0
 refine Home.run X0 hx hby sg18_0_6 (pc' := 9) (L' := #[.val (.ref o0), .val (.int (0 : Int32)), .val (.ref o2), .val (.int (0 : Int32)), .val (.int (2 : Int32)), .val (.int (2 : Int32)), .unset, .unset]) (S' := [(.int (2 : Int32)), (.int (0 : Int32))]) rfl ?_
 refine Home.go (fun _ => XS.icmpNo X0.here hx rfl (hb hby d18_9) rfl (tlt (by decide)).2.1) ?_
 refine Home.run X0 hx hby sg18_12_3 (pc' := 17) (L' := #[.val (.ref o0), .val (.int (1 : Int32)), .val (.ref o2), .val (.int (0 : Int32)), .val (.int (2 : Int32)), .val (.int (2 : Int32)), .unset, .unset]) (S' := [(.int (0 : Int32)), (.ref o0)]) rfl ?_
 obtain ⟨cl1, Ar1, q1, S1, M1, H1, G1⟩ := id V_o0
 have ib1 : ¬ ((0 : Int32) < 0 ∨ cl1.slots.size ≤ ((0 : Int32)).toNatClampNeg) := inb_of S1 ⟨by decide, by decide⟩
 refine Home.go (X0.baloadBytes hx (j := (0 : Int32)) (v := (.int u1)) (by rw [e0]; exact Ar1.1) (State.isArrayOf_alike hZ.alike Ar1.2.1) Ar1.2.2 ib1 (Has.at H1 ib1 rfl) rfl rfl (hb hby d18_17)) ?_
 refine Home.run X0 hx hby sg18_18_4 (pc' := 25) (L' := #[.val (.ref o0), .val (.int (1 : Int32)), .val (.ref o2), .val (.int (1 : Int32)), .val (.int (2 : Int32)), .val (.int (2 : Int32)), .val (.int u1), .unset]) (S' := [(.int (0 : Int32)), (.ref o2)]) rfl ?_
 obtain ⟨cl2, Ar2, q2, S2, M2, H2, G2⟩ := id V_o2
 have ib2 : ¬ ((0 : Int32) < 0 ∨ cl2.slots.size ≤ ((0 : Int32)).toNatClampNeg) := inb_of S2 ⟨by decide, by decide⟩
 refine Home.go (X0.baloadBytes hx (j := (0 : Int32)) (v := (.int u3)) (by rw [e0]; exact Ar2.1) (State.isArrayOf_alike hZ.alike Ar2.2.1) Ar2.2.2 ib2 (Has.at H2 ib2 rfl) rfl rfl (hb hby d18_25)) ?_
 show Home s₁ (mkF m 26 #[.val (.ref o0), .val (.int (1 : Int32)), .val (.ref o2), .val (.int (1 : Int32)), .val (.int (2 : Int32)), .val (.int (2 : Int32)), .val (.int u1), .unset] [(.int u3)])
 refine Home.run X0 hx hby sg18_26_3 (pc' := 32) (L' := #[.val (.ref o0), .val (.int (1 : Int32)), .val (.ref o2), .val (.int (1 : Int32)), .val (.int (2 : Int32)), .val (.int (2 : Int32)), .val (.int u1), .val (.int u3)]) (S' := [(.int u3), (.int u1)]) rfl ?_
 refine Home.st (own_pure (own_static X0 hx hZ hown (own_w94 hw) (own_w95 hw) (own_w96 hw) (own_w97 hw) (by decide) (rm20_0 l Z a0 hw [] u1 u3 h0 n0 O0) e0 rfl (by rw [hml]; rfl) (argsL := [(.int u1), (.int u3)]) (rest := []) (lenOf own_pd16 rfl) rfl rfl (W := 0) (by exact hW0) (by decide) (by decide) (hb hby d18_32) (by decide) (by decide))) fun T3 X3 e3 => ?_
 show Home T3 (mkF m 35 #[.val (.ref o0), .val (.int (1 : Int32)), .val (.ref o2), .val (.int (1 : Int32)), .val (.int (2 : Int32)), .val (.int (2 : Int32)), .val (.int u1), .val (.int u3)] [(.int (f_rm20_0 u1 u3))])
 obtain ⟨r4, hr4⟩ : ∃ z, z = (f_rm20_0 u1 u3) := ⟨_, rfl⟩
 rw [← hr4]
 have br4 : ¬ r4 < (0 : Int32) ∧ ¬ (1 : Int32) < r4 := by rw [hr4]; exact f_rm20_0_bnd u1 u3
 by_cases c5 : r4 = (0 : Int32)
 ·
  refine Home.go (fun _ => XS.ifYes X3.here hx rfl (pc0 := 35) (pc' := 41) rfl (hb hby d18_35) rfl ((if0 _ _).trans (teq c5).1) (by decide) (by decide)) ?_
  have bd6 : ¬ r4 < (0 : Int32) ∧ ¬ (0 : Int32) < r4 := ⟨(bnd_eql c5), (bnd_eqr c5)⟩
  have fx7 : r4 = (0 : Int32) := bnd_fix bd6
  try rw [fx7]
  show Home T3 (mkF m 41 #[.val (.ref o0), .val (.int (1 : Int32)), .val (.ref o2), .val (.int (1 : Int32)), .val (.int (2 : Int32)), .val (.int (2 : Int32)), .val (.int u1), .val (.int u3)] [])
  refine Home.run X3 hx hby sg18_41_1 (pc' := 42) (L' := #[.val (.ref o0), .val (.int (1 : Int32)), .val (.ref o2), .val (.int (1 : Int32)), .val (.int (2 : Int32)), .val (.int (2 : Int32)), .val (.int u1), .val (.int u3)]) (S' := [(.int (0 : Int32))]) rfl ?_
  exact Home.retN X3 hx hlk (t := .boolean) hret (by simp) (hb hby d18_42) ⟨congrArg some (congrArg Value.int (by subst hr4; first | rfl | (simp only [f_rm18_2, if_pos c5, nar_i2c, nar_i2b] <;> rfl) | (simp [f_rm18_2, if_pos c5]; done))), rfl, e3⟩ (by decide) (by decide)
 ·
  refine Home.go (fun _ => XS.ifNo X3.here hx rfl (hb hby d18_35) rfl ((if0 _ _).trans (feq c5).1)) ?_
  have bd8 : ¬ r4 < (1 : Int32) ∧ ¬ (1 : Int32) < r4 := ⟨(bnd_nel br4.1 c5 (by decide +kernel)), br4.2⟩
  have fx9 : r4 = (1 : Int32) := bnd_fix bd8
  try rw [fx9]
  show Home T3 (mkF m 38 #[.val (.ref o0), .val (.int (1 : Int32)), .val (.ref o2), .val (.int (1 : Int32)), .val (.int (2 : Int32)), .val (.int (2 : Int32)), .val (.int u1), .val (.int u3)] [])
  refine Home.run X3 hx hby sg18_38_3 (pc' := 9) (L' := #[.val (.ref o0), .val (.int (1 : Int32)), .val (.ref o2), .val (.int (1 : Int32)), .val (.int (2 : Int32)), .val (.int (2 : Int32)), .val (.int u1), .val (.int u3)]) (S' := [(.int (2 : Int32)), (.int (1 : Int32))]) rfl ?_
  refine Home.go (fun _ => XS.icmpNo X3.here hx rfl (hb hby d18_9) rfl (tlt (by decide)).2.1) ?_
  refine Home.run X3 hx hby sg18_12_3 (pc' := 17) (L' := #[.val (.ref o0), .val (.int (2 : Int32)), .val (.ref o2), .val (.int (1 : Int32)), .val (.int (2 : Int32)), .val (.int (2 : Int32)), .val (.int u1), .val (.int u3)]) (S' := [(.int (1 : Int32)), (.ref o0)]) rfl ?_
  obtain ⟨cl10, Ar10, q10, S10, M10, H10, G10⟩ := id V_o0
  have ib10 : ¬ ((1 : Int32) < 0 ∨ cl10.slots.size ≤ ((1 : Int32)).toNatClampNeg) := inb_of S10 ⟨by decide, by decide⟩
  refine Home.go (X3.baloadBytes hx (j := (1 : Int32)) (v := (.int u2)) (by rw [e3]; exact Ar10.1) (State.isArrayOf_alike hZ.alike Ar10.2.1) Ar10.2.2 ib10 (Has.at H10 ib10 rfl) rfl rfl (hb hby d18_17)) ?_
  refine Home.run X3 hx hby sg18_18_4 (pc' := 25) (L' := #[.val (.ref o0), .val (.int (2 : Int32)), .val (.ref o2), .val (.int (2 : Int32)), .val (.int (2 : Int32)), .val (.int (2 : Int32)), .val (.int u2), .val (.int u3)]) (S' := [(.int (1 : Int32)), (.ref o2)]) rfl ?_
  obtain ⟨cl11, Ar11, q11, S11, M11, H11, G11⟩ := id V_o2
  have ib11 : ¬ ((1 : Int32) < 0 ∨ cl11.slots.size ≤ ((1 : Int32)).toNatClampNeg) := inb_of S11 ⟨by decide, by decide⟩
  refine Home.go (X3.baloadBytes hx (j := (1 : Int32)) (v := (.int u4)) (by rw [e3]; exact Ar11.1) (State.isArrayOf_alike hZ.alike Ar11.2.1) Ar11.2.2 ib11 (Has.at H11 ib11 rfl) rfl rfl (hb hby d18_25)) ?_
  show Home T3 (mkF m 26 #[.val (.ref o0), .val (.int (2 : Int32)), .val (.ref o2), .val (.int (2 : Int32)), .val (.int (2 : Int32)), .val (.int (2 : Int32)), .val (.int u2), .val (.int u3)] [(.int u4)])
  refine Home.run X3 hx hby sg18_26_3 (pc' := 32) (L' := #[.val (.ref o0), .val (.int (2 : Int32)), .val (.ref o2), .val (.int (2 : Int32)), .val (.int (2 : Int32)), .val (.int (2 : Int32)), .val (.int u2), .val (.int u4)]) (S' := [(.int u4), (.int u2)]) rfl ?_
  refine Home.st (own_pure (own_static X3 hx hZ hown (own_w94 hw) (own_w95 hw) (own_w96 hw) (own_w97 hw) (by decide) (rm20_0 l Z a0 hw [] u2 u4 h0 n0 O0) e3 rfl (by rw [hml]; rfl) (argsL := [(.int u2), (.int u4)]) (rest := []) (lenOf own_pd16 rfl) rfl rfl (W := 0) (by exact hW0) (by decide) (by decide) (hb hby d18_32) (by decide) (by decide))) fun T12 X12 e12 => ?_
  show Home T12 (mkF m 35 #[.val (.ref o0), .val (.int (2 : Int32)), .val (.ref o2), .val (.int (2 : Int32)), .val (.int (2 : Int32)), .val (.int (2 : Int32)), .val (.int u2), .val (.int u4)] [(.int (f_rm20_0 u2 u4))])
  obtain ⟨r13, hr13⟩ : ∃ z, z = (f_rm20_0 u2 u4) := ⟨_, rfl⟩
  rw [← hr13]
  have br13 : ¬ r13 < (0 : Int32) ∧ ¬ (1 : Int32) < r13 := by rw [hr13]; exact f_rm20_0_bnd u2 u4
  by_cases c14 : r13 = (0 : Int32)
  ·
   refine Home.go (fun _ => XS.ifYes X12.here hx rfl (pc0 := 35) (pc' := 41) rfl (hb hby d18_35) rfl ((if0 _ _).trans (teq c14).1) (by decide) (by decide)) ?_
   have bd15 : ¬ r13 < (0 : Int32) ∧ ¬ (0 : Int32) < r13 := ⟨(bnd_eql c14), (bnd_eqr c14)⟩
   have fx16 : r13 = (0 : Int32) := bnd_fix bd15
   try rw [fx16]
   show Home T12 (mkF m 41 #[.val (.ref o0), .val (.int (2 : Int32)), .val (.ref o2), .val (.int (2 : Int32)), .val (.int (2 : Int32)), .val (.int (2 : Int32)), .val (.int u2), .val (.int u4)] [])
   refine Home.run X12 hx hby sg18_41_1 (pc' := 42) (L' := #[.val (.ref o0), .val (.int (2 : Int32)), .val (.ref o2), .val (.int (2 : Int32)), .val (.int (2 : Int32)), .val (.int (2 : Int32)), .val (.int u2), .val (.int u4)]) (S' := [(.int (0 : Int32))]) rfl ?_
   exact Home.retN X12 hx hlk (t := .boolean) hret (by simp) (hb hby d18_42) ⟨congrArg some (congrArg Value.int (by subst hr13; subst hr4; first | rfl | (simp only [f_rm18_2, if_neg c5, if_pos c14, nar_i2c, nar_i2b] <;> rfl) | (simp [f_rm18_2, if_neg c5, if_pos c14]; done))), rfl, e12⟩ (by decide) (by decide)
  ·
   refine Home.go (fun _ => XS.ifNo X12.here hx rfl (hb hby d18_35) rfl ((if0 _ _).trans (feq c14).1)) ?_
   have bd17 : ¬ r13 < (1 : Int32) ∧ ¬ (1 : Int32) < r13 := ⟨(bnd_nel br13.1 c14 (by decide +kernel)), br13.2⟩
   have fx18 : r13 = (1 : Int32) := bnd_fix bd17
   try rw [fx18]
   show Home T12 (mkF m 38 #[.val (.ref o0), .val (.int (2 : Int32)), .val (.ref o2), .val (.int (2 : Int32)), .val (.int (2 : Int32)), .val (.int (2 : Int32)), .val (.int u2), .val (.int u4)] [])
   refine Home.run X12 hx hby sg18_38_3 (pc' := 9) (L' := #[.val (.ref o0), .val (.int (2 : Int32)), .val (.ref o2), .val (.int (2 : Int32)), .val (.int (2 : Int32)), .val (.int (2 : Int32)), .val (.int u2), .val (.int u4)]) (S' := [(.int (2 : Int32)), (.int (2 : Int32))]) rfl ?_
   refine Home.go (fun _ => XS.icmpYes X12.here hx rfl (pc0 := 9) (pc' := 43) rfl (hb hby d18_9) rfl (flt (by decide)).2.1 (by decide) (by decide)) ?_
   refine Home.run X12 hx hby sg18_43_1 (pc' := 44) (L' := #[.val (.ref o0), .val (.int (2 : Int32)), .val (.ref o2), .val (.int (2 : Int32)), .val (.int (2 : Int32)), .val (.int (2 : Int32)), .val (.int u2), .val (.int u4)]) (S' := [(.int (1 : Int32))]) rfl ?_
   exact Home.retN X12 hx hlk (t := .boolean) hret (by simp) (hb hby d18_44) ⟨congrArg some (congrArg Value.int (by subst hr13; subst hr4; first | rfl | (simp only [f_rm18_2, if_neg c5, if_neg c14, nar_i2c, nar_i2b] <;> rfl) | (simp [f_rm18_2, if_neg c5, if_neg c14]; done))), rfl, e12⟩ (by decide) (by decide)
theorem f_rm18_2_bnd (u1 : Int32) (u2 : Int32) (u3 : Int32) (u4 : Int32) : ¬ (f_rm18_2 u1 u2 u3 u4) < (0 : Int32) ∧ ¬ (1 : Int32) < (f_rm18_2 u1 u2 u3 u4) := by unfold f_rm18_2; (repeat' split) <;> first | exact bnd_mono (bnd_lit (0 : Int32)) (by decide +kernel) (by decide +kernel) | exact bnd_mono (bnd_lit (1 : Int32)) (by decide +kernel) (by decide +kernel)
theorem rm17_2 (l : Launch) (Z : State) (a0 : Array Value) (hw : HW a0 Z) (ws : List Jvm.Cond) (o0 o3 p3 : Addr) (k_p3 : ClassId) (u1 u2 sv_COMPACT_STRINGS : Int32) (p4 : Addr) (k_p4 : ClassId) (u3 u4 : Int32) (h0 : Heap) (n0 : Nat) (O0 : Old Z n0 h0) (E_o0 : Exa Z h0 o0 "java/lang/String") (F_value_o0 : Fld Z h0 o0 "java/lang/String" "value" "[B" (.ref p3)) (V_p3 : Arv Z h0 p3 k_p3 .byte (2 : Int32) [(.int u1), (.int u2)] (.int (0 : Int32))) (S_COMPACT_STRINGS : Sta Z Z.heap "java/lang/String" "COMPACT_STRINGS" "Z" (.int sv_COMPACT_STRINGS)) (F_coder_o0 : Fld Z h0 o0 "java/lang/String" "coder" "B" (.int (0 : Int32))) (hCS : ¬ (sv_COMPACT_STRINGS = (0 : Int32))) (E_o3 : Exa Z h0 o3 "java/lang/String") (F_value_o3 : Fld Z h0 o3 "java/lang/String" "value" "[B" (.ref p4)) (V_p4 : Arv Z h0 p4 k_p4 .byte (2 : Int32) [(.int u3), (.int u4)] (.int (0 : Int32))) (F_coder_o3 : Fld Z h0 o3 "java/lang/String" "coder" "B" (.int (0 : Int32))) :
    Con l Z (⟨"java/lang/String", "regionMatches", "(ZILjava/lang/String;II)Z"⟩ : MethodName) jdk_42_method_74_code 9 (some .boolean) ws ({ frames := 2, cells := 0, slots := 0, locals := 33 } : Room) #[(.ref o0), (.int (1 : Int32)), (.int (0 : Int32)), (.ref o3), (.int (0 : Int32)), (.int (2 : Int32))] h0 (Pur (some (.int (f_rm18_2 u1 u2 u3 u4))) h0) := by
 refine own_body (plainFor_of_name own_pn1) (fun m => ef_rm17_2 m o0 (1 : Int32) (0 : Int32) o3 (2 : Int32)) ?_
 intro p e s m below meth c s₁ hx hby hlk hml hret hZ hown hnm X0 e0
 have N0 := Fr.nil n0
 refine Home.run X0 hx hby sg17_0_1 (pc' := 1) (L' := #[.val (.ref o0), .val (.int (1 : Int32)), .val (.int (0 : Int32)), .val (.ref o3), .val (.int (0 : Int32)), .val (.int (2 : Int32)), .unset, .unset, .unset]) (S' := [(.int (1 : Int32))]) rfl ?_
 refine Home.go (fun _ => XS.ifYes X0.here hx rfl (pc0 := 1) (pc' := 15) rfl (hb hby d17_1) rfl ((if0 _ _).trans (feq (by decide)).2) (by decide) (by decide)) ?_
 refine Home.run X0 hx hby sg17_15_1 (pc' := 17) (L' := #[.val (.ref o0), .val (.int (1 : Int32)), .val (.int (0 : Int32)), .val (.ref o3), .val (.int (0 : Int32)), .val (.int (2 : Int32)), .unset, .unset, .unset]) (S' := [(.int (0 : Int32))]) rfl ?_
 refine Home.go (fun _ => XS.ifNo X0.here hx rfl (hb hby d17_17) rfl ((if0 _ _).trans (flt (by decide)).1)) ?_
 refine Home.run X0 hx hby sg17_20_1 (pc' := 21) (L' := #[.val (.ref o0), .val (.int (1 : Int32)), .val (.int (0 : Int32)), .val (.ref o3), .val (.int (0 : Int32)), .val (.int (2 : Int32)), .unset, .unset, .unset]) (S' := [(.int (0 : Int32))]) rfl ?_
 refine Home.go (fun _ => XS.ifNo X0.here hx rfl (hb hby d17_21) rfl ((if0 _ _).trans (flt (by decide)).1)) ?_
 refine Home.run X0 hx hby sg17_24_3 (pc' := 27) (L' := #[.val (.ref o0), .val (.int (1 : Int32)), .val (.int (0 : Int32)), .val (.ref o3), .val (.int (0 : Int32)), .val (.int (2 : Int32)), .unset, .unset, .unset]) (S' := [(.ref o0), (.long (0 : Int64))]) rfl ?_
 refine Home.st (own_pure (own_virtual X0 hx hZ hown (own_w72 hw) (own_w73 hw) (notFace_of_selects (args := #[]) (mvT hZ (own_w75 hw))) (own_w75 hw) (own_w74 hw) (own_w13 hw) (own_w76 hw) (by decide) (rm15_3 l Z a0 hw [] o0 p3 k_p3 u1 u2 sv_COMPACT_STRINGS h0 n0 O0 F_value_o0 V_p3 E_o0 S_COMPACT_STRINGS F_coder_o0 hCS) e0 E_o0 rfl (by rw [hml]; rfl) (argsL := []) (rest := [(.long (0 : Int64))]) (lenOf own_pd13 rfl) rfl rfl (W := 2) (by exact hW0) (by decide) (by decide) (hb hby d17_27) (by decide) (by decide))) fun T1 X1 e1 => ?_
 show Home T1 (mkF m 30 #[.val (.ref o0), .val (.int (1 : Int32)), .val (.int (0 : Int32)), .val (.ref o3), .val (.int (0 : Int32)), .val (.int (2 : Int32)), .unset, .unset, .unset] [(.int (2 : Int32)), (.long (0 : Int64))])
 refine Home.run X1 hx hby sg17_30_5 (pc' := 36) (L' := #[.val (.ref o0), .val (.int (1 : Int32)), .val (.int (0 : Int32)), .val (.ref o3), .val (.int (0 : Int32)), .val (.int (2 : Int32)), .unset, .unset, .unset]) (S' := [(.int (0 : Int32))]) rfl ?_
 refine Home.go (fun _ => XS.ifNo X1.here hx rfl (hb hby d17_36) rfl ((if0 _ _).trans (flt (by decide)).2.2.1)) ?_
 refine Home.run X1 hx hby sg17_39_3 (pc' := 43) (L' := #[.val (.ref o0), .val (.int (1 : Int32)), .val (.int (0 : Int32)), .val (.ref o3), .val (.int (0 : Int32)), .val (.int (2 : Int32)), .unset, .unset, .unset]) (S' := [(.ref o3), (.long (0 : Int64))]) rfl ?_
 refine Home.st (own_pure (own_virtual X1 hx hZ hown (own_w72 hw) (own_w73 hw) (notFace_of_selects (args := #[]) (mvT hZ (own_w75 hw))) (own_w75 hw) (own_w74 hw) (own_w13 hw) (own_w76 hw) (by decide) (rm15_3 l Z a0 hw [] o3 p4 k_p4 u3 u4 sv_COMPACT_STRINGS h0 n0 O0 F_value_o3 V_p4 E_o3 S_COMPACT_STRINGS F_coder_o3 hCS) e1 E_o3 rfl (by rw [hml]; rfl) (argsL := []) (rest := [(.long (0 : Int64))]) (lenOf own_pd13 rfl) rfl rfl (W := 2) (by exact hW0) (by decide) (by decide) (hb hby d17_43) (by decide) (by decide))) fun T2 X2 e2 => ?_
 refine Home.run X2 hx hby sg17_46_5 (pc' := 52) (L' := #[.val (.ref o0), .val (.int (1 : Int32)), .val (.int (0 : Int32)), .val (.ref o3), .val (.int (0 : Int32)), .val (.int (2 : Int32)), .unset, .unset, .unset]) (S' := [(.int (0 : Int32))]) rfl ?_
 refine Home.go (fun _ => XS.ifYes X2.here hx rfl (pc0 := 52) (pc' := 57) rfl (hb hby d17_52) rfl ((if0 _ _).trans (flt (by decide)).2.2.2) (by decide) (by decide)) ?_
 refine Home.run X2 hx hby sg17_57_1 (pc' := 58) (L' := #[.val (.ref o0), .val (.int (1 : Int32)), .val (.int (0 : Int32)), .val (.ref o3), .val (.int (0 : Int32)), .val (.int (2 : Int32)), .unset, .unset, .unset]) (S' := [(.ref o0)]) rfl ?_
 refine Home.st (getF X2 hx hZ hown (host := "") (Or.inl (own_w30 hw)) Via.refl e2 F_value_o0 rfl rfl (hb hby d17_58)) fun T3 X3 e3 => ?_
 show Home T3 (mkF m 61 #[.val (.ref o0), .val (.int (1 : Int32)), .val (.int (0 : Int32)), .val (.ref o3), .val (.int (0 : Int32)), .val (.int (2 : Int32)), .unset, .unset, .unset] [(.ref p3)])
 refine Home.run X3 hx hby sg17_61_2 (pc' := 64) (L' := #[.val (.ref o0), .val (.int (1 : Int32)), .val (.int (0 : Int32)), .val (.ref o3), .val (.int (0 : Int32)), .val (.int (2 : Int32)), .val (.ref p3), .unset, .unset]) (S' := [(.ref o3)]) rfl ?_
 refine Home.st (getF X3 hx hZ hown (host := "") (Or.inl (own_w30 hw)) Via.refl e3 F_value_o3 rfl rfl (hb hby d17_64)) fun T4 X4 e4 => ?_
 refine Home.run X4 hx hby sg17_67_2 (pc' := 70) (L' := #[.val (.ref o0), .val (.int (1 : Int32)), .val (.int (0 : Int32)), .val (.ref o3), .val (.int (0 : Int32)), .val (.int (2 : Int32)), .val (.ref p3), .val (.ref p4), .unset]) (S' := [(.ref o0)]) rfl ?_
 refine Home.st (own_pure (own_virtual X4 hx hZ hown (own_w77 hw) (own_w78 hw) (notFace_of_selects (args := #[]) (mvT hZ (own_w80 hw))) (own_w80 hw) (own_w79 hw) (own_w13 hw) (own_w81 hw) (by decide) (rm16_0 l Z a0 hw [] o0 sv_COMPACT_STRINGS h0 n0 O0 S_COMPACT_STRINGS hCS F_coder_o0) e4 E_o0 rfl (by rw [hml]; rfl) (argsL := []) (rest := []) (lenOf own_pd12 rfl) rfl rfl (W := 0) (by exact hW0) (by decide) (by decide) (hb hby d17_70) (by decide) (by decide))) fun T5 X5 e5 => ?_
 refine Home.run X5 hx hby sg17_73_3 (pc' := 78) (L' := #[.val (.ref o0), .val (.int (1 : Int32)), .val (.int (0 : Int32)), .val (.ref o3), .val (.int (0 : Int32)), .val (.int (2 : Int32)), .val (.ref p3), .val (.ref p4), .val (.int (0 : Int32))]) (S' := [(.ref o3), (.int (0 : Int32))]) rfl ?_
 refine Home.st (own_pure (own_virtual X5 hx hZ hown (own_w77 hw) (own_w78 hw) (notFace_of_selects (args := #[]) (mvT hZ (own_w80 hw))) (own_w80 hw) (own_w79 hw) (own_w13 hw) (own_w81 hw) (by decide) (rm16_0 l Z a0 hw [] o3 sv_COMPACT_STRINGS h0 n0 O0 S_COMPACT_STRINGS hCS F_coder_o3) e5 E_o3 rfl (by rw [hml]; rfl) (argsL := []) (rest := [(.int (0 : Int32))]) (lenOf own_pd12 rfl) rfl rfl (W := 1) (by exact hW0) (by decide) (by decide) (hb hby d17_78) (by decide) (by decide))) fun T6 X6 e6 => ?_
 refine Home.go (fun _ => XS.icmpNo X6.here hx rfl (hb hby d17_81) rfl (teq (by decide)).2) ?_
 refine Home.run X6 hx hby sg17_84_1 (pc' := 86) (L' := #[.val (.ref o0), .val (.int (1 : Int32)), .val (.int (0 : Int32)), .val (.ref o3), .val (.int (0 : Int32)), .val (.int (2 : Int32)), .val (.ref p3), .val (.ref p4), .val (.int (0 : Int32))]) (S' := [(.int (0 : Int32))]) rfl ?_
 refine Home.go (fun _ => XS.ifNo X6.here hx rfl (hb hby d17_86) rfl ((if0 _ _).trans (teq (by decide)).2)) ?_
 refine Home.run X6 hx hby sg17_89_5 (pc' := 98) (L' := #[.val (.ref o0), .val (.int (1 : Int32)), .val (.int (0 : Int32)), .val (.ref o3), .val (.int (0 : Int32)), .val (.int (2 : Int32)), .val (.ref p3), .val (.ref p4), .val (.int (0 : Int32))]) (S' := [(.int (2 : Int32)), (.int (0 : Int32)), (.ref p4), (.int (0 : Int32)), (.ref p3)]) rfl ?_
 refine Home.st (own_pure (own_static X6 hx hZ hown (own_w87 hw) (own_w88 hw) (own_w89 hw) (own_w90 hw) (by decide) (rm18_2 l Z a0 hw [] p3 p4 k_p3 u1 u2 k_p4 u3 u4 h0 n0 O0 V_p3 V_p4) e6 rfl (by rw [hml]; rfl) (argsL := [(.ref p3), (.int (0 : Int32)), (.ref p4), (.int (0 : Int32)), (.int (2 : Int32))]) (rest := []) (lenOf own_pd14 rfl) rfl rfl (W := 0) (by exact hW0) (by decide) (by decide) (hb hby d17_98) (by decide) (by decide))) fun T7 X7 e7 => ?_
 show Home T7 (mkF m 101 #[.val (.ref o0), .val (.int (1 : Int32)), .val (.int (0 : Int32)), .val (.ref o3), .val (.int (0 : Int32)), .val (.int (2 : Int32)), .val (.ref p3), .val (.ref p4), .val (.int (0 : Int32))] [(.int (f_rm18_2 u1 u2 u3 u4))])
 obtain ⟨r8, hr8⟩ : ∃ z, z = (f_rm18_2 u1 u2 u3 u4) := ⟨_, rfl⟩
 rw [← hr8]
 have br8 : ¬ r8 < (0 : Int32) ∧ ¬ (1 : Int32) < r8 := by rw [hr8]; exact f_rm18_2_bnd u1 u2 u3 u4
 refine Home.run X7 hx hby sg17_101_1 (pc' := 116) (L' := #[.val (.ref o0), .val (.int (1 : Int32)), .val (.int (0 : Int32)), .val (.ref o3), .val (.int (0 : Int32)), .val (.int (2 : Int32)), .val (.ref p3), .val (.ref p4), .val (.int (0 : Int32))]) (S' := [(.int r8)]) rfl ?_
 subst hr8
 exact Home.retN X7 hx hlk (t := .boolean) hret (by simp) (hb hby d17_116) ⟨congrArg some (congrArg Value.int (by first | rfl | exact nar_i2c _ | exact nar_i2b _ | exact nar_bool_id br8 (by decide +kernel) (by decide +kernel))), rfl, e7⟩ (by decide) (by decide)
theorem rm14_3 (l : Launch) (Z : State) (a0 : Array Value) (hw : HW a0 Z) (ws : List Jvm.Cond) (o0 o1 p4 : Addr) (k_p4 : ClassId) (u3 u4 sv_COMPACT_STRINGS : Int32) (p3 : Addr) (k_p3 : ClassId) (u1 u2 : Int32) (h0 : Heap) (n0 : Nat) (O0 : Old Z n0 h0) (E_o0 : Exa Z h0 o0 "java/lang/String") (E_o1 : Exa Z h0 o1 "java/lang/String") (ne_o0_o1 : o0 ≠ o1) (F_value_o1 : Fld Z h0 o1 "java/lang/String" "value" "[B" (.ref p4)) (V_p4 : Arv Z h0 p4 k_p4 .byte (2 : Int32) [(.int u3), (.int u4)] (.int (0 : Int32))) (S_COMPACT_STRINGS : Sta Z Z.heap "java/lang/String" "COMPACT_STRINGS" "Z" (.int sv_COMPACT_STRINGS)) (F_coder_o1 : Fld Z h0 o1 "java/lang/String" "coder" "B" (.int (0 : Int32))) (hCS : ¬ (sv_COMPACT_STRINGS = (0 : Int32))) (F_value_o0 : Fld Z h0 o0 "java/lang/String" "value" "[B" (.ref p3)) (V_p3 : Arv Z h0 p3 k_p3 .byte (2 : Int32) [(.int u1), (.int u2)] (.int (0 : Int32))) (F_coder_o0 : Fld Z h0 o0 "java/lang/String" "coder" "B" (.int (0 : Int32))) :
    Con l Z (⟨"java/lang/String", "equalsIgnoreCase", "(Ljava/lang/String;)Z"⟩ : MethodName) jdk_42_method_70_code 2 (some .boolean) ws ({ frames := 3, cells := 0, slots := 0, locals := 53 } : Room) #[(.ref o0), (.ref o1)] h0 (Pur (some (.int (f_rm14_3 u3 u4 u1 u2))) h0) := by
 refine own_body (plainFor_of_name own_pn1) (fun m => ef_rm14_3 m o0 o1) ?_
 intro p e s m below meth c s₁ hx hby hlk hml hret hZ hown hnm X0 e0
 have N0 := Fr.nil n0
 refine Home.run X0 hx hby sg14_0_2 (pc' := 2) (L' := #[.val (.ref o0), .val (.ref o1)]) (S' := [(.ref o1), (.ref o0)]) rfl ?_
 refine Home.go (fun _ => Jvm.RoadKit.acmp X0 hx rfl rfl rfl (pc0 := 2) (pc' := 9) (same := false) rfl (hb hby d14_2) rfl (decide_eq_false fun q => ne_o0_o1 (Value.ref.inj q)) (by decide) (by decide)) ?_
 show Home s₁ (mkF m 9 #[.val (.ref o0), .val (.ref o1)] [])
 refine Home.run X0 hx hby sg14_9_1 (pc' := 10) (L' := #[.val (.ref o0), .val (.ref o1)]) (S' := [(.ref o1)]) rfl ?_
 refine Home.go (fun _ => XS.ifnullNo X0.here hx rfl (hb hby d14_10) rfl) ?_
 show Home s₁ (mkF m 13 #[.val (.ref o0), .val (.ref o1)] [])
 refine Home.run X0 hx hby sg14_13_1 (pc' := 14) (L' := #[.val (.ref o0), .val (.ref o1)]) (S' := [(.ref o1)]) rfl ?_
 refine Home.st (own_pure (own_virtual X0 hx hZ hown (own_w72 hw) (own_w73 hw) (notFace_of_selects (args := #[]) (mvT hZ (own_w75 hw))) (own_w75 hw) (own_w74 hw) (own_w13 hw) (own_w76 hw) (by decide) (rm15_3 l Z a0 hw [] o1 p4 k_p4 u3 u4 sv_COMPACT_STRINGS h0 n0 O0 F_value_o1 V_p4 E_o1 S_COMPACT_STRINGS F_coder_o1 hCS) e0 E_o1 rfl (by rw [hml]; rfl) (argsL := []) (rest := []) (lenOf own_pd13 rfl) rfl rfl (W := 0) (by exact hW0) (by decide) (by decide) (hb hby d14_14) (by decide) (by decide))) fun T1 X1 e1 => ?_
 refine Home.run X1 hx hby sg14_17_1 (pc' := 18) (L' := #[.val (.ref o0), .val (.ref o1)]) (S' := [(.ref o0), (.int (2 : Int32))]) rfl ?_
 refine Home.st (own_pure (own_virtual X1 hx hZ hown (own_w72 hw) (own_w73 hw) (notFace_of_selects (args := #[]) (mvT hZ (own_w75 hw))) (own_w75 hw) (own_w74 hw) (own_w13 hw) (own_w76 hw) (by decide) (rm15_3 l Z a0 hw [] o0 p3 k_p3 u1 u2 sv_COMPACT_STRINGS h0 n0 O0 F_value_o0 V_p3 E_o0 S_COMPACT_STRINGS F_coder_o0 hCS) e1 E_o0 rfl (by rw [hml]; rfl) (argsL := []) (rest := [(.int (2 : Int32))]) (lenOf own_pd13 rfl) rfl rfl (W := 1) (by exact hW0) (by decide) (by decide) (hb hby d14_18) (by decide) (by decide))) fun T2 X2 e2 => ?_
 refine Home.go (fun _ => XS.icmpNo X2.here hx rfl (hb hby d14_21) rfl (teq (by decide)).2) ?_
 refine Home.run X2 hx hby sg14_24_6 (pc' := 30) (L' := #[.val (.ref o0), .val (.ref o1)]) (S' := [(.ref o0), (.int (0 : Int32)), (.ref o1), (.int (0 : Int32)), (.int (1 : Int32)), (.ref o0)]) rfl ?_
 refine Home.st (own_pure (own_virtual X2 hx hZ hown (own_w72 hw) (own_w73 hw) (notFace_of_selects (args := #[]) (mvT hZ (own_w75 hw))) (own_w75 hw) (own_w74 hw) (own_w13 hw) (own_w76 hw) (by decide) (rm15_3 l Z a0 hw [] o0 p3 k_p3 u1 u2 sv_COMPACT_STRINGS h0 n0 O0 F_value_o0 V_p3 E_o0 S_COMPACT_STRINGS F_coder_o0 hCS) e2 E_o0 rfl (by rw [hml]; rfl) (argsL := []) (rest := [(.int (0 : Int32)), (.ref o1), (.int (0 : Int32)), (.int (1 : Int32)), (.ref o0)]) (lenOf own_pd13 rfl) rfl rfl (W := 5) (by exact hW0) (by decide) (by decide) (hb hby d14_30) (by decide) (by decide))) fun T3 X3 e3 => ?_
 refine Home.st (own_pure (own_virtual X3 hx hZ hown (own_w82 hw) (own_w83 hw) (notFace_of_selects (args := #[]) (mvT hZ (own_w85 hw))) (own_w85 hw) (own_w84 hw) (own_w13 hw) (own_w86 hw) (by decide) (rm17_2 l Z a0 hw [] o0 o1 p3 k_p3 u1 u2 sv_COMPACT_STRINGS p4 k_p4 u3 u4 h0 n0 O0 E_o0 F_value_o0 V_p3 S_COMPACT_STRINGS F_coder_o0 hCS E_o1 F_value_o1 V_p4 F_coder_o1) e3 E_o0 rfl (by rw [hml]; rfl) (argsL := [(.int (1 : Int32)), (.int (0 : Int32)), (.ref o1), (.int (0 : Int32)), (.int (2 : Int32))]) (rest := []) (lenOf own_pd15 rfl) rfl rfl (W := 0) (by exact hW0) (by decide) (by decide) (hb hby d14_33) (by decide) (by decide))) fun T4 X4 e4 => ?_
 show Home T4 (mkF m 36 #[.val (.ref o0), .val (.ref o1)] [(.int (f_rm18_2 u1 u2 u3 u4))])
 suffices J7 : ∀ {T : State} (X : Stand p l e ({ frames := 3, cells := 0, slots := 0, locals := 53 } : Room) s m #[(.ref o0), (.ref o1)] below meth c T [] 0 0) (eT : T.heap = h0) (v8 : Int32) (hv8 : v8 = (if (f_rm18_2 u1 u2 u3 u4) = (0 : Int32) then (0 : Int32) else (1 : Int32))), @Home p e below _ T (mkF m 44 #[.val (.ref o0), .val (.ref o1)] [(.int v8)]) by
  by_cases c5 : (f_rm18_2 u1 u2 u3 u4) = (0 : Int32)
  ·
   refine Home.go (fun _ => XS.ifYes X4.here hx rfl (pc0 := 36) (pc' := 43) rfl (hb hby d14_36) rfl ((if0 _ _).trans (teq c5).1) (by decide) (by decide)) ?_
   have bd6 : ¬ (f_rm18_2 u1 u2 u3 u4) < (0 : Int32) ∧ ¬ (0 : Int32) < (f_rm18_2 u1 u2 u3 u4) := ⟨(bnd_eql c5), (bnd_eqr c5)⟩
   refine Home.run X4 hx hby sg14_43_1 (pc' := 44) (L' := #[.val (.ref o0), .val (.ref o1)]) (S' := [(.int (0 : Int32))]) rfl ?_
   exact J7 X4 e4 _ (by simp only [if_pos c5])
  ·
   refine Home.go (fun _ => XS.ifNo X4.here hx rfl (hb hby d14_36) rfl ((if0 _ _).trans (feq c5).1)) ?_
   refine Home.run X4 hx hby sg14_39_2 (pc' := 44) (L' := #[.val (.ref o0), .val (.ref o1)]) (S' := [(.int (1 : Int32))]) rfl ?_
   exact J7 X4 e4 _ (by simp only [if_neg c5])
 intro TJ7 XJ7 eJ7 v8 hv8
 have bv8 : ¬ v8 < (0 : Int32) ∧ ¬ (1 : Int32) < v8 := by rw [hv8]; exact (bnd_ite (bnd_mono (bnd_lit (0 : Int32)) (by decide +kernel) (by decide +kernel)) (bnd_mono (bnd_lit (1 : Int32)) (by decide +kernel) (by decide +kernel)))
 show Home TJ7 (mkF m 44 #[.val (.ref o0), .val (.ref o1)] [(.int v8)])
 exact Home.retN XJ7 hx hlk (t := .boolean) hret (by simp) (hb hby d14_44) ⟨congrArg some (congrArg Value.int (by subst hv8; first | rfl | (simp only [f_rm14_3, nar_bool_id bv8 (by decide +kernel) (by decide +kernel), nar_i2c, nar_i2b] <;> rfl) | (simp [f_rm14_3, nar_bool_id bv8 (by decide +kernel) (by decide +kernel)]; done))), rfl, eJ7⟩ (by decide) (by decide)
theorem f_rm14_3_bnd (u3 : Int32) (u4 : Int32) (u1 : Int32) (u2 : Int32) : ¬ (f_rm14_3 u3 u4 u1 u2) < (0 : Int32) ∧ ¬ (1 : Int32) < (f_rm14_3 u3 u4 u1 u2) := by unfold f_rm14_3; (repeat' split) <;> first | exact bnd_mono (bnd_lit (0 : Int32)) (by decide +kernel) (by decide +kernel) | exact bnd_mono (bnd_lit (1 : Int32)) (by decide +kernel) (by decide +kernel)
theorem rm15_4 (l : Launch) (Z : State) (a0 : Array Value) (hw : HW a0 Z) (ws : List Jvm.Cond) (o0 p2 : Addr) (k_p2 : ClassId) (u1 u2 u3 sv_COMPACT_STRINGS : Int32) (h0 : Heap) (n0 : Nat) (O0 : Old Z n0 h0) (F_value_o0 : Fld Z h0 o0 "java/lang/String" "value" "[B" (.ref p2)) (V_p2 : Arv Z h0 p2 k_p2 .byte (3 : Int32) [(.int u1), (.int u2), (.int u3)] (.int (0 : Int32))) (E_o0 : Exa Z h0 o0 "java/lang/String") (S_COMPACT_STRINGS : Sta Z Z.heap "java/lang/String" "COMPACT_STRINGS" "Z" (.int sv_COMPACT_STRINGS)) (F_coder_o0 : Fld Z h0 o0 "java/lang/String" "coder" "B" (.int (0 : Int32))) (hCS : ¬ (sv_COMPACT_STRINGS = (0 : Int32))) :
    Con l Z (⟨"java/lang/String", "length", "()I"⟩ : MethodName) jdk_42_method_54_code 1 (some .int) ws ({ frames := 1, cells := 0, slots := 0, locals := 13 } : Room) #[(.ref o0)] h0 (Pur (some (.int (3 : Int32))) h0) := by
 refine own_body (plainFor_of_name own_pn1) (fun m => ef_rm15_4 m o0) ?_
 intro p e s m below meth c s₁ hx hby hlk hml hret hZ hown hnm X0 e0
 have N0 := Fr.nil n0
 refine Home.run X0 hx hby sg15_0_1 (pc' := 1) (L' := #[.val (.ref o0)]) (S' := [(.ref o0)]) rfl ?_
 refine Home.st (getF X0 hx hZ hown (host := "") (Or.inl (own_w30 hw)) Via.refl e0 F_value_o0 rfl rfl (hb hby d15_1)) fun T1 X1 e1 => ?_
 obtain ⟨cl2, Ar2, q2, S2, M2, H2, G2⟩ := id V_p2
 refine Home.go (own_alen X1 hx hZ e1 Ar2 S2 M2 rfl rfl (hb hby d15_4)) ?_
 refine Home.run X1 hx hby sg15_5_1 (pc' := 6) (L' := #[.val (.ref o0)]) (S' := [(.ref o0), (.int (3 : Int32))]) rfl ?_
 refine Home.st (own_pure (own_virtual X1 hx hZ hown (own_w77 hw) (own_w78 hw) (notFace_of_selects (args := #[]) (mvT hZ (own_w80 hw))) (own_w80 hw) (own_w79 hw) (own_w13 hw) (own_w81 hw) (by decide) (rm16_0 l Z a0 hw [] o0 sv_COMPACT_STRINGS h0 n0 O0 S_COMPACT_STRINGS hCS F_coder_o0) e1 E_o0 rfl (by rw [hml]; rfl) (argsL := []) (rest := [(.int (3 : Int32))]) (lenOf own_pd12 rfl) rfl rfl (W := 1) (by exact hW0) (by decide) (by decide) (hb hby d15_6) (by decide) (by decide))) fun T3 X3 e3 => ?_
 refine Home.run X3 hx hby sg15_9_1 (pc' := 10) (L' := #[.val (.ref o0)]) (S' := [(.int (3 : Int32))]) rfl ?_
 exact Home.retI X3 hx hlk hret (hb hby d15_10) ⟨rfl, rfl, e3⟩ (by decide) (by decide)
theorem rm18_3 (l : Launch) (Z : State) (a0 : Array Value) (hw : HW a0 Z) (ws : List Jvm.Cond) (o0 o2 : Addr) (k_o0 : ClassId) (u1 u2 u3 : Int32) (k_o2 : ClassId) (u4 u5 u6 : Int32) (h0 : Heap) (n0 : Nat) (O0 : Old Z n0 h0) (V_o0 : Arv Z h0 o0 k_o0 .byte (3 : Int32) [(.int u1), (.int u2), (.int u3)] (.int (0 : Int32))) (V_o2 : Arv Z h0 o2 k_o2 .byte (3 : Int32) [(.int u4), (.int u5), (.int u6)] (.int (0 : Int32))) :
    Con l Z (⟨"java/lang/StringLatin1", "regionMatchesCI", "([BI[BII)Z"⟩ : MethodName) jdk_43_method_30_code 8 (some .boolean) ws ({ frames := 1, cells := 0, slots := 0, locals := 14 } : Room) #[(.ref o0), (.int (0 : Int32)), (.ref o2), (.int (0 : Int32)), (.int (3 : Int32))] h0 (Pur (some (.int (f_rm18_3 u1 u2 u3 u4 u5 u6))) h0) := by
 refine own_body (plainFor_of_name own_pn5) (fun m => ef_rm18_3 m o0 (0 : Int32) o2 (3 : Int32)) ?_
 intro p e s m below meth c s₁ hx hby hlk hml hret hZ hown hnm X0 e0
 have N0 := Fr.nil n0
 refine Home.run X0 hx hby sg18_0_6 (pc' := 9) (L' := #[.val (.ref o0), .val (.int (0 : Int32)), .val (.ref o2), .val (.int (0 : Int32)), .val (.int (3 : Int32)), .val (.int (3 : Int32)), .unset, .unset]) (S' := [(.int (3 : Int32)), (.int (0 : Int32))]) rfl ?_
 refine Home.go (fun _ => XS.icmpNo X0.here hx rfl (hb hby d18_9) rfl (tlt (by decide)).2.1) ?_
 refine Home.run X0 hx hby sg18_12_3 (pc' := 17) (L' := #[.val (.ref o0), .val (.int (1 : Int32)), .val (.ref o2), .val (.int (0 : Int32)), .val (.int (3 : Int32)), .val (.int (3 : Int32)), .unset, .unset]) (S' := [(.int (0 : Int32)), (.ref o0)]) rfl ?_
 obtain ⟨cl1, Ar1, q1, S1, M1, H1, G1⟩ := id V_o0
 have ib1 : ¬ ((0 : Int32) < 0 ∨ cl1.slots.size ≤ ((0 : Int32)).toNatClampNeg) := inb_of S1 ⟨by decide, by decide⟩
 refine Home.go (X0.baloadBytes hx (j := (0 : Int32)) (v := (.int u1)) (by rw [e0]; exact Ar1.1) (State.isArrayOf_alike hZ.alike Ar1.2.1) Ar1.2.2 ib1 (Has.at H1 ib1 rfl) rfl rfl (hb hby d18_17)) ?_
 refine Home.run X0 hx hby sg18_18_4 (pc' := 25) (L' := #[.val (.ref o0), .val (.int (1 : Int32)), .val (.ref o2), .val (.int (1 : Int32)), .val (.int (3 : Int32)), .val (.int (3 : Int32)), .val (.int u1), .unset]) (S' := [(.int (0 : Int32)), (.ref o2)]) rfl ?_
 obtain ⟨cl2, Ar2, q2, S2, M2, H2, G2⟩ := id V_o2
 have ib2 : ¬ ((0 : Int32) < 0 ∨ cl2.slots.size ≤ ((0 : Int32)).toNatClampNeg) := inb_of S2 ⟨by decide, by decide⟩
 refine Home.go (X0.baloadBytes hx (j := (0 : Int32)) (v := (.int u4)) (by rw [e0]; exact Ar2.1) (State.isArrayOf_alike hZ.alike Ar2.2.1) Ar2.2.2 ib2 (Has.at H2 ib2 rfl) rfl rfl (hb hby d18_25)) ?_
 show Home s₁ (mkF m 26 #[.val (.ref o0), .val (.int (1 : Int32)), .val (.ref o2), .val (.int (1 : Int32)), .val (.int (3 : Int32)), .val (.int (3 : Int32)), .val (.int u1), .unset] [(.int u4)])
 refine Home.run X0 hx hby sg18_26_3 (pc' := 32) (L' := #[.val (.ref o0), .val (.int (1 : Int32)), .val (.ref o2), .val (.int (1 : Int32)), .val (.int (3 : Int32)), .val (.int (3 : Int32)), .val (.int u1), .val (.int u4)]) (S' := [(.int u4), (.int u1)]) rfl ?_
 refine Home.st (own_pure (own_static X0 hx hZ hown (own_w94 hw) (own_w95 hw) (own_w96 hw) (own_w97 hw) (by decide) (rm20_0 l Z a0 hw [] u1 u4 h0 n0 O0) e0 rfl (by rw [hml]; rfl) (argsL := [(.int u1), (.int u4)]) (rest := []) (lenOf own_pd16 rfl) rfl rfl (W := 0) (by exact hW0) (by decide) (by decide) (hb hby d18_32) (by decide) (by decide))) fun T3 X3 e3 => ?_
 show Home T3 (mkF m 35 #[.val (.ref o0), .val (.int (1 : Int32)), .val (.ref o2), .val (.int (1 : Int32)), .val (.int (3 : Int32)), .val (.int (3 : Int32)), .val (.int u1), .val (.int u4)] [(.int (f_rm20_0 u1 u4))])
 obtain ⟨r4, hr4⟩ : ∃ z, z = (f_rm20_0 u1 u4) := ⟨_, rfl⟩
 rw [← hr4]
 have br4 : ¬ r4 < (0 : Int32) ∧ ¬ (1 : Int32) < r4 := by rw [hr4]; exact f_rm20_0_bnd u1 u4
 by_cases c5 : r4 = (0 : Int32)
 ·
  refine Home.go (fun _ => XS.ifYes X3.here hx rfl (pc0 := 35) (pc' := 41) rfl (hb hby d18_35) rfl ((if0 _ _).trans (teq c5).1) (by decide) (by decide)) ?_
  have bd6 : ¬ r4 < (0 : Int32) ∧ ¬ (0 : Int32) < r4 := ⟨(bnd_eql c5), (bnd_eqr c5)⟩
  have fx7 : r4 = (0 : Int32) := bnd_fix bd6
  try rw [fx7]
  show Home T3 (mkF m 41 #[.val (.ref o0), .val (.int (1 : Int32)), .val (.ref o2), .val (.int (1 : Int32)), .val (.int (3 : Int32)), .val (.int (3 : Int32)), .val (.int u1), .val (.int u4)] [])
  refine Home.run X3 hx hby sg18_41_1 (pc' := 42) (L' := #[.val (.ref o0), .val (.int (1 : Int32)), .val (.ref o2), .val (.int (1 : Int32)), .val (.int (3 : Int32)), .val (.int (3 : Int32)), .val (.int u1), .val (.int u4)]) (S' := [(.int (0 : Int32))]) rfl ?_
  exact Home.retN X3 hx hlk (t := .boolean) hret (by simp) (hb hby d18_42) ⟨congrArg some (congrArg Value.int (by subst hr4; first | rfl | (simp only [f_rm18_3, if_pos c5, nar_i2c, nar_i2b] <;> rfl) | (simp [f_rm18_3, if_pos c5]; done))), rfl, e3⟩ (by decide) (by decide)
 ·
  refine Home.go (fun _ => XS.ifNo X3.here hx rfl (hb hby d18_35) rfl ((if0 _ _).trans (feq c5).1)) ?_
  have bd8 : ¬ r4 < (1 : Int32) ∧ ¬ (1 : Int32) < r4 := ⟨(bnd_nel br4.1 c5 (by decide +kernel)), br4.2⟩
  have fx9 : r4 = (1 : Int32) := bnd_fix bd8
  try rw [fx9]
  show Home T3 (mkF m 38 #[.val (.ref o0), .val (.int (1 : Int32)), .val (.ref o2), .val (.int (1 : Int32)), .val (.int (3 : Int32)), .val (.int (3 : Int32)), .val (.int u1), .val (.int u4)] [])
  refine Home.run X3 hx hby sg18_38_3 (pc' := 9) (L' := #[.val (.ref o0), .val (.int (1 : Int32)), .val (.ref o2), .val (.int (1 : Int32)), .val (.int (3 : Int32)), .val (.int (3 : Int32)), .val (.int u1), .val (.int u4)]) (S' := [(.int (3 : Int32)), (.int (1 : Int32))]) rfl ?_
  refine Home.go (fun _ => XS.icmpNo X3.here hx rfl (hb hby d18_9) rfl (tlt (by decide)).2.1) ?_
  refine Home.run X3 hx hby sg18_12_3 (pc' := 17) (L' := #[.val (.ref o0), .val (.int (2 : Int32)), .val (.ref o2), .val (.int (1 : Int32)), .val (.int (3 : Int32)), .val (.int (3 : Int32)), .val (.int u1), .val (.int u4)]) (S' := [(.int (1 : Int32)), (.ref o0)]) rfl ?_
  obtain ⟨cl10, Ar10, q10, S10, M10, H10, G10⟩ := id V_o0
  have ib10 : ¬ ((1 : Int32) < 0 ∨ cl10.slots.size ≤ ((1 : Int32)).toNatClampNeg) := inb_of S10 ⟨by decide, by decide⟩
  refine Home.go (X3.baloadBytes hx (j := (1 : Int32)) (v := (.int u2)) (by rw [e3]; exact Ar10.1) (State.isArrayOf_alike hZ.alike Ar10.2.1) Ar10.2.2 ib10 (Has.at H10 ib10 rfl) rfl rfl (hb hby d18_17)) ?_
  refine Home.run X3 hx hby sg18_18_4 (pc' := 25) (L' := #[.val (.ref o0), .val (.int (2 : Int32)), .val (.ref o2), .val (.int (2 : Int32)), .val (.int (3 : Int32)), .val (.int (3 : Int32)), .val (.int u2), .val (.int u4)]) (S' := [(.int (1 : Int32)), (.ref o2)]) rfl ?_
  obtain ⟨cl11, Ar11, q11, S11, M11, H11, G11⟩ := id V_o2
  have ib11 : ¬ ((1 : Int32) < 0 ∨ cl11.slots.size ≤ ((1 : Int32)).toNatClampNeg) := inb_of S11 ⟨by decide, by decide⟩
  refine Home.go (X3.baloadBytes hx (j := (1 : Int32)) (v := (.int u5)) (by rw [e3]; exact Ar11.1) (State.isArrayOf_alike hZ.alike Ar11.2.1) Ar11.2.2 ib11 (Has.at H11 ib11 rfl) rfl rfl (hb hby d18_25)) ?_
  show Home T3 (mkF m 26 #[.val (.ref o0), .val (.int (2 : Int32)), .val (.ref o2), .val (.int (2 : Int32)), .val (.int (3 : Int32)), .val (.int (3 : Int32)), .val (.int u2), .val (.int u4)] [(.int u5)])
  refine Home.run X3 hx hby sg18_26_3 (pc' := 32) (L' := #[.val (.ref o0), .val (.int (2 : Int32)), .val (.ref o2), .val (.int (2 : Int32)), .val (.int (3 : Int32)), .val (.int (3 : Int32)), .val (.int u2), .val (.int u5)]) (S' := [(.int u5), (.int u2)]) rfl ?_
  refine Home.st (own_pure (own_static X3 hx hZ hown (own_w94 hw) (own_w95 hw) (own_w96 hw) (own_w97 hw) (by decide) (rm20_0 l Z a0 hw [] u2 u5 h0 n0 O0) e3 rfl (by rw [hml]; rfl) (argsL := [(.int u2), (.int u5)]) (rest := []) (lenOf own_pd16 rfl) rfl rfl (W := 0) (by exact hW0) (by decide) (by decide) (hb hby d18_32) (by decide) (by decide))) fun T12 X12 e12 => ?_
  show Home T12 (mkF m 35 #[.val (.ref o0), .val (.int (2 : Int32)), .val (.ref o2), .val (.int (2 : Int32)), .val (.int (3 : Int32)), .val (.int (3 : Int32)), .val (.int u2), .val (.int u5)] [(.int (f_rm20_0 u2 u5))])
  obtain ⟨r13, hr13⟩ : ∃ z, z = (f_rm20_0 u2 u5) := ⟨_, rfl⟩
  rw [← hr13]
  have br13 : ¬ r13 < (0 : Int32) ∧ ¬ (1 : Int32) < r13 := by rw [hr13]; exact f_rm20_0_bnd u2 u5
  by_cases c14 : r13 = (0 : Int32)
  ·
   refine Home.go (fun _ => XS.ifYes X12.here hx rfl (pc0 := 35) (pc' := 41) rfl (hb hby d18_35) rfl ((if0 _ _).trans (teq c14).1) (by decide) (by decide)) ?_
   have bd15 : ¬ r13 < (0 : Int32) ∧ ¬ (0 : Int32) < r13 := ⟨(bnd_eql c14), (bnd_eqr c14)⟩
   have fx16 : r13 = (0 : Int32) := bnd_fix bd15
   try rw [fx16]
   show Home T12 (mkF m 41 #[.val (.ref o0), .val (.int (2 : Int32)), .val (.ref o2), .val (.int (2 : Int32)), .val (.int (3 : Int32)), .val (.int (3 : Int32)), .val (.int u2), .val (.int u5)] [])
   refine Home.run X12 hx hby sg18_41_1 (pc' := 42) (L' := #[.val (.ref o0), .val (.int (2 : Int32)), .val (.ref o2), .val (.int (2 : Int32)), .val (.int (3 : Int32)), .val (.int (3 : Int32)), .val (.int u2), .val (.int u5)]) (S' := [(.int (0 : Int32))]) rfl ?_
   exact Home.retN X12 hx hlk (t := .boolean) hret (by simp) (hb hby d18_42) ⟨congrArg some (congrArg Value.int (by subst hr13; subst hr4; first | rfl | (simp only [f_rm18_3, if_neg c5, if_pos c14, nar_i2c, nar_i2b] <;> rfl) | (simp [f_rm18_3, if_neg c5, if_pos c14]; done))), rfl, e12⟩ (by decide) (by decide)
  ·
   refine Home.go (fun _ => XS.ifNo X12.here hx rfl (hb hby d18_35) rfl ((if0 _ _).trans (feq c14).1)) ?_
   have bd17 : ¬ r13 < (1 : Int32) ∧ ¬ (1 : Int32) < r13 := ⟨(bnd_nel br13.1 c14 (by decide +kernel)), br13.2⟩
   have fx18 : r13 = (1 : Int32) := bnd_fix bd17
   try rw [fx18]
   show Home T12 (mkF m 38 #[.val (.ref o0), .val (.int (2 : Int32)), .val (.ref o2), .val (.int (2 : Int32)), .val (.int (3 : Int32)), .val (.int (3 : Int32)), .val (.int u2), .val (.int u5)] [])
   refine Home.run X12 hx hby sg18_38_3 (pc' := 9) (L' := #[.val (.ref o0), .val (.int (2 : Int32)), .val (.ref o2), .val (.int (2 : Int32)), .val (.int (3 : Int32)), .val (.int (3 : Int32)), .val (.int u2), .val (.int u5)]) (S' := [(.int (3 : Int32)), (.int (2 : Int32))]) rfl ?_
   refine Home.go (fun _ => XS.icmpNo X12.here hx rfl (hb hby d18_9) rfl (tlt (by decide)).2.1) ?_
   refine Home.run X12 hx hby sg18_12_3 (pc' := 17) (L' := #[.val (.ref o0), .val (.int (3 : Int32)), .val (.ref o2), .val (.int (2 : Int32)), .val (.int (3 : Int32)), .val (.int (3 : Int32)), .val (.int u2), .val (.int u5)]) (S' := [(.int (2 : Int32)), (.ref o0)]) rfl ?_
   obtain ⟨cl19, Ar19, q19, S19, M19, H19, G19⟩ := id V_o0
   have ib19 : ¬ ((2 : Int32) < 0 ∨ cl19.slots.size ≤ ((2 : Int32)).toNatClampNeg) := inb_of S19 ⟨by decide, by decide⟩
   refine Home.go (X12.baloadBytes hx (j := (2 : Int32)) (v := (.int u3)) (by rw [e12]; exact Ar19.1) (State.isArrayOf_alike hZ.alike Ar19.2.1) Ar19.2.2 ib19 (Has.at H19 ib19 rfl) rfl rfl (hb hby d18_17)) ?_
   refine Home.run X12 hx hby sg18_18_4 (pc' := 25) (L' := #[.val (.ref o0), .val (.int (3 : Int32)), .val (.ref o2), .val (.int (3 : Int32)), .val (.int (3 : Int32)), .val (.int (3 : Int32)), .val (.int u3), .val (.int u5)]) (S' := [(.int (2 : Int32)), (.ref o2)]) rfl ?_
   obtain ⟨cl20, Ar20, q20, S20, M20, H20, G20⟩ := id V_o2
   have ib20 : ¬ ((2 : Int32) < 0 ∨ cl20.slots.size ≤ ((2 : Int32)).toNatClampNeg) := inb_of S20 ⟨by decide, by decide⟩
   refine Home.go (X12.baloadBytes hx (j := (2 : Int32)) (v := (.int u6)) (by rw [e12]; exact Ar20.1) (State.isArrayOf_alike hZ.alike Ar20.2.1) Ar20.2.2 ib20 (Has.at H20 ib20 rfl) rfl rfl (hb hby d18_25)) ?_
   show Home T12 (mkF m 26 #[.val (.ref o0), .val (.int (3 : Int32)), .val (.ref o2), .val (.int (3 : Int32)), .val (.int (3 : Int32)), .val (.int (3 : Int32)), .val (.int u3), .val (.int u5)] [(.int u6)])
   refine Home.run X12 hx hby sg18_26_3 (pc' := 32) (L' := #[.val (.ref o0), .val (.int (3 : Int32)), .val (.ref o2), .val (.int (3 : Int32)), .val (.int (3 : Int32)), .val (.int (3 : Int32)), .val (.int u3), .val (.int u6)]) (S' := [(.int u6), (.int u3)]) rfl ?_
   refine Home.st (own_pure (own_static X12 hx hZ hown (own_w94 hw) (own_w95 hw) (own_w96 hw) (own_w97 hw) (by decide) (rm20_0 l Z a0 hw [] u3 u6 h0 n0 O0) e12 rfl (by rw [hml]; rfl) (argsL := [(.int u3), (.int u6)]) (rest := []) (lenOf own_pd16 rfl) rfl rfl (W := 0) (by exact hW0) (by decide) (by decide) (hb hby d18_32) (by decide) (by decide))) fun T21 X21 e21 => ?_
   show Home T21 (mkF m 35 #[.val (.ref o0), .val (.int (3 : Int32)), .val (.ref o2), .val (.int (3 : Int32)), .val (.int (3 : Int32)), .val (.int (3 : Int32)), .val (.int u3), .val (.int u6)] [(.int (f_rm20_0 u3 u6))])
   obtain ⟨r22, hr22⟩ : ∃ z, z = (f_rm20_0 u3 u6) := ⟨_, rfl⟩
   rw [← hr22]
   have br22 : ¬ r22 < (0 : Int32) ∧ ¬ (1 : Int32) < r22 := by rw [hr22]; exact f_rm20_0_bnd u3 u6
   by_cases c23 : r22 = (0 : Int32)
   ·
    refine Home.go (fun _ => XS.ifYes X21.here hx rfl (pc0 := 35) (pc' := 41) rfl (hb hby d18_35) rfl ((if0 _ _).trans (teq c23).1) (by decide) (by decide)) ?_
    have bd24 : ¬ r22 < (0 : Int32) ∧ ¬ (0 : Int32) < r22 := ⟨(bnd_eql c23), (bnd_eqr c23)⟩
    have fx25 : r22 = (0 : Int32) := bnd_fix bd24
    try rw [fx25]
    show Home T21 (mkF m 41 #[.val (.ref o0), .val (.int (3 : Int32)), .val (.ref o2), .val (.int (3 : Int32)), .val (.int (3 : Int32)), .val (.int (3 : Int32)), .val (.int u3), .val (.int u6)] [])
    refine Home.run X21 hx hby sg18_41_1 (pc' := 42) (L' := #[.val (.ref o0), .val (.int (3 : Int32)), .val (.ref o2), .val (.int (3 : Int32)), .val (.int (3 : Int32)), .val (.int (3 : Int32)), .val (.int u3), .val (.int u6)]) (S' := [(.int (0 : Int32))]) rfl ?_
    exact Home.retN X21 hx hlk (t := .boolean) hret (by simp) (hb hby d18_42) ⟨congrArg some (congrArg Value.int (by subst hr22; subst hr13; subst hr4; first | rfl | (simp only [f_rm18_3, if_neg c5, if_neg c14, if_pos c23, nar_i2c, nar_i2b] <;> rfl) | (simp [f_rm18_3, if_neg c5, if_neg c14, if_pos c23]; done))), rfl, e21⟩ (by decide) (by decide)
   ·
    refine Home.go (fun _ => XS.ifNo X21.here hx rfl (hb hby d18_35) rfl ((if0 _ _).trans (feq c23).1)) ?_
    have bd26 : ¬ r22 < (1 : Int32) ∧ ¬ (1 : Int32) < r22 := ⟨(bnd_nel br22.1 c23 (by decide +kernel)), br22.2⟩
    have fx27 : r22 = (1 : Int32) := bnd_fix bd26
    try rw [fx27]
    show Home T21 (mkF m 38 #[.val (.ref o0), .val (.int (3 : Int32)), .val (.ref o2), .val (.int (3 : Int32)), .val (.int (3 : Int32)), .val (.int (3 : Int32)), .val (.int u3), .val (.int u6)] [])
    refine Home.run X21 hx hby sg18_38_3 (pc' := 9) (L' := #[.val (.ref o0), .val (.int (3 : Int32)), .val (.ref o2), .val (.int (3 : Int32)), .val (.int (3 : Int32)), .val (.int (3 : Int32)), .val (.int u3), .val (.int u6)]) (S' := [(.int (3 : Int32)), (.int (3 : Int32))]) rfl ?_
    refine Home.go (fun _ => XS.icmpYes X21.here hx rfl (pc0 := 9) (pc' := 43) rfl (hb hby d18_9) rfl (flt (by decide)).2.1 (by decide) (by decide)) ?_
    refine Home.run X21 hx hby sg18_43_1 (pc' := 44) (L' := #[.val (.ref o0), .val (.int (3 : Int32)), .val (.ref o2), .val (.int (3 : Int32)), .val (.int (3 : Int32)), .val (.int (3 : Int32)), .val (.int u3), .val (.int u6)]) (S' := [(.int (1 : Int32))]) rfl ?_
    exact Home.retN X21 hx hlk (t := .boolean) hret (by simp) (hb hby d18_44) ⟨congrArg some (congrArg Value.int (by subst hr22; subst hr13; subst hr4; first | rfl | (simp only [f_rm18_3, if_neg c5, if_neg c14, if_neg c23, nar_i2c, nar_i2b] <;> rfl) | (simp [f_rm18_3, if_neg c5, if_neg c14, if_neg c23]; done))), rfl, e21⟩ (by decide) (by decide)
theorem f_rm18_3_bnd (u1 : Int32) (u2 : Int32) (u3 : Int32) (u4 : Int32) (u5 : Int32) (u6 : Int32) : ¬ (f_rm18_3 u1 u2 u3 u4 u5 u6) < (0 : Int32) ∧ ¬ (1 : Int32) < (f_rm18_3 u1 u2 u3 u4 u5 u6) := by unfold f_rm18_3; (repeat' split) <;> first | exact bnd_mono (bnd_lit (0 : Int32)) (by decide +kernel) (by decide +kernel) | exact bnd_mono (bnd_lit (1 : Int32)) (by decide +kernel) (by decide +kernel)
theorem rm17_3 (l : Launch) (Z : State) (a0 : Array Value) (hw : HW a0 Z) (ws : List Jvm.Cond) (o0 o3 p3 : Addr) (k_p3 : ClassId) (u1 u2 u3 sv_COMPACT_STRINGS : Int32) (p4 : Addr) (k_p4 : ClassId) (u4 u5 u6 : Int32) (h0 : Heap) (n0 : Nat) (O0 : Old Z n0 h0) (E_o0 : Exa Z h0 o0 "java/lang/String") (F_value_o0 : Fld Z h0 o0 "java/lang/String" "value" "[B" (.ref p3)) (V_p3 : Arv Z h0 p3 k_p3 .byte (3 : Int32) [(.int u1), (.int u2), (.int u3)] (.int (0 : Int32))) (S_COMPACT_STRINGS : Sta Z Z.heap "java/lang/String" "COMPACT_STRINGS" "Z" (.int sv_COMPACT_STRINGS)) (F_coder_o0 : Fld Z h0 o0 "java/lang/String" "coder" "B" (.int (0 : Int32))) (hCS : ¬ (sv_COMPACT_STRINGS = (0 : Int32))) (E_o3 : Exa Z h0 o3 "java/lang/String") (F_value_o3 : Fld Z h0 o3 "java/lang/String" "value" "[B" (.ref p4)) (V_p4 : Arv Z h0 p4 k_p4 .byte (3 : Int32) [(.int u4), (.int u5), (.int u6)] (.int (0 : Int32))) (F_coder_o3 : Fld Z h0 o3 "java/lang/String" "coder" "B" (.int (0 : Int32))) :
    Con l Z (⟨"java/lang/String", "regionMatches", "(ZILjava/lang/String;II)Z"⟩ : MethodName) jdk_42_method_74_code 9 (some .boolean) ws ({ frames := 2, cells := 0, slots := 0, locals := 33 } : Room) #[(.ref o0), (.int (1 : Int32)), (.int (0 : Int32)), (.ref o3), (.int (0 : Int32)), (.int (3 : Int32))] h0 (Pur (some (.int (f_rm18_3 u1 u2 u3 u4 u5 u6))) h0) := by
 refine own_body (plainFor_of_name own_pn1) (fun m => ef_rm17_3 m o0 (1 : Int32) (0 : Int32) o3 (3 : Int32)) ?_
 intro p e s m below meth c s₁ hx hby hlk hml hret hZ hown hnm X0 e0
 have N0 := Fr.nil n0
 refine Home.run X0 hx hby sg17_0_1 (pc' := 1) (L' := #[.val (.ref o0), .val (.int (1 : Int32)), .val (.int (0 : Int32)), .val (.ref o3), .val (.int (0 : Int32)), .val (.int (3 : Int32)), .unset, .unset, .unset]) (S' := [(.int (1 : Int32))]) rfl ?_
 refine Home.go (fun _ => XS.ifYes X0.here hx rfl (pc0 := 1) (pc' := 15) rfl (hb hby d17_1) rfl ((if0 _ _).trans (feq (by decide)).2) (by decide) (by decide)) ?_
 refine Home.run X0 hx hby sg17_15_1 (pc' := 17) (L' := #[.val (.ref o0), .val (.int (1 : Int32)), .val (.int (0 : Int32)), .val (.ref o3), .val (.int (0 : Int32)), .val (.int (3 : Int32)), .unset, .unset, .unset]) (S' := [(.int (0 : Int32))]) rfl ?_
 refine Home.go (fun _ => XS.ifNo X0.here hx rfl (hb hby d17_17) rfl ((if0 _ _).trans (flt (by decide)).1)) ?_
 refine Home.run X0 hx hby sg17_20_1 (pc' := 21) (L' := #[.val (.ref o0), .val (.int (1 : Int32)), .val (.int (0 : Int32)), .val (.ref o3), .val (.int (0 : Int32)), .val (.int (3 : Int32)), .unset, .unset, .unset]) (S' := [(.int (0 : Int32))]) rfl ?_
 refine Home.go (fun _ => XS.ifNo X0.here hx rfl (hb hby d17_21) rfl ((if0 _ _).trans (flt (by decide)).1)) ?_
 refine Home.run X0 hx hby sg17_24_3 (pc' := 27) (L' := #[.val (.ref o0), .val (.int (1 : Int32)), .val (.int (0 : Int32)), .val (.ref o3), .val (.int (0 : Int32)), .val (.int (3 : Int32)), .unset, .unset, .unset]) (S' := [(.ref o0), (.long (0 : Int64))]) rfl ?_
 refine Home.st (own_pure (own_virtual X0 hx hZ hown (own_w72 hw) (own_w73 hw) (notFace_of_selects (args := #[]) (mvT hZ (own_w75 hw))) (own_w75 hw) (own_w74 hw) (own_w13 hw) (own_w76 hw) (by decide) (rm15_4 l Z a0 hw [] o0 p3 k_p3 u1 u2 u3 sv_COMPACT_STRINGS h0 n0 O0 F_value_o0 V_p3 E_o0 S_COMPACT_STRINGS F_coder_o0 hCS) e0 E_o0 rfl (by rw [hml]; rfl) (argsL := []) (rest := [(.long (0 : Int64))]) (lenOf own_pd13 rfl) rfl rfl (W := 2) (by exact hW0) (by decide) (by decide) (hb hby d17_27) (by decide) (by decide))) fun T1 X1 e1 => ?_
 show Home T1 (mkF m 30 #[.val (.ref o0), .val (.int (1 : Int32)), .val (.int (0 : Int32)), .val (.ref o3), .val (.int (0 : Int32)), .val (.int (3 : Int32)), .unset, .unset, .unset] [(.int (3 : Int32)), (.long (0 : Int64))])
 refine Home.run X1 hx hby sg17_30_5 (pc' := 36) (L' := #[.val (.ref o0), .val (.int (1 : Int32)), .val (.int (0 : Int32)), .val (.ref o3), .val (.int (0 : Int32)), .val (.int (3 : Int32)), .unset, .unset, .unset]) (S' := [(.int (0 : Int32))]) rfl ?_
 refine Home.go (fun _ => XS.ifNo X1.here hx rfl (hb hby d17_36) rfl ((if0 _ _).trans (flt (by decide)).2.2.1)) ?_
 refine Home.run X1 hx hby sg17_39_3 (pc' := 43) (L' := #[.val (.ref o0), .val (.int (1 : Int32)), .val (.int (0 : Int32)), .val (.ref o3), .val (.int (0 : Int32)), .val (.int (3 : Int32)), .unset, .unset, .unset]) (S' := [(.ref o3), (.long (0 : Int64))]) rfl ?_
 refine Home.st (own_pure (own_virtual X1 hx hZ hown (own_w72 hw) (own_w73 hw) (notFace_of_selects (args := #[]) (mvT hZ (own_w75 hw))) (own_w75 hw) (own_w74 hw) (own_w13 hw) (own_w76 hw) (by decide) (rm15_4 l Z a0 hw [] o3 p4 k_p4 u4 u5 u6 sv_COMPACT_STRINGS h0 n0 O0 F_value_o3 V_p4 E_o3 S_COMPACT_STRINGS F_coder_o3 hCS) e1 E_o3 rfl (by rw [hml]; rfl) (argsL := []) (rest := [(.long (0 : Int64))]) (lenOf own_pd13 rfl) rfl rfl (W := 2) (by exact hW0) (by decide) (by decide) (hb hby d17_43) (by decide) (by decide))) fun T2 X2 e2 => ?_
 refine Home.run X2 hx hby sg17_46_5 (pc' := 52) (L' := #[.val (.ref o0), .val (.int (1 : Int32)), .val (.int (0 : Int32)), .val (.ref o3), .val (.int (0 : Int32)), .val (.int (3 : Int32)), .unset, .unset, .unset]) (S' := [(.int (0 : Int32))]) rfl ?_
 refine Home.go (fun _ => XS.ifYes X2.here hx rfl (pc0 := 52) (pc' := 57) rfl (hb hby d17_52) rfl ((if0 _ _).trans (flt (by decide)).2.2.2) (by decide) (by decide)) ?_
 refine Home.run X2 hx hby sg17_57_1 (pc' := 58) (L' := #[.val (.ref o0), .val (.int (1 : Int32)), .val (.int (0 : Int32)), .val (.ref o3), .val (.int (0 : Int32)), .val (.int (3 : Int32)), .unset, .unset, .unset]) (S' := [(.ref o0)]) rfl ?_
 refine Home.st (getF X2 hx hZ hown (host := "") (Or.inl (own_w30 hw)) Via.refl e2 F_value_o0 rfl rfl (hb hby d17_58)) fun T3 X3 e3 => ?_
 show Home T3 (mkF m 61 #[.val (.ref o0), .val (.int (1 : Int32)), .val (.int (0 : Int32)), .val (.ref o3), .val (.int (0 : Int32)), .val (.int (3 : Int32)), .unset, .unset, .unset] [(.ref p3)])
 refine Home.run X3 hx hby sg17_61_2 (pc' := 64) (L' := #[.val (.ref o0), .val (.int (1 : Int32)), .val (.int (0 : Int32)), .val (.ref o3), .val (.int (0 : Int32)), .val (.int (3 : Int32)), .val (.ref p3), .unset, .unset]) (S' := [(.ref o3)]) rfl ?_
 refine Home.st (getF X3 hx hZ hown (host := "") (Or.inl (own_w30 hw)) Via.refl e3 F_value_o3 rfl rfl (hb hby d17_64)) fun T4 X4 e4 => ?_
 refine Home.run X4 hx hby sg17_67_2 (pc' := 70) (L' := #[.val (.ref o0), .val (.int (1 : Int32)), .val (.int (0 : Int32)), .val (.ref o3), .val (.int (0 : Int32)), .val (.int (3 : Int32)), .val (.ref p3), .val (.ref p4), .unset]) (S' := [(.ref o0)]) rfl ?_
 refine Home.st (own_pure (own_virtual X4 hx hZ hown (own_w77 hw) (own_w78 hw) (notFace_of_selects (args := #[]) (mvT hZ (own_w80 hw))) (own_w80 hw) (own_w79 hw) (own_w13 hw) (own_w81 hw) (by decide) (rm16_0 l Z a0 hw [] o0 sv_COMPACT_STRINGS h0 n0 O0 S_COMPACT_STRINGS hCS F_coder_o0) e4 E_o0 rfl (by rw [hml]; rfl) (argsL := []) (rest := []) (lenOf own_pd12 rfl) rfl rfl (W := 0) (by exact hW0) (by decide) (by decide) (hb hby d17_70) (by decide) (by decide))) fun T5 X5 e5 => ?_
 refine Home.run X5 hx hby sg17_73_3 (pc' := 78) (L' := #[.val (.ref o0), .val (.int (1 : Int32)), .val (.int (0 : Int32)), .val (.ref o3), .val (.int (0 : Int32)), .val (.int (3 : Int32)), .val (.ref p3), .val (.ref p4), .val (.int (0 : Int32))]) (S' := [(.ref o3), (.int (0 : Int32))]) rfl ?_
 refine Home.st (own_pure (own_virtual X5 hx hZ hown (own_w77 hw) (own_w78 hw) (notFace_of_selects (args := #[]) (mvT hZ (own_w80 hw))) (own_w80 hw) (own_w79 hw) (own_w13 hw) (own_w81 hw) (by decide) (rm16_0 l Z a0 hw [] o3 sv_COMPACT_STRINGS h0 n0 O0 S_COMPACT_STRINGS hCS F_coder_o3) e5 E_o3 rfl (by rw [hml]; rfl) (argsL := []) (rest := [(.int (0 : Int32))]) (lenOf own_pd12 rfl) rfl rfl (W := 1) (by exact hW0) (by decide) (by decide) (hb hby d17_78) (by decide) (by decide))) fun T6 X6 e6 => ?_
 refine Home.go (fun _ => XS.icmpNo X6.here hx rfl (hb hby d17_81) rfl (teq (by decide)).2) ?_
 refine Home.run X6 hx hby sg17_84_1 (pc' := 86) (L' := #[.val (.ref o0), .val (.int (1 : Int32)), .val (.int (0 : Int32)), .val (.ref o3), .val (.int (0 : Int32)), .val (.int (3 : Int32)), .val (.ref p3), .val (.ref p4), .val (.int (0 : Int32))]) (S' := [(.int (0 : Int32))]) rfl ?_
 refine Home.go (fun _ => XS.ifNo X6.here hx rfl (hb hby d17_86) rfl ((if0 _ _).trans (teq (by decide)).2)) ?_
 refine Home.run X6 hx hby sg17_89_5 (pc' := 98) (L' := #[.val (.ref o0), .val (.int (1 : Int32)), .val (.int (0 : Int32)), .val (.ref o3), .val (.int (0 : Int32)), .val (.int (3 : Int32)), .val (.ref p3), .val (.ref p4), .val (.int (0 : Int32))]) (S' := [(.int (3 : Int32)), (.int (0 : Int32)), (.ref p4), (.int (0 : Int32)), (.ref p3)]) rfl ?_
 refine Home.st (own_pure (own_static X6 hx hZ hown (own_w87 hw) (own_w88 hw) (own_w89 hw) (own_w90 hw) (by decide) (rm18_3 l Z a0 hw [] p3 p4 k_p3 u1 u2 u3 k_p4 u4 u5 u6 h0 n0 O0 V_p3 V_p4) e6 rfl (by rw [hml]; rfl) (argsL := [(.ref p3), (.int (0 : Int32)), (.ref p4), (.int (0 : Int32)), (.int (3 : Int32))]) (rest := []) (lenOf own_pd14 rfl) rfl rfl (W := 0) (by exact hW0) (by decide) (by decide) (hb hby d17_98) (by decide) (by decide))) fun T7 X7 e7 => ?_
 show Home T7 (mkF m 101 #[.val (.ref o0), .val (.int (1 : Int32)), .val (.int (0 : Int32)), .val (.ref o3), .val (.int (0 : Int32)), .val (.int (3 : Int32)), .val (.ref p3), .val (.ref p4), .val (.int (0 : Int32))] [(.int (f_rm18_3 u1 u2 u3 u4 u5 u6))])
 obtain ⟨r8, hr8⟩ : ∃ z, z = (f_rm18_3 u1 u2 u3 u4 u5 u6) := ⟨_, rfl⟩
 rw [← hr8]
 have br8 : ¬ r8 < (0 : Int32) ∧ ¬ (1 : Int32) < r8 := by rw [hr8]; exact f_rm18_3_bnd u1 u2 u3 u4 u5 u6
 refine Home.run X7 hx hby sg17_101_1 (pc' := 116) (L' := #[.val (.ref o0), .val (.int (1 : Int32)), .val (.int (0 : Int32)), .val (.ref o3), .val (.int (0 : Int32)), .val (.int (3 : Int32)), .val (.ref p3), .val (.ref p4), .val (.int (0 : Int32))]) (S' := [(.int r8)]) rfl ?_
 subst hr8
 exact Home.retN X7 hx hlk (t := .boolean) hret (by simp) (hb hby d17_116) ⟨congrArg some (congrArg Value.int (by first | rfl | exact nar_i2c _ | exact nar_i2b _ | exact nar_bool_id br8 (by decide +kernel) (by decide +kernel))), rfl, e7⟩ (by decide) (by decide)
theorem rm14_4 (l : Launch) (Z : State) (a0 : Array Value) (hw : HW a0 Z) (ws : List Jvm.Cond) (o0 o1 p4 : Addr) (k_p4 : ClassId) (u4 u5 u6 sv_COMPACT_STRINGS : Int32) (p3 : Addr) (k_p3 : ClassId) (u1 u2 u3 : Int32) (h0 : Heap) (n0 : Nat) (O0 : Old Z n0 h0) (E_o0 : Exa Z h0 o0 "java/lang/String") (E_o1 : Exa Z h0 o1 "java/lang/String") (ne_o0_o1 : o0 ≠ o1) (F_value_o1 : Fld Z h0 o1 "java/lang/String" "value" "[B" (.ref p4)) (V_p4 : Arv Z h0 p4 k_p4 .byte (3 : Int32) [(.int u4), (.int u5), (.int u6)] (.int (0 : Int32))) (S_COMPACT_STRINGS : Sta Z Z.heap "java/lang/String" "COMPACT_STRINGS" "Z" (.int sv_COMPACT_STRINGS)) (F_coder_o1 : Fld Z h0 o1 "java/lang/String" "coder" "B" (.int (0 : Int32))) (hCS : ¬ (sv_COMPACT_STRINGS = (0 : Int32))) (F_value_o0 : Fld Z h0 o0 "java/lang/String" "value" "[B" (.ref p3)) (V_p3 : Arv Z h0 p3 k_p3 .byte (3 : Int32) [(.int u1), (.int u2), (.int u3)] (.int (0 : Int32))) (F_coder_o0 : Fld Z h0 o0 "java/lang/String" "coder" "B" (.int (0 : Int32))) :
    Con l Z (⟨"java/lang/String", "equalsIgnoreCase", "(Ljava/lang/String;)Z"⟩ : MethodName) jdk_42_method_70_code 2 (some .boolean) ws ({ frames := 3, cells := 0, slots := 0, locals := 53 } : Room) #[(.ref o0), (.ref o1)] h0 (Pur (some (.int (f_rm14_4 u4 u5 u6 u1 u2 u3))) h0) := by
 refine own_body (plainFor_of_name own_pn1) (fun m => ef_rm14_4 m o0 o1) ?_
 intro p e s m below meth c s₁ hx hby hlk hml hret hZ hown hnm X0 e0
 have N0 := Fr.nil n0
 refine Home.run X0 hx hby sg14_0_2 (pc' := 2) (L' := #[.val (.ref o0), .val (.ref o1)]) (S' := [(.ref o1), (.ref o0)]) rfl ?_
 refine Home.go (fun _ => Jvm.RoadKit.acmp X0 hx rfl rfl rfl (pc0 := 2) (pc' := 9) (same := false) rfl (hb hby d14_2) rfl (decide_eq_false fun q => ne_o0_o1 (Value.ref.inj q)) (by decide) (by decide)) ?_
 show Home s₁ (mkF m 9 #[.val (.ref o0), .val (.ref o1)] [])
 refine Home.run X0 hx hby sg14_9_1 (pc' := 10) (L' := #[.val (.ref o0), .val (.ref o1)]) (S' := [(.ref o1)]) rfl ?_
 refine Home.go (fun _ => XS.ifnullNo X0.here hx rfl (hb hby d14_10) rfl) ?_
 show Home s₁ (mkF m 13 #[.val (.ref o0), .val (.ref o1)] [])
 refine Home.run X0 hx hby sg14_13_1 (pc' := 14) (L' := #[.val (.ref o0), .val (.ref o1)]) (S' := [(.ref o1)]) rfl ?_
 refine Home.st (own_pure (own_virtual X0 hx hZ hown (own_w72 hw) (own_w73 hw) (notFace_of_selects (args := #[]) (mvT hZ (own_w75 hw))) (own_w75 hw) (own_w74 hw) (own_w13 hw) (own_w76 hw) (by decide) (rm15_4 l Z a0 hw [] o1 p4 k_p4 u4 u5 u6 sv_COMPACT_STRINGS h0 n0 O0 F_value_o1 V_p4 E_o1 S_COMPACT_STRINGS F_coder_o1 hCS) e0 E_o1 rfl (by rw [hml]; rfl) (argsL := []) (rest := []) (lenOf own_pd13 rfl) rfl rfl (W := 0) (by exact hW0) (by decide) (by decide) (hb hby d14_14) (by decide) (by decide))) fun T1 X1 e1 => ?_
 refine Home.run X1 hx hby sg14_17_1 (pc' := 18) (L' := #[.val (.ref o0), .val (.ref o1)]) (S' := [(.ref o0), (.int (3 : Int32))]) rfl ?_
 refine Home.st (own_pure (own_virtual X1 hx hZ hown (own_w72 hw) (own_w73 hw) (notFace_of_selects (args := #[]) (mvT hZ (own_w75 hw))) (own_w75 hw) (own_w74 hw) (own_w13 hw) (own_w76 hw) (by decide) (rm15_4 l Z a0 hw [] o0 p3 k_p3 u1 u2 u3 sv_COMPACT_STRINGS h0 n0 O0 F_value_o0 V_p3 E_o0 S_COMPACT_STRINGS F_coder_o0 hCS) e1 E_o0 rfl (by rw [hml]; rfl) (argsL := []) (rest := [(.int (3 : Int32))]) (lenOf own_pd13 rfl) rfl rfl (W := 1) (by exact hW0) (by decide) (by decide) (hb hby d14_18) (by decide) (by decide))) fun T2 X2 e2 => ?_
 refine Home.go (fun _ => XS.icmpNo X2.here hx rfl (hb hby d14_21) rfl (teq (by decide)).2) ?_
 refine Home.run X2 hx hby sg14_24_6 (pc' := 30) (L' := #[.val (.ref o0), .val (.ref o1)]) (S' := [(.ref o0), (.int (0 : Int32)), (.ref o1), (.int (0 : Int32)), (.int (1 : Int32)), (.ref o0)]) rfl ?_
 refine Home.st (own_pure (own_virtual X2 hx hZ hown (own_w72 hw) (own_w73 hw) (notFace_of_selects (args := #[]) (mvT hZ (own_w75 hw))) (own_w75 hw) (own_w74 hw) (own_w13 hw) (own_w76 hw) (by decide) (rm15_4 l Z a0 hw [] o0 p3 k_p3 u1 u2 u3 sv_COMPACT_STRINGS h0 n0 O0 F_value_o0 V_p3 E_o0 S_COMPACT_STRINGS F_coder_o0 hCS) e2 E_o0 rfl (by rw [hml]; rfl) (argsL := []) (rest := [(.int (0 : Int32)), (.ref o1), (.int (0 : Int32)), (.int (1 : Int32)), (.ref o0)]) (lenOf own_pd13 rfl) rfl rfl (W := 5) (by exact hW0) (by decide) (by decide) (hb hby d14_30) (by decide) (by decide))) fun T3 X3 e3 => ?_
 refine Home.st (own_pure (own_virtual X3 hx hZ hown (own_w82 hw) (own_w83 hw) (notFace_of_selects (args := #[]) (mvT hZ (own_w85 hw))) (own_w85 hw) (own_w84 hw) (own_w13 hw) (own_w86 hw) (by decide) (rm17_3 l Z a0 hw [] o0 o1 p3 k_p3 u1 u2 u3 sv_COMPACT_STRINGS p4 k_p4 u4 u5 u6 h0 n0 O0 E_o0 F_value_o0 V_p3 S_COMPACT_STRINGS F_coder_o0 hCS E_o1 F_value_o1 V_p4 F_coder_o1) e3 E_o0 rfl (by rw [hml]; rfl) (argsL := [(.int (1 : Int32)), (.int (0 : Int32)), (.ref o1), (.int (0 : Int32)), (.int (3 : Int32))]) (rest := []) (lenOf own_pd15 rfl) rfl rfl (W := 0) (by exact hW0) (by decide) (by decide) (hb hby d14_33) (by decide) (by decide))) fun T4 X4 e4 => ?_
 show Home T4 (mkF m 36 #[.val (.ref o0), .val (.ref o1)] [(.int (f_rm18_3 u1 u2 u3 u4 u5 u6))])
 suffices J7 : ∀ {T : State} (X : Stand p l e ({ frames := 3, cells := 0, slots := 0, locals := 53 } : Room) s m #[(.ref o0), (.ref o1)] below meth c T [] 0 0) (eT : T.heap = h0) (v8 : Int32) (hv8 : v8 = (if (f_rm18_3 u1 u2 u3 u4 u5 u6) = (0 : Int32) then (0 : Int32) else (1 : Int32))), @Home p e below _ T (mkF m 44 #[.val (.ref o0), .val (.ref o1)] [(.int v8)]) by
  by_cases c5 : (f_rm18_3 u1 u2 u3 u4 u5 u6) = (0 : Int32)
  ·
   refine Home.go (fun _ => XS.ifYes X4.here hx rfl (pc0 := 36) (pc' := 43) rfl (hb hby d14_36) rfl ((if0 _ _).trans (teq c5).1) (by decide) (by decide)) ?_
   have bd6 : ¬ (f_rm18_3 u1 u2 u3 u4 u5 u6) < (0 : Int32) ∧ ¬ (0 : Int32) < (f_rm18_3 u1 u2 u3 u4 u5 u6) := ⟨(bnd_eql c5), (bnd_eqr c5)⟩
   refine Home.run X4 hx hby sg14_43_1 (pc' := 44) (L' := #[.val (.ref o0), .val (.ref o1)]) (S' := [(.int (0 : Int32))]) rfl ?_
   exact J7 X4 e4 _ (by simp only [if_pos c5])
  ·
   refine Home.go (fun _ => XS.ifNo X4.here hx rfl (hb hby d14_36) rfl ((if0 _ _).trans (feq c5).1)) ?_
   refine Home.run X4 hx hby sg14_39_2 (pc' := 44) (L' := #[.val (.ref o0), .val (.ref o1)]) (S' := [(.int (1 : Int32))]) rfl ?_
   exact J7 X4 e4 _ (by simp only [if_neg c5])
 intro TJ7 XJ7 eJ7 v8 hv8
 have bv8 : ¬ v8 < (0 : Int32) ∧ ¬ (1 : Int32) < v8 := by rw [hv8]; exact (bnd_ite (bnd_mono (bnd_lit (0 : Int32)) (by decide +kernel) (by decide +kernel)) (bnd_mono (bnd_lit (1 : Int32)) (by decide +kernel) (by decide +kernel)))
 show Home TJ7 (mkF m 44 #[.val (.ref o0), .val (.ref o1)] [(.int v8)])
 exact Home.retN XJ7 hx hlk (t := .boolean) hret (by simp) (hb hby d14_44) ⟨congrArg some (congrArg Value.int (by subst hv8; first | rfl | (simp only [f_rm14_4, nar_bool_id bv8 (by decide +kernel) (by decide +kernel), nar_i2c, nar_i2b] <;> rfl) | (simp [f_rm14_4, nar_bool_id bv8 (by decide +kernel) (by decide +kernel)]; done))), rfl, eJ7⟩ (by decide) (by decide)
theorem f_rm14_4_bnd (u4 : Int32) (u5 : Int32) (u6 : Int32) (u1 : Int32) (u2 : Int32) (u3 : Int32) : ¬ (f_rm14_4 u4 u5 u6 u1 u2 u3) < (0 : Int32) ∧ ¬ (1 : Int32) < (f_rm14_4 u4 u5 u6 u1 u2 u3) := by unfold f_rm14_4; (repeat' split) <;> first | exact bnd_mono (bnd_lit (0 : Int32)) (by decide +kernel) (by decide +kernel) | exact bnd_mono (bnd_lit (1 : Int32)) (by decide +kernel) (by decide +kernel)
theorem rm14_S (l : Launch) (Z : State) (a0 : Array Value) (hw : HW a0 Z) (ws : List Jvm.Cond) (o0 o1 p1 : Addr) (k1 : ClassId) (l1 : List Int32) (p2 : Addr) (k2 : ClassId) (l2 : List Int32) (sv_COMPACT_STRINGS : Int32) (h0 : Heap) (n0 : Nat) (O0 : Old Z n0 h0) (E_o0 : Exa Z h0 o0 "java/lang/String") (F_coder_o0 : Fld Z h0 o0 "java/lang/String" "coder" "B" (.int (0 : Int32))) (F_value_o0 : Fld Z h0 o0 "java/lang/String" "value" "[B" (.ref p1)) (V_p1 : Arv Z h0 p1 k1 .byte (own_n l1) (List.map Value.int l1) (.int (0 : Int32))) (sh_l1 : l1.length ≤ 3) (E_o1 : Exa Z h0 o1 "java/lang/String") (F_coder_o1 : Fld Z h0 o1 "java/lang/String" "coder" "B" (.int (0 : Int32))) (F_value_o1 : Fld Z h0 o1 "java/lang/String" "value" "[B" (.ref p2)) (V_p2 : Arv Z h0 p2 k2 .byte (own_n l2) (List.map Value.int l2) (.int (0 : Int32))) (sh_l2 : l2.length ≤ 3) (ne_o0_o1 : o0 ≠ o1) (S_COMPACT_STRINGS : Sta Z Z.heap "java/lang/String" "COMPACT_STRINGS" "Z" (.int sv_COMPACT_STRINGS)) (hCS : ¬ (sv_COMPACT_STRINGS = (0 : Int32))) :
    Con l Z (⟨"java/lang/String", "equalsIgnoreCase", "(Ljava/lang/String;)Z"⟩ : MethodName) jdk_42_method_70_code 2 (some .boolean) ws ({ frames := 3, cells := 0, slots := 0, locals := 53 } : Room) #[(.ref o0), (.ref o1)] h0 (Pur (some (.int (own_eqic l1 l2))) h0) := by
  rcases l1 with _ | ⟨a1, _ | ⟨a2, _ | ⟨a3, _ | ⟨a4, a_t⟩⟩⟩⟩
  · rcases l2 with _ | ⟨b1, _ | ⟨b2, _ | ⟨b3, _ | ⟨b4, b_t⟩⟩⟩⟩
    · have e : own_eqic ([] : List Int32) ([] : List Int32) = (1 : Int32) := by rfl
      rw [e]
      exact rm14_0 l Z a0 hw ws o0 o1 p2 k2 sv_COMPACT_STRINGS p1 k1 h0 n0 O0 E_o0 E_o1 ne_o0_o1 F_value_o1 V_p2 S_COMPACT_STRINGS F_coder_o1 hCS F_value_o0 V_p1 F_coder_o0
    · have e : own_eqic ([] : List Int32) ([b1] : List Int32) = (0 : Int32) := by simp [own_eqic]
      rw [e]
      exact rm14_1 l Z a0 hw ws o0 o1 p1 k1 (0 : Int32) [] p2 k2 (1 : Int32) [(.int b1)] sv_COMPACT_STRINGS h0 n0 O0 V_p1 V_p2 (by decide) E_o0 E_o1 ne_o0_o1 F_value_o1 S_COMPACT_STRINGS F_coder_o1 hCS F_value_o0 F_coder_o0
    · have e : own_eqic ([] : List Int32) ([b1, b2] : List Int32) = (0 : Int32) := by simp [own_eqic]
      rw [e]
      exact rm14_1 l Z a0 hw ws o0 o1 p1 k1 (0 : Int32) [] p2 k2 (2 : Int32) [(.int b1), (.int b2)] sv_COMPACT_STRINGS h0 n0 O0 V_p1 V_p2 (by decide) E_o0 E_o1 ne_o0_o1 F_value_o1 S_COMPACT_STRINGS F_coder_o1 hCS F_value_o0 F_coder_o0
    · have e : own_eqic ([] : List Int32) ([b1, b2, b3] : List Int32) = (0 : Int32) := by simp [own_eqic]
      rw [e]
      exact rm14_1 l Z a0 hw ws o0 o1 p1 k1 (0 : Int32) [] p2 k2 (3 : Int32) [(.int b1), (.int b2), (.int b3)] sv_COMPACT_STRINGS h0 n0 O0 V_p1 V_p2 (by decide) E_o0 E_o1 ne_o0_o1 F_value_o1 S_COMPACT_STRINGS F_coder_o1 hCS F_value_o0 F_coder_o0
    · exact absurd sh_l2 (by simp only [List.length_cons]; omega)
  · rcases l2 with _ | ⟨b1, _ | ⟨b2, _ | ⟨b3, _ | ⟨b4, b_t⟩⟩⟩⟩
    · have e : own_eqic ([a1] : List Int32) ([] : List Int32) = (0 : Int32) := by simp [own_eqic]
      rw [e]
      exact rm14_1 l Z a0 hw ws o0 o1 p1 k1 (1 : Int32) [(.int a1)] p2 k2 (0 : Int32) [] sv_COMPACT_STRINGS h0 n0 O0 V_p1 V_p2 (by decide) E_o0 E_o1 ne_o0_o1 F_value_o1 S_COMPACT_STRINGS F_coder_o1 hCS F_value_o0 F_coder_o0
    · have e : own_eqic ([a1] : List Int32) ([b1] : List Int32) = (f_rm14_2 b1 a1) := by by_cases q1 : own_ic a1 b1 = 0 <;> simp [own_eqic, f_rm14_2, f_rm18_1, show f_rm20_0 a1 b1 = own_ic a1 b1 from rfl, q1]
      rw [e]
      exact rm14_2 l Z a0 hw ws o0 o1 p2 k2 b1 sv_COMPACT_STRINGS p1 k1 a1 h0 n0 O0 E_o0 E_o1 ne_o0_o1 F_value_o1 V_p2 S_COMPACT_STRINGS F_coder_o1 hCS F_value_o0 V_p1 F_coder_o0
    · have e : own_eqic ([a1] : List Int32) ([b1, b2] : List Int32) = (0 : Int32) := by simp [own_eqic]
      rw [e]
      exact rm14_1 l Z a0 hw ws o0 o1 p1 k1 (1 : Int32) [(.int a1)] p2 k2 (2 : Int32) [(.int b1), (.int b2)] sv_COMPACT_STRINGS h0 n0 O0 V_p1 V_p2 (by decide) E_o0 E_o1 ne_o0_o1 F_value_o1 S_COMPACT_STRINGS F_coder_o1 hCS F_value_o0 F_coder_o0
    · have e : own_eqic ([a1] : List Int32) ([b1, b2, b3] : List Int32) = (0 : Int32) := by simp [own_eqic]
      rw [e]
      exact rm14_1 l Z a0 hw ws o0 o1 p1 k1 (1 : Int32) [(.int a1)] p2 k2 (3 : Int32) [(.int b1), (.int b2), (.int b3)] sv_COMPACT_STRINGS h0 n0 O0 V_p1 V_p2 (by decide) E_o0 E_o1 ne_o0_o1 F_value_o1 S_COMPACT_STRINGS F_coder_o1 hCS F_value_o0 F_coder_o0
    · exact absurd sh_l2 (by simp only [List.length_cons]; omega)
  · rcases l2 with _ | ⟨b1, _ | ⟨b2, _ | ⟨b3, _ | ⟨b4, b_t⟩⟩⟩⟩
    · have e : own_eqic ([a1, a2] : List Int32) ([] : List Int32) = (0 : Int32) := by simp [own_eqic]
      rw [e]
      exact rm14_1 l Z a0 hw ws o0 o1 p1 k1 (2 : Int32) [(.int a1), (.int a2)] p2 k2 (0 : Int32) [] sv_COMPACT_STRINGS h0 n0 O0 V_p1 V_p2 (by decide) E_o0 E_o1 ne_o0_o1 F_value_o1 S_COMPACT_STRINGS F_coder_o1 hCS F_value_o0 F_coder_o0
    · have e : own_eqic ([a1, a2] : List Int32) ([b1] : List Int32) = (0 : Int32) := by simp [own_eqic]
      rw [e]
      exact rm14_1 l Z a0 hw ws o0 o1 p1 k1 (2 : Int32) [(.int a1), (.int a2)] p2 k2 (1 : Int32) [(.int b1)] sv_COMPACT_STRINGS h0 n0 O0 V_p1 V_p2 (by decide) E_o0 E_o1 ne_o0_o1 F_value_o1 S_COMPACT_STRINGS F_coder_o1 hCS F_value_o0 F_coder_o0
    · have e : own_eqic ([a1, a2] : List Int32) ([b1, b2] : List Int32) = (f_rm14_3 b1 b2 a1 a2) := by by_cases q1 : own_ic a1 b1 = 0 <;> by_cases q2 : own_ic a2 b2 = 0 <;> simp [own_eqic, f_rm14_3, f_rm18_2, show f_rm20_0 a1 b1 = own_ic a1 b1 from rfl, q1, show f_rm20_0 a2 b2 = own_ic a2 b2 from rfl, q2]
      rw [e]
      exact rm14_3 l Z a0 hw ws o0 o1 p2 k2 b1 b2 sv_COMPACT_STRINGS p1 k1 a1 a2 h0 n0 O0 E_o0 E_o1 ne_o0_o1 F_value_o1 V_p2 S_COMPACT_STRINGS F_coder_o1 hCS F_value_o0 V_p1 F_coder_o0
    · have e : own_eqic ([a1, a2] : List Int32) ([b1, b2, b3] : List Int32) = (0 : Int32) := by simp [own_eqic]
      rw [e]
      exact rm14_1 l Z a0 hw ws o0 o1 p1 k1 (2 : Int32) [(.int a1), (.int a2)] p2 k2 (3 : Int32) [(.int b1), (.int b2), (.int b3)] sv_COMPACT_STRINGS h0 n0 O0 V_p1 V_p2 (by decide) E_o0 E_o1 ne_o0_o1 F_value_o1 S_COMPACT_STRINGS F_coder_o1 hCS F_value_o0 F_coder_o0
    · exact absurd sh_l2 (by simp only [List.length_cons]; omega)
  · rcases l2 with _ | ⟨b1, _ | ⟨b2, _ | ⟨b3, _ | ⟨b4, b_t⟩⟩⟩⟩
    · have e : own_eqic ([a1, a2, a3] : List Int32) ([] : List Int32) = (0 : Int32) := by simp [own_eqic]
      rw [e]
      exact rm14_1 l Z a0 hw ws o0 o1 p1 k1 (3 : Int32) [(.int a1), (.int a2), (.int a3)] p2 k2 (0 : Int32) [] sv_COMPACT_STRINGS h0 n0 O0 V_p1 V_p2 (by decide) E_o0 E_o1 ne_o0_o1 F_value_o1 S_COMPACT_STRINGS F_coder_o1 hCS F_value_o0 F_coder_o0
    · have e : own_eqic ([a1, a2, a3] : List Int32) ([b1] : List Int32) = (0 : Int32) := by simp [own_eqic]
      rw [e]
      exact rm14_1 l Z a0 hw ws o0 o1 p1 k1 (3 : Int32) [(.int a1), (.int a2), (.int a3)] p2 k2 (1 : Int32) [(.int b1)] sv_COMPACT_STRINGS h0 n0 O0 V_p1 V_p2 (by decide) E_o0 E_o1 ne_o0_o1 F_value_o1 S_COMPACT_STRINGS F_coder_o1 hCS F_value_o0 F_coder_o0
    · have e : own_eqic ([a1, a2, a3] : List Int32) ([b1, b2] : List Int32) = (0 : Int32) := by simp [own_eqic]
      rw [e]
      exact rm14_1 l Z a0 hw ws o0 o1 p1 k1 (3 : Int32) [(.int a1), (.int a2), (.int a3)] p2 k2 (2 : Int32) [(.int b1), (.int b2)] sv_COMPACT_STRINGS h0 n0 O0 V_p1 V_p2 (by decide) E_o0 E_o1 ne_o0_o1 F_value_o1 S_COMPACT_STRINGS F_coder_o1 hCS F_value_o0 F_coder_o0
    · have e : own_eqic ([a1, a2, a3] : List Int32) ([b1, b2, b3] : List Int32) = (f_rm14_4 b1 b2 b3 a1 a2 a3) := by by_cases q1 : own_ic a1 b1 = 0 <;> by_cases q2 : own_ic a2 b2 = 0 <;> by_cases q3 : own_ic a3 b3 = 0 <;> simp [own_eqic, f_rm14_4, f_rm18_3, show f_rm20_0 a1 b1 = own_ic a1 b1 from rfl, q1, show f_rm20_0 a2 b2 = own_ic a2 b2 from rfl, q2, show f_rm20_0 a3 b3 = own_ic a3 b3 from rfl, q3]
      rw [e]
      exact rm14_4 l Z a0 hw ws o0 o1 p2 k2 b1 b2 b3 sv_COMPACT_STRINGS p1 k1 a1 a2 a3 h0 n0 O0 E_o0 E_o1 ne_o0_o1 F_value_o1 V_p2 S_COMPACT_STRINGS F_coder_o1 hCS F_value_o0 V_p1 F_coder_o0
    · exact absurd sh_l2 (by simp only [List.length_cons]; omega)
  · exact absurd sh_l1 (by simp only [List.length_cons]; omega)
theorem rm13_0 (l : Launch) (Z : State) (a0 : Array Value) (hw : HW a0 Z) (ws : List Jvm.Cond) (o0 o1 p3 p5 p7 : Addr) (k_p7 : ClassId) (l_1 : List Int32) (p9 : Addr) (k_p9 : ClassId) (l_3 : List Int32) (sv_COMPACT_STRINGS : Int32) (p4 p6 p8 : Addr) (k_p8 : ClassId) (l_2 : List Int32) (p10 : Addr) (k_p10 : ClassId) (l_4 : List Int32) (h0 : Heap) (n0 : Nat) (O0 : Old Z n0 h0) (F_url_o0 : Fld Z h0 o0 "com/example/invocant/invocant/Canonical" "url" "Ljava/lang/String;" (.ref p3)) (F_url_o1 : Fld Z h0 o1 "com/example/invocant/invocant/Canonical" "url" "Ljava/lang/String;" (.ref p5)) (E_p3 : Exa Z h0 p3 "java/lang/String") (F_coder_p3 : Fld Z h0 p3 "java/lang/String" "coder" "B" (.int (0 : Int32))) (F_value_p3 : Fld Z h0 p3 "java/lang/String" "value" "[B" (.ref p7)) (V_p7 : Arv Z h0 p7 k_p7 .byte (own_n l_1) (List.map Value.int l_1) (.int (0 : Int32))) (E_p5 : Exa Z h0 p5 "java/lang/String") (F_coder_p5 : Fld Z h0 p5 "java/lang/String" "coder" "B" (.int (0 : Int32))) (F_value_p5 : Fld Z h0 p5 "java/lang/String" "value" "[B" (.ref p9)) (V_p9 : Arv Z h0 p9 k_p9 .byte (own_n l_3) (List.map Value.int l_3) (.int (0 : Int32))) (S_COMPACT_STRINGS : Sta Z Z.heap "java/lang/String" "COMPACT_STRINGS" "Z" (.int sv_COMPACT_STRINGS)) (ne_p3_p5 : p3 ≠ p5) (sh_l_1 : l_1.length ≤ 3) (sh_l_3 : l_3.length ≤ 3) (hCS : ¬ (sv_COMPACT_STRINGS = (0 : Int32))) (F_version_o0 : Fld Z h0 o0 "com/example/invocant/invocant/Canonical" "version" "Ljava/lang/String;" (.ref p4)) (F_version_o1 : Fld Z h0 o1 "com/example/invocant/invocant/Canonical" "version" "Ljava/lang/String;" (.ref p6)) (E_p4 : Exa Z h0 p4 "java/lang/String") (F_coder_p4 : Fld Z h0 p4 "java/lang/String" "coder" "B" (.int (0 : Int32))) (F_value_p4 : Fld Z h0 p4 "java/lang/String" "value" "[B" (.ref p8)) (V_p8 : Arv Z h0 p8 k_p8 .byte (own_n l_2) (List.map Value.int l_2) (.int (0 : Int32))) (E_p6 : Exa Z h0 p6 "java/lang/String") (F_coder_p6 : Fld Z h0 p6 "java/lang/String" "coder" "B" (.int (0 : Int32))) (F_value_p6 : Fld Z h0 p6 "java/lang/String" "value" "[B" (.ref p10)) (V_p10 : Arv Z h0 p10 k_p10 .byte (own_n l_4) (List.map Value.int l_4) (.int (0 : Int32))) (ne_p4_p6 : p4 ≠ p6) (sh_l_2 : l_2.length ≤ 3) (sh_l_4 : l_4.length ≤ 3) :
    Con l Z (⟨"com/example/invocant/invocant/Canonical", "matchesIgnoringCase", "(Lcom/example/invocant/invocant/Canonical;)Z"⟩ : MethodName) prog_3_method_4_code 2 (some .boolean) ws ({ frames := 4, cells := 0, slots := 0, locals := 66 } : Room) #[(.ref o0), (.ref o1)] h0 (Pur (some (.int (f_rm13_0 l_1 l_3 l_2 l_4))) h0) := by
 refine own_body (plainFor_of_name own_pn4) (fun m => ef_rm13_0 m o0 o1) ?_
 intro p e s m below meth c s₁ hx hby hlk hml hret hZ hown hnm X0 e0
 have N0 := Fr.nil n0
 refine Home.run X0 hx hby sg13_0_1 (pc' := 1) (L' := #[.val (.ref o0), .val (.ref o1)]) (S' := [(.ref o0)]) rfl ?_
 refine Home.st (getF X0 hx hZ hown (host := "") (Or.inl (own_w55 hw)) Via.refl e0 F_url_o0 rfl rfl (hb hby d13_1)) fun T1 X1 e1 => ?_
 refine Home.run X1 hx hby sg13_4_1 (pc' := 5) (L' := #[.val (.ref o0), .val (.ref o1)]) (S' := [(.ref o1), (.ref p3)]) rfl ?_
 refine Home.st (getF X1 hx hZ hown (host := "") (Or.inl (own_w55 hw)) Via.refl e1 F_url_o1 rfl rfl (hb hby d13_5)) fun T2 X2 e2 => ?_
 refine Home.st (own_pure (own_virtual X2 hx hZ hown (own_w67 hw) (own_w68 hw) (notFace_of_selects (args := #[]) (mvT hZ (own_w70 hw))) (own_w70 hw) (own_w69 hw) (own_w13 hw) (own_w71 hw) (by decide) (rm14_S l Z a0 hw [] p3 p5 p7 k_p7 l_1 p9 k_p9 l_3 sv_COMPACT_STRINGS h0 n0 O0 E_p3 F_coder_p3 F_value_p3 V_p7 (Nat.le_trans (own_len_le sh_l_1).2 (by decide)) E_p5 F_coder_p5 F_value_p5 V_p9 (Nat.le_trans (own_len_le sh_l_3).2 (by decide)) ne_p3_p5 S_COMPACT_STRINGS hCS) e2 E_p3 rfl (by rw [hml]; rfl) (argsL := [(.ref p5)]) (rest := []) (lenOf own_pd17 rfl) rfl rfl (W := 0) (by exact hW0) (by decide) (by decide) (hb hby d13_8) (by decide) (by decide))) fun T3 X3 e3 => ?_
 show Home T3 (mkF m 11 #[.val (.ref o0), .val (.ref o1)] [(.int (own_eqic l_1 l_3))])
 obtain ⟨r4, hr4⟩ : ∃ z, z = (own_eqic l_1 l_3) := ⟨_, rfl⟩
 rw [← hr4]
 have br4 : ¬ r4 < (0 : Int32) ∧ ¬ (1 : Int32) < r4 := by rw [hr4]; exact own_eqic_bnd l_1 l_3
 suffices J16 : ∀ {T : State} (X : Stand p l e ({ frames := 4, cells := 0, slots := 0, locals := 66 } : Room) s m #[(.ref o0), (.ref o1)] below meth c T [] 0 0) (eT : T.heap = h0) (v17 : Int32) (hv17 : v17 = (if r4 = (0 : Int32) then (0 : Int32) else (if (own_eqic l_2 l_4) = (0 : Int32) then (0 : Int32) else (1 : Int32)))), @Home p e below _ T (mkF m 47 #[.val (.ref o0), .val (.ref o1)] [(.int v17)]) by
  by_cases c5 : r4 = (0 : Int32)
  ·
   refine Home.go (fun _ => XS.ifYes X3.here hx rfl (pc0 := 11) (pc' := 46) rfl (hb hby d13_11) rfl ((if0 _ _).trans (teq c5).1) (by decide) (by decide)) ?_
   have bd6 : ¬ r4 < (0 : Int32) ∧ ¬ (0 : Int32) < r4 := ⟨(bnd_eql c5), (bnd_eqr c5)⟩
   refine Home.run X3 hx hby sg13_46_1 (pc' := 47) (L' := #[.val (.ref o0), .val (.ref o1)]) (S' := [(.int (0 : Int32))]) rfl ?_
   exact J16 X3 e3 _ (by simp only [if_pos c5])
  ·
   refine Home.go (fun _ => XS.ifNo X3.here hx rfl (hb hby d13_11) rfl ((if0 _ _).trans (feq c5).1)) ?_
   have bd7 : ¬ r4 < (1 : Int32) ∧ ¬ (1 : Int32) < r4 := ⟨(bnd_nel br4.1 c5 (by decide +kernel)), br4.2⟩
   refine Home.run X3 hx hby sg13_14_1 (pc' := 15) (L' := #[.val (.ref o0), .val (.ref o1)]) (S' := [(.ref o0)]) rfl ?_
   refine Home.st (getF X3 hx hZ hown (host := "") (Or.inl (own_w57 hw)) Via.refl e3 F_version_o0 rfl rfl (hb hby d13_15)) fun T8 X8 e8 => ?_
   refine Home.go (fun _ => XS.ifnullNo X8.here hx rfl (hb hby d13_18) rfl) ?_
   show Home T8 (mkF m 21 #[.val (.ref o0), .val (.ref o1)] [])
   refine Home.run X8 hx hby sg13_21_1 (pc' := 22) (L' := #[.val (.ref o0), .val (.ref o1)]) (S' := [(.ref o1)]) rfl ?_
   refine Home.st (getF X8 hx hZ hown (host := "") (Or.inl (own_w57 hw)) Via.refl e8 F_version_o1 rfl rfl (hb hby d13_22)) fun T9 X9 e9 => ?_
   refine Home.go (fun _ => XS.ifnullNo X9.here hx rfl (hb hby d13_25) rfl) ?_
   show Home T9 (mkF m 28 #[.val (.ref o0), .val (.ref o1)] [])
   refine Home.run X9 hx hby sg13_28_1 (pc' := 29) (L' := #[.val (.ref o0), .val (.ref o1)]) (S' := [(.ref o0)]) rfl ?_
   refine Home.st (getF X9 hx hZ hown (host := "") (Or.inl (own_w57 hw)) Via.refl e9 F_version_o0 rfl rfl (hb hby d13_29)) fun T10 X10 e10 => ?_
   refine Home.run X10 hx hby sg13_32_1 (pc' := 33) (L' := #[.val (.ref o0), .val (.ref o1)]) (S' := [(.ref o1), (.ref p4)]) rfl ?_
   refine Home.st (getF X10 hx hZ hown (host := "") (Or.inl (own_w57 hw)) Via.refl e10 F_version_o1 rfl rfl (hb hby d13_33)) fun T11 X11 e11 => ?_
   refine Home.st (own_pure (own_virtual X11 hx hZ hown (own_w67 hw) (own_w68 hw) (notFace_of_selects (args := #[]) (mvT hZ (own_w70 hw))) (own_w70 hw) (own_w69 hw) (own_w13 hw) (own_w71 hw) (by decide) (rm14_S l Z a0 hw [] p4 p6 p8 k_p8 l_2 p10 k_p10 l_4 sv_COMPACT_STRINGS h0 n0 O0 E_p4 F_coder_p4 F_value_p4 V_p8 (Nat.le_trans (own_len_le sh_l_2).2 (by decide)) E_p6 F_coder_p6 F_value_p6 V_p10 (Nat.le_trans (own_len_le sh_l_4).2 (by decide)) ne_p4_p6 S_COMPACT_STRINGS hCS) e11 E_p4 rfl (by rw [hml]; rfl) (argsL := [(.ref p6)]) (rest := []) (lenOf own_pd17 rfl) rfl rfl (W := 0) (by exact hW0) (by decide) (by decide) (hb hby d13_36) (by decide) (by decide))) fun T12 X12 e12 => ?_
   by_cases c13 : (own_eqic l_2 l_4) = (0 : Int32)
   ·
    refine Home.go (fun _ => XS.ifYes X12.here hx rfl (pc0 := 39) (pc' := 46) rfl (hb hby d13_39) rfl ((if0 _ _).trans (teq c13).1) (by decide) (by decide)) ?_
    have bd14 : ¬ (own_eqic l_2 l_4) < (0 : Int32) ∧ ¬ (0 : Int32) < (own_eqic l_2 l_4) := ⟨(bnd_eql c13), (bnd_eqr c13)⟩
    refine Home.run X12 hx hby sg13_46_1 (pc' := 47) (L' := #[.val (.ref o0), .val (.ref o1)]) (S' := [(.int (0 : Int32))]) rfl ?_
    exact J16 X12 e12 _ (by simp only [if_neg c5, if_pos c13])
   ·
    refine Home.go (fun _ => XS.ifNo X12.here hx rfl (hb hby d13_39) rfl ((if0 _ _).trans (feq c13).1)) ?_
    have bd15 : ¬ (own_eqic l_2 l_4) < (1 : Int32) ∧ ¬ (1 : Int32) < (own_eqic l_2 l_4) := ⟨(bnd_nel (own_eqic_bnd l_2 l_4).1 c13 (by decide +kernel)), (own_eqic_bnd l_2 l_4).2⟩
    refine Home.run X12 hx hby sg13_42_2 (pc' := 47) (L' := #[.val (.ref o0), .val (.ref o1)]) (S' := [(.int (1 : Int32))]) rfl ?_
    exact J16 X12 e12 _ (by simp only [if_neg c5, if_neg c13])
 intro TJ16 XJ16 eJ16 v17 hv17
 have bv17 : ¬ v17 < (0 : Int32) ∧ ¬ (1 : Int32) < v17 := by rw [hv17]; exact (bnd_ite (bnd_mono (bnd_lit (0 : Int32)) (by decide +kernel) (by decide +kernel)) (bnd_ite (bnd_mono (bnd_lit (0 : Int32)) (by decide +kernel) (by decide +kernel)) (bnd_mono (bnd_lit (1 : Int32)) (by decide +kernel) (by decide +kernel))))
 show Home TJ16 (mkF m 47 #[.val (.ref o0), .val (.ref o1)] [(.int v17)])
 exact Home.retN XJ16 hx hlk (t := .boolean) hret (by simp) (hb hby d13_47) ⟨congrArg some (congrArg Value.int (by subst hv17; subst hr4; first | rfl | (simp only [f_rm13_0, nar_bool_id bv17 (by decide +kernel) (by decide +kernel), nar_i2c, nar_i2b] <;> rfl) | (simp [f_rm13_0, nar_bool_id bv17 (by decide +kernel) (by decide +kernel)]; done))), rfl, eJ16⟩ (by decide) (by decide)
theorem f_rm13_0_bnd (l_1 : List Int32) (l_3 : List Int32) (l_2 : List Int32) (l_4 : List Int32) : ¬ (f_rm13_0 l_1 l_3 l_2 l_4) < (0 : Int32) ∧ ¬ (1 : Int32) < (f_rm13_0 l_1 l_3 l_2 l_4) := by unfold f_rm13_0; (repeat' split) <;> first | exact bnd_mono (bnd_lit (0 : Int32)) (by decide +kernel) (by decide +kernel) | exact bnd_mono (bnd_lit (1 : Int32)) (by decide +kernel) (by decide +kernel)
theorem rm10_1 (l : Launch) (Z : State) (a0 : Array Value) (hw : HW a0 Z) (ws : List Jvm.Cond) (o0 o1 : Addr) (h0 : Heap) (n0 : Nat) (O0 : Old Z n0 h0) (E_o0 : Exa Z h0 o0 "com/example/invocant/invocant/Canonical") (F_url_o0 : Fld Z h0 o0 "com/example/invocant/invocant/Canonical" "url" "Ljava/lang/String;" .null) (g_o0 : n0 ≤ o0) (F_version_o0 : Fld Z h0 o0 "com/example/invocant/invocant/Canonical" "version" "Ljava/lang/String;" .null) :
    Con l Z (⟨"com/example/invocant/invocant/Canonical", "<init>", "(Ljava/lang/String;Ljava/lang/String;)V"⟩ : MethodName) prog_3_method_1_code 3 none ws ({ frames := 2, cells := 0, slots := 0, locals := 24 } : Room) #[(.ref o0), (.ref o1), .null] h0 (fun v h L => v = none ∧ Fr n0 L ∧ Keep h0 h [o0] ∧ Exa Z h o0 "com/example/invocant/invocant/Canonical" ∧ Fld Z h o0 "com/example/invocant/invocant/Canonical" "url" "Ljava/lang/String;" (.ref o1) ∧ Fld Z h o0 "com/example/invocant/invocant/Canonical" "version" "Ljava/lang/String;" .null) := by
 refine own_body (plainFor_of_name own_pn4) (fun m => ef_rm10_1 m o0 o1) ?_
 intro p e s m below meth c s₁ hx hby hlk hml hret hZ hown hnm X0 e0
 have N0 := Fr.nil n0
 refine Home.run X0 hx hby sg10_0_1 (pc' := 1) (L' := #[.val (.ref o0), .val (.ref o1), .val .null]) (S' := [(.ref o0)]) rfl ?_
 refine Home.st (own_pure (own_special X0 hx hZ hown rfl (own_w49 hw) (own_w50 hw) (own_w52 hw) (own_w53 hw) (by decide) (rm11_0 l Z a0 hw [] o0 h0 n0 O0) e0 rfl (by rw [hml]; rfl) (a := o0) (argsL := []) (rest := []) (lenOf own_pd8 rfl) rfl rfl (W := 0) (by exact hW0) (by decide) (by decide) (hb hby d10_1) (by decide) (by decide))) fun T1 X1 e1 => ?_
 refine Home.run X1 hx hby sg10_4_2 (pc' := 6) (L' := #[.val (.ref o0), .val (.ref o1), .val .null]) (S' := [(.ref o1), (.ref o0)]) rfl ?_
 refine Home.wr (putF X1 hx hZ hown (host := "") (Or.inl (own_w55 hw)) Via.refl e1 F_url_o0 E_o0 (Or.inr ⟨(own_w56 hw), rfl, hnm⟩) (own_w5 hw) (ty := (.object "java/lang/String")) (by decide) rfl rfl rfl rfl (hb hby d10_6)) fun T2 h2 X2 e2 W2 => ?_
 have Fw2 := F_url_o0.same W2
 have O2 := O0.wr W2 g_o0
 have K2 : Keep h0 h2 ([o0] : List Addr) := Keep.wr (Keep.refl h0 ([o0] : List Addr)) W2 (Or.inl (List.mem_of_getElem? (i := 0) rfl))
 have N2 := Fr.snoc X2 N0 g_o0
 show Home T2 (mkF m 9 #[.val (.ref o0), .val (.ref o1), .val .null] [])
 refine Home.run X2 hx hby sg10_9_2 (pc' := 11) (L' := #[.val (.ref o0), .val (.ref o1), .val .null]) (S' := [.null, (.ref o0)]) rfl ?_
 have q3 := (F_version_o0.other W2 (Or.inr (slot_ne (Or.inr (own_w58 hw)) (Or.inr (own_w56 hw)) (by decide) (t := (.object "java/lang/String")) (t' := (.object "java/lang/String")) (by decide) (by decide))))
 refine Home.wr (putF X2 hx hZ hown (host := "") (Or.inl (own_w57 hw)) Via.refl e2 q3 (E_o0.keep K2) (Or.inr ⟨(own_w58 hw), rfl, hnm⟩) (own_w5 hw) (ty := (.object "java/lang/String")) (by decide) rfl rfl rfl rfl (hb hby d10_11)) fun T4 h4 X4 e4 W4 => ?_
 have Fw4 := q3.same W4
 have O4 := O2.wr W4 g_o0
 have K4 : Keep h0 h4 ([o0] : List Addr) := Keep.wr K2 W4 (Or.inl (List.mem_of_getElem? (i := 0) rfl))
 have N4 := Fr.snoc X4 N2 g_o0
 have q5 := (Fw2.other W4 (Or.inr (slot_ne (Or.inr (own_w56 hw)) (Or.inr (own_w58 hw)) (by decide) (t := (.object "java/lang/String")) (t' := (.object "java/lang/String")) (by decide) (by decide))))
 exact Home.ret0 X4 hx hlk hret (hb hby d10_14) (by rw [show T4.heap = h4 from e4]; exact ⟨rfl, N4, K4, (E_o0.keep K4), q5, Fw4⟩) (by decide) (by decide)
theorem rm13_1 (l : Launch) (Z : State) (a0 : Array Value) (hw : HW a0 Z) (ws : List Jvm.Cond) (o0 o1 p3 p5 p6 : Addr) (k_p6 : ClassId) (l_1 : List Int32) (p8 : Addr) (k_p8 : ClassId) (l_3 : List Int32) (sv_COMPACT_STRINGS : Int32) (p4 : Addr) (h0 : Heap) (n0 : Nat) (O0 : Old Z n0 h0) (F_url_o0 : Fld Z h0 o0 "com/example/invocant/invocant/Canonical" "url" "Ljava/lang/String;" (.ref p3)) (F_url_o1 : Fld Z h0 o1 "com/example/invocant/invocant/Canonical" "url" "Ljava/lang/String;" (.ref p5)) (E_p3 : Exa Z h0 p3 "java/lang/String") (F_coder_p3 : Fld Z h0 p3 "java/lang/String" "coder" "B" (.int (0 : Int32))) (F_value_p3 : Fld Z h0 p3 "java/lang/String" "value" "[B" (.ref p6)) (V_p6 : Arv Z h0 p6 k_p6 .byte (own_n l_1) (List.map Value.int l_1) (.int (0 : Int32))) (E_p5 : Exa Z h0 p5 "java/lang/String") (F_coder_p5 : Fld Z h0 p5 "java/lang/String" "coder" "B" (.int (0 : Int32))) (F_value_p5 : Fld Z h0 p5 "java/lang/String" "value" "[B" (.ref p8)) (V_p8 : Arv Z h0 p8 k_p8 .byte (own_n l_3) (List.map Value.int l_3) (.int (0 : Int32))) (S_COMPACT_STRINGS : Sta Z Z.heap "java/lang/String" "COMPACT_STRINGS" "Z" (.int sv_COMPACT_STRINGS)) (ne_p3_p5 : p3 ≠ p5) (sh_l_1 : l_1.length ≤ 3) (sh_l_3 : l_3.length ≤ 3) (hCS : ¬ (sv_COMPACT_STRINGS = (0 : Int32))) (F_version_o0 : Fld Z h0 o0 "com/example/invocant/invocant/Canonical" "version" "Ljava/lang/String;" (.ref p4)) (F_version_o1 : Fld Z h0 o1 "com/example/invocant/invocant/Canonical" "version" "Ljava/lang/String;" .null) :
    Con l Z (⟨"com/example/invocant/invocant/Canonical", "matchesIgnoringCase", "(Lcom/example/invocant/invocant/Canonical;)Z"⟩ : MethodName) prog_3_method_4_code 2 (some .boolean) ws ({ frames := 4, cells := 0, slots := 0, locals := 66 } : Room) #[(.ref o0), (.ref o1)] h0 (Pur (some (.int (f_rm13_1 l_1 l_3))) h0) := by
 refine own_body (plainFor_of_name own_pn4) (fun m => ef_rm13_1 m o0 o1) ?_
 intro p e s m below meth c s₁ hx hby hlk hml hret hZ hown hnm X0 e0
 have N0 := Fr.nil n0
 refine Home.run X0 hx hby sg13_0_1 (pc' := 1) (L' := #[.val (.ref o0), .val (.ref o1)]) (S' := [(.ref o0)]) rfl ?_
 refine Home.st (getF X0 hx hZ hown (host := "") (Or.inl (own_w55 hw)) Via.refl e0 F_url_o0 rfl rfl (hb hby d13_1)) fun T1 X1 e1 => ?_
 refine Home.run X1 hx hby sg13_4_1 (pc' := 5) (L' := #[.val (.ref o0), .val (.ref o1)]) (S' := [(.ref o1), (.ref p3)]) rfl ?_
 refine Home.st (getF X1 hx hZ hown (host := "") (Or.inl (own_w55 hw)) Via.refl e1 F_url_o1 rfl rfl (hb hby d13_5)) fun T2 X2 e2 => ?_
 refine Home.st (own_pure (own_virtual X2 hx hZ hown (own_w67 hw) (own_w68 hw) (notFace_of_selects (args := #[]) (mvT hZ (own_w70 hw))) (own_w70 hw) (own_w69 hw) (own_w13 hw) (own_w71 hw) (by decide) (rm14_S l Z a0 hw [] p3 p5 p6 k_p6 l_1 p8 k_p8 l_3 sv_COMPACT_STRINGS h0 n0 O0 E_p3 F_coder_p3 F_value_p3 V_p6 (Nat.le_trans (own_len_le sh_l_1).2 (by decide)) E_p5 F_coder_p5 F_value_p5 V_p8 (Nat.le_trans (own_len_le sh_l_3).2 (by decide)) ne_p3_p5 S_COMPACT_STRINGS hCS) e2 E_p3 rfl (by rw [hml]; rfl) (argsL := [(.ref p5)]) (rest := []) (lenOf own_pd17 rfl) rfl rfl (W := 0) (by exact hW0) (by decide) (by decide) (hb hby d13_8) (by decide) (by decide))) fun T3 X3 e3 => ?_
 show Home T3 (mkF m 11 #[.val (.ref o0), .val (.ref o1)] [(.int (own_eqic l_1 l_3))])
 obtain ⟨r4, hr4⟩ : ∃ z, z = (own_eqic l_1 l_3) := ⟨_, rfl⟩
 rw [← hr4]
 have br4 : ¬ r4 < (0 : Int32) ∧ ¬ (1 : Int32) < r4 := by rw [hr4]; exact own_eqic_bnd l_1 l_3
 suffices J10 : ∀ {T : State} (X : Stand p l e ({ frames := 4, cells := 0, slots := 0, locals := 66 } : Room) s m #[(.ref o0), (.ref o1)] below meth c T [] 0 0) (eT : T.heap = h0) (v11 : Int32) (hv11 : v11 = (if r4 = (0 : Int32) then (0 : Int32) else (1 : Int32))), @Home p e below _ T (mkF m 47 #[.val (.ref o0), .val (.ref o1)] [(.int v11)]) by
  by_cases c5 : r4 = (0 : Int32)
  ·
   refine Home.go (fun _ => XS.ifYes X3.here hx rfl (pc0 := 11) (pc' := 46) rfl (hb hby d13_11) rfl ((if0 _ _).trans (teq c5).1) (by decide) (by decide)) ?_
   have bd6 : ¬ r4 < (0 : Int32) ∧ ¬ (0 : Int32) < r4 := ⟨(bnd_eql c5), (bnd_eqr c5)⟩
   refine Home.run X3 hx hby sg13_46_1 (pc' := 47) (L' := #[.val (.ref o0), .val (.ref o1)]) (S' := [(.int (0 : Int32))]) rfl ?_
   exact J10 X3 e3 _ (by simp only [if_pos c5])
  ·
   refine Home.go (fun _ => XS.ifNo X3.here hx rfl (hb hby d13_11) rfl ((if0 _ _).trans (feq c5).1)) ?_
   have bd7 : ¬ r4 < (1 : Int32) ∧ ¬ (1 : Int32) < r4 := ⟨(bnd_nel br4.1 c5 (by decide +kernel)), br4.2⟩
   refine Home.run X3 hx hby sg13_14_1 (pc' := 15) (L' := #[.val (.ref o0), .val (.ref o1)]) (S' := [(.ref o0)]) rfl ?_
   refine Home.st (getF X3 hx hZ hown (host := "") (Or.inl (own_w57 hw)) Via.refl e3 F_version_o0 rfl rfl (hb hby d13_15)) fun T8 X8 e8 => ?_
   refine Home.go (fun _ => XS.ifnullNo X8.here hx rfl (hb hby d13_18) rfl) ?_
   show Home T8 (mkF m 21 #[.val (.ref o0), .val (.ref o1)] [])
   refine Home.run X8 hx hby sg13_21_1 (pc' := 22) (L' := #[.val (.ref o0), .val (.ref o1)]) (S' := [(.ref o1)]) rfl ?_
   refine Home.st (getF X8 hx hZ hown (host := "") (Or.inl (own_w57 hw)) Via.refl e8 F_version_o1 rfl rfl (hb hby d13_22)) fun T9 X9 e9 => ?_
   refine Home.go (fun _ => XS.ifnullYes X9.here hx rfl (pc0 := 25) (pc' := 42) rfl (hb hby d13_25) rfl (by decide) (by decide)) ?_
   show Home T9 (mkF m 42 #[.val (.ref o0), .val (.ref o1)] [])
   refine Home.run X9 hx hby sg13_42_2 (pc' := 47) (L' := #[.val (.ref o0), .val (.ref o1)]) (S' := [(.int (1 : Int32))]) rfl ?_
   exact J10 X9 e9 _ (by simp only [if_neg c5])
 intro TJ10 XJ10 eJ10 v11 hv11
 have bv11 : ¬ v11 < (0 : Int32) ∧ ¬ (1 : Int32) < v11 := by rw [hv11]; exact (bnd_ite (bnd_mono (bnd_lit (0 : Int32)) (by decide +kernel) (by decide +kernel)) (bnd_mono (bnd_lit (1 : Int32)) (by decide +kernel) (by decide +kernel)))
 show Home TJ10 (mkF m 47 #[.val (.ref o0), .val (.ref o1)] [(.int v11)])
 exact Home.retN XJ10 hx hlk (t := .boolean) hret (by simp) (hb hby d13_47) ⟨congrArg some (congrArg Value.int (by subst hv11; subst hr4; first | rfl | (simp only [f_rm13_1, nar_bool_id bv11 (by decide +kernel) (by decide +kernel), nar_i2c, nar_i2b] <;> rfl) | (simp [f_rm13_1, nar_bool_id bv11 (by decide +kernel) (by decide +kernel)]; done))), rfl, eJ10⟩ (by decide) (by decide)
theorem f_rm13_1_bnd (l_1 : List Int32) (l_3 : List Int32) : ¬ (f_rm13_1 l_1 l_3) < (0 : Int32) ∧ ¬ (1 : Int32) < (f_rm13_1 l_1 l_3) := by unfold f_rm13_1; (repeat' split) <;> first | exact bnd_mono (bnd_lit (0 : Int32)) (by decide +kernel) (by decide +kernel) | exact bnd_mono (bnd_lit (1 : Int32)) (by decide +kernel) (by decide +kernel)
theorem rm13_2 (l : Launch) (Z : State) (a0 : Array Value) (hw : HW a0 Z) (ws : List Jvm.Cond) (o0 o1 p3 p4 p6 : Addr) (k_p6 : ClassId) (l_1 : List Int32) (p7 : Addr) (k_p7 : ClassId) (l_2 : List Int32) (sv_COMPACT_STRINGS : Int32) (h0 : Heap) (n0 : Nat) (O0 : Old Z n0 h0) (F_url_o0 : Fld Z h0 o0 "com/example/invocant/invocant/Canonical" "url" "Ljava/lang/String;" (.ref p3)) (F_url_o1 : Fld Z h0 o1 "com/example/invocant/invocant/Canonical" "url" "Ljava/lang/String;" (.ref p4)) (E_p3 : Exa Z h0 p3 "java/lang/String") (F_coder_p3 : Fld Z h0 p3 "java/lang/String" "coder" "B" (.int (0 : Int32))) (F_value_p3 : Fld Z h0 p3 "java/lang/String" "value" "[B" (.ref p6)) (V_p6 : Arv Z h0 p6 k_p6 .byte (own_n l_1) (List.map Value.int l_1) (.int (0 : Int32))) (E_p4 : Exa Z h0 p4 "java/lang/String") (F_coder_p4 : Fld Z h0 p4 "java/lang/String" "coder" "B" (.int (0 : Int32))) (F_value_p4 : Fld Z h0 p4 "java/lang/String" "value" "[B" (.ref p7)) (V_p7 : Arv Z h0 p7 k_p7 .byte (own_n l_2) (List.map Value.int l_2) (.int (0 : Int32))) (S_COMPACT_STRINGS : Sta Z Z.heap "java/lang/String" "COMPACT_STRINGS" "Z" (.int sv_COMPACT_STRINGS)) (ne_p3_p4 : p3 ≠ p4) (sh_l_1 : l_1.length ≤ 3) (sh_l_2 : l_2.length ≤ 3) (hCS : ¬ (sv_COMPACT_STRINGS = (0 : Int32))) (F_version_o0 : Fld Z h0 o0 "com/example/invocant/invocant/Canonical" "version" "Ljava/lang/String;" .null) :
    Con l Z (⟨"com/example/invocant/invocant/Canonical", "matchesIgnoringCase", "(Lcom/example/invocant/invocant/Canonical;)Z"⟩ : MethodName) prog_3_method_4_code 2 (some .boolean) ws ({ frames := 4, cells := 0, slots := 0, locals := 66 } : Room) #[(.ref o0), (.ref o1)] h0 (Pur (some (.int (f_rm13_2 l_1 l_2))) h0) := by
 refine own_body (plainFor_of_name own_pn4) (fun m => ef_rm13_2 m o0 o1) ?_
 intro p e s m below meth c s₁ hx hby hlk hml hret hZ hown hnm X0 e0
 have N0 := Fr.nil n0
 refine Home.run X0 hx hby sg13_0_1 (pc' := 1) (L' := #[.val (.ref o0), .val (.ref o1)]) (S' := [(.ref o0)]) rfl ?_
 refine Home.st (getF X0 hx hZ hown (host := "") (Or.inl (own_w55 hw)) Via.refl e0 F_url_o0 rfl rfl (hb hby d13_1)) fun T1 X1 e1 => ?_
 refine Home.run X1 hx hby sg13_4_1 (pc' := 5) (L' := #[.val (.ref o0), .val (.ref o1)]) (S' := [(.ref o1), (.ref p3)]) rfl ?_
 refine Home.st (getF X1 hx hZ hown (host := "") (Or.inl (own_w55 hw)) Via.refl e1 F_url_o1 rfl rfl (hb hby d13_5)) fun T2 X2 e2 => ?_
 refine Home.st (own_pure (own_virtual X2 hx hZ hown (own_w67 hw) (own_w68 hw) (notFace_of_selects (args := #[]) (mvT hZ (own_w70 hw))) (own_w70 hw) (own_w69 hw) (own_w13 hw) (own_w71 hw) (by decide) (rm14_S l Z a0 hw [] p3 p4 p6 k_p6 l_1 p7 k_p7 l_2 sv_COMPACT_STRINGS h0 n0 O0 E_p3 F_coder_p3 F_value_p3 V_p6 (Nat.le_trans (own_len_le sh_l_1).2 (by decide)) E_p4 F_coder_p4 F_value_p4 V_p7 (Nat.le_trans (own_len_le sh_l_2).2 (by decide)) ne_p3_p4 S_COMPACT_STRINGS hCS) e2 E_p3 rfl (by rw [hml]; rfl) (argsL := [(.ref p4)]) (rest := []) (lenOf own_pd17 rfl) rfl rfl (W := 0) (by exact hW0) (by decide) (by decide) (hb hby d13_8) (by decide) (by decide))) fun T3 X3 e3 => ?_
 show Home T3 (mkF m 11 #[.val (.ref o0), .val (.ref o1)] [(.int (own_eqic l_1 l_2))])
 obtain ⟨r4, hr4⟩ : ∃ z, z = (own_eqic l_1 l_2) := ⟨_, rfl⟩
 rw [← hr4]
 have br4 : ¬ r4 < (0 : Int32) ∧ ¬ (1 : Int32) < r4 := by rw [hr4]; exact own_eqic_bnd l_1 l_2
 suffices J9 : ∀ {T : State} (X : Stand p l e ({ frames := 4, cells := 0, slots := 0, locals := 66 } : Room) s m #[(.ref o0), (.ref o1)] below meth c T [] 0 0) (eT : T.heap = h0) (v10 : Int32) (hv10 : v10 = (if r4 = (0 : Int32) then (0 : Int32) else (1 : Int32))), @Home p e below _ T (mkF m 47 #[.val (.ref o0), .val (.ref o1)] [(.int v10)]) by
  by_cases c5 : r4 = (0 : Int32)
  ·
   refine Home.go (fun _ => XS.ifYes X3.here hx rfl (pc0 := 11) (pc' := 46) rfl (hb hby d13_11) rfl ((if0 _ _).trans (teq c5).1) (by decide) (by decide)) ?_
   have bd6 : ¬ r4 < (0 : Int32) ∧ ¬ (0 : Int32) < r4 := ⟨(bnd_eql c5), (bnd_eqr c5)⟩
   refine Home.run X3 hx hby sg13_46_1 (pc' := 47) (L' := #[.val (.ref o0), .val (.ref o1)]) (S' := [(.int (0 : Int32))]) rfl ?_
   exact J9 X3 e3 _ (by simp only [if_pos c5])
  ·
   refine Home.go (fun _ => XS.ifNo X3.here hx rfl (hb hby d13_11) rfl ((if0 _ _).trans (feq c5).1)) ?_
   have bd7 : ¬ r4 < (1 : Int32) ∧ ¬ (1 : Int32) < r4 := ⟨(bnd_nel br4.1 c5 (by decide +kernel)), br4.2⟩
   refine Home.run X3 hx hby sg13_14_1 (pc' := 15) (L' := #[.val (.ref o0), .val (.ref o1)]) (S' := [(.ref o0)]) rfl ?_
   refine Home.st (getF X3 hx hZ hown (host := "") (Or.inl (own_w57 hw)) Via.refl e3 F_version_o0 rfl rfl (hb hby d13_15)) fun T8 X8 e8 => ?_
   refine Home.go (fun _ => XS.ifnullYes X8.here hx rfl (pc0 := 18) (pc' := 42) rfl (hb hby d13_18) rfl (by decide) (by decide)) ?_
   show Home T8 (mkF m 42 #[.val (.ref o0), .val (.ref o1)] [])
   refine Home.run X8 hx hby sg13_42_2 (pc' := 47) (L' := #[.val (.ref o0), .val (.ref o1)]) (S' := [(.int (1 : Int32))]) rfl ?_
   exact J9 X8 e8 _ (by simp only [if_neg c5])
 intro TJ9 XJ9 eJ9 v10 hv10
 have bv10 : ¬ v10 < (0 : Int32) ∧ ¬ (1 : Int32) < v10 := by rw [hv10]; exact (bnd_ite (bnd_mono (bnd_lit (0 : Int32)) (by decide +kernel) (by decide +kernel)) (bnd_mono (bnd_lit (1 : Int32)) (by decide +kernel) (by decide +kernel)))
 show Home TJ9 (mkF m 47 #[.val (.ref o0), .val (.ref o1)] [(.int v10)])
 exact Home.retN XJ9 hx hlk (t := .boolean) hret (by simp) (hb hby d13_47) ⟨congrArg some (congrArg Value.int (by subst hv10; subst hr4; first | rfl | (simp only [f_rm13_2, nar_bool_id bv10 (by decide +kernel) (by decide +kernel), nar_i2c, nar_i2b] <;> rfl) | (simp [f_rm13_2, nar_bool_id bv10 (by decide +kernel) (by decide +kernel)]; done))), rfl, eJ9⟩ (by decide) (by decide)
theorem f_rm13_2_bnd (l_1 : List Int32) (l_2 : List Int32) : ¬ (f_rm13_2 l_1 l_2) < (0 : Int32) ∧ ¬ (1 : Int32) < (f_rm13_2 l_1 l_2) := by unfold f_rm13_2; (repeat' split) <;> first | exact bnd_mono (bnd_lit (0 : Int32)) (by decide +kernel) (by decide +kernel) | exact bnd_mono (bnd_lit (1 : Int32)) (by decide +kernel) (by decide +kernel)
theorem own_four {a : Int32} (h : ¬ a < (0 : Int32) ∧ ¬ (3 : Int32) < a) : a = 0 ∨ a = 1 ∨ a = 2 ∨ a = 3 := by
  simp only [Int32.lt_iff_toInt_lt] at h
  have e0 : (0 : Int32).toInt = 0 := rfl
  have e1 : (1 : Int32).toInt = 1 := rfl
  have e2 : (2 : Int32).toInt = 2 := rfl
  have e3 : (3 : Int32).toInt = 3 := rfl
  rw [e0, e3] at h
  simp only [← Int32.toInt_inj, e0, e1, e2, e3]
  omega
theorem own_icA : ∀ x < 256, (Int32.ofNat x).toInt8.toInt32 &&& (223 : Int32) = Int32.ofNat x &&& (223 : Int32) := by decide +kernel
def own_L (u : Int32) : Bool := !decide (u < 65) && (!decide (90 < u) || (!decide (u < 192) && !decide (222 < u) && !decide (u = 215)))
theorem own_ic_L (a b : Int32) : own_ic a b = if a = b then 1 else if own_L (a &&& 223) = true then (if a &&& 223 = b &&& 223 then 1 else 0) else 0 := by
  unfold own_ic own_L
  generalize a &&& (223 : Int32) = u
  by_cases q0 : a = b
  · simp [q0]
  by_cases q1 : u < 65
  · simp [q0, q1]
  by_cases q2 : (90 : Int32) < u
  · by_cases q3 : u < 192
    · simp [q0, q1, q2, q3]
    by_cases q4 : (222 : Int32) < u
    · simp [q0, q1, q2, q3, q4]
    by_cases q5 : u = 215
    · simp [q0, q5]
    simp [q0, q1, q2, q3, q4, q5]
  · simp [q0, q1, q2]
theorem own_g1 : ∀ n < 256, f_rm19_0 (Int32.ofNat n) = if own_L (Int32.ofNat n &&& 223) = true then (Int32.ofNat n &&& 223) + 32 else Int32.ofNat n := by decide +kernel
theorem own_g2 : ∀ n < 256, own_L (Int32.ofNat n &&& 223) = true → ((Int32.ofNat n &&& 223) + 32) &&& 223 = Int32.ofNat n &&& 223 := by decide +kernel
theorem own_by {x : Int32} (h : ¬ x < (0 : Int32) ∧ ¬ (255 : Int32) < x) : ∃ n, n < 256 ∧ x = Int32.ofNat n := by
  simp only [Int32.lt_iff_toInt_lt] at h
  have e0 : (0 : Int32).toInt = 0 := rfl
  have e1 : (255 : Int32).toInt = 255 := rfl
  rw [e0, e1] at h
  refine ⟨x.toInt.toNat, by omega, ?_⟩
  rw [← Int32.toInt_inj, Int32.toInt_ofNat_small (by omega)]
  omega
theorem own_icF {x y : Int32} (hx : ¬ x < (0 : Int32) ∧ ¬ (255 : Int32) < x) (hy : ¬ y < (0 : Int32) ∧ ¬ (255 : Int32) < y) : (own_ic x.toInt8.toInt32 y.toInt8.toInt32 = 0) ↔ ¬ (f_rm19_0 x = f_rm19_0 y) := by
  have e := own_b2 hx hy
  obtain ⟨n, hn, rfl⟩ := own_by hx
  obtain ⟨m, hm, rfl⟩ := own_by hy
  rw [own_ic_L, own_icA n hn, own_icA m hm, own_g1 n hn, own_g1 m hm]
  have g1 := own_g2 n hn
  have g2 := own_g2 m hm
  clear hx hy
  generalize Int32.ofNat n = x at e g1 ⊢
  generalize Int32.ofNat m = y at e g2 ⊢
  by_cases q : x = y
  · have q2 := e.mpr q
    rw [if_pos q2, q]; simp
  · rw [if_neg (fun z => q (e.mp z))]
    by_cases l1 : own_L (x &&& 223) = true
    · by_cases l2 : own_L (y &&& 223) = true
      · rw [if_pos l1, if_pos l1, if_pos l2]
        by_cases u : x &&& 223 = y &&& 223
        · rw [if_pos u, u]; simp
        · rw [if_neg u]
          refine ⟨fun _ z => u ?_, fun _ => rfl⟩
          have a := g1 l1
          have b := g2 l2
          rw [z] at a
          exact a.symm.trans b
      · rw [if_pos l1, if_pos l1, if_neg l2]
        have u : ¬ x &&& 223 = y &&& 223 := fun z => l2 (z ▸ l1)
        rw [if_neg u]
        refine ⟨fun _ z => u ?_, fun _ => rfl⟩
        have a := g1 l1
        rw [z] at a; exact a.symm
    · rw [if_neg l1, if_neg l1]
      refine ⟨fun _ => ?_, fun _ => rfl⟩
      by_cases l2 : own_L (y &&& 223) = true
      · rw [if_pos l2]; intro z
        have b := g2 l2
        rw [← z] at b
        exact l1 (b ▸ l2)
      · rw [if_neg l2]; exact q
theorem own_same (p q : Int32) : f_rm12_0 p q = own_eqic (cs_rm2_0 p) (cs_rm2_0 q) := by
  have bp := bnd_and p (3 : Int32) (by decide)
  have bq := bnd_and q (3 : Int32) (by decide)
  have x0 := own_icF (bnd_and ((p.toUInt32 >>> ((2 : Int32) &&& 31).toUInt32).toInt32) (255 : Int32) (by decide)) (bnd_and ((q.toUInt32 >>> ((2 : Int32) &&& 31).toUInt32).toInt32) (255 : Int32) (by decide))
  have x1 := own_icF (bnd_and ((p.toUInt32 >>> ((10 : Int32) &&& 31).toUInt32).toInt32) (255 : Int32) (by decide)) (bnd_and ((q.toUInt32 >>> ((10 : Int32) &&& 31).toUInt32).toInt32) (255 : Int32) (by decide))
  have x2 := own_icF (bnd_and ((p.toUInt32 >>> ((18 : Int32) &&& 31).toUInt32).toInt32) (255 : Int32) (by decide)) (bnd_and ((q.toUInt32 >>> ((18 : Int32) &&& 31).toUInt32).toInt32) (255 : Int32) (by decide))
  unfold f_rm12_0 cs_rm2_0
  generalize (p &&& (3 : Int32)) = a at bp ⊢
  generalize (q &&& (3 : Int32)) = b at bq ⊢
  generalize (((p.toUInt32 >>> ((2 : Int32) &&& 31).toUInt32).toInt32) &&& (255 : Int32)) = p0 at x0 ⊢
  generalize (((q.toUInt32 >>> ((2 : Int32) &&& 31).toUInt32).toInt32) &&& (255 : Int32)) = q0 at x0 ⊢
  generalize (((p.toUInt32 >>> ((10 : Int32) &&& 31).toUInt32).toInt32) &&& (255 : Int32)) = p1 at x1 ⊢
  generalize (((q.toUInt32 >>> ((10 : Int32) &&& 31).toUInt32).toInt32) &&& (255 : Int32)) = q1 at x1 ⊢
  generalize (((p.toUInt32 >>> ((18 : Int32) &&& 31).toUInt32).toInt32) &&& (255 : Int32)) = p2 at x2 ⊢
  generalize (((q.toUInt32 >>> ((18 : Int32) &&& 31).toUInt32).toInt32) &&& (255 : Int32)) = q2 at x2 ⊢
  generalize f_rm19_0 p0 = s0 at x0 ⊢
  generalize f_rm19_0 q0 = t0 at x0 ⊢
  generalize f_rm19_0 p1 = s1 at x1 ⊢
  generalize f_rm19_0 q1 = t1 at x1 ⊢
  generalize f_rm19_0 p2 = s2 at x2 ⊢
  generalize f_rm19_0 q2 = t2 at x2 ⊢
  rcases own_four bp with rfl | rfl | rfl | rfl <;> rcases own_four bq with rfl | rfl | rfl | rfl <;> simp +decide only [own_eqic, x0, x1, x2, if_true, if_false] <;> (by_cases e0 : s0 = t0 <;> by_cases e1 : s1 = t1 <;> by_cases e2 : s2 = t2 <;> simp [e0, e1, e2])
theorem own_end0 (i0 : Int32) (i1 : Int32) (i2 : Int32) (i3 : Int32) (sv_COMPACT_STRINGS : Int32) (r2 : Int32) (hr2 : r2 = (f_rm1_0 i1)) (r4 : Int32) (hr4 : r4 = (f_rm1_0 i3)) (r33 : Int32) (hr33 : r33 = (f_rm12_0 i0 i2)) (v40 : Int32) (hv40 : v40 = (if r33 = (0 : Int32) then (0 : Int32) else (if (f_rm12_0 i1 i3) = (0 : Int32) then (0 : Int32) else (1 : Int32)))) (r82 : Int32) (hr82 : r82 = (f_rm13_0 (cs_rm2_0 i0) (cs_rm2_0 i2) (cs_rm2_0 i1) (cs_rm2_0 i3))) (v85 : Int32) (hv85 : v85 = (if r82 = v40 then (1 : Int32) else (0 : Int32))) (c7 : r2 = (0 : Int32)) (c19 : r4 = (0 : Int32)) : nar .boolean v85 = (1 : Int32) := by
  subst hv85 hr82 hv40 hr33
  simp only [f_rm13_0, f_rm13_1, f_rm13_2, own_same, if_true]
  first | done | rfl | decide
theorem own_end1 (i0 : Int32) (i1 : Int32) (i2 : Int32) (i3 : Int32) (sv_COMPACT_STRINGS : Int32) (r2 : Int32) (hr2 : r2 = (f_rm1_0 i1)) (r4 : Int32) (hr4 : r4 = (f_rm1_0 i3)) (r94 : Int32) (hr94 : r94 = (f_rm12_0 i0 i2)) (v98 : Int32) (hv98 : v98 = (if r94 = (0 : Int32) then (0 : Int32) else (1 : Int32))) (r123 : Int32) (hr123 : r123 = (f_rm13_1 (cs_rm2_0 i0) (cs_rm2_0 i2))) (v126 : Int32) (hv126 : v126 = (if r123 = v98 then (1 : Int32) else (0 : Int32))) (c7 : r2 = (0 : Int32)) (c19 : ¬ (r4 = (0 : Int32))) : nar .boolean v126 = (1 : Int32) := by
  subst hv126 hr123 hv98 hr94
  simp only [f_rm13_0, f_rm13_1, f_rm13_2, own_same, if_true]
  first | done | rfl | decide
theorem own_end2 (i0 : Int32) (i1 : Int32) (i2 : Int32) (i3 : Int32) (sv_COMPACT_STRINGS : Int32) (r2 : Int32) (hr2 : r2 = (f_rm1_0 i1)) (r4 : Int32) (hr4 : r4 = (f_rm1_0 i3)) (r146 : Int32) (hr146 : r146 = (f_rm12_0 i0 i2)) (v150 : Int32) (hv150 : v150 = (if r146 = (0 : Int32) then (0 : Int32) else (1 : Int32))) (r173 : Int32) (hr173 : r173 = (f_rm13_2 (cs_rm2_0 i0) (cs_rm2_0 i2))) (v176 : Int32) (hv176 : v176 = (if r173 = v150 then (1 : Int32) else (0 : Int32))) (c7 : ¬ (r2 = (0 : Int32))) (c133 : r4 = (0 : Int32)) : nar .boolean v176 = (1 : Int32) := by
  subst hv176 hr173 hv150 hr146
  simp only [f_rm13_0, f_rm13_1, f_rm13_2, own_same, if_true]
  first | done | rfl | decide
theorem own_end3 (i0 : Int32) (i1 : Int32) (i2 : Int32) (i3 : Int32) (sv_COMPACT_STRINGS : Int32) (r2 : Int32) (hr2 : r2 = (f_rm1_0 i1)) (r4 : Int32) (hr4 : r4 = (f_rm1_0 i3)) (r184 : Int32) (hr184 : r184 = (f_rm12_0 i0 i2)) (v188 : Int32) (hv188 : v188 = (if r184 = (0 : Int32) then (0 : Int32) else (1 : Int32))) (r211 : Int32) (hr211 : r211 = (f_rm13_2 (cs_rm2_0 i0) (cs_rm2_0 i2))) (v214 : Int32) (hv214 : v214 = (if r211 = v188 then (1 : Int32) else (0 : Int32))) (c7 : ¬ (r2 = (0 : Int32))) (c133 : ¬ (r4 = (0 : Int32))) : nar .boolean v214 = (1 : Int32) := by
  subst hv214 hr211 hv188 hr184
  simp only [f_rm13_0, f_rm13_1, f_rm13_2, own_same, if_true]
  first | done | rfl | decide
theorem rm0 (l : Launch) (Z : State) (a0 : Array Value) (hw : HW a0 Z) (ws : List Jvm.Cond) (i0 i1 i2 i3 sv_COMPACT_STRINGS : Int32) (h0 : Heap) (n0 : Nat) (O0 : Old Z n0 h0) (S_COMPACT_STRINGS : Sta Z Z.heap "java/lang/String" "COMPACT_STRINGS" "Z" (.int sv_COMPACT_STRINGS)) (hCS : ¬ (sv_COMPACT_STRINGS = (0 : Int32))) :
    ConW l Z own_EL ([] : List Addr) false x code maxLocals ret ws room_1 #[(.int i0), (.int i1), (.int i2), (.int i3)] h0 (fun v h L => v = some (.int (1 : Int32)) ∧ Fr n0 L) := by
 refine own_bodyW (plainFor_of_name own_pn0) (fun m => ef_rm0 m i0 i1 i2 i3) ?_
 intro p e s m below meth c s₁ hx hby hlk hml hret hZ hown hnm X0 e0 Cd0
 have N0 := Fr.nil n0
 refine Home.run X0 hx hby sg0_0_1 (pc' := 1) (L' := #[.val (.int i0), .val (.int i1), .val (.int i2), .val (.int i3), .unset, .unset, .unset, .unset, .unset]) (S' := [(.int i1)]) rfl ?_
 refine Home.st (own_pure (own_static X0 hx hZ hown (own_w0 hw) (own_w1 hw) (own_w2 hw) (own_w3 hw) (by decide) (rm1_0 l Z a0 hw [] i1 h0 n0 O0) e0 rfl (by rw [hml]; rfl) (argsL := [(.int i1)]) (rest := []) (lenOf own_pd0 rfl) rfl rfl (W := 0) (by exact hW0) (by decide) (by decide) (hb hby at_1) (by decide) (by decide))) fun T1 X1 e1 => ?_
 show Home T1 (mkF m 4 #[.val (.int i0), .val (.int i1), .val (.int i2), .val (.int i3), .unset, .unset, .unset, .unset, .unset] [(.int (f_rm1_0 i1))])
 obtain ⟨r2, hr2⟩ : ∃ z, z = (f_rm1_0 i1) := ⟨_, rfl⟩
 rw [← hr2]
 have br2 : ¬ r2 < (0 : Int32) ∧ ¬ (1 : Int32) < r2 := by rw [hr2]; exact f_rm1_0_bnd i1
 refine Home.run X1 hx hby sg0_4_2 (pc' := 7) (L' := #[.val (.int i0), .val (.int i1), .val (.int i2), .val (.int i3), .val (.int r2), .unset, .unset, .unset, .unset]) (S' := [(.int i3)]) rfl ?_
 refine Home.st (own_pure (own_static X1 hx hZ hown (own_w0 hw) (own_w1 hw) (own_w2 hw) (own_w3 hw) (by decide) (rm1_0 l Z a0 hw [] i3 h0 n0 O0) e1 rfl (by rw [hml]; rfl) (argsL := [(.int i3)]) (rest := []) (lenOf own_pd0 rfl) rfl rfl (W := 0) (by exact hW0) (by decide) (by decide) (hb hby at_7) (by decide) (by decide))) fun T3 X3 e3 => ?_
 show Home T3 (mkF m 10 #[.val (.int i0), .val (.int i1), .val (.int i2), .val (.int i3), .val (.int r2), .unset, .unset, .unset, .unset] [(.int (f_rm1_0 i3))])
 obtain ⟨r4, hr4⟩ : ∃ z, z = (f_rm1_0 i3) := ⟨_, rfl⟩
 rw [← hr4]
 have br4 : ¬ r4 < (0 : Int32) ∧ ¬ (1 : Int32) < r4 := by rw [hr4]; exact f_rm1_0_bnd i3
 refine Home.run X3 hx hby sg0_10_1 (pc' := 12) (L' := #[.val (.int i0), .val (.int i1), .val (.int i2), .val (.int i3), .val (.int r2), .val (.int r4), .unset, .unset, .unset]) (S' := []) rfl ?_
 refine Home.nw (own_newO X3 hx hZ hown (own_w4 hw) (own_w5 hw) (own_w6 hw) e3 rfl (hb hby at_12) (by decide) (by decide)) fun T5 h5 b5 g5 X5 e5 E5 A5 D5 => ?_
 have g_b5 : n0 ≤ b5 := Nat.le_trans (Old.le O0) (Nat.le_of_eq g5.symm)
 have F_url_b5 : Fld Z h5 b5 "com/example/invocant/invocant/Canonical" "url" "Ljava/lang/String;" .null := D5 (Or.inr (own_w56 hw)) (ty := (.object "java/lang/String")) (by decide)
 have F_version_b5 : Fld Z h5 b5 "com/example/invocant/invocant/Canonical" "version" "Ljava/lang/String;" .null := D5 (Or.inr (own_w58 hw)) (ty := (.object "java/lang/String")) (by decide)
 have O5 := O0.ext E5
 have K5 : Keep h0 h5 ([] : List Addr) := Keep.ext (Keep.refl h0 ([] : List Addr)) E5
 have Cd5 := Cold.ext Cd0 E5
 show Home T5 (mkF m 15 #[.val (.int i0), .val (.int i1), .val (.int i2), .val (.int i3), .val (.int r2), .val (.int r4), .unset, .unset, .unset] [(.ref b5)])
 refine Home.run X5 hx hby sg0_15_2 (pc' := 17) (L' := #[.val (.int i0), .val (.int i1), .val (.int i2), .val (.int i3), .val (.int r2), .val (.int r4), .unset, .unset, .unset]) (S' := [(.int i0), (.ref b5), (.ref b5)]) rfl ?_
 refine Home.call (own_staticW X5 hx hZ hown (own_hEL hw) Cd5 all0 (own_w7 hw) (own_w8 hw) (own_w2 hw) (own_w9 hw) (by decide) (rm2_0 l Z a0 hw [] i0 sv_COMPACT_STRINGS h5 n0 O5 S_COMPACT_STRINGS hCS) e5 rfl (by rw [hml]; rfl) (argsL := [(.int i0)]) (rest := [(.ref b5), (.ref b5)]) (lenOf own_pd7 rfl) rfl rfl (W := 2) (by exact hW0) (by decide) (by decide) (hb hby at_17) (by decide) (by decide)) ?_
 rintro _ T6 L6 X6 ⟨⟨rs_6, rb_6, rk_6, rfl, N6q, sz_rs_6, K6q, P6_0, P6_1, P6_2, P6_3⟩, hZ, hown, Cd6, sR6⟩
 have Ce6 := Cold.put Cd6 (sR6 rfl _ rfl)
 have g_rs_6 : n0 ≤ rs_6 := Nat.le_trans (Old.le O5) sz_rs_6
 have O6 := Old.keep O5 K6q all0
 have K6 : Keep h0 T6.heap ([] : List Addr) := Keep.trans K5 K6q all0
 have N6 := Fr.app N0 N6q
 show Home T6 (mkF m 20 #[.val (.int i0), .val (.int i1), .val (.int i2), .val (.int i3), .val (.int r2), .val (.int r4), .unset, .unset, .unset] [(.ref rs_6), (.ref b5), (.ref b5)])
 refine Home.run X6 hx hby sg0_20_1 (pc' := 22) (L' := #[.val (.int i0), .val (.int i1), .val (.int i2), .val (.int i3), .val (.int r2), .val (.int r4), .unset, .unset, .unset]) (S' := [(.int r2), (.ref rs_6), (.ref b5), (.ref b5)]) rfl ?_
 by_cases c7 : r2 = (0 : Int32)
 ·
  refine Home.go (fun _ => XS.ifYes X6.here hx rfl (pc0 := 22) (pc' := 29) rfl (hb hby at_22) rfl ((if0 _ _).trans (teq c7).1) (by decide) (by decide)) ?_
  have bd8 : ¬ r2 < (0 : Int32) ∧ ¬ (0 : Int32) < r2 := ⟨(bnd_eql c7), (bnd_eqr c7)⟩
  have fx9 : r2 = (0 : Int32) := bnd_fix bd8
  try rw [fx9]
  show Home T6 (mkF m 29 #[.val (.int i0), .val (.int i1), .val (.int i2), .val (.int i3), .val (.int (0 : Int32)), .val (.int r4), .unset, .unset, .unset] [(.ref rs_6), (.ref b5), (.ref b5)])
  refine Home.run X6 hx hby sg0_29_1 (pc' := 30) (L' := #[.val (.int i0), .val (.int i1), .val (.int i2), .val (.int i3), .val (.int (0 : Int32)), .val (.int r4), .unset, .unset, .unset]) (S' := [(.int i1), (.ref rs_6), (.ref b5), (.ref b5)]) rfl ?_
  refine Home.call (own_staticW X6 hx hZ hown (own_hEL hw) Ce6 all0 (own_w7 hw) (own_w8 hw) (own_w2 hw) (own_w9 hw) (by decide) (rm2_0 l Z a0 hw [] i1 sv_COMPACT_STRINGS T6.heap n0 O6 S_COMPACT_STRINGS hCS) rfl rfl (by rw [hml]; rfl) (argsL := [(.int i1)]) (rest := [(.ref rs_6), (.ref b5), (.ref b5)]) (lenOf own_pd7 rfl) rfl rfl (W := 3) (by exact hW0) (by decide) (by decide) (hb hby at_30) (by decide) (by decide)) ?_
  rintro _ T12 L12 X12 ⟨⟨rs_12, rb_12, rk_12, rfl, N12q, sz_rs_12, K12q, P12_0, P12_1, P12_2, P12_3⟩, hZ, hown, Cd12, sR12⟩
  have Ce12 := Cold.put Cd12 (sR12 rfl _ rfl)
  have g_rs_12 : n0 ≤ rs_12 := Nat.le_trans (Old.le O6) sz_rs_12
  have O12 := Old.keep O6 K12q all0
  have K12 : Keep h0 T12.heap ([] : List Addr) := Keep.trans K6 K12q all0
  have N12 := Fr.app N6 N12q
  show Home T12 (mkF m 33 #[.val (.int i0), .val (.int i1), .val (.int i2), .val (.int i3), .val (.int (0 : Int32)), .val (.int r4), .unset, .unset, .unset] [(.ref rs_12), (.ref rs_6), (.ref b5), (.ref b5)])
  have q13 := ((A5.keep K6q).keep K12q)
  have q14 := ((F_url_b5.keep K6q nin0).keep K12q nin0)
  have q15 := ((F_version_b5.keep K6q nin0).keep K12q nin0)
  refine Home.call (own_special X12 hx hZ hown rfl (own_w46 hw) (own_w47 hw) (own_w6 hw) (own_w48 hw) (by decide) (rm10_0 l Z a0 hw [] b5 rs_6 rs_12 T12.heap n0 O12 q13 q14 g_b5 q15) rfl rfl (by rw [hml]; rfl) (a := b5) (argsL := [(.ref rs_6), (.ref rs_12)]) (rest := [(.ref b5)]) (lenOf own_pd9 rfl) rfl rfl (W := 1) (by exact hW0) (by decide) (by decide) (hb hby at_33) (by decide) (by decide)) ?_
  rintro _ T16 L16 X16 ⟨rfl, N16q, K16q, P16_0, P16_1, P16_2⟩
  have Cd16 := Cold.keep Ce12 K16q (allS (Safe.exa hZ.alike q13 (by decide) (by decide)) all0)
  have O16 := Old.keep O12 K16q (allS g_b5 all0)
  have K16 : Keep h0 T16.heap ([] : List Addr) := Keep.trans K12 K16q (allS (Or.inr (Nat.le_trans (Nat.le_refl _) (Nat.le_of_eq g5.symm))) all0)
  have N16 := Fr.app N12 N16q
  show Home T16 (mkF m 36 #[.val (.int i0), .val (.int i1), .val (.int i2), .val (.int i3), .val (.int (0 : Int32)), .val (.int r4), .unset, .unset, .unset] [(.ref b5)])
  refine Home.run X16 hx hby sg0_36_1 (pc' := 38) (L' := #[.val (.int i0), .val (.int i1), .val (.int i2), .val (.int i3), .val (.int (0 : Int32)), .val (.int r4), .val (.ref b5), .unset, .unset]) (S' := []) rfl ?_
  refine Home.nw (own_newO X16 hx hZ hown (own_w4 hw) (own_w5 hw) (own_w6 hw) rfl rfl (hb hby at_38) (by decide) (by decide)) fun T17 h17 b17 g17 X17 e17 E17 A17 D17 => ?_
  have g_b17 : n0 ≤ b17 := Nat.le_trans (Old.le O16) (Nat.le_of_eq g17.symm)
  have F_url_b17 : Fld Z h17 b17 "com/example/invocant/invocant/Canonical" "url" "Ljava/lang/String;" .null := D17 (Or.inr (own_w56 hw)) (ty := (.object "java/lang/String")) (by decide)
  have F_version_b17 : Fld Z h17 b17 "com/example/invocant/invocant/Canonical" "version" "Ljava/lang/String;" .null := D17 (Or.inr (own_w58 hw)) (ty := (.object "java/lang/String")) (by decide)
  have O17 := O16.ext E17
  have K17 : Keep h0 h17 ([] : List Addr) := Keep.ext K16 E17
  have Cd17 := Cold.ext Cd16 E17
  show Home T17 (mkF m 41 #[.val (.int i0), .val (.int i1), .val (.int i2), .val (.int i3), .val (.int (0 : Int32)), .val (.int r4), .val (.ref b5), .unset, .unset] [(.ref b17)])
  refine Home.run X17 hx hby sg0_41_2 (pc' := 43) (L' := #[.val (.int i0), .val (.int i1), .val (.int i2), .val (.int i3), .val (.int (0 : Int32)), .val (.int r4), .val (.ref b5), .unset, .unset]) (S' := [(.int i2), (.ref b17), (.ref b17)]) rfl ?_
  refine Home.call (own_staticW X17 hx hZ hown (own_hEL hw) Cd17 all0 (own_w7 hw) (own_w8 hw) (own_w2 hw) (own_w9 hw) (by decide) (rm2_0 l Z a0 hw [] i2 sv_COMPACT_STRINGS h17 n0 O17 S_COMPACT_STRINGS hCS) e17 rfl (by rw [hml]; rfl) (argsL := [(.int i2)]) (rest := [(.ref b17), (.ref b17)]) (lenOf own_pd7 rfl) rfl rfl (W := 2) (by exact hW0) (by decide) (by decide) (hb hby at_43) (by decide) (by decide)) ?_
  rintro _ T18 L18 X18 ⟨⟨rs_18, rb_18, rk_18, rfl, N18q, sz_rs_18, K18q, P18_0, P18_1, P18_2, P18_3⟩, hZ, hown, Cd18, sR18⟩
  have Ce18 := Cold.put Cd18 (sR18 rfl _ rfl)
  have g_rs_18 : n0 ≤ rs_18 := Nat.le_trans (Old.le O17) sz_rs_18
  have O18 := Old.keep O17 K18q all0
  have K18 : Keep h0 T18.heap ([] : List Addr) := Keep.trans K17 K18q all0
  have N18 := Fr.app N16 N18q
  show Home T18 (mkF m 46 #[.val (.int i0), .val (.int i1), .val (.int i2), .val (.int i3), .val (.int (0 : Int32)), .val (.int r4), .val (.ref b5), .unset, .unset] [(.ref rs_18), (.ref b17), (.ref b17)])
  refine Home.run X18 hx hby sg0_46_1 (pc' := 48) (L' := #[.val (.int i0), .val (.int i1), .val (.int i2), .val (.int i3), .val (.int (0 : Int32)), .val (.int r4), .val (.ref b5), .unset, .unset]) (S' := [(.int r4), (.ref rs_18), (.ref b17), (.ref b17)]) rfl ?_
  by_cases c19 : r4 = (0 : Int32)
  ·
   refine Home.go (fun _ => XS.ifYes X18.here hx rfl (pc0 := 48) (pc' := 55) rfl (hb hby at_48) rfl ((if0 _ _).trans (teq c19).1) (by decide) (by decide)) ?_
   have bd20 : ¬ r4 < (0 : Int32) ∧ ¬ (0 : Int32) < r4 := ⟨(bnd_eql c19), (bnd_eqr c19)⟩
   have fx21 : r4 = (0 : Int32) := bnd_fix bd20
   try rw [fx21]
   show Home T18 (mkF m 55 #[.val (.int i0), .val (.int i1), .val (.int i2), .val (.int i3), .val (.int (0 : Int32)), .val (.int (0 : Int32)), .val (.ref b5), .unset, .unset] [(.ref rs_18), (.ref b17), (.ref b17)])
   refine Home.run X18 hx hby sg0_55_1 (pc' := 56) (L' := #[.val (.int i0), .val (.int i1), .val (.int i2), .val (.int i3), .val (.int (0 : Int32)), .val (.int (0 : Int32)), .val (.ref b5), .unset, .unset]) (S' := [(.int i3), (.ref rs_18), (.ref b17), (.ref b17)]) rfl ?_
   refine Home.call (own_staticW X18 hx hZ hown (own_hEL hw) Ce18 all0 (own_w7 hw) (own_w8 hw) (own_w2 hw) (own_w9 hw) (by decide) (rm2_0 l Z a0 hw [] i3 sv_COMPACT_STRINGS T18.heap n0 O18 S_COMPACT_STRINGS hCS) rfl rfl (by rw [hml]; rfl) (argsL := [(.int i3)]) (rest := [(.ref rs_18), (.ref b17), (.ref b17)]) (lenOf own_pd7 rfl) rfl rfl (W := 3) (by exact hW0) (by decide) (by decide) (hb hby at_56) (by decide) (by decide)) ?_
   rintro _ T24 L24 X24 ⟨⟨rs_24, rb_24, rk_24, rfl, N24q, sz_rs_24, K24q, P24_0, P24_1, P24_2, P24_3⟩, hZ, hown, Cd24, sR24⟩
   have Ce24 := Cold.put Cd24 (sR24 rfl _ rfl)
   have g_rs_24 : n0 ≤ rs_24 := Nat.le_trans (Old.le O18) sz_rs_24
   have O24 := Old.keep O18 K24q all0
   have K24 : Keep h0 T24.heap ([] : List Addr) := Keep.trans K18 K24q all0
   have N24 := Fr.app N18 N24q
   show Home T24 (mkF m 59 #[.val (.int i0), .val (.int i1), .val (.int i2), .val (.int i3), .val (.int (0 : Int32)), .val (.int (0 : Int32)), .val (.ref b5), .unset, .unset] [(.ref rs_24), (.ref rs_18), (.ref b17), (.ref b17)])
   have q25 := ((A17.keep K18q).keep K24q)
   have q26 := ((F_url_b17.keep K18q nin0).keep K24q nin0)
   have q27 := ((F_version_b17.keep K18q nin0).keep K24q nin0)
   refine Home.call (own_special X24 hx hZ hown rfl (own_w46 hw) (own_w47 hw) (own_w6 hw) (own_w48 hw) (by decide) (rm10_0 l Z a0 hw [] b17 rs_18 rs_24 T24.heap n0 O24 q25 q26 g_b17 q27) rfl rfl (by rw [hml]; rfl) (a := b17) (argsL := [(.ref rs_18), (.ref rs_24)]) (rest := [(.ref b17)]) (lenOf own_pd9 rfl) rfl rfl (W := 1) (by exact hW0) (by decide) (by decide) (hb hby at_59) (by decide) (by decide)) ?_
   rintro _ T28 L28 X28 ⟨rfl, N28q, K28q, P28_0, P28_1, P28_2⟩
   have Cd28 := Cold.keep Ce24 K28q (allS (Safe.exa hZ.alike q25 (by decide) (by decide)) all0)
   have le29 : h0.size ≤ T6.heap.size := Nat.le_trans E5.1 K6q.1
   have le30 : h0.size ≤ T12.heap.size := Nat.le_trans le29 K12q.1
   have le31 : h0.size ≤ T16.heap.size := Nat.le_trans le30 K16q.1
   have O28 := Old.keep O24 K28q (allS g_b17 all0)
   have K28 : Keep h0 T28.heap ([] : List Addr) := Keep.trans K24 K28q (allS (Or.inr (Nat.le_trans le31 (Nat.le_of_eq g17.symm))) all0)
   have N28 := Fr.app N24 N28q
   show Home T28 (mkF m 62 #[.val (.int i0), .val (.int i1), .val (.int i2), .val (.int i3), .val (.int (0 : Int32)), .val (.int (0 : Int32)), .val (.ref b5), .unset, .unset] [(.ref b17)])
   refine Home.run X28 hx hby sg0_62_3 (pc' := 66) (L' := #[.val (.int i0), .val (.int i1), .val (.int i2), .val (.int i3), .val (.int (0 : Int32)), .val (.int (0 : Int32)), .val (.ref b5), .val (.ref b17), .unset]) (S' := [(.int i2), (.int i0)]) rfl ?_
   refine Home.st (own_pure (own_static X28 hx hZ hown (own_w59 hw) (own_w60 hw) (own_w2 hw) (own_w61 hw) (by decide) (rm12_0 l Z a0 hw [] i0 i2 T28.heap n0 O28) rfl rfl (by rw [hml]; rfl) (argsL := [(.int i0), (.int i2)]) (rest := []) (lenOf own_pd11 rfl) rfl rfl (W := 0) (by exact hW0) (by decide) (by decide) (hb hby at_66) (by decide) (by decide))) fun T32 X32 e32 => ?_
   show Home T32 (mkF m 69 #[.val (.int i0), .val (.int i1), .val (.int i2), .val (.int i3), .val (.int (0 : Int32)), .val (.int (0 : Int32)), .val (.ref b5), .val (.ref b17), .unset] [(.int (f_rm12_0 i0 i2))])
   obtain ⟨r33, hr33⟩ : ∃ z, z = (f_rm12_0 i0 i2) := ⟨_, rfl⟩
   rw [← hr33]
   suffices J39 : ∀ {T : State} {lc : List Loc} (X : Stand p l e room_1 (s.setVm T24.vm) m #[(.int i0), (.int i1), (.int i2), (.int i3)] below meth c T lc 26 52) (N : Fr n0 lc) (eT : T.heap = T28.heap) (v40 : Int32) (hv40 : v40 = (if r33 = (0 : Int32) then (0 : Int32) else (if (f_rm12_0 i1 i3) = (0 : Int32) then (0 : Int32) else (1 : Int32)))), @Home p e below _ T (mkF m 95 #[.val (.int i0), .val (.int i1), .val (.int i2), .val (.int i3), .val (.int (0 : Int32)), .val (.int (0 : Int32)), .val (.ref b5), .val (.ref b17), .unset] [(.int v40)]) by
    by_cases c34 : r33 = (0 : Int32)
    ·
     refine Home.go (fun _ => XS.ifYes X32.here hx rfl (pc0 := 69) (pc' := 94) rfl (hb hby at_69) rfl ((if0 _ _).trans (teq c34).1) (by decide) (by decide)) ?_
     have bd35 : ¬ r33 < (0 : Int32) ∧ ¬ (0 : Int32) < r33 := ⟨(bnd_eql c34), (bnd_eqr c34)⟩
     refine Home.run X32 hx hby sg0_94_1 (pc' := 95) (L' := #[.val (.int i0), .val (.int i1), .val (.int i2), .val (.int i3), .val (.int (0 : Int32)), .val (.int (0 : Int32)), .val (.ref b5), .val (.ref b17), .unset]) (S' := [(.int (0 : Int32))]) rfl ?_
     exact J39 X32 N28 e32 _ (by simp only [if_pos c34])
    ·
     refine Home.go (fun _ => XS.ifNo X32.here hx rfl (hb hby at_69) rfl ((if0 _ _).trans (feq c34).1)) ?_
     refine Home.run X32 hx hby sg0_72_1 (pc' := 74) (L' := #[.val (.int i0), .val (.int i1), .val (.int i2), .val (.int i3), .val (.int (0 : Int32)), .val (.int (0 : Int32)), .val (.ref b5), .val (.ref b17), .unset]) (S' := [(.int (0 : Int32))]) rfl ?_
     refine Home.go (fun _ => XS.ifNo X32.here hx rfl (hb hby at_74) rfl ((if0 _ _).trans (teq (by decide)).2)) ?_
     refine Home.run X32 hx hby sg0_77_1 (pc' := 79) (L' := #[.val (.int i0), .val (.int i1), .val (.int i2), .val (.int i3), .val (.int (0 : Int32)), .val (.int (0 : Int32)), .val (.ref b5), .val (.ref b17), .unset]) (S' := [(.int (0 : Int32))]) rfl ?_
     refine Home.go (fun _ => XS.ifNo X32.here hx rfl (hb hby at_79) rfl ((if0 _ _).trans (teq (by decide)).2)) ?_
     refine Home.run X32 hx hby sg0_82_2 (pc' := 84) (L' := #[.val (.int i0), .val (.int i1), .val (.int i2), .val (.int i3), .val (.int (0 : Int32)), .val (.int (0 : Int32)), .val (.ref b5), .val (.ref b17), .unset]) (S' := [(.int i3), (.int i1)]) rfl ?_
     refine Home.st (own_pure (own_static X32 hx hZ hown (own_w59 hw) (own_w60 hw) (own_w2 hw) (own_w61 hw) (by decide) (rm12_0 l Z a0 hw [] i1 i3 T28.heap n0 O28) e32 rfl (by rw [hml]; rfl) (argsL := [(.int i1), (.int i3)]) (rest := []) (lenOf own_pd11 rfl) rfl rfl (W := 0) (by exact hW0) (by decide) (by decide) (hb hby at_84) (by decide) (by decide))) fun T36 X36 e36 => ?_
     by_cases c37 : (f_rm12_0 i1 i3) = (0 : Int32)
     ·
      refine Home.go (fun _ => XS.ifYes X36.here hx rfl (pc0 := 87) (pc' := 94) rfl (hb hby at_87) rfl ((if0 _ _).trans (teq c37).1) (by decide) (by decide)) ?_
      have bd38 : ¬ (f_rm12_0 i1 i3) < (0 : Int32) ∧ ¬ (0 : Int32) < (f_rm12_0 i1 i3) := ⟨(bnd_eql c37), (bnd_eqr c37)⟩
      refine Home.run X36 hx hby sg0_94_1 (pc' := 95) (L' := #[.val (.int i0), .val (.int i1), .val (.int i2), .val (.int i3), .val (.int (0 : Int32)), .val (.int (0 : Int32)), .val (.ref b5), .val (.ref b17), .unset]) (S' := [(.int (0 : Int32))]) rfl ?_
      exact J39 X36 N28 e36 _ (by simp only [if_neg c34, if_pos c37])
     ·
      refine Home.go (fun _ => XS.ifNo X36.here hx rfl (hb hby at_87) rfl ((if0 _ _).trans (feq c37).1)) ?_
      refine Home.run X36 hx hby sg0_90_2 (pc' := 95) (L' := #[.val (.int i0), .val (.int i1), .val (.int i2), .val (.int i3), .val (.int (0 : Int32)), .val (.int (0 : Int32)), .val (.ref b5), .val (.ref b17), .unset]) (S' := [(.int (1 : Int32))]) rfl ?_
      exact J39 X36 N28 e36 _ (by simp only [if_neg c34, if_neg c37])
   intro TJ39 lcJ39 XJ39 NJ39 eJ39 v40 hv40
   have bv40 : ¬ v40 < (0 : Int32) ∧ ¬ (1 : Int32) < v40 := by rw [hv40]; exact (bnd_ite (bnd_mono (bnd_lit (0 : Int32)) (by decide +kernel) (by decide +kernel)) (bnd_ite (bnd_mono (bnd_lit (0 : Int32)) (by decide +kernel) (by decide +kernel)) (bnd_mono (bnd_lit (1 : Int32)) (by decide +kernel) (by decide +kernel))))
   show Home TJ39 (mkF m 95 #[.val (.int i0), .val (.int i1), .val (.int i2), .val (.int i3), .val (.int (0 : Int32)), .val (.int (0 : Int32)), .val (.ref b5), .val (.ref b17), .unset] [(.int v40)])
   refine Home.run XJ39 hx hby sg0_95_3 (pc' := 101) (L' := #[.val (.int i0), .val (.int i1), .val (.int i2), .val (.int i3), .val (.int (0 : Int32)), .val (.int (0 : Int32)), .val (.ref b5), .val (.ref b17), .val (.int v40)]) (S' := [(.ref b17), (.ref b5)]) rfl ?_
   have q41 := ((((P16_0.ext E17).keep K18q).keep K24q).keep K28q)
   have le42 : h5.size ≤ T12.heap.size := Nat.le_trans K6q.1 K12q.1
   have le43 : h5.size ≤ T16.heap.size := Nat.le_trans le42 K16q.1
   have ne44 : b5 ≠ b17 := (Nat.ne_of_lt (Nat.lt_of_lt_of_le A5.lt (Nat.le_trans le43 (Nat.le_of_eq g17.symm))))
   have q45 := ((((P16_1.ext E17).keep K18q nin0).keep K24q nin0).keep K28q (ninS ne44 nin0))
   have q46 := ((((((P6_0.keep K12q).keep K16q).ext E17).keep K18q).keep K24q).keep K28q)
   have ne47 : rs_6 ≠ b5 := (Ne.symm (Nat.ne_of_lt (Nat.lt_of_lt_of_le A5.lt (Nat.le_trans (Nat.le_refl _) sz_rs_6))))
   have le48 : T6.heap.size ≤ T16.heap.size := Nat.le_trans K12q.1 K16q.1
   have ne49 : rs_6 ≠ b17 := (Nat.ne_of_lt (Nat.lt_of_lt_of_le P6_0.lt (Nat.le_trans le48 (Nat.le_of_eq g17.symm))))
   have q50 := ((((((P6_1.keep K12q nin0).keep K16q (ninS ne47 nin0)).ext E17).keep K18q nin0).keep K24q nin0).keep K28q (ninS ne49 nin0))
   have q51 := ((((((P6_2.keep K12q nin0).keep K16q (ninS ne47 nin0)).ext E17).keep K18q nin0).keep K24q nin0).keep K28q (ninS ne49 nin0))
   have ne52 : rb_6 ≠ b5 := (Ne.symm (own_neAV (A5.keep K6q) (own_w5 hw) P6_3))
   have ne53 : rb_6 ≠ b17 := (Nat.ne_of_lt (Nat.lt_of_lt_of_le P6_3.lt (Nat.le_trans le48 (Nat.le_of_eq g17.symm))))
   have q54 := ((((((P6_3.keep K12q nin0).keep K16q (ninS ne52 nin0)).ext E17).keep K18q nin0).keep K24q nin0).keep K28q (ninS ne53 nin0))
   have q55 := ((P18_0.keep K24q).keep K28q)
   have ne56 : rs_18 ≠ b17 := (Ne.symm (Nat.ne_of_lt (Nat.lt_of_lt_of_le A17.lt (Nat.le_trans (Nat.le_refl _) sz_rs_18))))
   have q57 := ((P18_1.keep K24q nin0).keep K28q (ninS ne56 nin0))
   have q58 := ((P18_2.keep K24q nin0).keep K28q (ninS ne56 nin0))
   have ne59 : rb_18 ≠ b17 := (Ne.symm (own_neAV (A17.keep K18q) (own_w5 hw) P18_3))
   have q60 := ((P18_3.keep K24q nin0).keep K28q (ninS ne59 nin0))
   have q61 := ((((P16_2.ext E17).keep K18q nin0).keep K24q nin0).keep K28q (ninS ne44 nin0))
   have q62 := (((((P12_0.keep K16q).ext E17).keep K18q).keep K24q).keep K28q)
   have ne63 : rs_12 ≠ b5 := (Ne.symm (Nat.ne_of_lt (Nat.lt_of_lt_of_le A5.lt (Nat.le_trans K6q.1 sz_rs_12))))
   have ne64 : rs_12 ≠ b17 := (Nat.ne_of_lt (Nat.lt_of_lt_of_le P12_0.lt (Nat.le_trans K16q.1 (Nat.le_of_eq g17.symm))))
   have q65 := (((((P12_1.keep K16q (ninS ne63 nin0)).ext E17).keep K18q nin0).keep K24q nin0).keep K28q (ninS ne64 nin0))
   have q66 := (((((P12_2.keep K16q (ninS ne63 nin0)).ext E17).keep K18q nin0).keep K24q nin0).keep K28q (ninS ne64 nin0))
   have ne67 : rb_12 ≠ b5 := (Ne.symm (own_neAV ((A5.keep K6q).keep K12q) (own_w5 hw) P12_3))
   have ne68 : rb_12 ≠ b17 := (Nat.ne_of_lt (Nat.lt_of_lt_of_le P12_3.lt (Nat.le_trans K16q.1 (Nat.le_of_eq g17.symm))))
   have q69 := (((((P12_3.keep K16q (ninS ne67 nin0)).ext E17).keep K18q nin0).keep K24q nin0).keep K28q (ninS ne68 nin0))
   have q70 := (P24_0.keep K28q)
   have ne71 : rs_24 ≠ b17 := (Ne.symm (Nat.ne_of_lt (Nat.lt_of_lt_of_le A17.lt (Nat.le_trans K18q.1 sz_rs_24))))
   have q72 := (P24_1.keep K28q (ninS ne71 nin0))
   have q73 := (P24_2.keep K28q (ninS ne71 nin0))
   have ne74 : rb_24 ≠ b17 := (Ne.symm (own_neAV ((A17.keep K18q).keep K24q) (own_w5 hw) P24_3))
   have q75 := (P24_3.keep K28q (ninS ne74 nin0))
   have le76 : T6.heap.size ≤ h17.size := Nat.le_trans le48 E17.1
   have ne77 : rs_6 ≠ rs_18 := (Nat.ne_of_lt (Nat.lt_of_lt_of_le P6_0.lt (Nat.le_trans le76 sz_rs_18)))
   have le78 : T12.heap.size ≤ h17.size := Nat.le_trans K16q.1 E17.1
   have le79 : T12.heap.size ≤ T18.heap.size := Nat.le_trans le78 K18q.1
   have ne80 : rs_12 ≠ rs_24 := (Nat.ne_of_lt (Nat.lt_of_lt_of_le P12_0.lt (Nat.le_trans le79 sz_rs_24)))
   refine Home.st (own_pure (own_virtual XJ39 hx hZ hown (own_w62 hw) (own_w63 hw) (notFace_of_selects (args := #[]) (mvT hZ (own_w65 hw))) (own_w65 hw) (own_w64 hw) (own_w6 hw) (own_w66 hw) (by decide) (rm13_0 l Z a0 hw [] b5 b17 rs_6 rs_18 rb_6 rk_6 (cs_rm2_0 i0) rb_18 rk_18 (cs_rm2_0 i2) sv_COMPACT_STRINGS rs_12 rs_24 rb_12 rk_12 (cs_rm2_0 i1) rb_24 rk_24 (cs_rm2_0 i3) T28.heap n0 O28 q45 P28_1 q46 q50 q51 q54 q55 q57 q58 q60 S_COMPACT_STRINGS ne77 (cs_rm2_0_short i0) (cs_rm2_0_short i2) hCS q61 P28_2 q62 q65 q66 q69 q70 q72 q73 q75 ne80 (cs_rm2_0_short i1) (cs_rm2_0_short i3)) eJ39 q41 rfl (by rw [hml]; rfl) (argsL := [(.ref b17)]) (rest := []) (lenOf own_pd18 rfl) rfl rfl (W := 0) (by exact hW0) (by decide) (by decide) (hb hby at_101) (by decide) (by decide))) fun T81 X81 e81 => ?_
   show Home T81 (mkF m 104 #[.val (.int i0), .val (.int i1), .val (.int i2), .val (.int i3), .val (.int (0 : Int32)), .val (.int (0 : Int32)), .val (.ref b5), .val (.ref b17), .val (.int v40)] [(.int (f_rm13_0 (cs_rm2_0 i0) (cs_rm2_0 i2) (cs_rm2_0 i1) (cs_rm2_0 i3)))])
   obtain ⟨r82, hr82⟩ : ∃ z, z = (f_rm13_0 (cs_rm2_0 i0) (cs_rm2_0 i2) (cs_rm2_0 i1) (cs_rm2_0 i3)) := ⟨_, rfl⟩
   rw [← hr82]
   have br82 : ¬ r82 < (0 : Int32) ∧ ¬ (1 : Int32) < r82 := by rw [hr82]; exact f_rm13_0_bnd (cs_rm2_0 i0) (cs_rm2_0 i2) (cs_rm2_0 i1) (cs_rm2_0 i3)
   refine Home.run X81 hx hby sg0_104_1 (pc' := 106) (L' := #[.val (.int i0), .val (.int i1), .val (.int i2), .val (.int i3), .val (.int (0 : Int32)), .val (.int (0 : Int32)), .val (.ref b5), .val (.ref b17), .val (.int v40)]) (S' := [(.int v40), (.int r82)]) rfl ?_
   suffices J84 : ∀ {T : State} {lc : List Loc} (X : Stand p l e room_1 (s.setVm T24.vm) m #[(.int i0), (.int i1), (.int i2), (.int i3)] below meth c T lc 26 52) (N : Fr n0 lc) (eT : T.heap = T28.heap) (v85 : Int32) (hv85 : v85 = (if r82 = v40 then (1 : Int32) else (0 : Int32))), @Home p e below _ T (mkF m 114 #[.val (.int i0), .val (.int i1), .val (.int i2), .val (.int i3), .val (.int (0 : Int32)), .val (.int (0 : Int32)), .val (.ref b5), .val (.ref b17), .val (.int v40)] [(.int v85)]) by
    by_cases c83 : r82 = v40
    ·
     refine Home.go (fun _ => XS.icmpNo X81.here hx rfl (hb hby at_106) rfl (teq c83).2) ?_
     refine Home.run X81 hx hby sg0_109_2 (pc' := 114) (L' := #[.val (.int i0), .val (.int i1), .val (.int i2), .val (.int i3), .val (.int (0 : Int32)), .val (.int (0 : Int32)), .val (.ref b5), .val (.ref b17), .val (.int v40)]) (S' := [(.int (1 : Int32))]) rfl ?_
     exact J84 X81 NJ39 e81 _ (by simp only [if_pos c83])
    ·
     refine Home.go (fun _ => XS.icmpYes X81.here hx rfl (pc0 := 106) (pc' := 113) rfl (hb hby at_106) rfl (feq c83).2 (by decide) (by decide)) ?_
     refine Home.run X81 hx hby sg0_113_1 (pc' := 114) (L' := #[.val (.int i0), .val (.int i1), .val (.int i2), .val (.int i3), .val (.int (0 : Int32)), .val (.int (0 : Int32)), .val (.ref b5), .val (.ref b17), .val (.int v40)]) (S' := [(.int (0 : Int32))]) rfl ?_
     exact J84 X81 NJ39 e81 _ (by simp only [if_neg c83])
   intro TJ84 lcJ84 XJ84 NJ84 eJ84 v85 hv85
   have bv85 : ¬ v85 < (0 : Int32) ∧ ¬ (1 : Int32) < v85 := by rw [hv85]; exact (bnd_ite (bnd_mono (bnd_lit (1 : Int32)) (by decide +kernel) (by decide +kernel)) (bnd_mono (bnd_lit (0 : Int32)) (by decide +kernel) (by decide +kernel)))
   show Home TJ84 (mkF m 114 #[.val (.int i0), .val (.int i1), .val (.int i2), .val (.int i3), .val (.int (0 : Int32)), .val (.int (0 : Int32)), .val (.ref b5), .val (.ref b17), .val (.int v40)] [(.int v85)])
   exact HomeW.retN XJ84 hx hlk hZ (own_hEL hw) eJ84 Cd28 (t := .boolean) hret (by simp) (hb hby at_114) ⟨congrArg some (congrArg Value.int (own_end0 i0 i1 i2 i3 sv_COMPACT_STRINGS r2 hr2 r4 hr4 r33 hr33 v40 hv40 r82 hr82 v85 hv85 c7 c19)), NJ84⟩ (by decide) (by decide)
  ·
   refine Home.go (fun _ => XS.ifNo X18.here hx rfl (hb hby at_48) rfl ((if0 _ _).trans (feq c19).1)) ?_
   have bd22 : ¬ r4 < (1 : Int32) ∧ ¬ (1 : Int32) < r4 := ⟨(bnd_nel br4.1 c19 (by decide +kernel)), br4.2⟩
   have fx23 : r4 = (1 : Int32) := bnd_fix bd22
   try rw [fx23]
   show Home T18 (mkF m 51 #[.val (.int i0), .val (.int i1), .val (.int i2), .val (.int i3), .val (.int (0 : Int32)), .val (.int (1 : Int32)), .val (.ref b5), .unset, .unset] [(.ref rs_18), (.ref b17), (.ref b17)])
   refine Home.run X18 hx hby sg0_51_2 (pc' := 59) (L' := #[.val (.int i0), .val (.int i1), .val (.int i2), .val (.int i3), .val (.int (0 : Int32)), .val (.int (1 : Int32)), .val (.ref b5), .unset, .unset]) (S' := [.null, (.ref rs_18), (.ref b17), (.ref b17)]) rfl ?_
   have q86 := (A17.keep K18q)
   have q87 := (F_url_b17.keep K18q nin0)
   have q88 := (F_version_b17.keep K18q nin0)
   refine Home.call (own_special X18 hx hZ hown rfl (own_w46 hw) (own_w47 hw) (own_w6 hw) (own_w48 hw) (by decide) (rm10_1 l Z a0 hw [] b17 rs_18 T18.heap n0 O18 q86 q87 g_b17 q88) rfl rfl (by rw [hml]; rfl) (a := b17) (argsL := [(.ref rs_18), .null]) (rest := [(.ref b17)]) (lenOf own_pd9 rfl) rfl rfl (W := 1) (by exact hW0) (by decide) (by decide) (hb hby at_59) (by decide) (by decide)) ?_
   rintro _ T89 L89 X89 ⟨rfl, N89q, K89q, P89_0, P89_1, P89_2⟩
   have Cd89 := Cold.keep Ce18 K89q (allS (Safe.exa hZ.alike q86 (by decide) (by decide)) all0)
   have le90 : h0.size ≤ T6.heap.size := Nat.le_trans E5.1 K6q.1
   have le91 : h0.size ≤ T12.heap.size := Nat.le_trans le90 K12q.1
   have le92 : h0.size ≤ T16.heap.size := Nat.le_trans le91 K16q.1
   have O89 := Old.keep O18 K89q (allS g_b17 all0)
   have K89 : Keep h0 T89.heap ([] : List Addr) := Keep.trans K18 K89q (allS (Or.inr (Nat.le_trans le92 (Nat.le_of_eq g17.symm))) all0)
   have N89 := Fr.app N18 N89q
   show Home T89 (mkF m 62 #[.val (.int i0), .val (.int i1), .val (.int i2), .val (.int i3), .val (.int (0 : Int32)), .val (.int (1 : Int32)), .val (.ref b5), .unset, .unset] [(.ref b17)])
   refine Home.run X89 hx hby sg0_62_3 (pc' := 66) (L' := #[.val (.int i0), .val (.int i1), .val (.int i2), .val (.int i3), .val (.int (0 : Int32)), .val (.int (1 : Int32)), .val (.ref b5), .val (.ref b17), .unset]) (S' := [(.int i2), (.int i0)]) rfl ?_
   refine Home.st (own_pure (own_static X89 hx hZ hown (own_w59 hw) (own_w60 hw) (own_w2 hw) (own_w61 hw) (by decide) (rm12_0 l Z a0 hw [] i0 i2 T89.heap n0 O89) rfl rfl (by rw [hml]; rfl) (argsL := [(.int i0), (.int i2)]) (rest := []) (lenOf own_pd11 rfl) rfl rfl (W := 0) (by exact hW0) (by decide) (by decide) (hb hby at_66) (by decide) (by decide))) fun T93 X93 e93 => ?_
   show Home T93 (mkF m 69 #[.val (.int i0), .val (.int i1), .val (.int i2), .val (.int i3), .val (.int (0 : Int32)), .val (.int (1 : Int32)), .val (.ref b5), .val (.ref b17), .unset] [(.int (f_rm12_0 i0 i2))])
   obtain ⟨r94, hr94⟩ : ∃ z, z = (f_rm12_0 i0 i2) := ⟨_, rfl⟩
   rw [← hr94]
   suffices J97 : ∀ {T : State} {lc : List Loc} (X : Stand p l e room_1 (s.setVm T18.vm) m #[(.int i0), (.int i1), (.int i2), (.int i3)] below meth c T lc 20 40) (N : Fr n0 lc) (eT : T.heap = T89.heap) (v98 : Int32) (hv98 : v98 = (if r94 = (0 : Int32) then (0 : Int32) else (1 : Int32))), @Home p e below _ T (mkF m 95 #[.val (.int i0), .val (.int i1), .val (.int i2), .val (.int i3), .val (.int (0 : Int32)), .val (.int (1 : Int32)), .val (.ref b5), .val (.ref b17), .unset] [(.int v98)]) by
    by_cases c95 : r94 = (0 : Int32)
    ·
     refine Home.go (fun _ => XS.ifYes X93.here hx rfl (pc0 := 69) (pc' := 94) rfl (hb hby at_69) rfl ((if0 _ _).trans (teq c95).1) (by decide) (by decide)) ?_
     have bd96 : ¬ r94 < (0 : Int32) ∧ ¬ (0 : Int32) < r94 := ⟨(bnd_eql c95), (bnd_eqr c95)⟩
     refine Home.run X93 hx hby sg0_94_1 (pc' := 95) (L' := #[.val (.int i0), .val (.int i1), .val (.int i2), .val (.int i3), .val (.int (0 : Int32)), .val (.int (1 : Int32)), .val (.ref b5), .val (.ref b17), .unset]) (S' := [(.int (0 : Int32))]) rfl ?_
     exact J97 X93 N89 e93 _ (by simp only [if_pos c95])
    ·
     refine Home.go (fun _ => XS.ifNo X93.here hx rfl (hb hby at_69) rfl ((if0 _ _).trans (feq c95).1)) ?_
     refine Home.run X93 hx hby sg0_72_1 (pc' := 74) (L' := #[.val (.int i0), .val (.int i1), .val (.int i2), .val (.int i3), .val (.int (0 : Int32)), .val (.int (1 : Int32)), .val (.ref b5), .val (.ref b17), .unset]) (S' := [(.int (0 : Int32))]) rfl ?_
     refine Home.go (fun _ => XS.ifNo X93.here hx rfl (hb hby at_74) rfl ((if0 _ _).trans (teq (by decide)).2)) ?_
     refine Home.run X93 hx hby sg0_77_1 (pc' := 79) (L' := #[.val (.int i0), .val (.int i1), .val (.int i2), .val (.int i3), .val (.int (0 : Int32)), .val (.int (1 : Int32)), .val (.ref b5), .val (.ref b17), .unset]) (S' := [(.int (1 : Int32))]) rfl ?_
     refine Home.go (fun _ => XS.ifYes X93.here hx rfl (pc0 := 79) (pc' := 90) rfl (hb hby at_79) rfl ((if0 _ _).trans (feq (by decide)).2) (by decide) (by decide)) ?_
     refine Home.run X93 hx hby sg0_90_2 (pc' := 95) (L' := #[.val (.int i0), .val (.int i1), .val (.int i2), .val (.int i3), .val (.int (0 : Int32)), .val (.int (1 : Int32)), .val (.ref b5), .val (.ref b17), .unset]) (S' := [(.int (1 : Int32))]) rfl ?_
     exact J97 X93 N89 e93 _ (by simp only [if_neg c95])
   intro TJ97 lcJ97 XJ97 NJ97 eJ97 v98 hv98
   have bv98 : ¬ v98 < (0 : Int32) ∧ ¬ (1 : Int32) < v98 := by rw [hv98]; exact (bnd_ite (bnd_mono (bnd_lit (0 : Int32)) (by decide +kernel) (by decide +kernel)) (bnd_mono (bnd_lit (1 : Int32)) (by decide +kernel) (by decide +kernel)))
   show Home TJ97 (mkF m 95 #[.val (.int i0), .val (.int i1), .val (.int i2), .val (.int i3), .val (.int (0 : Int32)), .val (.int (1 : Int32)), .val (.ref b5), .val (.ref b17), .unset] [(.int v98)])
   refine Home.run XJ97 hx hby sg0_95_3 (pc' := 101) (L' := #[.val (.int i0), .val (.int i1), .val (.int i2), .val (.int i3), .val (.int (0 : Int32)), .val (.int (1 : Int32)), .val (.ref b5), .val (.ref b17), .val (.int v98)]) (S' := [(.ref b17), (.ref b5)]) rfl ?_
   have q99 := (((P16_0.ext E17).keep K18q).keep K89q)
   have le100 : h5.size ≤ T12.heap.size := Nat.le_trans K6q.1 K12q.1
   have le101 : h5.size ≤ T16.heap.size := Nat.le_trans le100 K16q.1
   have ne102 : b5 ≠ b17 := (Nat.ne_of_lt (Nat.lt_of_lt_of_le A5.lt (Nat.le_trans le101 (Nat.le_of_eq g17.symm))))
   have q103 := (((P16_1.ext E17).keep K18q nin0).keep K89q (ninS ne102 nin0))
   have q104 := (((((P6_0.keep K12q).keep K16q).ext E17).keep K18q).keep K89q)
   have ne105 : rs_6 ≠ b5 := (Ne.symm (Nat.ne_of_lt (Nat.lt_of_lt_of_le A5.lt (Nat.le_trans (Nat.le_refl _) sz_rs_6))))
   have le106 : T6.heap.size ≤ T16.heap.size := Nat.le_trans K12q.1 K16q.1
   have ne107 : rs_6 ≠ b17 := (Nat.ne_of_lt (Nat.lt_of_lt_of_le P6_0.lt (Nat.le_trans le106 (Nat.le_of_eq g17.symm))))
   have q108 := (((((P6_1.keep K12q nin0).keep K16q (ninS ne105 nin0)).ext E17).keep K18q nin0).keep K89q (ninS ne107 nin0))
   have q109 := (((((P6_2.keep K12q nin0).keep K16q (ninS ne105 nin0)).ext E17).keep K18q nin0).keep K89q (ninS ne107 nin0))
   have ne110 : rb_6 ≠ b5 := (Ne.symm (own_neAV (A5.keep K6q) (own_w5 hw) P6_3))
   have ne111 : rb_6 ≠ b17 := (Nat.ne_of_lt (Nat.lt_of_lt_of_le P6_3.lt (Nat.le_trans le106 (Nat.le_of_eq g17.symm))))
   have q112 := (((((P6_3.keep K12q nin0).keep K16q (ninS ne110 nin0)).ext E17).keep K18q nin0).keep K89q (ninS ne111 nin0))
   have q113 := (P18_0.keep K89q)
   have ne114 : rs_18 ≠ b17 := (Ne.symm (Nat.ne_of_lt (Nat.lt_of_lt_of_le A17.lt (Nat.le_trans (Nat.le_refl _) sz_rs_18))))
   have q115 := (P18_1.keep K89q (ninS ne114 nin0))
   have q116 := (P18_2.keep K89q (ninS ne114 nin0))
   have ne117 : rb_18 ≠ b17 := (Ne.symm (own_neAV (A17.keep K18q) (own_w5 hw) P18_3))
   have q118 := (P18_3.keep K89q (ninS ne117 nin0))
   have q119 := (((P16_2.ext E17).keep K18q nin0).keep K89q (ninS ne102 nin0))
   have le120 : T6.heap.size ≤ h17.size := Nat.le_trans le106 E17.1
   have ne121 : rs_6 ≠ rs_18 := (Nat.ne_of_lt (Nat.lt_of_lt_of_le P6_0.lt (Nat.le_trans le120 sz_rs_18)))
   refine Home.st (own_pure (own_virtual XJ97 hx hZ hown (own_w62 hw) (own_w63 hw) (notFace_of_selects (args := #[]) (mvT hZ (own_w65 hw))) (own_w65 hw) (own_w64 hw) (own_w6 hw) (own_w66 hw) (by decide) (rm13_1 l Z a0 hw [] b5 b17 rs_6 rs_18 rb_6 rk_6 (cs_rm2_0 i0) rb_18 rk_18 (cs_rm2_0 i2) sv_COMPACT_STRINGS rs_12 T89.heap n0 O89 q103 P89_1 q104 q108 q109 q112 q113 q115 q116 q118 S_COMPACT_STRINGS ne121 (cs_rm2_0_short i0) (cs_rm2_0_short i2) hCS q119 P89_2) eJ97 q99 rfl (by rw [hml]; rfl) (argsL := [(.ref b17)]) (rest := []) (lenOf own_pd18 rfl) rfl rfl (W := 0) (by exact hW0) (by decide) (by decide) (hb hby at_101) (by decide) (by decide))) fun T122 X122 e122 => ?_
   show Home T122 (mkF m 104 #[.val (.int i0), .val (.int i1), .val (.int i2), .val (.int i3), .val (.int (0 : Int32)), .val (.int (1 : Int32)), .val (.ref b5), .val (.ref b17), .val (.int v98)] [(.int (f_rm13_1 (cs_rm2_0 i0) (cs_rm2_0 i2)))])
   obtain ⟨r123, hr123⟩ : ∃ z, z = (f_rm13_1 (cs_rm2_0 i0) (cs_rm2_0 i2)) := ⟨_, rfl⟩
   rw [← hr123]
   have br123 : ¬ r123 < (0 : Int32) ∧ ¬ (1 : Int32) < r123 := by rw [hr123]; exact f_rm13_1_bnd (cs_rm2_0 i0) (cs_rm2_0 i2)
   refine Home.run X122 hx hby sg0_104_1 (pc' := 106) (L' := #[.val (.int i0), .val (.int i1), .val (.int i2), .val (.int i3), .val (.int (0 : Int32)), .val (.int (1 : Int32)), .val (.ref b5), .val (.ref b17), .val (.int v98)]) (S' := [(.int v98), (.int r123)]) rfl ?_
   suffices J125 : ∀ {T : State} {lc : List Loc} (X : Stand p l e room_1 (s.setVm T18.vm) m #[(.int i0), (.int i1), (.int i2), (.int i3)] below meth c T lc 20 40) (N : Fr n0 lc) (eT : T.heap = T89.heap) (v126 : Int32) (hv126 : v126 = (if r123 = v98 then (1 : Int32) else (0 : Int32))), @Home p e below _ T (mkF m 114 #[.val (.int i0), .val (.int i1), .val (.int i2), .val (.int i3), .val (.int (0 : Int32)), .val (.int (1 : Int32)), .val (.ref b5), .val (.ref b17), .val (.int v98)] [(.int v126)]) by
    by_cases c124 : r123 = v98
    ·
     refine Home.go (fun _ => XS.icmpNo X122.here hx rfl (hb hby at_106) rfl (teq c124).2) ?_
     refine Home.run X122 hx hby sg0_109_2 (pc' := 114) (L' := #[.val (.int i0), .val (.int i1), .val (.int i2), .val (.int i3), .val (.int (0 : Int32)), .val (.int (1 : Int32)), .val (.ref b5), .val (.ref b17), .val (.int v98)]) (S' := [(.int (1 : Int32))]) rfl ?_
     exact J125 X122 NJ97 e122 _ (by simp only [if_pos c124])
    ·
     refine Home.go (fun _ => XS.icmpYes X122.here hx rfl (pc0 := 106) (pc' := 113) rfl (hb hby at_106) rfl (feq c124).2 (by decide) (by decide)) ?_
     refine Home.run X122 hx hby sg0_113_1 (pc' := 114) (L' := #[.val (.int i0), .val (.int i1), .val (.int i2), .val (.int i3), .val (.int (0 : Int32)), .val (.int (1 : Int32)), .val (.ref b5), .val (.ref b17), .val (.int v98)]) (S' := [(.int (0 : Int32))]) rfl ?_
     exact J125 X122 NJ97 e122 _ (by simp only [if_neg c124])
   intro TJ125 lcJ125 XJ125 NJ125 eJ125 v126 hv126
   have bv126 : ¬ v126 < (0 : Int32) ∧ ¬ (1 : Int32) < v126 := by rw [hv126]; exact (bnd_ite (bnd_mono (bnd_lit (1 : Int32)) (by decide +kernel) (by decide +kernel)) (bnd_mono (bnd_lit (0 : Int32)) (by decide +kernel) (by decide +kernel)))
   show Home TJ125 (mkF m 114 #[.val (.int i0), .val (.int i1), .val (.int i2), .val (.int i3), .val (.int (0 : Int32)), .val (.int (1 : Int32)), .val (.ref b5), .val (.ref b17), .val (.int v98)] [(.int v126)])
   exact HomeW.retN XJ125 hx hlk hZ (own_hEL hw) eJ125 Cd89 (t := .boolean) hret (by simp) (hb hby at_114) ⟨congrArg some (congrArg Value.int (own_end1 i0 i1 i2 i3 sv_COMPACT_STRINGS r2 hr2 r4 hr4 r94 hr94 v98 hv98 r123 hr123 v126 hv126 c7 c19)), NJ125⟩ (by decide) (by decide)
 ·
  refine Home.go (fun _ => XS.ifNo X6.here hx rfl (hb hby at_22) rfl ((if0 _ _).trans (feq c7).1)) ?_
  have bd10 : ¬ r2 < (1 : Int32) ∧ ¬ (1 : Int32) < r2 := ⟨(bnd_nel br2.1 c7 (by decide +kernel)), br2.2⟩
  have fx11 : r2 = (1 : Int32) := bnd_fix bd10
  try rw [fx11]
  show Home T6 (mkF m 25 #[.val (.int i0), .val (.int i1), .val (.int i2), .val (.int i3), .val (.int (1 : Int32)), .val (.int r4), .unset, .unset, .unset] [(.ref rs_6), (.ref b5), (.ref b5)])
  refine Home.run X6 hx hby sg0_25_2 (pc' := 33) (L' := #[.val (.int i0), .val (.int i1), .val (.int i2), .val (.int i3), .val (.int (1 : Int32)), .val (.int r4), .unset, .unset, .unset]) (S' := [.null, (.ref rs_6), (.ref b5), (.ref b5)]) rfl ?_
  have q127 := (A5.keep K6q)
  have q128 := (F_url_b5.keep K6q nin0)
  have q129 := (F_version_b5.keep K6q nin0)
  refine Home.call (own_special X6 hx hZ hown rfl (own_w46 hw) (own_w47 hw) (own_w6 hw) (own_w48 hw) (by decide) (rm10_1 l Z a0 hw [] b5 rs_6 T6.heap n0 O6 q127 q128 g_b5 q129) rfl rfl (by rw [hml]; rfl) (a := b5) (argsL := [(.ref rs_6), .null]) (rest := [(.ref b5)]) (lenOf own_pd9 rfl) rfl rfl (W := 1) (by exact hW0) (by decide) (by decide) (hb hby at_33) (by decide) (by decide)) ?_
  rintro _ T130 L130 X130 ⟨rfl, N130q, K130q, P130_0, P130_1, P130_2⟩
  have Cd130 := Cold.keep Ce6 K130q (allS (Safe.exa hZ.alike q127 (by decide) (by decide)) all0)
  have O130 := Old.keep O6 K130q (allS g_b5 all0)
  have K130 : Keep h0 T130.heap ([] : List Addr) := Keep.trans K6 K130q (allS (Or.inr (Nat.le_trans (Nat.le_refl _) (Nat.le_of_eq g5.symm))) all0)
  have N130 := Fr.app N6 N130q
  show Home T130 (mkF m 36 #[.val (.int i0), .val (.int i1), .val (.int i2), .val (.int i3), .val (.int (1 : Int32)), .val (.int r4), .unset, .unset, .unset] [(.ref b5)])
  refine Home.run X130 hx hby sg0_36_1 (pc' := 38) (L' := #[.val (.int i0), .val (.int i1), .val (.int i2), .val (.int i3), .val (.int (1 : Int32)), .val (.int r4), .val (.ref b5), .unset, .unset]) (S' := []) rfl ?_
  refine Home.nw (own_newO X130 hx hZ hown (own_w4 hw) (own_w5 hw) (own_w6 hw) rfl rfl (hb hby at_38) (by decide) (by decide)) fun T131 h131 b131 g131 X131 e131 E131 A131 D131 => ?_
  have g_b131 : n0 ≤ b131 := Nat.le_trans (Old.le O130) (Nat.le_of_eq g131.symm)
  have F_url_b131 : Fld Z h131 b131 "com/example/invocant/invocant/Canonical" "url" "Ljava/lang/String;" .null := D131 (Or.inr (own_w56 hw)) (ty := (.object "java/lang/String")) (by decide)
  have F_version_b131 : Fld Z h131 b131 "com/example/invocant/invocant/Canonical" "version" "Ljava/lang/String;" .null := D131 (Or.inr (own_w58 hw)) (ty := (.object "java/lang/String")) (by decide)
  have O131 := O130.ext E131
  have K131 : Keep h0 h131 ([] : List Addr) := Keep.ext K130 E131
  have Cd131 := Cold.ext Cd130 E131
  show Home T131 (mkF m 41 #[.val (.int i0), .val (.int i1), .val (.int i2), .val (.int i3), .val (.int (1 : Int32)), .val (.int r4), .val (.ref b5), .unset, .unset] [(.ref b131)])
  refine Home.run X131 hx hby sg0_41_2 (pc' := 43) (L' := #[.val (.int i0), .val (.int i1), .val (.int i2), .val (.int i3), .val (.int (1 : Int32)), .val (.int r4), .val (.ref b5), .unset, .unset]) (S' := [(.int i2), (.ref b131), (.ref b131)]) rfl ?_
  refine Home.call (own_staticW X131 hx hZ hown (own_hEL hw) Cd131 all0 (own_w7 hw) (own_w8 hw) (own_w2 hw) (own_w9 hw) (by decide) (rm2_0 l Z a0 hw [] i2 sv_COMPACT_STRINGS h131 n0 O131 S_COMPACT_STRINGS hCS) e131 rfl (by rw [hml]; rfl) (argsL := [(.int i2)]) (rest := [(.ref b131), (.ref b131)]) (lenOf own_pd7 rfl) rfl rfl (W := 2) (by exact hW0) (by decide) (by decide) (hb hby at_43) (by decide) (by decide)) ?_
  rintro _ T132 L132 X132 ⟨⟨rs_132, rb_132, rk_132, rfl, N132q, sz_rs_132, K132q, P132_0, P132_1, P132_2, P132_3⟩, hZ, hown, Cd132, sR132⟩
  have Ce132 := Cold.put Cd132 (sR132 rfl _ rfl)
  have g_rs_132 : n0 ≤ rs_132 := Nat.le_trans (Old.le O131) sz_rs_132
  have O132 := Old.keep O131 K132q all0
  have K132 : Keep h0 T132.heap ([] : List Addr) := Keep.trans K131 K132q all0
  have N132 := Fr.app N130 N132q
  show Home T132 (mkF m 46 #[.val (.int i0), .val (.int i1), .val (.int i2), .val (.int i3), .val (.int (1 : Int32)), .val (.int r4), .val (.ref b5), .unset, .unset] [(.ref rs_132), (.ref b131), (.ref b131)])
  refine Home.run X132 hx hby sg0_46_1 (pc' := 48) (L' := #[.val (.int i0), .val (.int i1), .val (.int i2), .val (.int i3), .val (.int (1 : Int32)), .val (.int r4), .val (.ref b5), .unset, .unset]) (S' := [(.int r4), (.ref rs_132), (.ref b131), (.ref b131)]) rfl ?_
  by_cases c133 : r4 = (0 : Int32)
  ·
   refine Home.go (fun _ => XS.ifYes X132.here hx rfl (pc0 := 48) (pc' := 55) rfl (hb hby at_48) rfl ((if0 _ _).trans (teq c133).1) (by decide) (by decide)) ?_
   have bd134 : ¬ r4 < (0 : Int32) ∧ ¬ (0 : Int32) < r4 := ⟨(bnd_eql c133), (bnd_eqr c133)⟩
   have fx135 : r4 = (0 : Int32) := bnd_fix bd134
   try rw [fx135]
   show Home T132 (mkF m 55 #[.val (.int i0), .val (.int i1), .val (.int i2), .val (.int i3), .val (.int (1 : Int32)), .val (.int (0 : Int32)), .val (.ref b5), .unset, .unset] [(.ref rs_132), (.ref b131), (.ref b131)])
   refine Home.run X132 hx hby sg0_55_1 (pc' := 56) (L' := #[.val (.int i0), .val (.int i1), .val (.int i2), .val (.int i3), .val (.int (1 : Int32)), .val (.int (0 : Int32)), .val (.ref b5), .unset, .unset]) (S' := [(.int i3), (.ref rs_132), (.ref b131), (.ref b131)]) rfl ?_
   refine Home.call (own_staticW X132 hx hZ hown (own_hEL hw) Ce132 all0 (own_w7 hw) (own_w8 hw) (own_w2 hw) (own_w9 hw) (by decide) (rm2_0 l Z a0 hw [] i3 sv_COMPACT_STRINGS T132.heap n0 O132 S_COMPACT_STRINGS hCS) rfl rfl (by rw [hml]; rfl) (argsL := [(.int i3)]) (rest := [(.ref rs_132), (.ref b131), (.ref b131)]) (lenOf own_pd7 rfl) rfl rfl (W := 3) (by exact hW0) (by decide) (by decide) (hb hby at_56) (by decide) (by decide)) ?_
   rintro _ T138 L138 X138 ⟨⟨rs_138, rb_138, rk_138, rfl, N138q, sz_rs_138, K138q, P138_0, P138_1, P138_2, P138_3⟩, hZ, hown, Cd138, sR138⟩
   have Ce138 := Cold.put Cd138 (sR138 rfl _ rfl)
   have g_rs_138 : n0 ≤ rs_138 := Nat.le_trans (Old.le O132) sz_rs_138
   have O138 := Old.keep O132 K138q all0
   have K138 : Keep h0 T138.heap ([] : List Addr) := Keep.trans K132 K138q all0
   have N138 := Fr.app N132 N138q
   show Home T138 (mkF m 59 #[.val (.int i0), .val (.int i1), .val (.int i2), .val (.int i3), .val (.int (1 : Int32)), .val (.int (0 : Int32)), .val (.ref b5), .unset, .unset] [(.ref rs_138), (.ref rs_132), (.ref b131), (.ref b131)])
   have q139 := ((A131.keep K132q).keep K138q)
   have q140 := ((F_url_b131.keep K132q nin0).keep K138q nin0)
   have q141 := ((F_version_b131.keep K132q nin0).keep K138q nin0)
   refine Home.call (own_special X138 hx hZ hown rfl (own_w46 hw) (own_w47 hw) (own_w6 hw) (own_w48 hw) (by decide) (rm10_0 l Z a0 hw [] b131 rs_132 rs_138 T138.heap n0 O138 q139 q140 g_b131 q141) rfl rfl (by rw [hml]; rfl) (a := b131) (argsL := [(.ref rs_132), (.ref rs_138)]) (rest := [(.ref b131)]) (lenOf own_pd9 rfl) rfl rfl (W := 1) (by exact hW0) (by decide) (by decide) (hb hby at_59) (by decide) (by decide)) ?_
   rintro _ T142 L142 X142 ⟨rfl, N142q, K142q, P142_0, P142_1, P142_2⟩
   have Cd142 := Cold.keep Ce138 K142q (allS (Safe.exa hZ.alike q139 (by decide) (by decide)) all0)
   have le143 : h0.size ≤ T6.heap.size := Nat.le_trans E5.1 K6q.1
   have le144 : h0.size ≤ T130.heap.size := Nat.le_trans le143 K130q.1
   have O142 := Old.keep O138 K142q (allS g_b131 all0)
   have K142 : Keep h0 T142.heap ([] : List Addr) := Keep.trans K138 K142q (allS (Or.inr (Nat.le_trans le144 (Nat.le_of_eq g131.symm))) all0)
   have N142 := Fr.app N138 N142q
   show Home T142 (mkF m 62 #[.val (.int i0), .val (.int i1), .val (.int i2), .val (.int i3), .val (.int (1 : Int32)), .val (.int (0 : Int32)), .val (.ref b5), .unset, .unset] [(.ref b131)])
   refine Home.run X142 hx hby sg0_62_3 (pc' := 66) (L' := #[.val (.int i0), .val (.int i1), .val (.int i2), .val (.int i3), .val (.int (1 : Int32)), .val (.int (0 : Int32)), .val (.ref b5), .val (.ref b131), .unset]) (S' := [(.int i2), (.int i0)]) rfl ?_
   refine Home.st (own_pure (own_static X142 hx hZ hown (own_w59 hw) (own_w60 hw) (own_w2 hw) (own_w61 hw) (by decide) (rm12_0 l Z a0 hw [] i0 i2 T142.heap n0 O142) rfl rfl (by rw [hml]; rfl) (argsL := [(.int i0), (.int i2)]) (rest := []) (lenOf own_pd11 rfl) rfl rfl (W := 0) (by exact hW0) (by decide) (by decide) (hb hby at_66) (by decide) (by decide))) fun T145 X145 e145 => ?_
   show Home T145 (mkF m 69 #[.val (.int i0), .val (.int i1), .val (.int i2), .val (.int i3), .val (.int (1 : Int32)), .val (.int (0 : Int32)), .val (.ref b5), .val (.ref b131), .unset] [(.int (f_rm12_0 i0 i2))])
   obtain ⟨r146, hr146⟩ : ∃ z, z = (f_rm12_0 i0 i2) := ⟨_, rfl⟩
   rw [← hr146]
   suffices J149 : ∀ {T : State} {lc : List Loc} (X : Stand p l e room_1 (s.setVm T138.vm) m #[(.int i0), (.int i1), (.int i2), (.int i3)] below meth c T lc 20 40) (N : Fr n0 lc) (eT : T.heap = T142.heap) (v150 : Int32) (hv150 : v150 = (if r146 = (0 : Int32) then (0 : Int32) else (1 : Int32))), @Home p e below _ T (mkF m 95 #[.val (.int i0), .val (.int i1), .val (.int i2), .val (.int i3), .val (.int (1 : Int32)), .val (.int (0 : Int32)), .val (.ref b5), .val (.ref b131), .unset] [(.int v150)]) by
    by_cases c147 : r146 = (0 : Int32)
    ·
     refine Home.go (fun _ => XS.ifYes X145.here hx rfl (pc0 := 69) (pc' := 94) rfl (hb hby at_69) rfl ((if0 _ _).trans (teq c147).1) (by decide) (by decide)) ?_
     have bd148 : ¬ r146 < (0 : Int32) ∧ ¬ (0 : Int32) < r146 := ⟨(bnd_eql c147), (bnd_eqr c147)⟩
     refine Home.run X145 hx hby sg0_94_1 (pc' := 95) (L' := #[.val (.int i0), .val (.int i1), .val (.int i2), .val (.int i3), .val (.int (1 : Int32)), .val (.int (0 : Int32)), .val (.ref b5), .val (.ref b131), .unset]) (S' := [(.int (0 : Int32))]) rfl ?_
     exact J149 X145 N142 e145 _ (by simp only [if_pos c147])
    ·
     refine Home.go (fun _ => XS.ifNo X145.here hx rfl (hb hby at_69) rfl ((if0 _ _).trans (feq c147).1)) ?_
     refine Home.run X145 hx hby sg0_72_1 (pc' := 74) (L' := #[.val (.int i0), .val (.int i1), .val (.int i2), .val (.int i3), .val (.int (1 : Int32)), .val (.int (0 : Int32)), .val (.ref b5), .val (.ref b131), .unset]) (S' := [(.int (1 : Int32))]) rfl ?_
     refine Home.go (fun _ => XS.ifYes X145.here hx rfl (pc0 := 74) (pc' := 90) rfl (hb hby at_74) rfl ((if0 _ _).trans (feq (by decide)).2) (by decide) (by decide)) ?_
     refine Home.run X145 hx hby sg0_90_2 (pc' := 95) (L' := #[.val (.int i0), .val (.int i1), .val (.int i2), .val (.int i3), .val (.int (1 : Int32)), .val (.int (0 : Int32)), .val (.ref b5), .val (.ref b131), .unset]) (S' := [(.int (1 : Int32))]) rfl ?_
     exact J149 X145 N142 e145 _ (by simp only [if_neg c147])
   intro TJ149 lcJ149 XJ149 NJ149 eJ149 v150 hv150
   have bv150 : ¬ v150 < (0 : Int32) ∧ ¬ (1 : Int32) < v150 := by rw [hv150]; exact (bnd_ite (bnd_mono (bnd_lit (0 : Int32)) (by decide +kernel) (by decide +kernel)) (bnd_mono (bnd_lit (1 : Int32)) (by decide +kernel) (by decide +kernel)))
   show Home TJ149 (mkF m 95 #[.val (.int i0), .val (.int i1), .val (.int i2), .val (.int i3), .val (.int (1 : Int32)), .val (.int (0 : Int32)), .val (.ref b5), .val (.ref b131), .unset] [(.int v150)])
   refine Home.run XJ149 hx hby sg0_95_3 (pc' := 101) (L' := #[.val (.int i0), .val (.int i1), .val (.int i2), .val (.int i3), .val (.int (1 : Int32)), .val (.int (0 : Int32)), .val (.ref b5), .val (.ref b131), .val (.int v150)]) (S' := [(.ref b131), (.ref b5)]) rfl ?_
   have q151 := ((((P130_0.ext E131).keep K132q).keep K138q).keep K142q)
   have le152 : h5.size ≤ T130.heap.size := Nat.le_trans K6q.1 K130q.1
   have ne153 : b5 ≠ b131 := (Nat.ne_of_lt (Nat.lt_of_lt_of_le A5.lt (Nat.le_trans le152 (Nat.le_of_eq g131.symm))))
   have q154 := ((((P130_1.ext E131).keep K132q nin0).keep K138q nin0).keep K142q (ninS ne153 nin0))
   have q155 := (((((P6_0.keep K130q).ext E131).keep K132q).keep K138q).keep K142q)
   have ne156 : rs_6 ≠ b5 := (Ne.symm (Nat.ne_of_lt (Nat.lt_of_lt_of_le A5.lt (Nat.le_trans (Nat.le_refl _) sz_rs_6))))
   have ne157 : rs_6 ≠ b131 := (Nat.ne_of_lt (Nat.lt_of_lt_of_le P6_0.lt (Nat.le_trans K130q.1 (Nat.le_of_eq g131.symm))))
   have q158 := (((((P6_1.keep K130q (ninS ne156 nin0)).ext E131).keep K132q nin0).keep K138q nin0).keep K142q (ninS ne157 nin0))
   have q159 := (((((P6_2.keep K130q (ninS ne156 nin0)).ext E131).keep K132q nin0).keep K138q nin0).keep K142q (ninS ne157 nin0))
   have ne160 : rb_6 ≠ b5 := (Ne.symm (own_neAV (A5.keep K6q) (own_w5 hw) P6_3))
   have ne161 : rb_6 ≠ b131 := (Nat.ne_of_lt (Nat.lt_of_lt_of_le P6_3.lt (Nat.le_trans K130q.1 (Nat.le_of_eq g131.symm))))
   have q162 := (((((P6_3.keep K130q (ninS ne160 nin0)).ext E131).keep K132q nin0).keep K138q nin0).keep K142q (ninS ne161 nin0))
   have q163 := ((P132_0.keep K138q).keep K142q)
   have ne164 : rs_132 ≠ b131 := (Ne.symm (Nat.ne_of_lt (Nat.lt_of_lt_of_le A131.lt (Nat.le_trans (Nat.le_refl _) sz_rs_132))))
   have q165 := ((P132_1.keep K138q nin0).keep K142q (ninS ne164 nin0))
   have q166 := ((P132_2.keep K138q nin0).keep K142q (ninS ne164 nin0))
   have ne167 : rb_132 ≠ b131 := (Ne.symm (own_neAV (A131.keep K132q) (own_w5 hw) P132_3))
   have q168 := ((P132_3.keep K138q nin0).keep K142q (ninS ne167 nin0))
   have q169 := ((((P130_2.ext E131).keep K132q nin0).keep K138q nin0).keep K142q (ninS ne153 nin0))
   have le170 : T6.heap.size ≤ h131.size := Nat.le_trans K130q.1 E131.1
   have ne171 : rs_6 ≠ rs_132 := (Nat.ne_of_lt (Nat.lt_of_lt_of_le P6_0.lt (Nat.le_trans le170 sz_rs_132)))
   refine Home.st (own_pure (own_virtual XJ149 hx hZ hown (own_w62 hw) (own_w63 hw) (notFace_of_selects (args := #[]) (mvT hZ (own_w65 hw))) (own_w65 hw) (own_w64 hw) (own_w6 hw) (own_w66 hw) (by decide) (rm13_2 l Z a0 hw [] b5 b131 rs_6 rs_132 rb_6 rk_6 (cs_rm2_0 i0) rb_132 rk_132 (cs_rm2_0 i2) sv_COMPACT_STRINGS T142.heap n0 O142 q154 P142_1 q155 q158 q159 q162 q163 q165 q166 q168 S_COMPACT_STRINGS ne171 (cs_rm2_0_short i0) (cs_rm2_0_short i2) hCS q169) eJ149 q151 rfl (by rw [hml]; rfl) (argsL := [(.ref b131)]) (rest := []) (lenOf own_pd18 rfl) rfl rfl (W := 0) (by exact hW0) (by decide) (by decide) (hb hby at_101) (by decide) (by decide))) fun T172 X172 e172 => ?_
   show Home T172 (mkF m 104 #[.val (.int i0), .val (.int i1), .val (.int i2), .val (.int i3), .val (.int (1 : Int32)), .val (.int (0 : Int32)), .val (.ref b5), .val (.ref b131), .val (.int v150)] [(.int (f_rm13_2 (cs_rm2_0 i0) (cs_rm2_0 i2)))])
   obtain ⟨r173, hr173⟩ : ∃ z, z = (f_rm13_2 (cs_rm2_0 i0) (cs_rm2_0 i2)) := ⟨_, rfl⟩
   rw [← hr173]
   have br173 : ¬ r173 < (0 : Int32) ∧ ¬ (1 : Int32) < r173 := by rw [hr173]; exact f_rm13_2_bnd (cs_rm2_0 i0) (cs_rm2_0 i2)
   refine Home.run X172 hx hby sg0_104_1 (pc' := 106) (L' := #[.val (.int i0), .val (.int i1), .val (.int i2), .val (.int i3), .val (.int (1 : Int32)), .val (.int (0 : Int32)), .val (.ref b5), .val (.ref b131), .val (.int v150)]) (S' := [(.int v150), (.int r173)]) rfl ?_
   suffices J175 : ∀ {T : State} {lc : List Loc} (X : Stand p l e room_1 (s.setVm T138.vm) m #[(.int i0), (.int i1), (.int i2), (.int i3)] below meth c T lc 20 40) (N : Fr n0 lc) (eT : T.heap = T142.heap) (v176 : Int32) (hv176 : v176 = (if r173 = v150 then (1 : Int32) else (0 : Int32))), @Home p e below _ T (mkF m 114 #[.val (.int i0), .val (.int i1), .val (.int i2), .val (.int i3), .val (.int (1 : Int32)), .val (.int (0 : Int32)), .val (.ref b5), .val (.ref b131), .val (.int v150)] [(.int v176)]) by
    by_cases c174 : r173 = v150
    ·
     refine Home.go (fun _ => XS.icmpNo X172.here hx rfl (hb hby at_106) rfl (teq c174).2) ?_
     refine Home.run X172 hx hby sg0_109_2 (pc' := 114) (L' := #[.val (.int i0), .val (.int i1), .val (.int i2), .val (.int i3), .val (.int (1 : Int32)), .val (.int (0 : Int32)), .val (.ref b5), .val (.ref b131), .val (.int v150)]) (S' := [(.int (1 : Int32))]) rfl ?_
     exact J175 X172 NJ149 e172 _ (by simp only [if_pos c174])
    ·
     refine Home.go (fun _ => XS.icmpYes X172.here hx rfl (pc0 := 106) (pc' := 113) rfl (hb hby at_106) rfl (feq c174).2 (by decide) (by decide)) ?_
     refine Home.run X172 hx hby sg0_113_1 (pc' := 114) (L' := #[.val (.int i0), .val (.int i1), .val (.int i2), .val (.int i3), .val (.int (1 : Int32)), .val (.int (0 : Int32)), .val (.ref b5), .val (.ref b131), .val (.int v150)]) (S' := [(.int (0 : Int32))]) rfl ?_
     exact J175 X172 NJ149 e172 _ (by simp only [if_neg c174])
   intro TJ175 lcJ175 XJ175 NJ175 eJ175 v176 hv176
   have bv176 : ¬ v176 < (0 : Int32) ∧ ¬ (1 : Int32) < v176 := by rw [hv176]; exact (bnd_ite (bnd_mono (bnd_lit (1 : Int32)) (by decide +kernel) (by decide +kernel)) (bnd_mono (bnd_lit (0 : Int32)) (by decide +kernel) (by decide +kernel)))
   show Home TJ175 (mkF m 114 #[.val (.int i0), .val (.int i1), .val (.int i2), .val (.int i3), .val (.int (1 : Int32)), .val (.int (0 : Int32)), .val (.ref b5), .val (.ref b131), .val (.int v150)] [(.int v176)])
   exact HomeW.retN XJ175 hx hlk hZ (own_hEL hw) eJ175 Cd142 (t := .boolean) hret (by simp) (hb hby at_114) ⟨congrArg some (congrArg Value.int (own_end2 i0 i1 i2 i3 sv_COMPACT_STRINGS r2 hr2 r4 hr4 r146 hr146 v150 hv150 r173 hr173 v176 hv176 c7 c133)), NJ175⟩ (by decide) (by decide)
  ·
   refine Home.go (fun _ => XS.ifNo X132.here hx rfl (hb hby at_48) rfl ((if0 _ _).trans (feq c133).1)) ?_
   have bd136 : ¬ r4 < (1 : Int32) ∧ ¬ (1 : Int32) < r4 := ⟨(bnd_nel br4.1 c133 (by decide +kernel)), br4.2⟩
   have fx137 : r4 = (1 : Int32) := bnd_fix bd136
   try rw [fx137]
   show Home T132 (mkF m 51 #[.val (.int i0), .val (.int i1), .val (.int i2), .val (.int i3), .val (.int (1 : Int32)), .val (.int (1 : Int32)), .val (.ref b5), .unset, .unset] [(.ref rs_132), (.ref b131), (.ref b131)])
   refine Home.run X132 hx hby sg0_51_2 (pc' := 59) (L' := #[.val (.int i0), .val (.int i1), .val (.int i2), .val (.int i3), .val (.int (1 : Int32)), .val (.int (1 : Int32)), .val (.ref b5), .unset, .unset]) (S' := [.null, (.ref rs_132), (.ref b131), (.ref b131)]) rfl ?_
   have q177 := (A131.keep K132q)
   have q178 := (F_url_b131.keep K132q nin0)
   have q179 := (F_version_b131.keep K132q nin0)
   refine Home.call (own_special X132 hx hZ hown rfl (own_w46 hw) (own_w47 hw) (own_w6 hw) (own_w48 hw) (by decide) (rm10_1 l Z a0 hw [] b131 rs_132 T132.heap n0 O132 q177 q178 g_b131 q179) rfl rfl (by rw [hml]; rfl) (a := b131) (argsL := [(.ref rs_132), .null]) (rest := [(.ref b131)]) (lenOf own_pd9 rfl) rfl rfl (W := 1) (by exact hW0) (by decide) (by decide) (hb hby at_59) (by decide) (by decide)) ?_
   rintro _ T180 L180 X180 ⟨rfl, N180q, K180q, P180_0, P180_1, P180_2⟩
   have Cd180 := Cold.keep Ce132 K180q (allS (Safe.exa hZ.alike q177 (by decide) (by decide)) all0)
   have le181 : h0.size ≤ T6.heap.size := Nat.le_trans E5.1 K6q.1
   have le182 : h0.size ≤ T130.heap.size := Nat.le_trans le181 K130q.1
   have O180 := Old.keep O132 K180q (allS g_b131 all0)
   have K180 : Keep h0 T180.heap ([] : List Addr) := Keep.trans K132 K180q (allS (Or.inr (Nat.le_trans le182 (Nat.le_of_eq g131.symm))) all0)
   have N180 := Fr.app N132 N180q
   show Home T180 (mkF m 62 #[.val (.int i0), .val (.int i1), .val (.int i2), .val (.int i3), .val (.int (1 : Int32)), .val (.int (1 : Int32)), .val (.ref b5), .unset, .unset] [(.ref b131)])
   refine Home.run X180 hx hby sg0_62_3 (pc' := 66) (L' := #[.val (.int i0), .val (.int i1), .val (.int i2), .val (.int i3), .val (.int (1 : Int32)), .val (.int (1 : Int32)), .val (.ref b5), .val (.ref b131), .unset]) (S' := [(.int i2), (.int i0)]) rfl ?_
   refine Home.st (own_pure (own_static X180 hx hZ hown (own_w59 hw) (own_w60 hw) (own_w2 hw) (own_w61 hw) (by decide) (rm12_0 l Z a0 hw [] i0 i2 T180.heap n0 O180) rfl rfl (by rw [hml]; rfl) (argsL := [(.int i0), (.int i2)]) (rest := []) (lenOf own_pd11 rfl) rfl rfl (W := 0) (by exact hW0) (by decide) (by decide) (hb hby at_66) (by decide) (by decide))) fun T183 X183 e183 => ?_
   show Home T183 (mkF m 69 #[.val (.int i0), .val (.int i1), .val (.int i2), .val (.int i3), .val (.int (1 : Int32)), .val (.int (1 : Int32)), .val (.ref b5), .val (.ref b131), .unset] [(.int (f_rm12_0 i0 i2))])
   obtain ⟨r184, hr184⟩ : ∃ z, z = (f_rm12_0 i0 i2) := ⟨_, rfl⟩
   rw [← hr184]
   suffices J187 : ∀ {T : State} {lc : List Loc} (X : Stand p l e room_1 (s.setVm T132.vm) m #[(.int i0), (.int i1), (.int i2), (.int i3)] below meth c T lc 14 28) (N : Fr n0 lc) (eT : T.heap = T180.heap) (v188 : Int32) (hv188 : v188 = (if r184 = (0 : Int32) then (0 : Int32) else (1 : Int32))), @Home p e below _ T (mkF m 95 #[.val (.int i0), .val (.int i1), .val (.int i2), .val (.int i3), .val (.int (1 : Int32)), .val (.int (1 : Int32)), .val (.ref b5), .val (.ref b131), .unset] [(.int v188)]) by
    by_cases c185 : r184 = (0 : Int32)
    ·
     refine Home.go (fun _ => XS.ifYes X183.here hx rfl (pc0 := 69) (pc' := 94) rfl (hb hby at_69) rfl ((if0 _ _).trans (teq c185).1) (by decide) (by decide)) ?_
     have bd186 : ¬ r184 < (0 : Int32) ∧ ¬ (0 : Int32) < r184 := ⟨(bnd_eql c185), (bnd_eqr c185)⟩
     refine Home.run X183 hx hby sg0_94_1 (pc' := 95) (L' := #[.val (.int i0), .val (.int i1), .val (.int i2), .val (.int i3), .val (.int (1 : Int32)), .val (.int (1 : Int32)), .val (.ref b5), .val (.ref b131), .unset]) (S' := [(.int (0 : Int32))]) rfl ?_
     exact J187 X183 N180 e183 _ (by simp only [if_pos c185])
    ·
     refine Home.go (fun _ => XS.ifNo X183.here hx rfl (hb hby at_69) rfl ((if0 _ _).trans (feq c185).1)) ?_
     refine Home.run X183 hx hby sg0_72_1 (pc' := 74) (L' := #[.val (.int i0), .val (.int i1), .val (.int i2), .val (.int i3), .val (.int (1 : Int32)), .val (.int (1 : Int32)), .val (.ref b5), .val (.ref b131), .unset]) (S' := [(.int (1 : Int32))]) rfl ?_
     refine Home.go (fun _ => XS.ifYes X183.here hx rfl (pc0 := 74) (pc' := 90) rfl (hb hby at_74) rfl ((if0 _ _).trans (feq (by decide)).2) (by decide) (by decide)) ?_
     refine Home.run X183 hx hby sg0_90_2 (pc' := 95) (L' := #[.val (.int i0), .val (.int i1), .val (.int i2), .val (.int i3), .val (.int (1 : Int32)), .val (.int (1 : Int32)), .val (.ref b5), .val (.ref b131), .unset]) (S' := [(.int (1 : Int32))]) rfl ?_
     exact J187 X183 N180 e183 _ (by simp only [if_neg c185])
   intro TJ187 lcJ187 XJ187 NJ187 eJ187 v188 hv188
   have bv188 : ¬ v188 < (0 : Int32) ∧ ¬ (1 : Int32) < v188 := by rw [hv188]; exact (bnd_ite (bnd_mono (bnd_lit (0 : Int32)) (by decide +kernel) (by decide +kernel)) (bnd_mono (bnd_lit (1 : Int32)) (by decide +kernel) (by decide +kernel)))
   show Home TJ187 (mkF m 95 #[.val (.int i0), .val (.int i1), .val (.int i2), .val (.int i3), .val (.int (1 : Int32)), .val (.int (1 : Int32)), .val (.ref b5), .val (.ref b131), .unset] [(.int v188)])
   refine Home.run XJ187 hx hby sg0_95_3 (pc' := 101) (L' := #[.val (.int i0), .val (.int i1), .val (.int i2), .val (.int i3), .val (.int (1 : Int32)), .val (.int (1 : Int32)), .val (.ref b5), .val (.ref b131), .val (.int v188)]) (S' := [(.ref b131), (.ref b5)]) rfl ?_
   have q189 := (((P130_0.ext E131).keep K132q).keep K180q)
   have le190 : h5.size ≤ T130.heap.size := Nat.le_trans K6q.1 K130q.1
   have ne191 : b5 ≠ b131 := (Nat.ne_of_lt (Nat.lt_of_lt_of_le A5.lt (Nat.le_trans le190 (Nat.le_of_eq g131.symm))))
   have q192 := (((P130_1.ext E131).keep K132q nin0).keep K180q (ninS ne191 nin0))
   have q193 := ((((P6_0.keep K130q).ext E131).keep K132q).keep K180q)
   have ne194 : rs_6 ≠ b5 := (Ne.symm (Nat.ne_of_lt (Nat.lt_of_lt_of_le A5.lt (Nat.le_trans (Nat.le_refl _) sz_rs_6))))
   have ne195 : rs_6 ≠ b131 := (Nat.ne_of_lt (Nat.lt_of_lt_of_le P6_0.lt (Nat.le_trans K130q.1 (Nat.le_of_eq g131.symm))))
   have q196 := ((((P6_1.keep K130q (ninS ne194 nin0)).ext E131).keep K132q nin0).keep K180q (ninS ne195 nin0))
   have q197 := ((((P6_2.keep K130q (ninS ne194 nin0)).ext E131).keep K132q nin0).keep K180q (ninS ne195 nin0))
   have ne198 : rb_6 ≠ b5 := (Ne.symm (own_neAV (A5.keep K6q) (own_w5 hw) P6_3))
   have ne199 : rb_6 ≠ b131 := (Nat.ne_of_lt (Nat.lt_of_lt_of_le P6_3.lt (Nat.le_trans K130q.1 (Nat.le_of_eq g131.symm))))
   have q200 := ((((P6_3.keep K130q (ninS ne198 nin0)).ext E131).keep K132q nin0).keep K180q (ninS ne199 nin0))
   have q201 := (P132_0.keep K180q)
   have ne202 : rs_132 ≠ b131 := (Ne.symm (Nat.ne_of_lt (Nat.lt_of_lt_of_le A131.lt (Nat.le_trans (Nat.le_refl _) sz_rs_132))))
   have q203 := (P132_1.keep K180q (ninS ne202 nin0))
   have q204 := (P132_2.keep K180q (ninS ne202 nin0))
   have ne205 : rb_132 ≠ b131 := (Ne.symm (own_neAV (A131.keep K132q) (own_w5 hw) P132_3))
   have q206 := (P132_3.keep K180q (ninS ne205 nin0))
   have q207 := (((P130_2.ext E131).keep K132q nin0).keep K180q (ninS ne191 nin0))
   have le208 : T6.heap.size ≤ h131.size := Nat.le_trans K130q.1 E131.1
   have ne209 : rs_6 ≠ rs_132 := (Nat.ne_of_lt (Nat.lt_of_lt_of_le P6_0.lt (Nat.le_trans le208 sz_rs_132)))
   refine Home.st (own_pure (own_virtual XJ187 hx hZ hown (own_w62 hw) (own_w63 hw) (notFace_of_selects (args := #[]) (mvT hZ (own_w65 hw))) (own_w65 hw) (own_w64 hw) (own_w6 hw) (own_w66 hw) (by decide) (rm13_2 l Z a0 hw [] b5 b131 rs_6 rs_132 rb_6 rk_6 (cs_rm2_0 i0) rb_132 rk_132 (cs_rm2_0 i2) sv_COMPACT_STRINGS T180.heap n0 O180 q192 P180_1 q193 q196 q197 q200 q201 q203 q204 q206 S_COMPACT_STRINGS ne209 (cs_rm2_0_short i0) (cs_rm2_0_short i2) hCS q207) eJ187 q189 rfl (by rw [hml]; rfl) (argsL := [(.ref b131)]) (rest := []) (lenOf own_pd18 rfl) rfl rfl (W := 0) (by exact hW0) (by decide) (by decide) (hb hby at_101) (by decide) (by decide))) fun T210 X210 e210 => ?_
   show Home T210 (mkF m 104 #[.val (.int i0), .val (.int i1), .val (.int i2), .val (.int i3), .val (.int (1 : Int32)), .val (.int (1 : Int32)), .val (.ref b5), .val (.ref b131), .val (.int v188)] [(.int (f_rm13_2 (cs_rm2_0 i0) (cs_rm2_0 i2)))])
   obtain ⟨r211, hr211⟩ : ∃ z, z = (f_rm13_2 (cs_rm2_0 i0) (cs_rm2_0 i2)) := ⟨_, rfl⟩
   rw [← hr211]
   have br211 : ¬ r211 < (0 : Int32) ∧ ¬ (1 : Int32) < r211 := by rw [hr211]; exact f_rm13_2_bnd (cs_rm2_0 i0) (cs_rm2_0 i2)
   refine Home.run X210 hx hby sg0_104_1 (pc' := 106) (L' := #[.val (.int i0), .val (.int i1), .val (.int i2), .val (.int i3), .val (.int (1 : Int32)), .val (.int (1 : Int32)), .val (.ref b5), .val (.ref b131), .val (.int v188)]) (S' := [(.int v188), (.int r211)]) rfl ?_
   suffices J213 : ∀ {T : State} {lc : List Loc} (X : Stand p l e room_1 (s.setVm T132.vm) m #[(.int i0), (.int i1), (.int i2), (.int i3)] below meth c T lc 14 28) (N : Fr n0 lc) (eT : T.heap = T180.heap) (v214 : Int32) (hv214 : v214 = (if r211 = v188 then (1 : Int32) else (0 : Int32))), @Home p e below _ T (mkF m 114 #[.val (.int i0), .val (.int i1), .val (.int i2), .val (.int i3), .val (.int (1 : Int32)), .val (.int (1 : Int32)), .val (.ref b5), .val (.ref b131), .val (.int v188)] [(.int v214)]) by
    by_cases c212 : r211 = v188
    ·
     refine Home.go (fun _ => XS.icmpNo X210.here hx rfl (hb hby at_106) rfl (teq c212).2) ?_
     refine Home.run X210 hx hby sg0_109_2 (pc' := 114) (L' := #[.val (.int i0), .val (.int i1), .val (.int i2), .val (.int i3), .val (.int (1 : Int32)), .val (.int (1 : Int32)), .val (.ref b5), .val (.ref b131), .val (.int v188)]) (S' := [(.int (1 : Int32))]) rfl ?_
     exact J213 X210 NJ187 e210 _ (by simp only [if_pos c212])
    ·
     refine Home.go (fun _ => XS.icmpYes X210.here hx rfl (pc0 := 106) (pc' := 113) rfl (hb hby at_106) rfl (feq c212).2 (by decide) (by decide)) ?_
     refine Home.run X210 hx hby sg0_113_1 (pc' := 114) (L' := #[.val (.int i0), .val (.int i1), .val (.int i2), .val (.int i3), .val (.int (1 : Int32)), .val (.int (1 : Int32)), .val (.ref b5), .val (.ref b131), .val (.int v188)]) (S' := [(.int (0 : Int32))]) rfl ?_
     exact J213 X210 NJ187 e210 _ (by simp only [if_neg c212])
   intro TJ213 lcJ213 XJ213 NJ213 eJ213 v214 hv214
   have bv214 : ¬ v214 < (0 : Int32) ∧ ¬ (1 : Int32) < v214 := by rw [hv214]; exact (bnd_ite (bnd_mono (bnd_lit (1 : Int32)) (by decide +kernel) (by decide +kernel)) (bnd_mono (bnd_lit (0 : Int32)) (by decide +kernel) (by decide +kernel)))
   show Home TJ213 (mkF m 114 #[.val (.int i0), .val (.int i1), .val (.int i2), .val (.int i3), .val (.int (1 : Int32)), .val (.int (1 : Int32)), .val (.ref b5), .val (.ref b131), .val (.int v188)] [(.int v214)])
   exact HomeW.retN XJ213 hx hlk hZ (own_hEL hw) eJ213 Cd180 (t := .boolean) hret (by simp) (hb hby at_114) ⟨congrArg some (congrArg Value.int (own_end3 i0 i1 i2 i3 sv_COMPACT_STRINGS r2 hr2 r4 hr4 r184 hr184 v188 hv188 r211 hr211 v214 hv214 c7 c133)), NJ213⟩ (by decide) (by decide)
theorem comes_1 {Post : Tables → Env → Array Value → State → Outcome → State → Prop} (hpost : ∀ tb e args s v u, (limb_1_1.after args s (.returned v) u = true ∧ limb_1_2.after args s (.returned v) u = true ∧ True) → ReturnedEndW s (.returned v) u (Jvm.fieldLocs frame_1_writes args s ++ Jvm.arrayLocs frame_1_arrays args s ++ Jvm.staticLocs frame_1_statics s) 40 1216 → Post tb e args s (.returned v) u) :
    ArmFor flags0 classFile x code maxLocals ret World_1 tables_1 room_1 Calls_1 rest_1 Pre_1 Post := by
  intro l hfl _ _ p e ha hc hk s m args below hf hA hF happ hP
  obtain ⟨hcalls, hrest, hpre⟩ := hP
  obtain ⟨-, -, -, hnamed, -, -, -, hat⟩ := (Spec.applies_iff hf).mp happ
  obtain ⟨hg, hn⟩ := and_e (Cond.before_iff.mp (show (Jvm.Cond.and given_1 narrow_1).before args s = true from hpre))
  obtain ⟨gg1, gg2⟩ := and_e hg
  obtain ⟨gg3, gg4⟩ := and_e gg2
  obtain ⟨gg5, gg6⟩ := and_e gg4
  obtain ⟨gg7, gg8⟩ := and_e gg6
  obtain ⟨w0, w1, w2, w3, rfl⟩ : ∃ w0 w1 w2 w3 : Value, args = #[w0, w1, w2, w3] := by
    have hs : args.size = 4 := by simpa [Cond.value, given_1] using gg1
    obtain ⟨L⟩ := args
    match L, hs with
    | [w0, w1, w2, w3], _ => exact ⟨w0, w1, w2, w3, rfl⟩
  have hw := fun d (hd : d ∈ tables_1) => atoms_spec (ws := Jvm.Cond.code x code maxLocals ret :: tables_1) hat d (List.mem_cons_of_mem _ hd)
  have hfit : Fit s := fun {y c} hc i hi => by
    obtain ⟨ha, rfl⟩ := Array.getElem?_eq_some_iff.mp hc
    have q := List.all_eq_true.mp ((Array.all_eq_true_iff_forall_mem.mp hF) _ (Array.getElem_mem ha)) i (List.mem_range.mpr hi)
    simpa [Array.getElem?_eq_getElem hi] using q
  obtain ⟨hsets, hown0⟩ := atoms_of _ (rest_1_c_eq ▸ (show rest_1_c.before _ s = true from hrest))
  have hr0 := Cond.before_iff.mp hown0
  obtain ⟨i0, ei0⟩ := is_v gg3
  obtain rfl : w0 = (.int i0) := Option.some.inj ei0
  obtain ⟨i1, ei1⟩ := is_v gg5
  obtain rfl : w1 = (.int i1) := Option.some.inj ei1
  obtain ⟨i2, ei2⟩ := is_v gg7
  obtain rfl : w2 = (.int i2) := Option.some.inj ei2
  obtain ⟨i3, ei3⟩ := is_v gg8
  obtain rfl : w3 = (.int i3) := Option.some.inj ei3
  obtain ⟨sv_COMPACT_STRINGS, v_cs⟩ := is_v (Cond.before_iff.mp (hsets _ (List.mem_of_getElem? (i := 1) rfl)))
  have S_COMPACT_STRINGS := Sta.start v_cs (Or.inl (hsets _ (List.mem_of_getElem? (i := 0) rfl)))
  have hCS : ¬ (sv_COMPACT_STRINGS = (0 : Int32)) := gotF (Cond.eq_ints v_cs (Term.int_eval 0)) (not_v (Cond.before_iff.mp (hsets _ (List.mem_of_getElem? (i := 2) rfl))))
  have hCH : CHv s own_EL s.vm s.heap := CHv.start (own_hEL hw) (fun p hp => hcalls.1 p hp) (hsets _ (List.mem_of_getElem? (i := 2) rfl)) (own_w25 hw) (own_w12 hw)
  obtain ⟨n, o, h1, h2, h3, _, L, rfl, ⟨rfl, N⟩, -, -, hq⟩ := rm0 l s _ hw tables_1 i0 i1 i2 i3 sv_COMPACT_STRINGS s.heap s.heap.size (Old.start s) S_COMPACT_STRINGS hCS p e ha hc hk s m _ below hf ((Spec.applies_iff_loose hf).mp happ).1 ⟨rfl, State.Warmed39.refl s, rfl, hCH, fun _ hx => nomatch hx⟩ trivial
  refine ⟨n, _, h1, h2, h3, hpost _ _ _ _ _ _ ⟨Cond.after_iff.mpr rfl, Cond.after_iff.mpr (eq_i res_at (Term.int_eval (1)) rfl), trivial⟩ ⟨hq.1, hq.2.1, hq.2.2.1, (hq.2.2.2.sift fun y hy => Or.inr (N y hy)).mono (by decide) (by decide)⟩⟩
theorem main_1_1 : Claimed_1_1 := comes_1 fun _ _ _ _ _ _ h hF => ⟨h.1, hF⟩
theorem main_1_2 : Claimed_1_2 := comes_1 fun _ _ _ _ _ _ h hF => ⟨h.2.1, hF⟩
end Jvm.Pilot.@@N@@
namespace Jvm.Pilot.@@N@@
open Jvm Jvm.ClassFile Sem Op Lib Jvm.Free Jvm.Stand Jvm.Pilot.@@N@@.Jvm.D
/-! MADE BY PROGRAM (witnessworld.py) out of the Statement's table words and the real class files: 23 classes; the members and pool entries that the words name. The judged class is class 1, her method 6. -/
namespace start1
open Jvm.ClassFile
def u (s : String) : CpInfo := .utf8 (stringToUtf16 s)
/-- a pool by its gaps: so many unusable entries, then the entry; so many at the end -/
def gap : Nat → List CpInfo → List CpInfo
  | 0, r => r
  | n + 1, r => .unusable :: gap n r
def poolList (es : List (Nat × CpInfo)) (last : Nat) : List CpInfo := es.foldr (fun e r => gap e.1 (e.2 :: r)) (gap last [])
def pool (es : List (Nat × CpInfo)) (last : Nat) : Array CpInfo := ⟨poolList es last⟩
def fileOf (pool : Array CpInfo) (this : Nat) (attrs : Array Attribute := #[]) (ms : Array MethodInfo := #[]) (fl : Nat := 33) (sup : Nat := 0) (ifs : Array Nat := #[]) (fds : Array FieldInfo := #[]) : ClassFile where
  minorVersion := 0
  majorVersion := 65
  constantPool := pool
  accessFlags := fl
  thisClass := this
  superClass := sup
  interfaces := ifs
  fields := fds
  methods := ms
  attributes := attrs
def plain (name : String) (sup : Option ClassId) : Class where
  name := name
  kind := .ordinary
  loader := none
  accessFlags := 33
  super := sup
  interfaces := #[]
  cf := none
  fields := #[]
  methods := #[]
  instanceTypes := #[]
  staticTypes := #[]
  resolved := #[]
  callSites := []
  init := .initialized
  statics := none
  mirror := none

def pool0 : Array CpInfo := pool [(5, u "<init>"), (0, u "()V"), (1, .class_ 10), (1, u "java/lang/Object")] 113

def k0c0 : Code := { maxStack := 0, maxLocals := 1, code := object_method_1_code, exceptionTable := #[], attributes := #[] }
def k0m0 : Method := { name := "<init>", desc := "()V", sig := { parameters := [], returnType := none }, accessFlags := 1, code := some k0c0 }
/-- java/lang/Object -/
def k0 : Class := { plain "java/lang/Object" none with
  accessFlags := 33
  interfaces := #[]
  cf := some (fileOf pool0 8 #[] #[{ accessFlags := 1, nameIndex := 5, descriptorIndex := 6, attributes := #[] }] 33 0 #[] #[])
  fields := #[]
  methods := #[k0m0]
  instanceTypes := #[]
  staticTypes := #[]
  resolved := Array.replicate 124 none
  statics := none }

def pool1 : Array CpInfo := pool [(2, .class_ 4), (1, u "java/lang/Object"), (0, u "<init>"), (0, u "()V"), (0, .methodref 8 9), (0, .class_ 10), (0, .nameAndType 11 12), (0, u "com/example/invocant/invocant/CanonicalMatchesIgnoringCasePinLaw"), (0, u "ch"), (0, u "(II)C"), (0, .class_ 14), (0, u "java/lang/String"), (0, .methodref 13 16), (0, .nameAndType 5 17), (0, u "([C)V"), (0, .methodref 8 19), (0, .nameAndType 20 21), (0, u "fold"), (0, u "(I)I"), (0, .methodref 8 23), (0, .nameAndType 24 25), (0, u "isNull"), (0, u "(I)Z"), (0, .class_ 27), (0, u "com/example/invocant/invocant/Canonical"), (0, .methodref 8 29), (0, .nameAndType 30 31), (0, u "str"), (0, u "(I)Ljava/lang/String;"), (0, .methodref 26 33), (0, .nameAndType 5 34), (0, u "(Ljava/lang/String;Ljava/lang/String;)V"), (0, .methodref 8 36), (0, .nameAndType 37 38), (0, u "eqIC"), (0, u "(II)Z"), (0, .methodref 26 40), (0, .nameAndType 41 42), (0, u "matchesIgnoringCase"), (0, u "(Lcom/example/invocant/invocant/Canonical;)Z"), (5, u "law"), (0, u "(IIII)Z")] 2

def k1m0 : Method := { name := "<init>", desc := "()V", sig := { parameters := [], returnType := none }, accessFlags := 2, code := none }
def k1c1 : Code := { maxStack := 4, maxLocals := 2, code := method_2_code, exceptionTable := #[], attributes := #[] }
def k1m1 : Method := { name := "ch", desc := "(II)C", sig := { parameters := [.int, .int], returnType := some .char }, accessFlags := 10, code := some k1c1 }
def k1c2 : Code := { maxStack := 4, maxLocals := 3, code := method_3_code, exceptionTable := #[], attributes := #[] }
def k1m2 : Method := { name := "str", desc := "(I)Ljava/lang/String;", sig := { parameters := [.int], returnType := some (.object "java/lang/String") }, accessFlags := 10, code := some k1c2 }
def k1c3 : Code := { maxStack := 2, maxLocals := 1, code := method_4_code, exceptionTable := #[], attributes := #[] }
def k1m3 : Method := { name := "fold", desc := "(I)I", sig := { parameters := [.int], returnType := some .int }, accessFlags := 10, code := some k1c3 }
def k1c4 : Code := { maxStack := 3, maxLocals := 4, code := method_5_code, exceptionTable := #[], attributes := #[] }
def k1m4 : Method := { name := "eqIC", desc := "(II)Z", sig := { parameters := [.int, .int], returnType := some .boolean }, accessFlags := 10, code := some k1c4 }
def k1c5 : Code := { maxStack := 2, maxLocals := 1, code := method_6_code, exceptionTable := #[], attributes := #[] }
def k1m5 : Method := { name := "isNull", desc := "(I)Z", sig := { parameters := [.int], returnType := some .boolean }, accessFlags := 10, code := some k1c5 }
def k1c6 : Code := { maxStack := 4, maxLocals := 9, code := code, exceptionTable := #[], attributes := #[] }
def k1m6 : Method := { name := "law", desc := "(IIII)Z", sig := { parameters := [.int, .int, .int, .int], returnType := some .boolean }, accessFlags := 9, code := some k1c6 }
/-- com/example/invocant/invocant/CanonicalMatchesIgnoringCasePinLaw -/
def k1 : Class := { plain "com/example/invocant/invocant/CanonicalMatchesIgnoringCasePinLaw" (some 0) with
  accessFlags := 49
  interfaces := #[]
  cf := some (fileOf pool1 8 #[] #[{ accessFlags := 2, nameIndex := 5, descriptorIndex := 6, attributes := #[] }, { accessFlags := 10, nameIndex := 11, descriptorIndex := 12, attributes := #[] }, { accessFlags := 10, nameIndex := 30, descriptorIndex := 31, attributes := #[] }, { accessFlags := 10, nameIndex := 20, descriptorIndex := 21, attributes := #[] }, { accessFlags := 10, nameIndex := 37, descriptorIndex := 38, attributes := #[] }, { accessFlags := 10, nameIndex := 24, descriptorIndex := 25, attributes := #[] }, { accessFlags := 9, nameIndex := 48, descriptorIndex := 49, attributes := #[] }] 49 2 #[] #[])
  fields := #[]
  methods := #[k1m0, k1m1, k1m2, k1m3, k1m4, k1m5, k1m6]
  instanceTypes := #[]
  staticTypes := #[]
  resolved := Array.replicate 52 none
  statics := none }

def pool2 : Array CpInfo := pool [(1, .methodref 2 3), (0, .class_ 4), (0, .nameAndType 5 6), (0, u "java/lang/Object"), (0, u "<init>"), (0, u "()V"), (0, .class_ 8), (0, u "java/lang/Record")] 13

def k2c0 : Code := { maxStack := 1, maxLocals := 1, code := jdk_30_method_1_code, exceptionTable := #[], attributes := #[] }
def k2m0 : Method := { name := "<init>", desc := "()V", sig := { parameters := [], returnType := none }, accessFlags := 4, code := some k2c0 }
/-- java/lang/Record -/
def k2 : Class := { plain "java/lang/Record" (some 0) with
  accessFlags := 1057
  interfaces := #[]
  cf := some (fileOf pool2 7 #[] #[{ accessFlags := 4, nameIndex := 5, descriptorIndex := 6, attributes := #[] }] 1057 2 #[] #[])
  fields := #[]
  methods := #[k2m0]
  instanceTypes := #[]
  staticTypes := #[]
  resolved := Array.replicate 22 none
  statics := none }

def pool3 : Array CpInfo := pool [(1, .methodref 2 3), (0, .class_ 4), (0, .nameAndType 5 6), (0, u "java/lang/Record"), (0, u "<init>"), (0, u "()V"), (0, .fieldref 8 9), (0, .class_ 10), (0, .nameAndType 11 12), (0, u "com/example/invocant/invocant/Canonical"), (0, u "url"), (0, u "Ljava/lang/String;"), (0, .fieldref 8 14), (0, .nameAndType 15 12), (0, u "version"), (1, .class_ 19), (1, u "java/lang/String"), (4, u "(Ljava/lang/String;Ljava/lang/String;)V"), (11, .methodref 17 37), (0, .nameAndType 38 39), (0, u "equalsIgnoreCase"), (0, u "(Ljava/lang/String;)Z"), (11, u "VERSION_SEPARATOR"), (0, u "C"), (9, u "(Lcom/example/invocant/invocant/Canonical;)Z"), (0, u "matchesIgnoringCase")] 23

def k3c0 : Code := { maxStack := 2, maxLocals := 3, code := prog_3_method_1_code, exceptionTable := #[], attributes := #[] }
def k3m0 : Method := { name := "<init>", desc := "(Ljava/lang/String;Ljava/lang/String;)V", sig := { parameters := [(.object "java/lang/String"), (.object "java/lang/String")], returnType := none }, accessFlags := 0, code := some k3c0 }
def k3c1 : Code := { maxStack := 2, maxLocals := 2, code := prog_3_method_4_code, exceptionTable := #[], attributes := #[] }
def k3m1 : Method := { name := "matchesIgnoringCase", desc := "(Lcom/example/invocant/invocant/Canonical;)Z", sig := { parameters := [(.object "com/example/invocant/invocant/Canonical")], returnType := some .boolean }, accessFlags := 0, code := some k3c1 }
/-- com/example/invocant/invocant/Canonical -/
def k3 : Class := { plain "com/example/invocant/invocant/Canonical" (some 2) with
  accessFlags := 48
  interfaces := #[]
  cf := some (fileOf pool3 8 #[] #[{ accessFlags := 0, nameIndex := 5, descriptorIndex := 24, attributes := #[] }, { accessFlags := 0, nameIndex := 63, descriptorIndex := 62, attributes := #[] }] 48 2 #[] #[{ accessFlags := 18, nameIndex := 11, descriptorIndex := 12, attributes := #[] }, { accessFlags := 18, nameIndex := 15, descriptorIndex := 12, attributes := #[] }, { accessFlags := 26, nameIndex := 51, descriptorIndex := 52, attributes := #[] }])
  fields := #[{ name := "url", type := (.object "java/lang/String"), accessFlags := 18, slot := 0, constantValue := 0 }, { name := "version", type := (.object "java/lang/String"), accessFlags := 18, slot := 1, constantValue := 0 }, { name := "VERSION_SEPARATOR", type := .char, accessFlags := 26, slot := 0, constantValue := 0 }]
  methods := #[k3m0, k3m1]
  instanceTypes := #[(.object "java/lang/String"), (.object "java/lang/String")]
  staticTypes := #[.char]
  resolved := Array.replicate 87 none
  statics := none }

def pool4 : Array CpInfo := pool [(1, .class_ 2), (0, u "java/io/Serializable"), (0, .class_ 4), (0, u "java/lang/Object")] 2

/-- java/io/Serializable -/
def k4 : Class := { plain "java/io/Serializable" (some 0) with
  accessFlags := 1537
  interfaces := #[]
  cf := some (fileOf pool4 1 #[] #[] 1537 3 #[] #[])
  fields := #[]
  methods := #[]
  instanceTypes := #[]
  staticTypes := #[]
  resolved := Array.replicate 7 none
  statics := none }

def pool5 : Array CpInfo := pool [(1, .class_ 2), (0, u "java/lang/Comparable"), (0, .class_ 4), (0, u "java/lang/Object")] 7

/-- java/lang/Comparable -/
def k5 : Class := { plain "java/lang/Comparable" (some 0) with
  accessFlags := 1537
  interfaces := #[]
  cf := some (fileOf pool5 1 #[] #[] 1537 3 #[] #[])
  fields := #[]
  methods := #[]
  instanceTypes := #[]
  staticTypes := #[]
  resolved := Array.replicate 12 none
  statics := none }

def pool6 : Array CpInfo := pool [(2, .class_ 4), (1, u "java/lang/CharSequence"), (42, .class_ 48), (0, u "java/lang/CharSequence$1CodePointIterator"), (10, .class_ 60), (0, u "java/lang/CharSequence$1CharIterator"), (5, .class_ 67), (0, u "java/lang/Object")] 63

/-- java/lang/CharSequence -/
def k6 : Class := { plain "java/lang/CharSequence" (some 0) with
  accessFlags := 1537
  interfaces := #[]
  cf := some (fileOf pool6 2 #[.nestMembers #[47, 59]] #[] 1537 66 #[] #[])
  fields := #[]
  methods := #[]
  instanceTypes := #[]
  staticTypes := #[]
  resolved := Array.replicate 131 none
  statics := none }

def pool7 : Array CpInfo := pool [(1, .class_ 2), (0, u "java/lang/constant/Constable"), (0, .class_ 4), (0, u "java/lang/Object")] 6

/-- java/lang/constant/Constable -/
def k7 : Class := { plain "java/lang/constant/Constable" (some 0) with
  accessFlags := 1537
  interfaces := #[]
  cf := some (fileOf pool7 1 #[] #[] 1537 3 #[] #[])
  fields := #[]
  methods := #[]
  instanceTypes := #[]
  staticTypes := #[]
  resolved := Array.replicate 11 none
  statics := none }

def pool8 : Array CpInfo := pool [(1, .class_ 2), (0, u "java/lang/constant/ConstantDesc"), (0, .class_ 4), (0, u "java/lang/Object")] 32

/-- java/lang/constant/ConstantDesc -/
def k8 : Class := { plain "java/lang/constant/ConstantDesc" (some 0) with
  accessFlags := 1537
  interfaces := #[]
  cf := some (fileOf pool8 1 #[] #[] 1537 3 #[] #[])
  fields := #[]
  methods := #[]
  instanceTypes := #[]
  staticTypes := #[]
  resolved := Array.replicate 37 none
  statics := none }

def pool9 : Array CpInfo := pool [(1, .methodref 2 3), (0, .class_ 4), (0, .nameAndType 5 6), (0, u "java/lang/Object"), (0, u "<init>"), (0, u "()V"), (0, .string 8), (0, u ""), (0, .fieldref 10 11), (0, .class_ 12), (0, .nameAndType 13 14), (0, u "java/lang/String"), (0, u "value"), (0, u "[B"), (0, .fieldref 10 16), (0, .nameAndType 17 18), (0, u "coder"), (0, u "B"), (2, u "hash"), (0, u "I"), (2, u "hashIsZero"), (0, u "Z"), (0, .methodref 10 28), (0, .nameAndType 5 29), (0, u "([CIILjava/lang/Void;)V"), (8, .fieldref 10 39), (0, .nameAndType 40 26), (0, u "COMPACT_STRINGS"), (1, .class_ 44), (1, u "java/lang/StringUTF16"), (0, u "compress"), (1, .methodref 42 48), (0, .nameAndType 49 50), (0, u "coderFromArrayLen"), (0, u "([BI)B"), (56, .class_ 109), (1, u "java/lang/StringLatin1"), (67, .methodref 42 178), (0, .nameAndType 45 179), (0, u "([CII)[B"), (154, u "()I"), (0, .methodref 10 336), (0, .nameAndType 17 337), (0, u "()B"), (167, .methodref 10 506), (0, .nameAndType 507 334), (0, u "length"), (67, .class_ 576), (0, u "java/lang/CharSequence"), (5, .methodref 10 583), (0, .nameAndType 584 585), (0, u "regionMatches"), (0, u "(ZILjava/lang/String;II)Z"), (13, u "CASE_INSENSITIVE_ORDER"), (0, u "Ljava/util/Comparator;"), (12, .methodref 107 614), (0, .nameAndType 615 616), (0, u "regionMatchesCI"), (0, u "([BI[BII)Z"), (393, u "([C)V"), (90, u "serialPersistentFields"), (0, u "[Ljava/io/ObjectStreamField;"), (0, .class_ 1104), (0, u "java/lang/String$CaseInsensitiveComparator"), (1, .class_ 1107), (0, u "java/io/Serializable"), (0, .class_ 1109), (0, u "java/lang/Comparable"), (0, .class_ 1111), (0, u "java/lang/constant/Constable"), (0, .class_ 1113), (0, u "java/lang/constant/ConstantDesc"), (2, u "serialVersionUID"), (0, u "J"), (3, u "REPL"), (0, u "C"), (2, u "LATIN1"), (1, u "UTF16"), (128, u "equalsIgnoreCase"), (0, u "(Ljava/lang/String;)Z")] 193

def k9m0 : Method := { name := "<init>", desc := "()V", sig := { parameters := [], returnType := none }, accessFlags := 1, code := none }
def k9c1 : Code := { maxStack := 5, maxLocals := 2, code := jdk_42_method_3_code, exceptionTable := #[], attributes := #[] }
def k9m1 : Method := { name := "<init>", desc := "([C)V", sig := { parameters := [(.array .char)], returnType := none }, accessFlags := 1, code := some k9c1 }
def k9c2 : Code := { maxStack := 2, maxLocals := 1, code := jdk_42_method_54_code, exceptionTable := #[], attributes := #[] }
def k9m2 : Method := { name := "length", desc := "()I", sig := { parameters := [], returnType := some .int }, accessFlags := 1, code := some k9c2 }
def k9c3 : Code := { maxStack := 6, maxLocals := 2, code := jdk_42_method_70_code, exceptionTable := #[], attributes := #[] }
def k9m3 : Method := { name := "equalsIgnoreCase", desc := "(Ljava/lang/String;)Z", sig := { parameters := [(.object "java/lang/String")], returnType := some .boolean }, accessFlags := 1, code := some k9c3 }
def k9c4 : Code := { maxStack := 6, maxLocals := 9, code := jdk_42_method_74_code, exceptionTable := #[], attributes := #[] }
def k9m4 : Method := { name := "regionMatches", desc := "(ZILjava/lang/String;II)Z", sig := { parameters := [.boolean, .int, (.object "java/lang/String"), .int, .int], returnType := some .boolean }, accessFlags := 1, code := some k9c4 }
def k9c5 : Code := { maxStack := 4, maxLocals := 6, code := jdk_42_method_149_code, exceptionTable := #[], attributes := #[] }
def k9m5 : Method := { name := "<init>", desc := "([CIILjava/lang/Void;)V", sig := { parameters := [(.array .char), .int, .int, (.object "java/lang/Void")], returnType := none }, accessFlags := 2, code := some k9c5 }
def k9c6 : Code := { maxStack := 1, maxLocals := 1, code := jdk_42_method_152_code, exceptionTable := #[], attributes := #[] }
def k9m6 : Method := { name := "coder", desc := "()B", sig := { parameters := [], returnType := some .byte }, accessFlags := 0, code := some k9c6 }
/-- java/lang/String -/
def k9 : Class := { plain "java/lang/String" (some 0) with
  accessFlags := 49
  interfaces := #[4, 5, 6, 7, 8]
  cf := some (fileOf pool9 10 #[.nestMembers #[1103]] #[{ accessFlags := 1, nameIndex := 5, descriptorIndex := 6, attributes := #[] }, { accessFlags := 1, nameIndex := 5, descriptorIndex := 1010, attributes := #[] }, { accessFlags := 1, nameIndex := 507, descriptorIndex := 334, attributes := #[] }, { accessFlags := 1, nameIndex := 1256, descriptorIndex := 1257, attributes := #[] }, { accessFlags := 1, nameIndex := 584, descriptorIndex := 585, attributes := #[] }, { accessFlags := 2, nameIndex := 5, descriptorIndex := 29, attributes := #[] }, { accessFlags := 0, nameIndex := 17, descriptorIndex := 337, attributes := #[] }] 49 2 #[1106, 1108, 575, 1110, 1112] #[{ accessFlags := 18, nameIndex := 13, descriptorIndex := 14, attributes := #[] }, { accessFlags := 18, nameIndex := 17, descriptorIndex := 18, attributes := #[] }, { accessFlags := 2, nameIndex := 21, descriptorIndex := 22, attributes := #[] }, { accessFlags := 2, nameIndex := 25, descriptorIndex := 26, attributes := #[] }, { accessFlags := 26, nameIndex := 1116, descriptorIndex := 1117, attributes := #[] }, { accessFlags := 24, nameIndex := 40, descriptorIndex := 26, attributes := #[] }, { accessFlags := 26, nameIndex := 1101, descriptorIndex := 1102, attributes := #[] }, { accessFlags := 26, nameIndex := 1121, descriptorIndex := 1122, attributes := #[] }, { accessFlags := 25, nameIndex := 599, descriptorIndex := 600, attributes := #[] }, { accessFlags := 24, nameIndex := 1125, descriptorIndex := 18, attributes := #[] }, { accessFlags := 24, nameIndex := 1127, descriptorIndex := 18, attributes := #[] }])
  fields := #[{ name := "value", type := (.array .byte), accessFlags := 18, slot := 0, constantValue := 0 }, { name := "coder", type := .byte, accessFlags := 18, slot := 1, constantValue := 0 }, { name := "hash", type := .int, accessFlags := 2, slot := 2, constantValue := 0 }, { name := "hashIsZero", type := .boolean, accessFlags := 2, slot := 3, constantValue := 0 }, { name := "serialVersionUID", type := .long, accessFlags := 26, slot := 0, constantValue := 0 }, { name := "COMPACT_STRINGS", type := .boolean, accessFlags := 24, slot := 1, constantValue := 0 }, { name := "serialPersistentFields", type := (.array (.object "java/io/ObjectStreamField")), accessFlags := 26, slot := 2, constantValue := 0 }, { name := "REPL", type := .char, accessFlags := 26, slot := 3, constantValue := 0 }, { name := "CASE_INSENSITIVE_ORDER", type := (.object "java/util/Comparator"), accessFlags := 25, slot := 4, constantValue := 0 }, { name := "LATIN1", type := .byte, accessFlags := 24, slot := 5, constantValue := 0 }, { name := "UTF16", type := .byte, accessFlags := 24, slot := 6, constantValue := 0 }]
  methods := #[k9m0, k9m1, k9m2, k9m3, k9m4, k9m5, k9m6]
  instanceTypes := #[(.array .byte), .byte, .int, .boolean]
  staticTypes := #[.long, .boolean, (.array (.object "java/io/ObjectStreamField")), .char, (.object "java/util/Comparator"), .byte, .byte]
  resolved := Array.replicate 1451 none
  statics := some 0 }

def pool10 : Array CpInfo := pool [(6, .class_ 8), (1, u "java/lang/Object"), (0, u "<init>"), (0, u "()V"), (1, .class_ 14), (1, u "java/lang/StringUTF16"), (31, u "$assertionsDisabled"), (0, u "Z"), (13, u "HI_BYTE_SHIFT"), (0, u "I"), (2, u "LO_BYTE_SHIFT"), (49, .methodref 12 116), (0, .nameAndType 117 118), (0, u "compress"), (0, u "([CI[BII)I"), (3, u "([CII)[B"), (138, u "coderFromArrayLen"), (0, u "([BI)B"), (106, .class_ 371), (1, u "java/lang/StringUTF16$LinesSpliterator"), (58, u "MAX_LENGTH"), (196, .class_ 628), (0, u "java/lang/StringUTF16$CodePointsSpliterator"), (0, .class_ 630), (0, u "java/lang/StringUTF16$CharsSpliterator")] 4

def k10m0 : Method := { name := "<init>", desc := "()V", sig := { parameters := [], returnType := none }, accessFlags := 0, code := none }
def k10c1 : Code := { maxStack := 2, maxLocals := 2, code := jdk_52_method_15_code, exceptionTable := #[], attributes := #[] }
def k10m1 : Method := { name := "coderFromArrayLen", desc := "([BI)B", sig := { parameters := [(.array .byte), .int], returnType := some .byte }, accessFlags := 8, code := some k10c1 }
def k10c2 : Code := { maxStack := 5, maxLocals := 6, code := jdk_52_method_16_code, exceptionTable := #[], attributes := #[] }
def k10m2 : Method := { name := "compress", desc := "([CII)[B", sig := { parameters := [(.array .char), .int, .int], returnType := some (.array .byte) }, accessFlags := 9, code := some k10c2 }
def k10c3 : Code := { maxStack := 3, maxLocals := 7, code := jdk_52_method_21_code, exceptionTable := #[], attributes := #[] }
def k10m3 : Method := { name := "compress", desc := "([CI[BII)I", sig := { parameters := [(.array .char), .int, (.array .byte), .int, .int], returnType := some .int }, accessFlags := 9, code := some k10c3 }
/-- java/lang/StringUTF16 -/
def k10 : Class := { plain "java/lang/StringUTF16" (some 0) with
  accessFlags := 48
  interfaces := #[]
  cf := some (fileOf pool10 12 #[.nestMembers #[627, 629, 369]] #[{ accessFlags := 0, nameIndex := 9, descriptorIndex := 10, attributes := #[] }, { accessFlags := 8, nameIndex := 261, descriptorIndex := 262, attributes := #[] }, { accessFlags := 9, nameIndex := 117, descriptorIndex := 122, attributes := #[] }, { accessFlags := 9, nameIndex := 117, descriptorIndex := 118, attributes := #[] }] 48 6 #[] #[{ accessFlags := 26, nameIndex := 61, descriptorIndex := 62, attributes := #[] }, { accessFlags := 26, nameIndex := 65, descriptorIndex := 62, attributes := #[] }, { accessFlags := 24, nameIndex := 430, descriptorIndex := 62, attributes := #[] }, { accessFlags := 4120, nameIndex := 46, descriptorIndex := 47, attributes := #[] }])
  fields := #[{ name := "HI_BYTE_SHIFT", type := .int, accessFlags := 26, slot := 0, constantValue := 0 }, { name := "LO_BYTE_SHIFT", type := .int, accessFlags := 26, slot := 1, constantValue := 0 }, { name := "MAX_LENGTH", type := .int, accessFlags := 24, slot := 2, constantValue := 0 }, { name := "$assertionsDisabled", type := .boolean, accessFlags := 4120, slot := 3, constantValue := 0 }]
  methods := #[k10m0, k10m1, k10m2, k10m3]
  instanceTypes := #[]
  staticTypes := #[.int, .int, .int, .boolean]
  resolved := Array.replicate 635 none
  statics := none }

def pool11 : Array CpInfo := pool [(4, .class_ 6), (1, u "java/lang/Object"), (0, u "<init>"), (0, u "()V"), (5, .class_ 16), (1, u "java/lang/StringLatin1"), (50, .class_ 69), (1, u "java/lang/CharacterDataLatin1"), (51, u "$assertionsDisabled"), (0, u "Z"), (30, .methodref 67 154), (0, .nameAndType 155 156), (0, u "equalsIgnoreCase"), (0, u "(BB)Z"), (64, .class_ 223), (1, u "java/lang/StringLatin1$LinesSpliterator"), (116, u "regionMatchesCI"), (0, u "([BI[BII)Z"), (48, .class_ 391), (0, u "java/lang/StringLatin1$CharsSpliterator")] 3

def k11m0 : Method := { name := "<init>", desc := "()V", sig := { parameters := [], returnType := none }, accessFlags := 0, code := none }
def k11c1 : Code := { maxStack := 2, maxLocals := 8, code := jdk_43_method_30_code, exceptionTable := #[], attributes := #[] }
def k11m1 : Method := { name := "regionMatchesCI", desc := "([BI[BII)Z", sig := { parameters := [(.array .byte), .int, (.array .byte), .int, .int], returnType := some .boolean }, accessFlags := 9, code := some k11c1 }
/-- java/lang/StringLatin1 -/
def k11 : Class := { plain "java/lang/StringLatin1" (some 0) with
  accessFlags := 48
  interfaces := #[]
  cf := some (fileOf pool11 14 #[.nestMembers #[390, 221]] #[{ accessFlags := 0, nameIndex := 7, descriptorIndex := 8, attributes := #[] }, { accessFlags := 9, nameIndex := 340, descriptorIndex := 341, attributes := #[] }] 48 4 #[] #[{ accessFlags := 4120, nameIndex := 121, descriptorIndex := 122, attributes := #[] }])
  fields := #[{ name := "$assertionsDisabled", type := .boolean, accessFlags := 4120, slot := 0, constantValue := 0 }]
  methods := #[k11m0, k11m1]
  instanceTypes := #[]
  staticTypes := #[.boolean]
  resolved := Array.replicate 395 none
  statics := none }

def pool12 : Array CpInfo := pool [(2, .class_ 4), (1, u "java/lang/Object"), (0, u "<init>"), (0, u "()V"), (1, .class_ 10), (1, u "java/lang/CharacterData")] 75

def k12m0 : Method := { name := "<init>", desc := "()V", sig := { parameters := [], returnType := none }, accessFlags := 0, code := none }
/-- java/lang/CharacterData -/
def k12 : Class := { plain "java/lang/CharacterData" (some 0) with
  accessFlags := 1056
  interfaces := #[]
  cf := some (fileOf pool12 8 #[] #[{ accessFlags := 0, nameIndex := 5, descriptorIndex := 6, attributes := #[] }] 1056 2 #[] #[])
  fields := #[]
  methods := #[k12m0]
  instanceTypes := #[]
  staticTypes := #[]
  resolved := Array.replicate 86 none
  statics := none }

def pool13 : Array CpInfo := pool [(2, .class_ 4), (1, u "java/lang/CharacterDataLatin1"), (0, u "A"), (0, u "[I"), (2, u "B"), (0, u "[C"), (16, u "DIGITS"), (0, u "[B"), (8, u "sharpsMap"), (1, .class_ 41), (1, u "java/lang/CharacterData"), (0, u "<init>"), (0, u "()V"), (3, u "instance"), (0, u "Ljava/lang/CharacterDataLatin1;"), (66, u "equalsIgnoreCase"), (0, u "(BB)Z")] 24

def k13c0 : Code := { maxStack := 3, maxLocals := 3, code := jdk_116_method_22_code, exceptionTable := #[], attributes := #[] }
def k13m0 : Method := { name := "equalsIgnoreCase", desc := "(BB)Z", sig := { parameters := [.byte, .byte], returnType := some .boolean }, accessFlags := 8, code := some k13c0 }
def k13m1 : Method := { name := "<init>", desc := "()V", sig := { parameters := [], returnType := none }, accessFlags := 2, code := none }
/-- java/lang/CharacterDataLatin1 -/
def k13 : Class := { plain "java/lang/CharacterDataLatin1" (some 12) with
  accessFlags := 32
  interfaces := #[]
  cf := some (fileOf pool13 2 #[] #[{ accessFlags := 8, nameIndex := 115, descriptorIndex := 116, attributes := #[] }, { accessFlags := 2, nameIndex := 42, descriptorIndex := 43, attributes := #[] }] 32 39 #[] #[{ accessFlags := 26, nameIndex := 27, descriptorIndex := 28, attributes := #[] }, { accessFlags := 8, nameIndex := 37, descriptorIndex := 10, attributes := #[] }, { accessFlags := 24, nameIndex := 47, descriptorIndex := 48, attributes := #[] }, { accessFlags := 24, nameIndex := 5, descriptorIndex := 6, attributes := #[] }, { accessFlags := 24, nameIndex := 9, descriptorIndex := 10, attributes := #[] }])
  fields := #[{ name := "DIGITS", type := (.array .byte), accessFlags := 26, slot := 0, constantValue := 0 }, { name := "sharpsMap", type := (.array .char), accessFlags := 8, slot := 1, constantValue := 0 }, { name := "instance", type := (.object "java/lang/CharacterDataLatin1"), accessFlags := 24, slot := 2, constantValue := 0 }, { name := "A", type := (.array .int), accessFlags := 24, slot := 3, constantValue := 0 }, { name := "B", type := (.array .char), accessFlags := 24, slot := 4, constantValue := 0 }]
  methods := #[k13m0, k13m1]
  instanceTypes := #[]
  staticTypes := #[(.array .byte), (.array .char), (.object "java/lang/CharacterDataLatin1"), (.array .int), (.array .char)]
  resolved := Array.replicate 141 none
  statics := none }

def pool14 : Array CpInfo := pool [(2, .class_ 4), (1, u "java/lang/Object"), (0, u "<init>"), (0, u "()V"), (17, .class_ 26), (1, u "jdk/internal/util/Preconditions"), (28, .class_ 56), (0, u "jdk/internal/util/Preconditions$4"), (57, .class_ 115), (0, u "jdk/internal/util/Preconditions$1"), (7, u "SIOOBE_FORMATTER"), (0, u "Ljava/util/function/BiFunction;"), (0, .class_ 126), (0, u "jdk/internal/util/Preconditions$2"), (3, u "AIOOBE_FORMATTER"), (0, .class_ 132), (0, u "jdk/internal/util/Preconditions$3"), (3, u "IOOBE_FORMATTER")] 57

def k14m0 : Method := { name := "<init>", desc := "()V", sig := { parameters := [], returnType := none }, accessFlags := 1, code := none }
/-- jdk/internal/util/Preconditions -/
def k14 : Class := { plain "jdk/internal/util/Preconditions" (some 0) with
  accessFlags := 33
  interfaces := #[]
  cf := some (fileOf pool14 24 #[.nestMembers #[55, 131, 125, 114]] #[{ accessFlags := 1, nameIndex := 5, descriptorIndex := 6, attributes := #[] }] 33 2 #[] #[{ accessFlags := 25, nameIndex := 123, descriptorIndex := 124, attributes := #[] }, { accessFlags := 25, nameIndex := 130, descriptorIndex := 124, attributes := #[] }, { accessFlags := 25, nameIndex := 136, descriptorIndex := 124, attributes := #[] }])
  fields := #[{ name := "SIOOBE_FORMATTER", type := (.object "java/util/function/BiFunction"), accessFlags := 25, slot := 0, constantValue := 0 }, { name := "AIOOBE_FORMATTER", type := (.object "java/util/function/BiFunction"), accessFlags := 25, slot := 1, constantValue := 0 }, { name := "IOOBE_FORMATTER", type := (.object "java/util/function/BiFunction"), accessFlags := 25, slot := 2, constantValue := 0 }]
  methods := #[k14m0]
  instanceTypes := #[]
  staticTypes := #[(.object "java/util/function/BiFunction"), (.object "java/util/function/BiFunction"), (.object "java/util/function/BiFunction")]
  resolved := Array.replicate 194 none
  statics := some 1 }

def pool15 : Array CpInfo := pool [(9, u "<init>"), (6, .class_ 18), (1, u "java/lang/Object"), (0, u "()V"), (1, .class_ 23), (1, u "jdk/internal/util/ArraysSupport"), (0, u "LOG2_ARRAY_LONG_INDEX_SCALE"), (0, u "I"), (2, u "U"), (0, u "Ljdk/internal/misc/Unsafe;"), (8, u "BIG_ENDIAN"), (0, u "Z"), (8, u "LOG2_BYTE_BIT_SIZE"), (4, u "LOG2_ARRAY_INT_INDEX_SCALE"), (54, u "JLA"), (0, u "Ljdk/internal/access/JavaLangAccess;"), (11, u "LOG2_ARRAY_BOOLEAN_INDEX_SCALE"), (9, u "LOG2_ARRAY_BYTE_INDEX_SCALE"), (5, u "LOG2_ARRAY_CHAR_INDEX_SCALE"), (5, u "LOG2_ARRAY_SHORT_INDEX_SCALE"), (18, u "LOG2_ARRAY_FLOAT_INDEX_SCALE"), (24, u "LOG2_ARRAY_DOUBLE_INDEX_SCALE"), (89, u "T_BOOLEAN"), (2, u "T_CHAR"), (1, u "T_FLOAT"), (1, u "T_DOUBLE"), (1, u "T_BYTE"), (1, u "T_SHORT"), (1, u "T_INT"), (1, u "T_LONG"), (1, u "SOFT_MAX_ARRAY_LENGTH")] 83

def k15m0 : Method := { name := "<init>", desc := "()V", sig := { parameters := [], returnType := none }, accessFlags := 2, code := none }
/-- jdk/internal/util/ArraysSupport -/
def k15 : Class := { plain "jdk/internal/util/ArraysSupport" (some 0) with
  accessFlags := 33
  interfaces := #[]
  cf := some (fileOf pool15 21 #[] #[{ accessFlags := 2, nameIndex := 9, descriptorIndex := 19, attributes := #[] }] 33 16 #[] #[{ accessFlags := 24, nameIndex := 28, descriptorIndex := 29, attributes := #[] }, { accessFlags := 26, nameIndex := 38, descriptorIndex := 39, attributes := #[] }, { accessFlags := 25, nameIndex := 121, descriptorIndex := 25, attributes := #[] }, { accessFlags := 25, nameIndex := 131, descriptorIndex := 25, attributes := #[] }, { accessFlags := 25, nameIndex := 137, descriptorIndex := 25, attributes := #[] }, { accessFlags := 25, nameIndex := 143, descriptorIndex := 25, attributes := #[] }, { accessFlags := 25, nameIndex := 53, descriptorIndex := 25, attributes := #[] }, { accessFlags := 25, nameIndex := 24, descriptorIndex := 25, attributes := #[] }, { accessFlags := 25, nameIndex := 162, descriptorIndex := 25, attributes := #[] }, { accessFlags := 25, nameIndex := 187, descriptorIndex := 25, attributes := #[] }, { accessFlags := 26, nameIndex := 48, descriptorIndex := 25, attributes := #[] }, { accessFlags := 25, nameIndex := 277, descriptorIndex := 25, attributes := #[] }, { accessFlags := 25, nameIndex := 280, descriptorIndex := 25, attributes := #[] }, { accessFlags := 25, nameIndex := 282, descriptorIndex := 25, attributes := #[] }, { accessFlags := 25, nameIndex := 284, descriptorIndex := 25, attributes := #[] }, { accessFlags := 25, nameIndex := 286, descriptorIndex := 25, attributes := #[] }, { accessFlags := 25, nameIndex := 288, descriptorIndex := 25, attributes := #[] }, { accessFlags := 25, nameIndex := 290, descriptorIndex := 25, attributes := #[] }, { accessFlags := 25, nameIndex := 292, descriptorIndex := 25, attributes := #[] }, { accessFlags := 26, nameIndex := 108, descriptorIndex := 109, attributes := #[] }, { accessFlags := 25, nameIndex := 294, descriptorIndex := 25, attributes := #[] }])
  fields := #[{ name := "U", type := (.object "jdk/internal/misc/Unsafe"), accessFlags := 24, slot := 0, constantValue := 0 }, { name := "BIG_ENDIAN", type := .boolean, accessFlags := 26, slot := 1, constantValue := 0 }, { name := "LOG2_ARRAY_BOOLEAN_INDEX_SCALE", type := .int, accessFlags := 25, slot := 2, constantValue := 0 }, { name := "LOG2_ARRAY_BYTE_INDEX_SCALE", type := .int, accessFlags := 25, slot := 3, constantValue := 0 }, { name := "LOG2_ARRAY_CHAR_INDEX_SCALE", type := .int, accessFlags := 25, slot := 4, constantValue := 0 }, { name := "LOG2_ARRAY_SHORT_INDEX_SCALE", type := .int, accessFlags := 25, slot := 5, constantValue := 0 }, { name := "LOG2_ARRAY_INT_INDEX_SCALE", type := .int, accessFlags := 25, slot := 6, constantValue := 0 }, { name := "LOG2_ARRAY_LONG_INDEX_SCALE", type := .int, accessFlags := 25, slot := 7, constantValue := 0 }, { name := "LOG2_ARRAY_FLOAT_INDEX_SCALE", type := .int, accessFlags := 25, slot := 8, constantValue := 0 }, { name := "LOG2_ARRAY_DOUBLE_INDEX_SCALE", type := .int, accessFlags := 25, slot := 9, constantValue := 0 }, { name := "LOG2_BYTE_BIT_SIZE", type := .int, accessFlags := 26, slot := 10, constantValue := 0 }, { name := "T_BOOLEAN", type := .int, accessFlags := 25, slot := 11, constantValue := 0 }, { name := "T_CHAR", type := .int, accessFlags := 25, slot := 12, constantValue := 0 }, { name := "T_FLOAT", type := .int, accessFlags := 25, slot := 13, constantValue := 0 }, { name := "T_DOUBLE", type := .int, accessFlags := 25, slot := 14, constantValue := 0 }, { name := "T_BYTE", type := .int, accessFlags := 25, slot := 15, constantValue := 0 }, { name := "T_SHORT", type := .int, accessFlags := 25, slot := 16, constantValue := 0 }, { name := "T_INT", type := .int, accessFlags := 25, slot := 17, constantValue := 0 }, { name := "T_LONG", type := .int, accessFlags := 25, slot := 18, constantValue := 0 }, { name := "JLA", type := (.object "jdk/internal/access/JavaLangAccess"), accessFlags := 26, slot := 19, constantValue := 0 }, { name := "SOFT_MAX_ARRAY_LENGTH", type := .int, accessFlags := 25, slot := 20, constantValue := 0 }]
  methods := #[k15m0]
  instanceTypes := #[]
  staticTypes := #[(.object "jdk/internal/misc/Unsafe"), .boolean, .int, .int, .int, .int, .int, .int, .int, .int, .int, .int, .int, .int, .int, .int, .int, .int, .int, (.object "jdk/internal/access/JavaLangAccess"), .int]
  resolved := Array.replicate 378 none
  statics := none }

def pool16 : Array CpInfo := pool [(1, u "java/lang/Cloneable"), (0, .class_ 1), (0, u "java/lang/Object"), (0, .class_ 3)] 3

/-- java/lang/Cloneable -/
def k16 : Class := { plain "java/lang/Cloneable" (some 0) with
  accessFlags := 1537
  interfaces := #[]
  cf := some (fileOf pool16 2 #[] #[] 1537 4 #[] #[])
  fields := #[]
  methods := #[]
  instanceTypes := #[]
  staticTypes := #[]
  resolved := Array.replicate 8 none
  statics := none }

/-- the primitive byte -/
def k17 : Class := { plain "byte" none with kind := .primitive 'B', accessFlags := 0x411 }
/-- [B -/
def k18 : Class := { plain "[B" (some 0) with kind := .array 17 .byte, interfaces := #[16, 4], accessFlags := 1041 }

/-- the primitive char -/
def k19 : Class := { plain "char" none with kind := .primitive 'C', accessFlags := 0x411 }
/-- [C -/
def k20 : Class := { plain "[C" (some 0) with kind := .array 19 .char, interfaces := #[16, 4], accessFlags := 1041 }

/-- the primitive int -/
def k21 : Class := { plain "int" none with kind := .primitive 'I', accessFlags := 0x411 }
/-- [I -/
def k22 : Class := { plain "[I" (some 0) with kind := .array 21 .int, interfaces := #[16, 4], accessFlags := 1041 }

def heap : Heap := #[{ cls := 9, slots := #[.long 0, .int 1, .null, .int 0, .null, .int 0, .int 0], vm := .statics 9 },
  { cls := 14, slots := #[.null, .null, .null], vm := .statics 14 }]
def classes : Array Class := #[k0, k1, k2, k3, k4, k5, k6, k7, k8, k9, k10, k11, k12, k13, k14, k15, k16, k17, k18, k19, k20, k21, k22]
def interned : List (Array UInt16 × Addr) := []
def slotsUsed : Nat := 10
def theMethod : MethodId := ⟨1, 6⟩
def args0 : Array Value := #[.int 5, .int 6, .int 7, .int 8]
def aboutOver (below : List Frame) : State where
  vm := { classes := classes, interned := interned.toArray }
  heap := heap
  slotsUsed := slotsUsed
  threads := #[{ frames := .invoking theMethod args0 :: below }]
def below0 : List Frame := [.native { method := ⟨0, 0⟩, args := #[] }]
def about1 : State := aboutOver below0
def p0 : Program := .bare "" "" ""
def e0 : Env := launch0.env 0 0 0
theorem w_frames : about1.frames = Frame.invoking theMethod args0 :: below0 := rfl
set_option maxRecDepth 65536 in
theorem w_args : argsFit about1.vm theMethod args0 = true := by decide +kernel
set_option maxRecDepth 65536 in
theorem w_heap : heapFits about1 = true := by decide +kernel
set_option maxRecDepth 65536 in
theorem w_runnable : about1.curStatus? = some .runnable := by decide +kernel
set_option maxRecDepth 65536 in
theorem w_alone : about1.alone = true := by decide +kernel
set_option maxRecDepth 65536 in
theorem w_named : about1.methodNamed? x = some theMethod := by decide +kernel
set_option maxRecDepth 65536 in
theorem w_hears : about1.hears theMethod below0 = true := by decide +kernel
set_option maxRecDepth 65536 in
theorem w_ripe : about1.ripe theMethod args0 below0 = true := by decide +kernel
theorem w_running : about1.status = .running := rfl
set_option maxRecDepth 65536 in
theorem w_room : about1.hasRoom e0.platform room_1 = true :=
  launch0.hasRoom_least _ room_1 (by decide +kernel) (by decide +kernel) (by decide +kernel) (by decide +kernel) (by decide +kernel) (by decide +kernel)
theorem allAtoms_all (ts : List Jvm.Cond) (a : Array Jvm.Value) (st : Jvm.State) : (allAtoms ts).before a st = ts.all (fun c => c.before a st) := by
  induction ts with
  | nil => rfl
  | cons c t ih =>
    show (Jvm.Cond.and c (allAtoms t)).before a st = _
    rw [Jvm.Cond.before_and, ih, List.all_cons]
def words1 : List Jvm.Cond := Jvm.Cond.code x code maxLocals ret :: tables_1
/-- a 'code' word, met by the world's own term for the bytes: nothing is compared byte by byte -/
theorem code_word {y : MethodName} {bytes : ByteArray} {mx : Nat} {rt : Option FieldType} {a : Array Value} {s : State} {m : MethodId} {meth : Method} {c : Code} (h1 : s.methodNamed? y = some m) (h2 : s.vm.method? m = some meth) (h3 : meth.code = some c) (h4 : c.code = bytes)
    (h5 : (c.maxLocals == mx && c.exceptionTable.isEmpty && decide (c.maxStack ≤ mostOperands) && decide (meth.sig.returnType = rt) && !meth.locks && decide (parseMethodDescriptor y.desc = some meth.sig)) = true) : (Jvm.Cond.code y bytes mx rt).before a s = true := by
  simp only [Bool.and_eq_true, beq_iff_eq, Bool.not_eq_true', decide_eq_true_eq] at h5
  obtain ⟨⟨⟨⟨⟨g1, g2⟩, g3⟩, g4⟩, g5⟩, g6⟩ := h5
  simp [Cond.before, Cond.holds, Cond.value, h1, h2, h3, h4, g1, g2, g3, g4, g5, g6]
def isCode : Jvm.Cond → Bool
  | .code _ _ _ _ => true
  | _ => false
theorem all_split {L : List Jvm.Cond} {P : Jvm.Cond → Bool} (h1 : L.all (fun c => isCode c || P c) = true) (h2 : ∀ c ∈ L.filter isCode, P c = true) : L.all P = true := by
  refine List.all_eq_true.mpr fun c hc => ?_
  have h := List.all_eq_true.mp h1 c hc
  rcases Bool.eq_false_or_eq_true (isCode c) with hi | hi
  · exact h2 c (List.mem_filter.mpr ⟨hc, hi⟩)
  · simpa [hi] using h
set_option maxRecDepth 65536 in
theorem w_c0 : (Jvm.Cond.code x code maxLocals ret).before args0 about1 = true := code_word (m := ⟨1, 6⟩) (meth := k1m6) (c := k1c6) (by decide +kernel) rfl rfl rfl (by decide +kernel)
set_option maxRecDepth 65536 in
theorem w_c1 : (Jvm.Cond.code ({ cls := "com/example/invocant/invocant/CanonicalMatchesIgnoringCasePinLaw", name := "isNull", desc := "(I)Z" } : Jvm.MethodName) method_6_code (1 : Nat) (Option.some Jvm.ClassFile.FieldType.boolean)).before args0 about1 = true := code_word (m := ⟨1, 5⟩) (meth := k1m5) (c := k1c5) (by decide +kernel) rfl rfl rfl (by decide +kernel)
set_option maxRecDepth 65536 in
theorem w_c2 : (Jvm.Cond.code ({ cls := "com/example/invocant/invocant/CanonicalMatchesIgnoringCasePinLaw", name := "str", desc := "(I)Ljava/lang/String;" } : Jvm.MethodName) method_3_code (3 : Nat) (Option.some (Jvm.ClassFile.FieldType.object "java/lang/String"))).before args0 about1 = true := code_word (m := ⟨1, 2⟩) (meth := k1m2) (c := k1c2) (by decide +kernel) rfl rfl rfl (by decide +kernel)
set_option maxRecDepth 65536 in
theorem w_c3 : (Jvm.Cond.code ({ cls := "java/lang/String", name := "<init>", desc := "([C)V" } : Jvm.MethodName) jdk_42_method_3_code (2 : Nat) (Option.none : Option Jvm.ClassFile.FieldType)).before args0 about1 = true := code_word (m := ⟨9, 1⟩) (meth := k9m1) (c := k9c1) (by decide +kernel) rfl rfl rfl (by decide +kernel)
set_option maxRecDepth 65536 in
theorem w_c4 : (Jvm.Cond.code ({ cls := "java/lang/String", name := "<init>", desc := "([CIILjava/lang/Void;)V" } : Jvm.MethodName) jdk_42_method_149_code (6 : Nat) (Option.none : Option Jvm.ClassFile.FieldType)).before args0 about1 = true := code_word (m := ⟨9, 5⟩) (meth := k9m5) (c := k9c5) (by decide +kernel) rfl rfl rfl (by decide +kernel)
set_option maxRecDepth 65536 in
theorem w_c5 : (Jvm.Cond.code ({ cls := "java/lang/Object", name := "<init>", desc := "()V" } : Jvm.MethodName) object_method_1_code (1 : Nat) (Option.none : Option Jvm.ClassFile.FieldType)).before args0 about1 = true := code_word (m := ⟨0, 0⟩) (meth := k0m0) (c := k0c0) (by decide +kernel) rfl rfl rfl (by decide +kernel)
set_option maxRecDepth 65536 in
theorem w_c6 : (Jvm.Cond.code ({ cls := "com/example/invocant/invocant/CanonicalMatchesIgnoringCasePinLaw", name := "ch", desc := "(II)C" } : Jvm.MethodName) method_2_code (2 : Nat) (Option.some Jvm.ClassFile.FieldType.char)).before args0 about1 = true := code_word (m := ⟨1, 1⟩) (meth := k1m1) (c := k1c1) (by decide +kernel) rfl rfl rfl (by decide +kernel)
set_option maxRecDepth 65536 in
theorem w_c7 : (Jvm.Cond.code ({ cls := "java/lang/StringUTF16", name := "compress", desc := "([CII)[B" } : Jvm.MethodName) jdk_52_method_16_code (6 : Nat) (Option.some (Jvm.ClassFile.FieldType.array Jvm.ClassFile.FieldType.byte))).before args0 about1 = true := code_word (m := ⟨10, 2⟩) (meth := k10m2) (c := k10c2) (by decide +kernel) rfl rfl rfl (by decide +kernel)
set_option maxRecDepth 65536 in
theorem w_c8 : (Jvm.Cond.code ({ cls := "java/lang/StringUTF16", name := "compress", desc := "([CI[BII)I" } : Jvm.MethodName) jdk_52_method_21_code (7 : Nat) (Option.some Jvm.ClassFile.FieldType.int)).before args0 about1 = true := code_word (m := ⟨10, 3⟩) (meth := k10m3) (c := k10c3) (by decide +kernel) rfl rfl rfl (by decide +kernel)
set_option maxRecDepth 65536 in
theorem w_c9 : (Jvm.Cond.code ({ cls := "java/lang/StringUTF16", name := "coderFromArrayLen", desc := "([BI)B" } : Jvm.MethodName) jdk_52_method_15_code (2 : Nat) (Option.some Jvm.ClassFile.FieldType.byte)).before args0 about1 = true := code_word (m := ⟨10, 1⟩) (meth := k10m1) (c := k10c1) (by decide +kernel) rfl rfl rfl (by decide +kernel)
set_option maxRecDepth 65536 in
theorem w_c10 : (Jvm.Cond.code ({ cls := "com/example/invocant/invocant/Canonical", name := "<init>", desc := "(Ljava/lang/String;Ljava/lang/String;)V" } : Jvm.MethodName) prog_3_method_1_code (3 : Nat) (Option.none : Option Jvm.ClassFile.FieldType)).before args0 about1 = true := code_word (m := ⟨3, 0⟩) (meth := k3m0) (c := k3c0) (by decide +kernel) rfl rfl rfl (by decide +kernel)
set_option maxRecDepth 65536 in
theorem w_c11 : (Jvm.Cond.code ({ cls := "java/lang/Record", name := "<init>", desc := "()V" } : Jvm.MethodName) jdk_30_method_1_code (1 : Nat) (Option.none : Option Jvm.ClassFile.FieldType)).before args0 about1 = true := code_word (m := ⟨2, 0⟩) (meth := k2m0) (c := k2c0) (by decide +kernel) rfl rfl rfl (by decide +kernel)
set_option maxRecDepth 65536 in
theorem w_c12 : (Jvm.Cond.code ({ cls := "com/example/invocant/invocant/CanonicalMatchesIgnoringCasePinLaw", name := "eqIC", desc := "(II)Z" } : Jvm.MethodName) method_5_code (4 : Nat) (Option.some Jvm.ClassFile.FieldType.boolean)).before args0 about1 = true := code_word (m := ⟨1, 4⟩) (meth := k1m4) (c := k1c4) (by decide +kernel) rfl rfl rfl (by decide +kernel)
set_option maxRecDepth 65536 in
theorem w_c13 : (Jvm.Cond.code ({ cls := "com/example/invocant/invocant/Canonical", name := "matchesIgnoringCase", desc := "(Lcom/example/invocant/invocant/Canonical;)Z" } : Jvm.MethodName) prog_3_method_4_code (2 : Nat) (Option.some Jvm.ClassFile.FieldType.boolean)).before args0 about1 = true := code_word (m := ⟨3, 1⟩) (meth := k3m1) (c := k3c1) (by decide +kernel) rfl rfl rfl (by decide +kernel)
set_option maxRecDepth 65536 in
theorem w_c14 : (Jvm.Cond.code ({ cls := "java/lang/String", name := "equalsIgnoreCase", desc := "(Ljava/lang/String;)Z" } : Jvm.MethodName) jdk_42_method_70_code (2 : Nat) (Option.some Jvm.ClassFile.FieldType.boolean)).before args0 about1 = true := code_word (m := ⟨9, 3⟩) (meth := k9m3) (c := k9c3) (by decide +kernel) rfl rfl rfl (by decide +kernel)
set_option maxRecDepth 65536 in
theorem w_c15 : (Jvm.Cond.code ({ cls := "java/lang/String", name := "length", desc := "()I" } : Jvm.MethodName) jdk_42_method_54_code (1 : Nat) (Option.some Jvm.ClassFile.FieldType.int)).before args0 about1 = true := code_word (m := ⟨9, 2⟩) (meth := k9m2) (c := k9c2) (by decide +kernel) rfl rfl rfl (by decide +kernel)
set_option maxRecDepth 65536 in
theorem w_c16 : (Jvm.Cond.code ({ cls := "java/lang/String", name := "coder", desc := "()B" } : Jvm.MethodName) jdk_42_method_152_code (1 : Nat) (Option.some Jvm.ClassFile.FieldType.byte)).before args0 about1 = true := code_word (m := ⟨9, 6⟩) (meth := k9m6) (c := k9c6) (by decide +kernel) rfl rfl rfl (by decide +kernel)
set_option maxRecDepth 65536 in
theorem w_c17 : (Jvm.Cond.code ({ cls := "java/lang/String", name := "regionMatches", desc := "(ZILjava/lang/String;II)Z" } : Jvm.MethodName) jdk_42_method_74_code (9 : Nat) (Option.some Jvm.ClassFile.FieldType.boolean)).before args0 about1 = true := code_word (m := ⟨9, 4⟩) (meth := k9m4) (c := k9c4) (by decide +kernel) rfl rfl rfl (by decide +kernel)
set_option maxRecDepth 65536 in
theorem w_c18 : (Jvm.Cond.code ({ cls := "java/lang/StringLatin1", name := "regionMatchesCI", desc := "([BI[BII)Z" } : Jvm.MethodName) jdk_43_method_30_code (8 : Nat) (Option.some Jvm.ClassFile.FieldType.boolean)).before args0 about1 = true := code_word (m := ⟨11, 1⟩) (meth := k11m1) (c := k11c1) (by decide +kernel) rfl rfl rfl (by decide +kernel)
set_option maxRecDepth 65536 in
theorem w_c19 : (Jvm.Cond.code ({ cls := "com/example/invocant/invocant/CanonicalMatchesIgnoringCasePinLaw", name := "fold", desc := "(I)I" } : Jvm.MethodName) method_4_code (1 : Nat) (Option.some Jvm.ClassFile.FieldType.int)).before args0 about1 = true := code_word (m := ⟨1, 3⟩) (meth := k1m3) (c := k1c3) (by decide +kernel) rfl rfl rfl (by decide +kernel)
set_option maxRecDepth 65536 in
theorem w_c20 : (Jvm.Cond.code ({ cls := "java/lang/CharacterDataLatin1", name := "equalsIgnoreCase", desc := "(BB)Z" } : Jvm.MethodName) jdk_116_method_22_code (3 : Nat) (Option.some Jvm.ClassFile.FieldType.boolean)).before args0 about1 = true := code_word (m := ⟨13, 0⟩) (meth := k13m0) (c := k13c0) (by decide +kernel) rfl rfl rfl (by decide +kernel)
def codes1 : List Jvm.Cond := [Jvm.Cond.code x code maxLocals ret, Jvm.Cond.code ({ cls := "com/example/invocant/invocant/CanonicalMatchesIgnoringCasePinLaw", name := "isNull", desc := "(I)Z" } : Jvm.MethodName) method_6_code (1 : Nat) (Option.some Jvm.ClassFile.FieldType.boolean), Jvm.Cond.code ({ cls := "com/example/invocant/invocant/CanonicalMatchesIgnoringCasePinLaw", name := "str", desc := "(I)Ljava/lang/String;" } : Jvm.MethodName) method_3_code (3 : Nat) (Option.some (Jvm.ClassFile.FieldType.object "java/lang/String")), Jvm.Cond.code ({ cls := "java/lang/String", name := "<init>", desc := "([C)V" } : Jvm.MethodName) jdk_42_method_3_code (2 : Nat) (Option.none : Option Jvm.ClassFile.FieldType), Jvm.Cond.code ({ cls := "java/lang/String", name := "<init>", desc := "([CIILjava/lang/Void;)V" } : Jvm.MethodName) jdk_42_method_149_code (6 : Nat) (Option.none : Option Jvm.ClassFile.FieldType), Jvm.Cond.code ({ cls := "java/lang/Object", name := "<init>", desc := "()V" } : Jvm.MethodName) object_method_1_code (1 : Nat) (Option.none : Option Jvm.ClassFile.FieldType), Jvm.Cond.code ({ cls := "com/example/invocant/invocant/CanonicalMatchesIgnoringCasePinLaw", name := "ch", desc := "(II)C" } : Jvm.MethodName) method_2_code (2 : Nat) (Option.some Jvm.ClassFile.FieldType.char), Jvm.Cond.code ({ cls := "java/lang/StringUTF16", name := "compress", desc := "([CII)[B" } : Jvm.MethodName) jdk_52_method_16_code (6 : Nat) (Option.some (Jvm.ClassFile.FieldType.array Jvm.ClassFile.FieldType.byte)), Jvm.Cond.code ({ cls := "java/lang/StringUTF16", name := "compress", desc := "([CI[BII)I" } : Jvm.MethodName) jdk_52_method_21_code (7 : Nat) (Option.some Jvm.ClassFile.FieldType.int), Jvm.Cond.code ({ cls := "java/lang/StringUTF16", name := "coderFromArrayLen", desc := "([BI)B" } : Jvm.MethodName) jdk_52_method_15_code (2 : Nat) (Option.some Jvm.ClassFile.FieldType.byte), Jvm.Cond.code ({ cls := "com/example/invocant/invocant/Canonical", name := "<init>", desc := "(Ljava/lang/String;Ljava/lang/String;)V" } : Jvm.MethodName) prog_3_method_1_code (3 : Nat) (Option.none : Option Jvm.ClassFile.FieldType), Jvm.Cond.code ({ cls := "java/lang/Record", name := "<init>", desc := "()V" } : Jvm.MethodName) jdk_30_method_1_code (1 : Nat) (Option.none : Option Jvm.ClassFile.FieldType), Jvm.Cond.code ({ cls := "com/example/invocant/invocant/CanonicalMatchesIgnoringCasePinLaw", name := "eqIC", desc := "(II)Z" } : Jvm.MethodName) method_5_code (4 : Nat) (Option.some Jvm.ClassFile.FieldType.boolean), Jvm.Cond.code ({ cls := "com/example/invocant/invocant/Canonical", name := "matchesIgnoringCase", desc := "(Lcom/example/invocant/invocant/Canonical;)Z" } : Jvm.MethodName) prog_3_method_4_code (2 : Nat) (Option.some Jvm.ClassFile.FieldType.boolean), Jvm.Cond.code ({ cls := "java/lang/String", name := "equalsIgnoreCase", desc := "(Ljava/lang/String;)Z" } : Jvm.MethodName) jdk_42_method_70_code (2 : Nat) (Option.some Jvm.ClassFile.FieldType.boolean), Jvm.Cond.code ({ cls := "java/lang/String", name := "length", desc := "()I" } : Jvm.MethodName) jdk_42_method_54_code (1 : Nat) (Option.some Jvm.ClassFile.FieldType.int), Jvm.Cond.code ({ cls := "java/lang/String", name := "coder", desc := "()B" } : Jvm.MethodName) jdk_42_method_152_code (1 : Nat) (Option.some Jvm.ClassFile.FieldType.byte), Jvm.Cond.code ({ cls := "java/lang/String", name := "regionMatches", desc := "(ZILjava/lang/String;II)Z" } : Jvm.MethodName) jdk_42_method_74_code (9 : Nat) (Option.some Jvm.ClassFile.FieldType.boolean), Jvm.Cond.code ({ cls := "java/lang/StringLatin1", name := "regionMatchesCI", desc := "([BI[BII)Z" } : Jvm.MethodName) jdk_43_method_30_code (8 : Nat) (Option.some Jvm.ClassFile.FieldType.boolean), Jvm.Cond.code ({ cls := "com/example/invocant/invocant/CanonicalMatchesIgnoringCasePinLaw", name := "fold", desc := "(I)I" } : Jvm.MethodName) method_4_code (1 : Nat) (Option.some Jvm.ClassFile.FieldType.int), Jvm.Cond.code ({ cls := "java/lang/CharacterDataLatin1", name := "equalsIgnoreCase", desc := "(BB)Z" } : Jvm.MethodName) jdk_116_method_22_code (3 : Nat) (Option.some Jvm.ClassFile.FieldType.boolean)]
set_option maxRecDepth 65536 in
theorem codes_eq : words1.filter isCode = codes1 := rfl
theorem w_codes : ∀ c ∈ words1.filter isCode, c.before args0 about1 = true := by
  rw [codes_eq]
  intro c hc
  simp only [codes1, List.mem_cons, List.not_mem_nil, or_false] at hc
  rcases hc with rfl | rfl | rfl | rfl | rfl | rfl | rfl | rfl | rfl | rfl | rfl | rfl | rfl | rfl | rfl | rfl | rfl | rfl | rfl | rfl | rfl
  · exact w_c0
  · exact w_c1
  · exact w_c2
  · exact w_c3
  · exact w_c4
  · exact w_c5
  · exact w_c6
  · exact w_c7
  · exact w_c8
  · exact w_c9
  · exact w_c10
  · exact w_c11
  · exact w_c12
  · exact w_c13
  · exact w_c14
  · exact w_c15
  · exact w_c16
  · exact w_c17
  · exact w_c18
  · exact w_c19
  · exact w_c20
set_option maxRecDepth 65536 in
theorem w_t1 : (words1.take 24).all (fun c => isCode c || c.before args0 about1) = true := by decide +kernel
set_option maxRecDepth 65536 in
theorem w_t2 : ((words1.drop 24).take 24).all (fun c => isCode c || c.before args0 about1) = true := by decide +kernel
set_option maxRecDepth 65536 in
theorem w_t3 : (((words1.drop 24).drop 24).take 24).all (fun c => isCode c || c.before args0 about1) = true := by decide +kernel
set_option maxRecDepth 65536 in
theorem w_t4 : ((((words1.drop 24).drop 24).drop 24).take 24).all (fun c => isCode c || c.before args0 about1) = true := by decide +kernel
set_option maxRecDepth 65536 in
theorem w_t5 : ((((words1.drop 24).drop 24).drop 24).drop 24).all (fun c => isCode c || c.before args0 about1) = true := by decide +kernel
theorem w_tables : (allAtoms (Jvm.Cond.code x code maxLocals ret :: tables_1)).before args0 about1 = true := by
  rw [allAtoms_all]
  show words1.all (fun c => c.before args0 about1) = true
  refine all_split ?_ w_codes
  rw [← List.take_append_drop 24 words1, List.all_append, w_t1, ← List.take_append_drop 24 (words1.drop 24), List.all_append, w_t2, ← List.take_append_drop 24 ((words1.drop 24).drop 24), List.all_append, w_t3, ← List.take_append_drop 24 (((words1.drop 24).drop 24).drop 24), List.all_append, w_t4, w_t5]
  rfl
set_option maxRecDepth 65536 in
theorem w_rest : rest_1_c.before args0 about1 = true := by decide +kernel
set_option maxRecDepth 65536 in
theorem w_case : (Jvm.Cond.and given_1 narrow_1).before args0 about1 = true := by decide +kernel
set_option maxRecDepth 65536 in
theorem w_consts : constsHeld consts_1 about1 := Jvm.Lit.constsHeldB_iff.mp (by decide +kernel)
theorem w_applies : (headSpec (Jvm.Cond.code x code maxLocals ret :: tables_1) room_1).applies x e0.platform about1 = true :=
  (Spec.applies_iff w_frames).mpr ⟨w_running, w_runnable, w_alone, w_named, w_hears, w_ripe, w_room, w_tables⟩
theorem atStart : AtStart classFile x code maxLocals ret World_1 tables_1 room_1 Calls_1 rest_1 Pre_1 launch0 p0 e0 about1 theMethod args0 below0 :=
  ⟨lists_1, trivial, launch0.admits_env _ _ _, launch0.least_env, fairChoices_fair.cas, fairChoices_fair.clock, w_frames, w_args, w_heap, w_applies, ⟨w_consts, trivial⟩, w_rest, w_case⟩
end start1
theorem witness_1 : WitnessClaimed_1 := ⟨start1.p0, start1.e0, start1.about1, start1.theMethod, start1.args0, start1.below0, start1.atStart⟩
end Jvm.Pilot.@@N@@
