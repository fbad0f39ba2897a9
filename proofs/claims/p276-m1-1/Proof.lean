import JvmDerived
import JvmDerived.Pilot.@@N@@Statement
import JvmDerived.Pilot.@@N@@Code
set_option linter.unusedVariables false
set_option linter.unusedSimpArgs false
namespace Jvm.OwnKit
open Jvm Jvm.ClassFile Sem Op Lib Jvm.Free Jvm.Stand Jvm.LawKit Jvm.RoadKit
section Walk
variable {p : Program} {l : Launch} {e : Env} {R : Room} {s : State} {m : MethodId} {args : Array Value} {below : List Frame} {meth : Method} {c : Code} {T T' : State} {locs : List Loc} {cells slots k n : Nat} {Q : Option Value → Heap → List Loc → Prop} {P : Option Value → State → List Loc → Prop} {g g' : JFrame}
/-- from T with the frame g on top the run comes home: it returns, and Q says of what it returned, the heap and the places written -/
def Home {p : Program} {e : Env} {below : List Frame} {P : Option Value → State → List Loc → Prop} (T : State) (g : JFrame) : Prop :=
  ∃ U o, Steps p.tables e below (T.setTop g) U ∧ U.status = .running ∧ Ended U below o ∧ ∃ v L, o = .returned v ∧ P v U L
/-- the end of a walk that has booked no text -/
abbrev End (s : State) (Q : Option Value → Heap → List Loc → Prop) (k n : Nat) : Option Value → State → List Loc → Prop := fun v U L => Q v U.heap L ∧ FrameEnd s (.returned v) U L k n
theorem Home.go (st : ∀ t, Steps p.tables e below (T'.setTop g') t → Steps p.tables e below (T.setTop g) t) (H : @Home p e below P T' g') : @Home p e below P T g := by
  obtain ⟨U, o, h1, h2⟩ := H
  exact ⟨U, o, st _ h1, h2⟩
section Cps
variable {S : State → Prop} {S2 : State → Heap → Prop} {W E A D M : Heap → Prop} {A2 : Heap → ClassId → Prop} {O : ClassId → Prop} {h : Heap}
theorem Home.st (q : ∃ T', S T' ∧ T'.heap = h ∧ ∀ t, Steps p.tables e below (T'.setTop g') t → Steps p.tables e below (T.setTop g) t) (H : ∀ T', S T' → T'.heap = h → @Home p e below P T' g') : @Home p e below P T g := by
  obtain ⟨T', x, y, st⟩ := q
  exact Home.go st (H T' x y)
theorem Home.wr (q : ∃ T' h', S T' ∧ T'.heap = h' ∧ W h' ∧ ∀ t, Steps p.tables e below (T'.setTop g') t → Steps p.tables e below (T.setTop g) t) (H : ∀ T' h', S T' → T'.heap = h' → W h' → @Home p e below P T' g') : @Home p e below P T g := by
  obtain ⟨T', h', x, y, z, st⟩ := q
  exact Home.go st (H T' h' x y z)
theorem Home.nw {B : Addr → Prop} {A3 D3 : Heap → Addr → Prop} {ga : Addr → JFrame} (q : ∃ T' h' b, B b ∧ S T' ∧ T'.heap = h' ∧ E h' ∧ A3 h' b ∧ D3 h' b ∧ ∀ t, Steps p.tables e below (T'.setTop (ga b)) t → Steps p.tables e below (T.setTop g) t) (H : ∀ T' h' b, B b → S T' → T'.heap = h' → E h' → A3 h' b → D3 h' b → @Home p e below P T' (ga b)) : @Home p e below P T g := by
  obtain ⟨T', h', b, i, x, y, z, u, v, st⟩ := q
  exact Home.go st (H T' h' b i x y z u v)
theorem Home.na {B : Addr → Prop} {A3 : Heap → ClassId → Addr → Prop} {ga : Addr → JFrame} (q : ∃ T' h' c' b, B b ∧ S T' ∧ T'.heap = h' ∧ E h' ∧ A3 h' c' b ∧ ∀ t, Steps p.tables e below (T'.setTop (ga b)) t → Steps p.tables e below (T.setTop g) t) (H : ∀ T' h' c' b, B b → S T' → T'.heap = h' → E h' → A3 h' c' b → @Home p e below P T' (ga b)) : @Home p e below P T g := by
  obtain ⟨T', h', c', b, i, x, y, z, u, st⟩ := q
  exact Home.go st (H T' h' c' b i x y z u)
theorem Home.call {S3 : State → List Loc → Prop} {Q3 : Option Value → State → List Loc → Prop} {gv : Option Value → JFrame} (q : ∃ v T' L, S3 T' L ∧ Q3 v T' L ∧ ∀ t, Steps p.tables e below (T'.setTop (gv v)) t → Steps p.tables e below (T.setTop g) t) (H : ∀ v T' L, S3 T' L → Q3 v T' L → @Home p e below P T' (gv v)) : @Home p e below P T g := by
  obtain ⟨v, T', L, x, y, st⟩ := q
  exact Home.go st (H v T' L x y)
end Cps
theorem hW0 {m : MethodId} {pc n : Nat} {L : Array Slot} {S : List Value} : 2 * (mkF m pc L S).monitorRoom + n ≤ n := by show 2 * 0 + n ≤ n; omega
theorem Home.enter (q : g = g') (H : @Home p e below P T g') : @Home p e below P T g := by
  subst q; exact H
theorem Home.retN (X : Stand p l e R s m args below meth c T locs cells slots) (hx : p.tables.exec = Jvm.exec) (hlk : meth.locks = false) {pc : Nat} {Ls : Array Slot} {z : Int32} {t : FieldType} {rest : List Value} (hret : meth.sig.returnType = some t) (ht : t = .boolean ∨ t = .byte ∨ t = .char ∨ t = .short)
    (hd : decode c.code pc = .ok (.ireturn, 1)) (hQ : Q (some (.int (nar t z))) T.heap locs) (hk : cells ≤ k) (hn : slots ≤ n) : @Home p e below (End s Q k n) T (mkF m pc Ls (.int z :: rest)) := by
  obtain ⟨fs, hr, hrun, hended, hW, hsame⟩ := X.leave (v := some (.int (nar t z))) (fun h => by rw [hret] at h; cases h) hlk
  exact ⟨_, _, Jvm.RoadKit.retN X hx hret ht hd hr, hrun, hended, _, _, rfl, hQ, ⟨_, rfl⟩, hW, hsame.mono hk hn⟩
theorem Home.ret (X : Stand p l e R s m args below meth c T locs cells slots) (hx : p.tables.exec = Jvm.exec) (hlk : meth.locks = false) {pc : Nat} {Ls : Array Slot} {w : Value} {t : FieldType} {i : Instr} {rest : List Value} (hret : meth.sig.returnType = some t) (hnn : narrow t w = w)
    (hi : (i = .ireturn ∧ (t = .int ∨ t = .boolean ∨ t = .byte ∨ t = .char ∨ t = .short) ∧ ∃ z, w = .int z) ∨ (i = .lreturn ∧ t = .long ∧ ∃ z, w = .long z) ∨ (i = .dreturn ∧ t = .double ∧ ∃ z, w = .double z) ∨ (i = .freturn ∧ t = .float ∧ ∃ z, w = .float z) ∨ (i = .areturn ∧ t.isReference = true ∧ w.isRef = true))
    (hd : decode c.code pc = .ok (i, 1)) (hQ : Q (some w) T.heap locs) (hk : cells ≤ k) (hn : slots ≤ n) : @Home p e below (End s Q k n) T (mkF m pc Ls (w :: rest)) := by
  obtain ⟨fs, hr, hrun, hended, hW, hsame⟩ := X.leave (v := some w) (fun h => by rw [hret] at h; cases h) hlk
  exact ⟨_, _, retOut X hx hret hnn hi hd hr, hrun, hended, _, _, rfl, hQ, ⟨_, rfl⟩, hW, hsame.mono hk hn⟩
theorem Home.retI (X : Stand p l e R s m args below meth c T locs cells slots) (hx : p.tables.exec = Jvm.exec) (hlk : meth.locks = false) {pc : Nat} {Ls : Array Slot} {z : Int32} {rest : List Value} (hret : meth.sig.returnType = some .int)
    (hd : decode c.code pc = .ok (.ireturn, 1)) (hQ : Q (some (.int z)) T.heap locs) (hk : cells ≤ k) (hn : slots ≤ n) : @Home p e below (End s Q k n) T (mkF m pc Ls (.int z :: rest)) :=
  Home.ret X hx hlk hret rfl (Or.inl ⟨rfl, Or.inl rfl, z, rfl⟩) hd hQ hk hn
theorem own_narrow_ref {t : FieldType} {w : Value} (hw : w.isRef = true) : narrow t w = w := by
  rcases ref_cases hw with rfl | ⟨a, rfl⟩ <;> cases t <;> rfl
theorem Home.retR (X : Stand p l e R s m args below meth c T locs cells slots) (hx : p.tables.exec = Jvm.exec) (hlk : meth.locks = false) {pc : Nat} {Ls : Array Slot} {w : Value} {t : FieldType} {rest : List Value} (hret : meth.sig.returnType = some t) (ht : t.isReference = true) (hw : w.isRef = true)
    (hd : decode c.code pc = .ok (.areturn, 1)) (hQ : Q (some w) T.heap locs) (hk : cells ≤ k) (hn : slots ≤ n) : @Home p e below (End s Q k n) T (mkF m pc Ls (w :: rest)) :=
  Home.ret X hx hlk hret (own_narrow_ref hw) (Or.inr (Or.inr (Or.inr (Or.inr ⟨rfl, ht, hw⟩)))) hd hQ hk hn
theorem Home.ret0 (X : Stand p l e R s m args below meth c T locs cells slots) (hx : p.tables.exec = Jvm.exec) (hlk : meth.locks = false) {pc : Nat} {Ls : Array Slot} (hret : meth.sig.returnType = none)
    (hd : decode c.code pc = .ok (.return_, 1)) (hQ : Q none T.heap locs) (hk : cells ≤ k) (hn : slots ≤ n) : @Home p e below (End s Q k n) T (mkF m pc Ls []) := by
  obtain ⟨fs, hr, hrun, hended, hW, hsame⟩ := X.leave (v := none) (fun _ => rfl) hlk
  exact ⟨_, _, X.returnOut hx hret hd hr, hrun, hended, _, _, rfl, hQ, ⟨_, rfl⟩, hW, hsame.mono hk hn⟩
end Walk
section New
variable {p : Program} {l : Launch} {e : Env} {R : Room} {s : State} {m : MethodId} {args : Array Value} {below : List Frame} {meth : Method} {c : Code} {T : State} {locs : List Loc} {cells slots : Nat} {Z : State} {a0 : Array Value} {h : Heap}
theorem own_newO (X : Stand p l e R s m args below meth c T locs cells slots) (hx : p.tables.exec = Jvm.exec) (hZ : Z.Warmed39 s.vm) {own C : String} {index n : Nat} (hown : s.vm.findClass own = some m.cls) (w : (Cond.classLink own index C).before a0 Z = true) (wi : (Cond.instantiable C n).before a0 Z = true) (wz : (Cond.initialized C).before a0 Z = true) (eT : T.heap = h)
    {g : JFrame} (hg : g.method = m) (hd : decode c.code g.pc = .ok (.new index, 3)) (hc : cells + 1 ≤ R.cells) (hl : slots + n ≤ R.slots) :
    ∃ T' h' b, b = h.size ∧ Stand p l e R s m args below meth c T' locs (cells + 1) (slots + n) ∧ T'.heap = h' ∧ Ext h h' ∧ Exa Z h' b C ∧ (∀ {O nm d : String} {ty : FieldType}, Laid Z a0 C O nm d → parseFieldDescriptor d = some ty → Fld Z h' b O nm d (defaultValue ty)) ∧
      ∀ target, Steps p.tables e below (T'.setTop { g with pc := g.pc + 3, stack := .ref b :: g.stack }) target → Steps p.tables e below (T.setTop g) target := by
  obtain ⟨T', h', X', e', E', A', D', -, st⟩ := newO X hx hZ hown w wi wz eT hg hd hc hl
  exact ⟨T', h', _, rfl, X', e', E', A', D', st⟩
theorem own_newP (X : Stand p l e R s m args below meth c T locs cells slots) (hx : p.tables.exec = Jvm.exec) (hZ : Z.Warmed39 s.vm) {aty : ArrayType} (w : (Cond.arrayClass (newarray.typeOf aty)).before a0 Z = true) (eT : T.heap = h) {g : JFrame} (hg : g.method = m) (hd : decode c.code g.pc = .ok (.newarray aty, 2)) {n : Int32} {rest : List Value} (hs : g.stack = .int n :: rest)
    (hn : ¬ n < 0) {cap : Nat} (hcap : n.toNatClampNeg ≤ cap) (hb : cap * 8 ≤ 536870912) (hc : cells + 1 ≤ R.cells) (hl : slots + cap ≤ R.slots) :
    ∃ T' h' cA b, b = h.size ∧ Stand p l e R s m args below meth c T' locs (cells + 1) (slots + cap) ∧ T'.heap = h' ∧ Ext h h' ∧ Arr Z h' b (newA cA (newarray.typeOf aty) n) (newarray.typeOf aty) ∧
      ∀ target, Steps p.tables e below (T'.setTop { g with pc := g.pc + 2, stack := .ref b :: rest }) target → Steps p.tables e below (T.setTop g) target := by
  obtain ⟨T', h', cA, X', e', E', A', st⟩ := newP X hx hZ w eT hg hd hs hn hcap hb hc hl
  exact ⟨T', h', cA, _, rfl, X', e', E', A', st⟩
end New
section Run
variable {p : Program} {l : Launch} {e : Env} {R : Room} {s : State} {m : MethodId} {args : Array Value} {below : List Frame} {meth : Method} {c : Code} {T : State} {locs : List Loc} {cells slots : Nat} {target : State}
def un32 (f : Int32 → Value) (S : List Value) : Option (List Value) := match S with | .int x :: r => some (f x :: r) | _ => none
def un64 (f : Int64 → Value) (S : List Value) : Option (List Value) := match S with | .long x :: r => some (f x :: r) | _ => none
def bi32 (f : Int32 → Int32 → Int32) (S : List Value) : Option (List Value) := match S with | .int y :: .int x :: r => some (.int (f x y) :: r) | _ => none
def bi64 (f : Int64 → Int64 → Value) (S : List Value) : Option (List Value) := match S with | .long y :: .long x :: r => some (f x y :: r) | _ => none
def sh64 (f : Int64 → Int32 → Int64) (S : List Value) : Option (List Value) := match S with | .int y :: .long x :: r => some (.long (f x y) :: r) | _ => none
/-- the stack behind an instruction that reads and writes the stack alone -/
def stk (i : Instr) (S : List Value) : Option (List Value) := match i with
  | .iconst k => some (.int (Int32.ofInt k) :: S)
  | .bipush k => some (.int (Int8.ofInt k).toInt32 :: S)
  | .sipush k => some (.int (Int16.ofInt k).toInt32 :: S)
  | .lconst k => some (.long (Int64.ofNat k) :: S)
  | .aconst_null => some (.null :: S)
  | .iadd => bi32 (· + ·) S
  | .isub => bi32 (· - ·) S
  | .imul => bi32 (· * ·) S
  | .iand => bi32 (· &&& ·) S
  | .ior => bi32 (· ||| ·) S
  | .ixor => bi32 (· ^^^ ·) S
  | .ishl => bi32 (fun x y => x <<< (y &&& 31)) S
  | .ishr => bi32 (fun x y => x >>> (y &&& 31)) S
  | .iushr => bi32 (fun x y => (x.toUInt32 >>> (y &&& 31).toUInt32).toInt32) S
  | .ladd => bi64 (fun x y => .long (x + y)) S
  | .lsub => bi64 (fun x y => .long (x - y)) S
  | .lmul => bi64 (fun x y => .long (x * y)) S
  | .land => bi64 (fun x y => .long (x &&& y)) S
  | .lor => bi64 (fun x y => .long (x ||| y)) S
  | .lxor => bi64 (fun x y => .long (x ^^^ y)) S
  | .lcmp => bi64 (fun x y => .int (if x > y then 1 else if x = y then 0 else -1)) S
  | .lshl => sh64 (fun x y => x <<< (y &&& 0x3f).toInt64) S
  | .lshr => sh64 (fun x y => x >>> (y &&& 0x3f).toInt64) S
  | .lushr => sh64 (fun x y => (x.toUInt64 >>> (y &&& 0x3f).toInt64.toUInt64).toInt64) S
  | .ineg => un32 (fun x => .int (-x)) S
  | .lneg => un64 (fun x => .long (-x)) S
  | .i2l => un32 (fun x => .long x.toInt64) S
  | .l2i => un64 (fun x => .int x.toInt32) S
  | .i2b => un32 (fun x => .int x.toInt8.toInt32) S
  | .i2c => un32 (fun x => .int x.toUInt32.toUInt16.toUInt32.toInt32) S
  | .i2s => un32 (fun x => .int x.toInt16.toInt32) S
  | .dup => match S with | x :: r => if x.category = 1 then some (x :: x :: r) else none | _ => none
  | .pop => match S with | x :: r => if x.category = 1 then some r else none | _ => none
  | .dup_x1 => match S with | x :: y :: r => if x.category = 1 ∧ y.category = 1 then some (x :: y :: x :: r) else none | _ => none
  | _ => none
theorem un32_s {f : Int32 → Value} {S S' : List Value} (h : un32 f S = some S') : ∃ x r, S = .int x :: r ∧ S' = f x :: r := by
  unfold un32 at h; split at h
  · cases h; exact ⟨_, _, rfl, rfl⟩
  · cases h
theorem un64_s {f : Int64 → Value} {S S' : List Value} (h : un64 f S = some S') : ∃ x r, S = .long x :: r ∧ S' = f x :: r := by
  unfold un64 at h; split at h
  · cases h; exact ⟨_, _, rfl, rfl⟩
  · cases h
theorem bi32_s {f : Int32 → Int32 → Int32} {S S' : List Value} (h : bi32 f S = some S') : ∃ x y r, S = .int y :: .int x :: r ∧ S' = .int (f x y) :: r := by
  unfold bi32 at h; split at h
  · cases h; exact ⟨_, _, _, rfl, rfl⟩
  · cases h
theorem bi64_s {f : Int64 → Int64 → Value} {S S' : List Value} (h : bi64 f S = some S') : ∃ x y r, S = .long y :: .long x :: r ∧ S' = f x y :: r := by
  unfold bi64 at h; split at h
  · cases h; exact ⟨_, _, _, rfl, rfl⟩
  · cases h
theorem sh64_s {f : Int64 → Int32 → Int64} {S S' : List Value} (h : sh64 f S = some S') : ∃ x y r, S = .int y :: .long x :: r ∧ S' = .long (f x y) :: r := by
  unfold sh64 at h; split at h
  · cases h; exact ⟨_, _, _, rfl, rfl⟩
  · cases h
def len1 (i : Instr) : Nat := match i with | .bipush _ => 2 | .sipush _ => 3 | _ => 1
theorem stk_s (X : Stand p l e R s m args below meth c T locs cells slots) (hx : p.tables.exec = Jvm.exec) {i : Instr} {n pc : Nat} {L : Array Slot} {S S' : List Value} (hd : decode c.code pc = .ok (i, n)) (hn : n = len1 i) (h : stk i S = some S')
    (H : Steps p.tables e below (T.setTop (mkF m (pc + n) L S')) target) : Steps p.tables e below (T.setTop (mkF m pc L S)) target := by
  subst hn
  unfold stk at h
  split at h <;> first
    | (cases h; first | exact XS.iconst X.here hx rfl hd H | exact XS.bipush X.here hx rfl hd H | exact XS.sipush X.here hx rfl hd H | exact XS.lconst X.here hx rfl hd H | exact XS.aconstNull X.here hx rfl hd H)
    | (obtain ⟨x, y, r, rfl, rfl⟩ := bi32_s h; first | exact XS.iadd X.here hx rfl hd rfl H | exact XS.isub X.here hx rfl hd rfl H | exact XS.imul X.here hx rfl hd rfl H | exact XS.iand X.here hx rfl hd rfl H | exact XS.ior X.here hx rfl hd rfl H | exact XS.ixor X.here hx rfl hd rfl H | exact XS.ishl X.here hx rfl hd rfl H | exact XS.ishr X.here hx rfl hd rfl H | exact XS.iushr X.here hx rfl hd rfl H)
    | (obtain ⟨x, y, r, rfl, rfl⟩ := bi64_s h; first | exact XS.ladd X.here hx rfl hd rfl H | exact XS.lsub X.here hx rfl hd rfl H | exact XS.lmul X.here hx rfl hd rfl H | exact XS.land X.here hx rfl hd rfl H | exact XS.lor X.here hx rfl hd rfl H | exact XS.lxor X.here hx rfl hd rfl H | exact XS.lcmp X.here hx rfl hd rfl H)
    | (obtain ⟨x, y, r, rfl, rfl⟩ := sh64_s h; first | exact XS.lshl X.here hx rfl hd rfl H | exact XS.lshr X.here hx rfl hd rfl H | exact XS.lushr X.here hx rfl hd rfl H)
    | (obtain ⟨x, r, rfl, rfl⟩ := un32_s h; first | exact XS.ineg X.here hx rfl hd rfl H | exact XS.i2l X.here hx rfl hd rfl H | exact XS.i2b X.here hx rfl hd rfl H | exact XS.i2c X.here hx rfl hd rfl H | exact XS.i2s X.here hx rfl hd rfl H)
    | (obtain ⟨x, r, rfl, rfl⟩ := un64_s h; first | exact XS.lneg X.here hx rfl hd rfl H | exact XS.l2i X.here hx rfl hd rfl H)
    | (split at h <;> (try split at h) <;> first | (cases h; done) | (rename_i q; cases h; first | exact XS.dup X.here hx rfl hd rfl q H | exact XS.pop X.here hx rfl hd rfl q H | exact XS.dupX1 X.here hx rfl hd rfl q.1 q.2 H))
    | cases h
def ldI (L : Array Slot) (S : List Value) (k : Nat) : Option (Array Slot × List Value) := match L[k]? with | some (.val (.int v)) => some (L, .int v :: S) | _ => none
def ldJ (L : Array Slot) (S : List Value) (k : Nat) : Option (Array Slot × List Value) := match L[k]? with | some (.val (.long v)) => some (L, .long v :: S) | _ => none
def ldA (L : Array Slot) (S : List Value) (k : Nat) : Option (Array Slot × List Value) := match L[k]? with | some (.val v) => if v.isRef = true then some (L, v :: S) else none | _ => none
def stI1 (L : Array Slot) (S : List Value) (k : Nat) : Option (Array Slot × List Value) := match S with | .int x :: r => (storeLocals L k (.int x)).map fun l' => (l', r) | _ => none
def stJ1 (L : Array Slot) (S : List Value) (k : Nat) : Option (Array Slot × List Value) := match S with | .long x :: r => (storeLocals L k (.long x)).map fun l' => (l', r) | _ => none
def stA1 (L : Array Slot) (S : List Value) (k : Nat) : Option (Array Slot × List Value) := match S with | x :: r => if x.isRef = true then (storeLocals L k x).map fun l' => (l', r) else none | _ => none
/-- what an instruction does to pc, locals and stack; nothing else is touched -/
def run1 (i : Instr) (n pc : Nat) (L : Array Slot) (S : List Value) : Option (Nat × Array Slot × List Value) := match i with
  | .iload_n k => if n = 1 then (ldI L S k.val).map (pc + n, ·) else none
  | .iload k => if n = 2 then (ldI L S k).map (pc + n, ·) else none
  | .lload_n k => if n = 1 then (ldJ L S k.val).map (pc + n, ·) else none
  | .lload k => if n = 2 then (ldJ L S k).map (pc + n, ·) else none
  | .aload_n k => if n = 1 then (ldA L S k.val).map (pc + n, ·) else none
  | .aload k => if n = 2 then (ldA L S k).map (pc + n, ·) else none
  | .istore_n k => if n = 1 then (stI1 L S k.val).map (pc + n, ·) else none
  | .istore k => if n = 2 then (stI1 L S k).map (pc + n, ·) else none
  | .lstore_n k => if n = 1 then (stJ1 L S k.val).map (pc + n, ·) else none
  | .lstore k => if n = 2 then (stJ1 L S k).map (pc + n, ·) else none
  | .astore_n k => if n = 1 then (stA1 L S k.val).map (pc + n, ·) else none
  | .astore k => if n = 2 then (stA1 L S k).map (pc + n, ·) else none
  | .iinc k cst => if n = 3 then (match L[k]? with | some (.val (.int x)) => (storeLocals L k (.int (x + Int32.ofInt cst))).map fun l' => (pc + n, l', S) | _ => none) else none
  | .goto o => if n = 3 then (if 0 ≤ (pc : Int) + o then some (((pc : Int) + o).toNat, L, S) else none) else none
  | i => if n = len1 i then (stk i S).map fun S' => (pc + n, L, S') else none
theorem ldI_s {L L' : Array Slot} {S S' : List Value} {k : Nat} (h : ldI L S k = some (L', S')) : ∃ v, L[k]? = some (.val (.int v)) ∧ L' = L ∧ S' = .int v :: S := by
  unfold ldI at h; split at h
  · cases h; exact ⟨_, by assumption, rfl, rfl⟩
  · cases h
theorem ldJ_s {L L' : Array Slot} {S S' : List Value} {k : Nat} (h : ldJ L S k = some (L', S')) : ∃ v, L[k]? = some (.val (.long v)) ∧ L' = L ∧ S' = .long v :: S := by
  unfold ldJ at h; split at h
  · cases h; exact ⟨_, by assumption, rfl, rfl⟩
  · cases h
theorem ldA_s {L L' : Array Slot} {S S' : List Value} {k : Nat} (h : ldA L S k = some (L', S')) : ∃ v, L[k]? = some (.val v) ∧ v.isRef = true ∧ L' = L ∧ S' = v :: S := by
  unfold ldA at h; split at h
  · split at h
    · cases h; exact ⟨_, by assumption, by assumption, rfl, rfl⟩
    · cases h
  · cases h
theorem stI1_s {L L' : Array Slot} {S S' : List Value} {k : Nat} (h : stI1 L S k = some (L', S')) : ∃ x, S = .int x :: S' ∧ storeLocals L k (.int x) = some L' := by
  unfold stI1 at h; split at h
  · rw [Option.map_eq_some_iff] at h; obtain ⟨l', h1, h2⟩ := h; cases h2; exact ⟨_, rfl, h1⟩
  · cases h
theorem stJ1_s {L L' : Array Slot} {S S' : List Value} {k : Nat} (h : stJ1 L S k = some (L', S')) : ∃ x, S = .long x :: S' ∧ storeLocals L k (.long x) = some L' := by
  unfold stJ1 at h; split at h
  · rw [Option.map_eq_some_iff] at h; obtain ⟨l', h1, h2⟩ := h; cases h2; exact ⟨_, rfl, h1⟩
  · cases h
theorem stA1_s {L L' : Array Slot} {S S' : List Value} {k : Nat} (h : stA1 L S k = some (L', S')) : ∃ x, S = x :: S' ∧ x.isRef = true ∧ storeLocals L k x = some L' := by
  unfold stA1 at h; split at h
  · split at h
    · rw [Option.map_eq_some_iff] at h; obtain ⟨l', h1, h2⟩ := h; cases h2; exact ⟨_, rfl, by assumption, h1⟩
    · cases h
  · cases h
theorem map_s {α β : Type} {o : Option α} {f : α → β} {y : β} (h : o.map f = some y) : ∃ x, o = some x ∧ f x = y := Option.map_eq_some_iff.mp h
theorem run1_s (X : Stand p l e R s m args below meth c T locs cells slots) (hx : p.tables.exec = Jvm.exec) {i : Instr} {n pc pc' : Nat} {L L' : Array Slot} {S S' : List Value} (hd : decode c.code pc = .ok (i, n)) (h : run1 i n pc L S = some (pc', L', S'))
    (H : Steps p.tables e below (T.setTop (mkF m pc' L' S')) target) : Steps p.tables e below (T.setTop (mkF m pc L S)) target := by
  unfold run1 at h
  split at h <;> split at h <;> first
    | (cases h; done)
    | (rename_i hn; subst hn; obtain ⟨⟨L1, S1⟩, h1, h2⟩ := map_s h; cases h2; first
        | (obtain ⟨v, q1, rfl, rfl⟩ := ldI_s h1; first | exact XS.iloadN X.here hx rfl hd q1 H | exact XS.iload X.here hx rfl hd q1 H)
        | (obtain ⟨v, q1, rfl, rfl⟩ := ldJ_s h1; first | exact XS.lloadN X.here hx rfl hd q1 H | exact XS.lload X.here hx rfl hd q1 H)
        | (obtain ⟨v, q1, q2, rfl, rfl⟩ := ldA_s h1; first | exact XS.aloadN X.here hx rfl hd q1 q2 H | exact XS.aload X.here hx rfl hd q1 q2 H)
        | (obtain ⟨x, rfl, q⟩ := stI1_s h1; first | exact XS.istoreN X.here hx rfl hd rfl q H | exact XS.istore X.here hx rfl hd rfl q H)
        | (obtain ⟨x, rfl, q⟩ := stJ1_s h1; first | exact XS.lstoreN X.here hx rfl hd rfl q H | exact XS.lstore X.here hx rfl hd rfl q H)
        | (obtain ⟨x, rfl, q1, q⟩ := stA1_s h1; first | exact XS.astoreN X.here hx rfl hd rfl q1 q H | exact XS.astore X.here hx rfl hd rfl q1 q H))
    | (rename_i hn; subst hn; split at h <;> first
        | (cases h; done)
        | (rename_i q; obtain ⟨l', h1, h2⟩ := map_s h; cases h2; exact XS.iinc X.here hx rfl hd q h1 H)
        | (rename_i q; cases h; exact XS.goto X.here hx rfl (pc0 := pc) rfl hd q rfl H))
    | (rename_i hn; obtain ⟨S1, h1, h2⟩ := map_s h; cases h2; exact stk_s X hx hd hn h1 H)
def runs : List (Nat × Instr × Nat) → Nat → Array Slot → List Value → Option (Nat × Array Slot × List Value)
  | [], pc, L, S => some (pc, L, S)
  | (q, i, n) :: is, pc, L, S => if q = pc then (match run1 i n pc L S with | some (pc', L', S') => runs is pc' L' S' | none => none) else none
def decs (code : ByteArray) : List (Nat × Instr × Nat) → Prop
  | [] => True
  | (q, i, n) :: is => decode code q = .ok (i, n) ∧ decs code is
theorem runs_s (X : Stand p l e R s m args below meth c T locs cells slots) (hx : p.tables.exec = Jvm.exec) {pc' : Nat} {L' : Array Slot} {S' : List Value} (H : Steps p.tables e below (T.setTop (mkF m pc' L' S')) target) :
    ∀ (is : List (Nat × Instr × Nat)) (pc : Nat) (L : Array Slot) (S : List Value), decs c.code is → runs is pc L S = some (pc', L', S') → Steps p.tables e below (T.setTop (mkF m pc L S)) target
  | [], pc, L, S, _, h => by cases h; exact H
  | (q, i, n) :: is, pc, L, S, hd, h => by
    unfold runs at h
    split at h
    · rename_i e1; subst e1
      split at h
      · rename_i pc1 L1 S1 h1
        exact run1_s X hx hd.1 h1 (runs_s X hx H is pc1 L1 S1 hd.2 h)
      · cases h
    · cases h
variable {P : Option Value → State → List Loc → Prop}
theorem Home.run (X : Stand p l e R s m args below meth c T locs cells slots) (hx : p.tables.exec = Jvm.exec) {bytes : ByteArray} (hby : c.code = bytes) {is : List (Nat × Instr × Nat)} (hd : decs bytes is) {pc pc' : Nat} {L L' : Array Slot} {S S' : List Value} (h : runs is pc L S = some (pc', L', S'))
    (H : @Home p e below P T (mkF m pc' L' S')) : @Home p e below P T (mkF m pc L S) :=
  Home.go (fun _ kt => runs_s X hx kt is pc L S (by rw [hby]; exact hd) h) H
end Run
section Calls
variable {p : Program} {l : Launch} {e : Env} {R : Room} {s : State} {m : MethodId} {args : Array Value} {below : List Frame} {meth : Method} {c : Code} {T : State} {locs : List Loc} {cells slots : Nat} {Z : State} {a0 : Array Value} {h : Heap} {y z : MethodName} {bytes : ByteArray} {maxL : Nat} {ret : Option FieldType} {rm : Room} {W : Nat} {as' : Array Value} {Q : Option Value → Heap → List Loc → Prop} {own C : String} {index : Nat}
/-- a body's contract, at one heap and one list of arguments -/
abbrev Con (l : Launch) (Z : State) (y : MethodName) (bytes : ByteArray) (maxL : Nat) (ret : Option FieldType) (ws : List Jvm.Cond) (rm : Room) (as' : Array Value) (h : Heap) (Q : Option Value → Heap → List Loc → Prop) : Prop :=
  MetFree l y (head1 (Jvm.Cond.code y bytes maxL ret :: ws) rm) (fun a U => a = as' ∧ Z.Warmed39 U.vm ∧ U.heap = h) (fun _ _ _ _ _ => True) (fun _ U o U' => ∃ v L, o = .returned v ∧ Q v U'.heap L ∧ FrameEnd U o U' L rm.cells rm.slots)
/-- it leaves the heap as it was -/
abbrev Pur (w : Option Value) (h0 : Heap) : Option Value → Heap → List Loc → Prop := fun v h L => v = w ∧ L = [] ∧ h = h0
/-- from a walk that comes home to the contract -/
theorem own_body {ws : List Jvm.Cond} {L0 : Array Slot} (pn : plainFor y = true) (ef : ∀ m, entryFrame m as' maxL = mkF m 0 L0 [])
    (body : ∀ (p : Program) (e : Env) (s : State) (m : MethodId) (below : List Frame) (meth : Method) (c : Code) (s₁ : State), p.tables.exec = Jvm.exec → c.code = bytes → meth.locks = false → c.maxLocals = maxL → meth.sig.returnType = ret → Z.Warmed39 s.vm → s.vm.findClass y.cls = some m.cls → meth.name = y.name →
      Stand p l e rm s m as' below meth c s₁ [] 0 0 → s₁.heap = h → @Home p e below (End s Q rm.cells rm.slots) s₁ (mkF m 0 L0 [])) : Con l Z y bytes maxL ret ws rm as' h Q := by
  refine MetFree.of_bodySF pn hisR ?_
  intro p e s m args below meth c s₁ Bd hml0 hP hK
  obtain ⟨rfl, hZ, hh⟩ := hP
  have H : @Home p e below (End s Q rm.cells rm.slots) s₁ (entryFrame m args maxL) := Home.enter (ef m) (body p e s m below meth c s₁ Bd.exec Bd.bytes (BodyLoose.notSynchronized Bd) hml0 Bd.returns hZ (findClass_of_methodNamed Bd.named) (name_of_methodNamed Bd.named Bd.method).1 (Stand.of_body Bd) (by rw [← hh, Bd.state]; rfl))
  obtain ⟨U, o, h1, h2, h3, v, L, rfl, h4, h5⟩ := H
  exact ⟨U, _, h1, h2, h3, v, L, rfl, h4, h5⟩
theorem own_static (X : Stand p l e R s m args below meth c T locs cells slots) (hx : p.tables.exec = Jvm.exec) (hZ : Z.Warmed39 s.vm) (hown : s.vm.findClass own = some m.cls)
    (w1 : (Cond.methodLink own index y).before a0 Z = true) (w2 : (Cond.static y).before a0 Z = true) (w3 : (Cond.initialized y.cls).before a0 Z = true) (w4 : (Cond.code y bytes maxL ret).before a0 Z = true)
    (hy : y.cls ≠ "java/lang/invoke/MethodHandle" ∧ y.cls ≠ "java/lang/invoke/VarHandle") (hM : Con l Z y bytes maxL ret [] rm as' h Q) (eT : T.heap = h)
    {g : JFrame} (hg : g.method = m) (hsize : g.locals.size = c.maxLocals) {argsL rest : List Value} (hlen : ∀ sig, parseMethodDescriptor y.desc = some sig → argsL.length = sig.parameters.length) (hstack : g.stack = argsL.reverse ++ rest) (ha : argsL.toArray = as')
    (hW : 2 * g.monitorRoom + (rest.map fun v => v.category).sum ≤ W) (hf : rm.frames + 1 ≤ R.frames) (hl : W + (maxL + 11) + rm.locals ≤ R.locals)
    (hdg : decode c.code g.pc = .ok (.invokestatic index, 3)) (hc : cells + rm.cells ≤ R.cells) (hs : slots + rm.slots ≤ R.slots) :
    ∃ v T' L, Stand p l e R s m args below meth c T' (locs ++ L) (cells + rm.cells) (slots + rm.slots) ∧ Q v T'.heap L ∧
      ∀ t, Steps p.tables e below (T'.setTop { g with pc := g.pc + 3, stack := v.toList ++ rest }) t → Steps p.tables e below (T.setTop g) t := by
  obtain ⟨v, _, ⟨T', L', k', n'⟩, -, X', ⟨L, hQ, l', y', z'⟩, st⟩ := Jvm.LawKit.callS X hx (y := y) hown (mvT hZ w1) (mvT hZ w2) (mvT hZ w3) (mvT hZ w4) hy (backOf (W := W) hM hZ w4 w3 hf hl) hg hsize hlen hstack hW hdg (fun _ _ => ⟨ha, eT, hc, hs⟩)
  dsimp only [Pt.U, Pt.locs, Pt.cells, Pt.slots] at X' l' y' z' st hQ
  subst l' y' z'
  exact ⟨v, T', L, X', hQ, st⟩
theorem own_special (X : Stand p l e R s m args below meth c T locs cells slots) (hx : p.tables.exec = Jvm.exec) (hZ : Z.Warmed39 s.vm) (hown : s.vm.findClass own = some m.cls) (hy1 : y.name = "<init>")
    (w1 : (Cond.methodLink own index y).before a0 Z = true) (w2 : (Cond.instanceMethod y).before a0 Z = true) (w3 : (Cond.initialized y.cls).before a0 Z = true) (w4 : (Cond.code y bytes maxL none).before a0 Z = true)
    (hy : y.cls ≠ "java/lang/invoke/MethodHandle" ∧ y.cls ≠ "java/lang/invoke/VarHandle") (hM : Con l Z y bytes maxL none [] rm as' h Q) (eT : T.heap = h)
    {g : JFrame} (hg : g.method = m) (hsize : g.locals.size = c.maxLocals) {a : Addr} {argsL rest : List Value} (hlen : ∀ sig, parseMethodDescriptor y.desc = some sig → argsL.length = sig.parameters.length) (hstack : g.stack = argsL.reverse ++ .ref a :: rest) (ha : (.ref a :: argsL).toArray = as')
    (hW : 2 * g.monitorRoom + (rest.map fun v => v.category).sum ≤ W) (hf : rm.frames + 1 ≤ R.frames) (hl : W + (maxL + 11) + rm.locals ≤ R.locals)
    (hdg : decode c.code g.pc = .ok (.invokespecial index, 3)) (hc : cells + rm.cells ≤ R.cells) (hs : slots + rm.slots ≤ R.slots) :
    ∃ v T' L, Stand p l e R s m args below meth c T' (locs ++ L) (cells + rm.cells) (slots + rm.slots) ∧ Q v T'.heap L ∧
      ∀ t, Steps p.tables e below (T'.setTop { g with pc := g.pc + 3, stack := v.toList ++ rest }) t → Steps p.tables e below (T.setTop g) t := by
  obtain ⟨v, _, ⟨T', L', k', n'⟩, -, X', ⟨L, hQ, l', y', z'⟩, st⟩ := X.specialBack hx (y := y) hy1 hown (mvT hZ w1) (mvT hZ w2) (mvT hZ w4) hy (backOf (W := W) hM hZ w4 w3 hf hl) hg hsize (Steps.refl _) (a := a) hlen hstack hW hdg (fun _ _ => ⟨ha, eT, hc, hs⟩)
  dsimp only [Pt.U, Pt.locs, Pt.cells, Pt.slots] at X' l' y' z' st hQ
  subst l' y' z'
  exact ⟨v, T', L, X', hQ, fun t k => st.trans k⟩
theorem own_virtual (X : Stand p l e R s m args below meth c T locs cells slots) (hx : p.tables.exec = Jvm.exec) (hZ : Z.Warmed39 s.vm) (hown : s.vm.findClass own = some m.cls)
    (w1 : (Cond.methodLink own index y).before a0 Z = true) (w2 : (Cond.declares y).before a0 Z = true) (hnf : NotFace s y) (w3 : (Cond.selects C y z).before a0 Z = true) (w4 : (Cond.instanceMethod z).before a0 Z = true) (w5 : (Cond.initialized z.cls).before a0 Z = true) (w6 : (Cond.code z bytes maxL ret).before a0 Z = true)
    (hy : y.cls ≠ "java/lang/invoke/MethodHandle" ∧ y.cls ≠ "java/lang/invoke/VarHandle") (hM : Con l Z z bytes maxL ret [] rm as' h Q) (eT : T.heap = h) {a : Addr} (E : Exa Z h a C)
    {g : JFrame} (hg : g.method = m) (hsize : g.locals.size = c.maxLocals) {argsL rest : List Value} (hlen : ∀ sig, parseMethodDescriptor y.desc = some sig → argsL.length = sig.parameters.length) (hstack : g.stack = argsL.reverse ++ .ref a :: rest) (ha : (.ref a :: argsL).toArray = as')
    (hW : 2 * g.monitorRoom + (rest.map fun v => v.category).sum ≤ W) (hf : rm.frames + 1 ≤ R.frames) (hl : W + (maxL + 11) + rm.locals ≤ R.locals)
    (hdg : decode c.code g.pc = .ok (.invokevirtual index, 3)) (hc : cells + rm.cells ≤ R.cells) (hs : slots + rm.slots ≤ R.slots) :
    ∃ v T' L, Stand p l e R s m args below meth c T' (locs ++ L) (cells + rm.cells) (slots + rm.slots) ∧ Q v T'.heap L ∧
      ∀ t, Steps p.tables e below (T'.setTop { g with pc := g.pc + 3, stack := v.toList ++ rest }) t → Steps p.tables e below (T.setTop g) t := by
  obtain ⟨cB, kB, q1, q2, q3⟩ := isOf hZ eT E
  obtain ⟨v, _, ⟨T', L', k', n'⟩, -, X', ⟨L, hQ, l', y', z'⟩, st⟩ := X.virtualBack hx (y := y) (z := z) hown (mvT hZ w1) (mvT hZ w2) hnf (mvT hZ w3) (mvT hZ w4) hy (backOf (W := W) hM hZ w6 w5 hf hl) q1 q3 hg hsize (Steps.refl _) hlen hstack hW hdg (fun _ _ => ⟨ha, eT, hc, hs⟩)
  dsimp only [Pt.U, Pt.locs, Pt.cells, Pt.slots] at X' l' y' z' st hQ
  subst l' y' z'
  exact ⟨v, T', L, X', hQ, fun t k => st.trans k⟩
/-- a call that left the heap as it was -/
theorem own_pure {w : Option Value} {g : JFrame} {g' : Option Value → JFrame} (q : ∃ v T' L, Stand p l e R s m args below meth c T' (locs ++ L) (cells + rm.cells) (slots + rm.slots) ∧ Pur w h v T'.heap L ∧ ∀ t, Steps p.tables e below (T'.setTop (g' v)) t → Steps p.tables e below (T.setTop g) t)
    (hc : rm.cells = 0 := by rfl) (hs : rm.slots = 0 := by rfl) : ∃ T', Stand p l e R s m args below meth c T' locs cells slots ∧ T'.heap = h ∧ ∀ t, Steps p.tables e below (T'.setTop (g' w)) t → Steps p.tables e below (T.setTop g) t := by
  obtain ⟨v, T', L, X', ⟨rfl, rfl, hh⟩, st⟩ := q
  rw [List.append_nil, hc, hs] at X'
  exact ⟨T', X', hh, st⟩
end Calls
section Facts
variable {Z : State} {h h' : Heap} {a b : Addr} {C n d : String} {v : Value} {n0 : Nat}
theorem Old.le (O : Old Z n0 h) : n0 ≤ h.size := O.1 ▸ O.2.1
end Facts
end Jvm.OwnKit
namespace Jvm.OwnKit
open Jvm Jvm.ClassFile Sem Op Lib Jvm.Free Jvm.Stand Jvm.LawKit Jvm.RoadKit
section Arrays
variable {p : Program} {l : Launch} {e : Env} {R : Room} {s : State} {m : MethodId} {args : Array Value} {below : List Frame} {meth : Method} {c : Code} {T : State} {locs : List Loc} {cells slots : Nat} {Z : State} {h : Heap}
theorem own_alen (X : Stand p l e R s m args below meth c T locs cells slots) (hx : p.tables.exec = Jvm.exec) (hZ : Z.Warmed39 s.vm) (eT : T.heap = h) {a : Addr} {cl : Cell} {ty : FieldType} {z : Int32} (A : Arr Z h a cl ty) (S : cl.slots.size = z.toNatClampNeg) (M : ¬ z < 0)
    {g : JFrame} (hg : g.method = m) {rest : List Value} (hs : g.stack = .ref a :: rest) (hd : decode c.code g.pc = .ok (.arraylength, 1)) :
    ∀ t, Steps p.tables e below (T.setTop { g with pc := g.pc + 1, stack := .int z :: rest }) t → Steps p.tables e below (T.setTop g) t := fun t k =>
  X.arraylength hx (by rw [eT]; exact A.1) (State.isArrayOf_alike hZ.alike A.2.1) hg hs hd _ (by rw [len_of S M]; exact k)
theorem own_clone (X : Stand p l e R s m args below meth c T locs cells slots) (hx : p.tables.exec = Jvm.exec) (hZ : Z.Warmed39 s.vm) {a0 : Array Value} {own ad : String} {index : Nat} (hown : s.vm.findClass own = some m.cls)
    (w1 : (Cond.methodLink own index ⟨ad, "clone", "()Ljava/lang/Object;"⟩).before a0 Z = true) (w2 : (Cond.sameMethod ad "java/lang/Object" "clone" "()Ljava/lang/Object;").before a0 Z = true) (w3 : (Cond.native ⟨"java/lang/Object", "clone", "()Ljava/lang/Object;"⟩).before a0 Z = true)
    (w4 : (Cond.instanceMethod ⟨"java/lang/Object", "clone", "()Ljava/lang/Object;"⟩).before a0 Z = true) (w5 : (Cond.selects ad ⟨ad, "clone", "()Ljava/lang/Object;"⟩ ⟨"java/lang/Object", "clone", "()Ljava/lang/Object;"⟩).before a0 Z = true) (w6 : (Cond.castable ad "java/lang/Cloneable").before a0 Z = true)
    (eT : T.heap = h) {a : Addr} {k : ClassId} {ty : FieldType} {z : Int32} {vs : List Value} {dv : Value} (F : Arv Z h a k ty z vs dv) (E : Exa Z h a ad) {g : JFrame} (hg : g.method = m) (hsize : g.locals.size = c.maxLocals) {rest : List Value} (hst : g.stack = .ref a :: rest) (hd : decode c.code g.pc = .ok (.invokevirtual index, 3))
    (hf : 1 ≤ R.frames) {W cap : Nat} (hW : 2 * g.monitorRoom + (rest.map fun v => v.category).sum ≤ W) (hl : W + 14 ≤ R.locals) (hcap : z.toNatClampNeg ≤ cap) (hc : cells + 1 ≤ R.cells) (hsl : slots + cap ≤ R.slots) :
    ∃ T' h' b, b = h.size ∧ Stand p l e R s m args below meth c T' locs (cells + 1) (slots + cap) ∧ T'.heap = h' ∧ Ext h h' ∧ Arv Z h' b k ty z vs dv ∧ Exa Z h' b ad ∧
      ∀ target, Steps p.tables e below (T'.setTop { g with pc := g.pc + 3, stack := .ref b :: rest }) target → Steps p.tables e below (T.setTop g) target := by
  obtain ⟨cl, A, q1, S, q3, H, G⟩ := F
  have FC : FitC Z cl := fitC_of A fun i hi v hv => by rw [H i hi] at hv; cases hv; exact G i hi
  obtain ⟨T', h', X', e', ex, A', E', st⟩ := cloneA X hx hZ hown w1 w2 w3 w4 w5 w6 eT A E FC hg hsize hst hd hf hW hl (by rw [S]; exact hcap) hc hsl
  exact ⟨T', h', _, rfl, X', e', ex, ⟨cloneOf cl, A', q1, S, q3, H, G⟩, E', st⟩
theorem own_lt_of {j z : Int32} (q : ¬ j < 0 ∧ j < z) : j.toNatClampNeg < z.toNatClampNeg := by
  obtain ⟨q1, q2⟩ := q
  rw [Int32.lt_iff_toInt_lt] at q1 q2
  have e0 : (0 : Int32).toInt = 0 := rfl
  simp only [Int32.toNatClampNeg] at *; omega
def own_ite (j x : Int32) : Nat → List Int32 → List Int32
  | _, [] => []
  | i, v :: r => (if j = Int32.ofNat i then x else v) :: own_ite j x (i + 1) r
theorem own_ite_eq {j : Int32} (hj : ¬ j < 0) {i : Nat} (hi : i < 2147483648) : j = Int32.ofNat i ↔ j.toNatClampNeg = i := by
  have hj0 : j.toInt = (j.toNatClampNeg : Int) := by
    rw [Int32.lt_iff_toInt_lt] at hj; have e0 : (0 : Int32).toInt = 0 := rfl; simp only [Int32.toNatClampNeg]; omega
  rw [← Int32.toInt_inj, hj0, Int32.toInt_ofNat_small hi]; omega
theorem own_ite_none {j x : Int32} (hj : ¬ j < 0) : ∀ (vs : List Int32) (i : Nat), i + vs.length ≤ 2147483647 → j.toNatClampNeg < i → own_ite j x i vs = vs
  | [], _, _, _ => rfl
  | v :: r, i, hl, hi => by
    simp only [List.length_cons] at hl
    rw [own_ite, if_neg (fun q => absurd ((own_ite_eq hj (by omega)).mp q) (by omega)), own_ite_none hj r (i + 1) (by omega) (by omega)]
theorem own_set_go {j x : Int32} (hj : ¬ j < 0) : ∀ (vs : List Int32) (i : Nat), i + vs.length ≤ 2147483647 → i ≤ j.toNatClampNeg → vs.set (j.toNatClampNeg - i) x = own_ite j x i vs
  | [], _, _, _ => rfl
  | v :: r, i, hl, hi => by
    simp only [List.length_cons] at hl
    by_cases q : j.toNatClampNeg = i
    · rw [own_ite, if_pos ((own_ite_eq hj (by omega)).mpr q), own_ite_none hj r (i + 1) (by omega) (by omega), q, Nat.sub_self]; rfl
    · rw [own_ite, if_neg (fun z => q ((own_ite_eq hj (by omega)).mp z)), ← own_set_go hj r (i + 1) (by omega) (by omega)]
      have e : j.toNatClampNeg - i = (j.toNatClampNeg - (i + 1)) + 1 := by omega
      rw [e]; rfl
theorem own_set_ite {j x : Int32} {vs : List Int32} (hj : ¬ j < 0) (hl : vs.length ≤ 2147483647) : vs.set j.toNatClampNeg x = own_ite j x 0 vs := own_set_go hj vs 0 (by omega) (Nat.zero_le _)
/-- a write at a place that is a number -/
theorem own_setS {a : Addr} {k : ClassId} {ty : FieldType} {z j : Int32} {vs : List Int32} {h' : Heap} {x : Int32} {cl : Cell} (A : Arr Z h a cl ty) (q1 : cl.cls = k) (S : cl.slots.size = z.toNatClampNeg) (q3 : ¬ z < 0) (H : Has cl (vs.map Value.int) (.int 0)) (G : ∀ i, i < cl.slots.size → fits ty ((vs.map Value.int).getD i (.int 0)) = true) (hv : fits ty (.int x) = true) (W : Wr h h' a j.toNatClampNeg (.int x)) (hj : j.toNatClampNeg < vs.length) {ws : List Int32} (hws : vs.set j.toNatClampNeg x = ws) : Arv Z h' a k ty z (ws.map Value.int) (.int 0) := by
  subst hws
  have := Arv.set A q1 S q3 H G hv W j.toNatClampNeg rfl (by simpa using hj)
  rwa [← List.map_set] at this
end Arrays
end Jvm.OwnKit
namespace Jvm.OwnKit
open Jvm Jvm.ClassFile Sem Op Lib Jvm.Free Jvm.Stand Jvm.LawKit Jvm.RoadKit
theorem Ins.keep {Z : State} {h h' : Heap} {a : Addr} {C : String} {b : Bool} {ws : List Addr} (F : Ins Z h a C b) (K : Keep h h' ws) : Ins Z h' a C b := by
  obtain ⟨cell, cT, h1, h2, h3⟩ := F
  obtain ⟨c', e1, e2, e3, -⟩ := K.2.2 _ _ h1
  exact ⟨c', cT, e1, h2, by rw [e2, e3]; exact h3⟩
section Bounds
variable {x y a b c d : Int32}
theorem bnd_ite {c : Prop} [Decidable c] {a b lo hi : Int32} (ha : ¬ a < lo ∧ ¬ hi < a) (hb : ¬ b < lo ∧ ¬ hi < b) : ¬ (if c then a else b) < lo ∧ ¬ hi < (if c then a else b) := by
  split
  · exact ha
  · exact hb
theorem bnd_dite {c : Prop} [Decidable c] {a b lo hi : Int32} (ha : c → ¬ a < lo ∧ ¬ hi < a) (hb : ¬ c → ¬ b < lo ∧ ¬ hi < b) : ¬ (if c then a else b) < lo ∧ ¬ hi < (if c then a else b) := by
  by_cases q : c
  · rw [if_pos q]; exact ha q
  · rw [if_neg q]; exact hb q
theorem bnd_and (x m : Int32) (h : 0 ≤ m.toInt) : ¬ (x &&& m) < (0 : Int32) ∧ ¬ m < (x &&& m) := by
  have q := c_and x m h
  have e : (0 : Int32).toInt = 0 := rfl
  rw [Int32.lt_iff_toInt_lt, Int32.lt_iff_toInt_lt, e]; omega
theorem bnd_mono (h : ¬ x < a ∧ ¬ b < x) (h1 : c.toInt ≤ a.toInt) (h2 : b.toInt ≤ d.toInt) : ¬ x < c ∧ ¬ d < x := by
  simp only [Int32.lt_iff_toInt_lt] at *; omega
theorem bnd_lt (h : ¬ x < a ∧ ¬ b < x) (k : ¬ y < c ∧ ¬ d < y) (q : b.toInt < c.toInt) : x < y := by
  simp only [Int32.lt_iff_toInt_lt] at *; omega
theorem bnd_nlt (h : ¬ x < a ∧ ¬ b < x) (k : ¬ y < c ∧ ¬ d < y) (q : d.toInt ≤ a.toInt) : ¬ x < y := by
  simp only [Int32.lt_iff_toInt_lt] at *; omega
theorem bnd_ne (h : ¬ x < a ∧ ¬ b < x) (k : ¬ y < c ∧ ¬ d < y) (q : b.toInt < c.toInt ∨ d.toInt < a.toInt) : ¬ x = y := by
  intro e; subst e
  simp only [Int32.lt_iff_toInt_lt] at *; omega
theorem bnd_rem (h : ¬ x < a ∧ ¬ b < x) (h1 : 0 ≤ a.toInt) (h2 : 0 < y.toInt) : ¬ (x % y) < (0 : Int32) ∧ ¬ (y - 1) < (x % y) := by
  have q := (c_iremV x y).1
  have e : (0 : Int32).toInt = 0 := rfl
  have e1 := c_isub y 1
  have e2 : (1 : Int32).toInt = 1 := rfl
  have r := rng32 y
  have r2 := rng32 (y - 1)
  simp only [Int32.lt_iff_toInt_lt, e] at *
  have h0 : 0 ≤ x.toInt := by omega
  have q := q h0 h2
  omega
theorem bnd_rem2 {hi : Int32} (h : ¬ x < a ∧ ¬ b < x) (k : ¬ y < c ∧ ¬ d < y) (h1 : 0 ≤ a.toInt) (h2 : 0 < c.toInt) (h3 : hi.toInt = d.toInt - 1) : ¬ (x % y) < (0 : Int32) ∧ ¬ hi < (x % y) := by
  have q := (c_iremV x y).1
  have e : (0 : Int32).toInt = 0 := rfl
  simp only [Int32.lt_iff_toInt_lt, e] at *
  have h0 : 0 ≤ x.toInt := by omega
  have hy : 0 < y.toInt := by omega
  have q := q h0 hy
  omega
theorem bnd_add {lo hi : Int32} (h : ¬ x < a ∧ ¬ b < x) (k : ¬ y < c ∧ ¬ d < y) (q1 : lo.toInt = a.toInt + c.toInt) (q2 : hi.toInt = b.toInt + d.toInt) (q3 : -2147483648 ≤ a.toInt + c.toInt) (q4 : b.toInt + d.toInt < 2147483648) : ¬ (x + y) < lo ∧ ¬ hi < (x + y) := by
  have e := c_iadd x y
  have r := rng32 (x + y)
  simp only [Int32.lt_iff_toInt_lt] at *
  omega
theorem bnd_sub {lo hi : Int32} (h : ¬ x < a ∧ ¬ b < x) (k : ¬ y < c ∧ ¬ d < y) (q1 : lo.toInt = a.toInt - d.toInt) (q2 : hi.toInt = b.toInt - c.toInt) (q3 : -2147483648 ≤ a.toInt - d.toInt) (q4 : b.toInt - c.toInt < 2147483648) : ¬ (x - y) < lo ∧ ¬ hi < (x - y) := by
  have e := c_isub x y
  have r := rng32 (x - y)
  simp only [Int32.lt_iff_toInt_lt] at *
  omega
theorem bnd_ushr (x : Int32) {q hi : Int32} {k : Nat} (hk : q.toBitVec.toNat % 32 = k ∧ 0 < k) (hh : hi.toInt = 4294967296 / (2 ^ k : Nat) - 1) : ¬ ((x.toUInt32 >>> (q &&& 31).toUInt32).toInt32) < (0 : Int32) ∧ ¬ hi < ((x.toUInt32 >>> (q &&& 31).toUInt32).toInt32) := by
  have e := c_iushr x q k hk.1 hk.2
  have e0 : (0 : Int32).toInt = 0 := rfl
  simp only [Int32.lt_iff_toInt_lt, e, hh, e0]
  have p : (0 : Int) < (2 ^ k : Nat) := by exact_mod_cast Nat.two_pow_pos k
  have m0 := Int.emod_nonneg x.toInt (show (4294967296 : Int) ≠ 0 by decide)
  have m1 := Int.emod_lt_of_pos x.toInt (show (0 : Int) < 4294967296 by decide)
  have d0 := Int.ediv_nonneg m0 (Int.le_of_lt p)
  have hk32 : k < 32 := by rw [← hk.1]; exact Nat.mod_lt _ (by decide)
  have dd : (4294967296 : Int) = (2 ^ (32 - k) : Nat) * (2 ^ k : Nat) := by
    rw [← Int.natCast_mul, ← Nat.pow_add, Nat.sub_add_cancel (Nat.le_of_lt hk32)]; rfl
  have d1 : x.toInt % 4294967296 / (2 ^ k : Nat) < (2 ^ (32 - k) : Nat) := by
    apply Int.ediv_lt_of_lt_mul p; rw [← dd]; exact m1
  have d2 : (4294967296 : Int) / (2 ^ k : Nat) = (2 ^ (32 - k) : Nat) := by
    rw [dd]; exact Int.mul_ediv_cancel _ (by omega)
  omega
theorem bnd_i2c (x : Int32) : ¬ (x.toUInt32.toUInt16.toUInt32.toInt32) < (0 : Int32) ∧ ¬ (65535 : Int32) < (x.toUInt32.toUInt16.toUInt32.toInt32) := by
  have q := c_i2c x
  have e : (0 : Int32).toInt = 0 := rfl
  have e1 : (65535 : Int32).toInt = 65535 := rfl
  simp only [Int32.lt_iff_toInt_lt, e, e1]; omega
theorem bnd_i2b (x : Int32) : ¬ (x.toInt8.toInt32) < (-128 : Int32) ∧ ¬ (127 : Int32) < (x.toInt8.toInt32) := by
  have q := c_i2b x
  have e : (-128 : Int32).toInt = -128 := rfl
  have e1 : (127 : Int32).toInt = 127 := rfl
  simp only [Int32.lt_iff_toInt_lt, e, e1]; omega
theorem i2c_id (h : ¬ x < a ∧ ¬ b < x) (h1 : 0 ≤ a.toInt) (h2 : b.toInt ≤ 65535) : x.toUInt32.toUInt16.toUInt32.toInt32 = x := by
  have q := c_i2c x
  simp only [Int32.lt_iff_toInt_lt] at h
  apply Int32.toInt_inj.mp; omega
theorem i2b_id (h : ¬ x < a ∧ ¬ b < x) (h1 : -128 ≤ a.toInt) (h2 : b.toInt ≤ 127) : x.toInt8.toInt32 = x := by
  have q := c_i2b x
  simp only [Int32.lt_iff_toInt_lt] at h
  apply Int32.toInt_inj.mp; omega
theorem bnd_lit (k : Int32) : ¬ k < k ∧ ¬ k < k := by
  simp only [Int32.lt_iff_toInt_lt]; omega
theorem bnd_up (h : c < x) (q : d.toInt = c.toInt + 1) : ¬ x < d := by
  simp only [Int32.lt_iff_toInt_lt] at *; omega
theorem bnd_dn (h : x < c) (q : d.toInt = c.toInt - 1) : ¬ d < x := by
  simp only [Int32.lt_iff_toInt_lt] at *; omega
theorem bnd_eql (h : x = c) : ¬ x < c := by
  subst h; simp only [Int32.lt_iff_toInt_lt]; omega
theorem bnd_eqr (h : x = c) : ¬ c < x := by
  subst h; simp only [Int32.lt_iff_toInt_lt]; omega
theorem bnd_nel (h : ¬ x < c) (k : ¬ x = c) (q : d.toInt = c.toInt + 1) : ¬ x < d := by
  rw [← Int32.toInt_inj] at k; simp only [Int32.lt_iff_toInt_lt] at *; omega
theorem bnd_fix (h : ¬ x < c ∧ ¬ c < x) : x = c := by
  rw [← Int32.toInt_inj]; simp only [Int32.lt_iff_toInt_lt] at *; omega
theorem nar_char_id (h : ¬ x < a ∧ ¬ b < x) (h1 : 0 ≤ a.toInt) (h2 : b.toInt ≤ 65535) : nar .char x = x := i2c_id h h1 h2
theorem nar_byte_id (h : ¬ x < a ∧ ¬ b < x) (h1 : -128 ≤ a.toInt) (h2 : b.toInt ≤ 127) : nar .byte x = x := i2b_id h h1 h2
theorem nar_i2c (x : Int32) : nar .char (x.toUInt32.toUInt16.toUInt32.toInt32) = x.toUInt32.toUInt16.toUInt32.toInt32 := nar_char_id (bnd_i2c x) (by decide) (by decide)
theorem nar_i2b (x : Int32) : nar .byte (x.toInt8.toInt32) = x.toInt8.toInt32 := nar_byte_id (bnd_i2b x) (by decide) (by decide)
theorem nar_bool_id (h : ¬ x < a ∧ ¬ b < x) (h1 : 0 ≤ a.toInt) (h2 : b.toInt ≤ 1) : nar .boolean x = x := by
  simp only [Int32.lt_iff_toInt_lt] at h
  have hx : x.toInt = 0 ∨ x.toInt = 1 := by omega
  rcases hx with q | q
  · have : x = 0 := Int32.toInt_inj.mp q
    subst this; rfl
  · have : x = 1 := Int32.toInt_inj.mp q
    subst this; rfl
end Bounds
theorem Wr.to {h h' : Heap} {a : Addr} {sl : Nat} {v w : Value} (W : Wr h h' a sl v) (q : v = w) : Wr h h' a sl w := q ▸ W
theorem fits_char_b {x a b : Int32} (h : ¬ x < a ∧ ¬ b < x) (h1 : 0 ≤ a.toInt) (h2 : b.toInt ≤ 65535) : fits .char (.int x) = true := by
  have q := fits_nar_char x
  rw [nar_char_id h h1 h2] at q; exact q
theorem fits_byte_b {x a b : Int32} (h : ¬ x < a ∧ ¬ b < x) (h1 : -128 ≤ a.toInt) (h2 : b.toInt ≤ 127) : fits .byte (.int x) = true := by
  have q := fits_nar_byte x
  rw [i2b_id h h1 h2] at q; exact q
/-- null, or an object of exactly that class -/
def Nul (Z : State) (h : Heap) (x : Value) (C : String) : Prop := x = .null ∨ ∃ a, x = .ref a ∧ Exa Z h a C
section Nulls
variable {Z : State} {h h' : Heap} {x : Value} {C : String}
theorem Nul.null (Z : State) (h : Heap) (C : String) : Nul Z h .null C := Or.inl rfl
theorem Nul.of {a : Addr} (E : Exa Z h a C) : Nul Z h (.ref a) C := Or.inr ⟨a, rfl, E⟩
theorem Nul.ext (N : Nul Z h x C) (E : Ext h h') : Nul Z h' x C := N.imp id fun ⟨a, e, F⟩ => ⟨a, e, F.ext E⟩
theorem Nul.wr {a : Addr} {sl : Nat} {v : Value} (N : Nul Z h x C) (W : Wr h h' a sl v) : Nul Z h' x C := N.imp id fun ⟨a, e, F⟩ => ⟨a, e, F.wr W⟩
theorem Nul.keep {ws : List Addr} (N : Nul Z h x C) (K : Keep h h' ws) : Nul Z h' x C := N.imp id fun ⟨a, e, F⟩ => ⟨a, e, F.keep K⟩
theorem Nul.isRef (N : Nul Z h x C) : x.isRef = true := by rcases N with rfl | ⟨a, rfl, -⟩ <;> rfl
end Nulls
section NotSub
variable {Z : State} {a0 : Array Value} {C S O K : String} {nn : Nat}
end NotSub
theorem Fld.to {Z : State} {h : Heap} {a : Addr} {C n d : String} {v w : Value} (F : Fld Z h a C n d v) (q : v = w) : Fld Z h a C n d w := q ▸ F
end Jvm.OwnKit
namespace Jvm.OwnKit
open Jvm Jvm.ClassFile Sem Op Lib Jvm.Free Jvm.Stand Jvm.LawKit Jvm.RoadKit
section Lists
variable {p : Program} {l : Launch} {e : Env} {R : Room} {s : State} {m : MethodId} {args : Array Value} {below : List Frame} {meth : Method} {c : Code} {T : State} {locs : List Loc} {cells slots : Nat} {Z : State} {h : Heap}
end Lists
end Jvm.OwnKit
namespace Jvm.OwnKit
open Jvm Jvm.ClassFile Sem Op Lib Bundle Jvm.Free Jvm.Stand Jvm.LawKit Jvm.RoadKit
section Cold
variable {p : Program} {l : Launch} {e : Env} {R : Room} {s : State} {m : MethodId} {args : Array Value} {below : List Frame} {meth : Method} {c : Code} {T : State} {locs : List Loc} {cells slots k n : Nat} {Z : State} {a0 : Array Value} {h h' : Heap} {y z : MethodName} {bytes : ByteArray} {maxL : Nat} {rt : Option FieldType} {rm : Room} {W : Nat} {as' : Array Value} {Q : Option Value → Heap → List Loc → Prop} {own C : String} {index : Nat} {EL : List (String × Nat)} {vm0 vm1 : Vm} {xs : List Addr} {sf : Bool}
/-- what a walk that may book texts knows of its tables: they came of the start's, what is booked of EL is read, xs are none of the booked cells -/
def Cold (Z : State) (EL : List (String × Nat)) (s : State) (xs : List Addr) (vm0 : Vm) (h : Heap) : Prop := (∃ k0, s.Since vm0 k0 ∧ k0 ≤ h.size) ∧ CHr Z EL s.vm s.heap vm0 h ∧ ∀ x ∈ xs, Safe Z EL vm0 h x ∧ x < h.size
theorem Cold.go (H : Cold Z EL s xs vm0 h) (hs : ∃ k0, s.Since vm1 k0 ∧ k0 ≤ h'.size) (q : CHr Z EL vm0 h vm1 h') : Cold Z EL s xs vm1 h' :=
  ⟨hs, H.2.1.trans q, fun x hx => ⟨q.safe (H.2.2 x hx).2 (H.2.2 x hx).1, Nat.lt_of_lt_of_le (H.2.2 x hx).2 q.2.1⟩⟩
theorem Cold.same (H : Cold Z EL s xs vm0 h) (q : CHr Z EL vm0 h vm0 h') : Cold Z EL s xs vm0 h' := H.go (by obtain ⟨⟨k0, a, b⟩, -⟩ := H; exact ⟨k0, a, Nat.le_trans b q.2.1⟩) q
theorem Cold.ext (H : Cold Z EL s xs vm0 h) (E : Ext h h') : Cold Z EL s xs vm0 h' := H.same (CHr.ext E H.2.1.1)
theorem Cold.keep {ws : List Addr} (H : Cold Z EL s xs vm0 h) (K : Keep h h' ws) (hs : ∀ x ∈ ws, Safe Z EL vm0 h x) : Cold Z EL s xs vm0 h' := H.same (CHr.keep K hs H.2.1.1)
theorem Cold.wr {a : Addr} {sl : Nat} {v : Value} (H : Cold Z EL s xs vm0 h) (w : Wr h h' a sl v) (S : Safe Z EL vm0 h a) : Cold Z EL s xs vm0 h' := H.same (CHr.wr w S H.2.1.1)
theorem Cold.add {b : Addr} (H : Cold Z EL s xs vm0 h) (E : Ext h h') (hb : h.size ≤ b) (hb' : b < h'.size) : Cold Z EL s (b :: xs) vm0 h' := by
  have H' := H.ext E
  refine ⟨H'.1, H'.2.1, fun x hx => ?_⟩
  rcases List.mem_cons.mp hx with rfl | hx
  · exact ⟨Safe.ext E H.2.1.1 (Safe.new hb), hb'⟩
  · exact H'.2.2 x hx
theorem Cold.safe {x : Addr} (H : Cold Z EL s xs vm0 h) (hx : x ∈ xs) : Safe Z EL vm0 h x := (H.2.2 x hx).1
theorem Cold.start (H : CHv Z EL s.vm s.heap) : Cold Z EL s [] s.vm s.heap := ⟨⟨_, (State.WarmedH.refl s).since _, Nat.le_refl _⟩, CHr.refl H, fun _ hx => nomatch hx⟩
theorem Cold.put {b : Addr} (H : Cold Z EL s xs vm0 h) (q : Safe Z EL vm0 h b ∧ b < h.size) : Cold Z EL s (b :: xs) vm0 h := ⟨H.1, H.2.1, fun x hx => (List.mem_cons.mp hx).elim (fun e => e ▸ q) (H.2.2 x)⟩
/-- what is returned is none of the booked cells -/
def SafeR (sf : Bool) (Z : State) (EL : List (String × Nat)) (vm : Vm) (h : Heap) (v : Option Value) : Prop := sf = true → ∀ a, v = some (.ref a) → Safe Z EL vm h a ∧ a < h.size
/-- the contract of a body that may book texts -/
abbrev ConW (l : Launch) (Z : State) (EL : List (String × Nat)) (xs : List Addr) (sf : Bool) (y : MethodName) (bytes : ByteArray) (maxL : Nat) (rt : Option FieldType) (ws : List Jvm.Cond) (rm : Room) (as' : Array Value) (h : Heap) (Q : Option Value → Heap → List Loc → Prop) : Prop :=
  MetFree l y (head1 (Jvm.Cond.code y bytes maxL rt :: ws) rm) (fun a U => a = as' ∧ Z.Warmed39 U.vm ∧ U.heap = h ∧ CHv Z EL U.vm h ∧ ∀ x ∈ xs, Safe Z EL U.vm h x ∧ x < h.size) (fun _ _ _ _ _ => True) (fun _ U o U' => ∃ v L, o = .returned v ∧ Q v U'.heap L ∧ CHr Z EL U.vm U.heap U'.vm U'.heap ∧ SafeR sf Z EL U'.vm U'.heap v ∧ ReturnedEndW U o U' L rm.cells rm.slots)
abbrev EndW (s : State) (Z : State) (EL : List (String × Nat)) (sf : Bool) (Q : Option Value → Heap → List Loc → Prop) (k n : Nat) : Option Value → State → List Loc → Prop := fun v U L => Q v U.heap L ∧ CHr Z EL s.vm s.heap U.vm U.heap ∧ SafeR sf Z EL U.vm U.heap v ∧ ReturnedEndW s (.returned v) U L k n
theorem retW_mono {o : Outcome} {t : State} {L : List Loc} {k n k' n' : Nat} (h : ReturnedEndW s o t L k n) (hk : k ≤ k') (hn : n ≤ n') : ReturnedEndW s o t L k' n' := ⟨h.1, h.2.1, h.2.2.1, h.2.2.2.mono hk hn⟩
theorem HomeW.retN (X : Stand p l e R (s.setVm vm0) m args below meth c T locs cells slots) (hx : p.tables.exec = Jvm.exec) (hlk : meth.locks = false) (hZ : Z.Warmed39 (s.setVm vm0).vm) (hEL : EW Z a0 EL) (eT : T.heap = h) (H : Cold Z EL s xs vm0 h)
    {pc : Nat} {Ls : Array Slot} {z : Int32} {t : FieldType} {rest : List Value} (hret : meth.sig.returnType = some t) (ht : t = .boolean ∨ t = .byte ∨ t = .char ∨ t = .short)
    (hd : decode c.code pc = .ok (.ireturn, 1)) (hQ : Q (some (.int (nar t z))) T.heap locs) (hk : cells ≤ k) (hn : slots ≤ n) : @Home p e below (EndW s Z EL sf Q k n) T (mkF m pc Ls (.int z :: rest)) := by
  subst eT
  obtain ⟨⟨k0, hS, hk0⟩, CR, -⟩ := H
  obtain ⟨fs, hr, hrun, hended, hW⟩ := X.leaveW hS hk0 (v := some (.int (nar t z))) (fun h => by rw [hret] at h; cases h) hlk
  have q : CHr Z EL s.vm s.heap T.vm T.heap := CR.trans (CHv.at X hZ hEL CR.1)
  exact ⟨_, _, Jvm.RoadKit.retN X hx hret ht hd hr, hrun, hended, _, _, rfl, hQ, q, (fun _ _ z => by cases z), retW_mono hW hk hn⟩
theorem HomeW.ret (X : Stand p l e R (s.setVm vm0) m args below meth c T locs cells slots) (hx : p.tables.exec = Jvm.exec) (hlk : meth.locks = false) (hZ : Z.Warmed39 (s.setVm vm0).vm) (hEL : EW Z a0 EL) (eT : T.heap = h) (H : Cold Z EL s xs vm0 h) {w : Value} (hsr : sf = true → ∀ a, w = .ref a → a ∈ xs)
    {pc : Nat} {Ls : Array Slot} {t : FieldType} {i : Instr} {rest : List Value} (hret : meth.sig.returnType = some t) (hnn : narrow t w = w)
    (hi : (i = .ireturn ∧ (t = .int ∨ t = .boolean ∨ t = .byte ∨ t = .char ∨ t = .short) ∧ ∃ z, w = .int z) ∨ (i = .lreturn ∧ t = .long ∧ ∃ z, w = .long z) ∨ (i = .dreturn ∧ t = .double ∧ ∃ z, w = .double z) ∨ (i = .freturn ∧ t = .float ∧ ∃ z, w = .float z) ∨ (i = .areturn ∧ t.isReference = true ∧ w.isRef = true))
    (hd : decode c.code pc = .ok (i, 1)) (hQ : Q (some w) T.heap locs) (hk : cells ≤ k) (hn : slots ≤ n) : @Home p e below (EndW s Z EL sf Q k n) T (mkF m pc Ls (w :: rest)) := by
  subst eT
  obtain ⟨⟨k0, hS, hk0⟩, CR, hxs⟩ := H
  obtain ⟨fs, hr, hrun, hended, hW⟩ := X.leaveW hS hk0 (v := some w) (fun h => by rw [hret] at h; cases h) hlk
  have q : CHr Z EL s.vm s.heap T.vm T.heap := CR.trans (CHv.at X hZ hEL CR.1)
  exact ⟨_, _, retOut X hx hret hnn hi hd hr, hrun, hended, _, _, rfl, hQ, q, (fun z a ha => ⟨(CHv.at X hZ hEL CR.1).safe (hxs a (hsr z a (Option.some.inj ha))).2 (hxs a (hsr z a (Option.some.inj ha))).1, (hxs a (hsr z a (Option.some.inj ha))).2⟩), retW_mono hW hk hn⟩
theorem HomeW.retI (X : Stand p l e R (s.setVm vm0) m args below meth c T locs cells slots) (hx : p.tables.exec = Jvm.exec) (hlk : meth.locks = false) (hZ : Z.Warmed39 (s.setVm vm0).vm) (hEL : EW Z a0 EL) (eT : T.heap = h) (H : Cold Z EL s xs vm0 h)
    {pc : Nat} {Ls : Array Slot} {z : Int32} {rest : List Value} (hret : meth.sig.returnType = some .int)
    (hd : decode c.code pc = .ok (.ireturn, 1)) (hQ : Q (some (.int z)) T.heap locs) (hk : cells ≤ k) (hn : slots ≤ n) : @Home p e below (EndW s Z EL sf Q k n) T (mkF m pc Ls (.int z :: rest)) := HomeW.ret X hx hlk hZ hEL eT H (fun _ _ z => by cases z) hret rfl (Or.inl ⟨rfl, Or.inl rfl, _, rfl⟩) hd hQ hk hn
theorem HomeW.retR (X : Stand p l e R (s.setVm vm0) m args below meth c T locs cells slots) (hx : p.tables.exec = Jvm.exec) (hlk : meth.locks = false) (hZ : Z.Warmed39 (s.setVm vm0).vm) (hEL : EW Z a0 EL) (eT : T.heap = h) (H : Cold Z EL s xs vm0 h) {w : Value} (hsr : sf = true → ∀ a, w = .ref a → a ∈ xs)
    {pc : Nat} {Ls : Array Slot} {t : FieldType} {rest : List Value} (hret : meth.sig.returnType = some t) (ht : t.isReference = true) (hw : w.isRef = true)
    (hd : decode c.code pc = .ok (.areturn, 1)) (hQ : Q (some w) T.heap locs) (hk : cells ≤ k) (hn : slots ≤ n) : @Home p e below (EndW s Z EL sf Q k n) T (mkF m pc Ls (w :: rest)) := HomeW.ret X hx hlk hZ hEL eT H hsr hret (own_narrow_ref hw) (Or.inr (Or.inr (Or.inr (Or.inr ⟨rfl, ht, hw⟩)))) hd hQ hk hn
theorem HomeW.ret0 (X : Stand p l e R (s.setVm vm0) m args below meth c T locs cells slots) (hx : p.tables.exec = Jvm.exec) (hlk : meth.locks = false) (hZ : Z.Warmed39 (s.setVm vm0).vm) (hEL : EW Z a0 EL) (eT : T.heap = h) (H : Cold Z EL s xs vm0 h)
    {pc : Nat} {Ls : Array Slot} (hret : meth.sig.returnType = none)
    (hd : decode c.code pc = .ok (.return_, 1)) (hQ : Q none T.heap locs) (hk : cells ≤ k) (hn : slots ≤ n) : @Home p e below (EndW s Z EL sf Q k n) T (mkF m pc Ls []) := by
  subst eT
  obtain ⟨⟨k0, hS, hk0⟩, CR, -⟩ := H
  obtain ⟨fs, hr, hrun, hended, hW⟩ := X.leaveW hS hk0 (v := none) (fun _ => rfl) hlk
  have q : CHr Z EL s.vm s.heap T.vm T.heap := CR.trans (CHv.at X hZ hEL CR.1)
  exact ⟨_, _, X.returnOut hx hret hd hr, hrun, hended, _, _, rfl, hQ, q, (fun _ _ z => by cases z), retW_mono hW hk hn⟩
theorem own_bodyW {ws : List Jvm.Cond} {L0 : Array Slot} (pn : plainFor y = true) (ef : ∀ m, entryFrame m as' maxL = mkF m 0 L0 [])
    (body : ∀ (p : Program) (e : Env) (s : State) (m : MethodId) (below : List Frame) (meth : Method) (c : Code) (s₁ : State), p.tables.exec = Jvm.exec → c.code = bytes → meth.locks = false → c.maxLocals = maxL → meth.sig.returnType = rt → Z.Warmed39 (s.setVm s.vm).vm → (s.setVm s.vm).vm.findClass y.cls = some m.cls → meth.name = y.name →
      Stand p l e rm (s.setVm s.vm) m as' below meth c s₁ [] 0 0 → s₁.heap = h → Cold Z EL s xs s.vm h → @Home p e below (EndW s Z EL sf Q rm.cells rm.slots) s₁ (mkF m 0 L0 [])) : ConW l Z EL xs sf y bytes maxL rt ws rm as' h Q := by
  refine MetFree.of_bodySF pn hisR ?_
  intro p e s m args below meth c s₁ Bd hml0 hP hK
  obtain ⟨rfl, hZ, rfl, hH, hxs⟩ := hP
  have hc : Cold Z EL s xs s.vm s.heap := ⟨(Cold.start hH).1, CHr.refl hH, hxs⟩
  have H : @Home p e below (EndW s Z EL sf Q rm.cells rm.slots) s₁ (entryFrame m args maxL) := Home.enter (ef m) (body p e s m below meth c s₁ Bd.exec Bd.bytes (BodyLoose.notSynchronized Bd) hml0 Bd.returns hZ (findClass_of_methodNamed Bd.named) (name_of_methodNamed Bd.named Bd.method).1 (Stand.of_body Bd) (by rw [Bd.state]; rfl) hc)
  obtain ⟨U, o, h1, h2, h3, v, L, rfl, h4, h5, h6⟩ := H
  exact ⟨U, _, h1, h2, h3, v, L, rfl, h4, h5, h6⟩
theorem own_warmW {U : State} (hZ : Z.Warmed39 (s.setVm vm0).vm) (hS : (s.setVm vm0).Since U.vm n) : Z.Warmed39 (s.setVm U.vm).vm := State.Warmed39.trans (t := s.setVm vm0) hZ hS.1
theorem own_ownW {U : State} (hS : (s.setVm vm0).Since U.vm n) (hown : (s.setVm vm0).vm.findClass own = some m.cls) : (s.setVm U.vm).vm.findClass own = some m.cls := by rw [show (s.setVm U.vm).vm.findClass own = (s.setVm vm0).vm.findClass own from hS.1.alike.findClass _ _]; exact hown
theorem own_backW {len : Nat} (hM : ConW l Z EL xs sf y bytes maxL rt [] rm as' h Q) (hZ : Z.Warmed39 (s.setVm vm0).vm) (hEL : EW Z a0 EL) (wc : (Cond.code y bytes maxL rt).before a0 Z = true) (wz : (Cond.initialized y.cls).before a0 Z = true) (hf : rm.frames + 1 ≤ R.frames) (hl : W + (maxL + 11) + rm.locals ≤ R.locals) (H : CHv Z EL vm0 h) (hxs : ∀ x ∈ xs, Safe Z EL vm0 h x ∧ x < h.size) :
    BackS l R p e below (s.setVm vm0) args y len W (fun A a => a = as' ∧ A.U.heap = h ∧ A.cells + rm.cells ≤ R.cells ∧ A.slots + rm.slots ≤ R.slots) (fun A _ v B => ∃ L, Q v B.U.heap L ∧ B.locs = A.locs ++ L ∧ B.cells = A.cells + rm.cells ∧ B.slots = A.slots + rm.slots ∧ CHr Z EL vm0 h B.U.vm B.U.heap ∧ SafeR sf Z EL B.U.vm B.U.heap v) := by
  refine BackS.of_freeW (bytes := bytes) (maxL := maxL) (ret := rt) (E := fun _ first o t L k n => k = rm.cells ∧ n = rm.slots ∧ (∃ v, o = .returned v ∧ Q v t.heap L ∧ SafeR sf Z EL t.vm t.heap v) ∧ CHr Z EL first.vm first.heap t.vm t.heap) hM hf hl ?_ ?_ (fun _ _ _ _ _ _ _ _ _ => trivial) ?_ ?_
  · intro m meth c A a Y hp
    have hU : Z.Warmed39 A.U.vm := wtrans (s := s.setVm vm0) hZ Y.warmed
    exact ⟨by show (Cond.and _ .tt).before a A.U = true; rw [Cond.before_and, mv hU wc]; rfl, mv hU wc, mv hU wz, hp.2.2⟩
  · intro m meth c A a g mk Y hp
    have q := CHv.at Y hZ hEL H
    exact ⟨hp.1, wtrans (s := s.setVm vm0) hZ Y.warmed, hp.2.1, q.1, fun x hx => ⟨q.safe (hxs x hx).2 (hxs x hx).1, (hxs x hx).2⟩⟩
  · rintro _ _ _ _ ⟨v, L, h1, h2, h3, h5, h4⟩
    exact ⟨L, _, _, h4, rfl, rfl, ⟨v, h1, h2, h5⟩, h3⟩
  · intro m meth c A a g mk v t L k n Y hp _ _ hE
    obtain ⟨rfl, rfl, ⟨v', e3, e4, e7⟩, e5⟩ := hE
    cases e3
    have e6 : CHr Z EL A.U.vm h t.vm t.heap := hp.2.1 ▸ e5
    exact ⟨L, e4, rfl, rfl, rfl, (CHv.at Y hZ hEL H).trans e6, e7⟩
theorem own_staticW (X : Stand p l e R (s.setVm vm0) m args below meth c T locs cells slots) (hx : p.tables.exec = Jvm.exec) (hZ : Z.Warmed39 (s.setVm vm0).vm) (hown : (s.setVm vm0).vm.findClass own = some m.cls) (hEL : EW Z a0 EL) {xs0 : List Addr} (H : Cold Z EL s xs0 vm0 h) (hsub : ∀ x ∈ xs, x ∈ xs0)
    (w1 : (Cond.methodLink own index y).before a0 Z = true) (w2 : (Cond.static y).before a0 Z = true) (w3 : (Cond.initialized y.cls).before a0 Z = true) (w4 : (Cond.code y bytes maxL rt).before a0 Z = true)
    (hy : y.cls ≠ "java/lang/invoke/MethodHandle" ∧ y.cls ≠ "java/lang/invoke/VarHandle") (hM : ConW l Z EL xs sf y bytes maxL rt [] rm as' h Q) (eT : T.heap = h)
    {g : JFrame} (hg : g.method = m) (hsize : g.locals.size = c.maxLocals) {argsL rest : List Value} (hlen : ∀ sig, parseMethodDescriptor y.desc = some sig → argsL.length = sig.parameters.length) (hstack : g.stack = argsL.reverse ++ rest) (ha : argsL.toArray = as')
    (hW : 2 * g.monitorRoom + (rest.map fun v => v.category).sum ≤ W) (hf : rm.frames + 1 ≤ R.frames) (hl : W + (maxL + 11) + rm.locals ≤ R.locals)
    (hdg : decode c.code g.pc = .ok (.invokestatic index, 3)) (hc : cells + rm.cells ≤ R.cells) (hs : slots + rm.slots ≤ R.slots) :
    ∃ v T' L, Stand p l e R (s.setVm T'.vm) m args below meth c T' (locs ++ L) (cells + rm.cells) (slots + rm.slots) ∧ (Q v T'.heap L ∧ Z.Warmed39 (s.setVm T'.vm).vm ∧ (s.setVm T'.vm).vm.findClass own = some m.cls ∧ Cold Z EL s xs0 T'.vm T'.heap ∧ SafeR sf Z EL T'.vm T'.heap v) ∧
      ∀ t, Steps p.tables e below (T'.setTop { g with pc := g.pc + 3, stack := v.toList ++ rest }) t → Steps p.tables e below (T.setTop g) t := by
  obtain ⟨v, _, ⟨T', L', k', n'⟩, -, X', hS, hg', ⟨L, hQ, l', y', z', hC, hR⟩, st⟩ := Jvm.RoadKit.callSS X hx (y := y) hown (mvT hZ w1) (mvT hZ w2) (mvT hZ w3) (mvT hZ w4) hy (own_backW (W := W) hM hZ hEL w4 w3 hf hl H.2.1.1 (fun x hx => H.2.2 x (hsub x hx))) hg hsize hlen hstack hW hdg (fun _ _ => ⟨ha, eT, hc, hs⟩)
  dsimp only [Pt.U, Pt.locs, Pt.cells, Pt.slots] at X' l' y' z' st hQ hS hg' hC hR
  subst l' y' z'
  exact ⟨v, T', L, X', ⟨hQ, own_warmW hZ hS, own_ownW hS hown, H.go (by obtain ⟨⟨k0, a, b⟩, -⟩ := H; exact ⟨_, Jvm.RoadKit.foldS (T := T) a (by rw [eT]; exact b) hS hg', Nat.le_refl _⟩) hC, hR⟩, fun t k => st.trans k⟩
theorem own_specialW (X : Stand p l e R (s.setVm vm0) m args below meth c T locs cells slots) (hx : p.tables.exec = Jvm.exec) (hZ : Z.Warmed39 (s.setVm vm0).vm) (hown : (s.setVm vm0).vm.findClass own = some m.cls) (hEL : EW Z a0 EL) {xs0 : List Addr} (H : Cold Z EL s xs0 vm0 h) (hsub : ∀ x ∈ xs, x ∈ xs0) (hy1 : y.name = "<init>")
    (w1 : (Cond.methodLink own index y).before a0 Z = true) (w2 : (Cond.instanceMethod y).before a0 Z = true) (w3 : (Cond.initialized y.cls).before a0 Z = true) (w4 : (Cond.code y bytes maxL none).before a0 Z = true)
    (hy : y.cls ≠ "java/lang/invoke/MethodHandle" ∧ y.cls ≠ "java/lang/invoke/VarHandle") (hM : ConW l Z EL xs sf y bytes maxL none [] rm as' h Q) (eT : T.heap = h)
    {g : JFrame} (hg : g.method = m) (hsize : g.locals.size = c.maxLocals) {a : Addr} {argsL rest : List Value} (hlen : ∀ sig, parseMethodDescriptor y.desc = some sig → argsL.length = sig.parameters.length) (hstack : g.stack = argsL.reverse ++ .ref a :: rest) (ha : (.ref a :: argsL).toArray = as')
    (hW : 2 * g.monitorRoom + (rest.map fun v => v.category).sum ≤ W) (hf : rm.frames + 1 ≤ R.frames) (hl : W + (maxL + 11) + rm.locals ≤ R.locals)
    (hdg : decode c.code g.pc = .ok (.invokespecial index, 3)) (hc : cells + rm.cells ≤ R.cells) (hs : slots + rm.slots ≤ R.slots) :
    ∃ v T' L, Stand p l e R (s.setVm T'.vm) m args below meth c T' (locs ++ L) (cells + rm.cells) (slots + rm.slots) ∧ (Q v T'.heap L ∧ Z.Warmed39 (s.setVm T'.vm).vm ∧ (s.setVm T'.vm).vm.findClass own = some m.cls ∧ Cold Z EL s xs0 T'.vm T'.heap ∧ SafeR sf Z EL T'.vm T'.heap v) ∧
      ∀ t, Steps p.tables e below (T'.setTop { g with pc := g.pc + 3, stack := v.toList ++ rest }) t → Steps p.tables e below (T.setTop g) t := by
  obtain ⟨v, _, ⟨T', L', k', n'⟩, -, X', hS, hg', ⟨L, hQ, l', y', z', hC, hR⟩, st⟩ := X.specialBackS hx (y := y) hy1 hown (mvT hZ w1) (mvT hZ w2) (mvT hZ w4) hy (own_backW (W := W) hM hZ hEL w4 w3 hf hl H.2.1.1 (fun x hx => H.2.2 x (hsub x hx))) hg hsize (Steps.refl _) (a := a) hlen hstack hW hdg (fun _ _ => ⟨ha, eT, hc, hs⟩)
  dsimp only [Pt.U, Pt.locs, Pt.cells, Pt.slots] at X' l' y' z' st hQ hS hg' hC hR
  subst l' y' z'
  exact ⟨v, T', L, X', ⟨hQ, own_warmW hZ hS, own_ownW hS hown, H.go (by obtain ⟨⟨k0, a, b⟩, -⟩ := H; exact ⟨_, Jvm.RoadKit.foldS (T := T) a (by rw [eT]; exact b) hS hg', Nat.le_refl _⟩) hC, hR⟩, fun t k => st.trans k⟩
/-- ldc of a text of EL: its cells are there -/
theorem own_ldcW {text : String} (X : Stand p l e R (s.setVm vm0) m args below meth c T locs cells slots) (hx : p.tables.exec = Jvm.exec) (hZ : Z.Warmed39 (s.setVm vm0).vm) (hown : (s.setVm vm0).vm.findClass own = some m.cls) (hEL : EW Z a0 EL) (H : Cold Z EL s xs vm0 h) (w : (Cond.stringLink own index text).before a0 Z = true) (wS : ∀ a ∈ Bundle.stringAtoms, a.before a0 Z = true)
    (eT : T.heap = h) (hmem : (own, index) ∈ EL) {vs : List Value} {z : Int32} (ht : (∀ c ∈ text.toList, c.toNat < 256) ∧ text.toList.map (fun c => Value.int (Jvm.Lit.byteI c.toNat.toUInt16)) = vs) (hz : ¬ z < 0) (hl : z.toNatClampNeg = vs.length)
    {g : JFrame} (hg : g.method = m) (hd : decode c.code g.pc = .ok (.ldc index, 2)) {n : Nat} (hn : 4 * text.toList.length ≤ n) (hbig : n ≤ 536870912) (hc : cells + 2 ≤ R.cells) (hl' : slots + (n + 4) ≤ R.slots) :
    ∃ (a b : Addr) (k : ClassId) (T' : State) (h' : Heap), Stand p l e R (s.setVm T'.vm) m args below meth c T' locs (cells + 2) (slots + (n + 4)) ∧ T'.heap = h' ∧ Ext h h' ∧ Z.Warmed39 (s.setVm T'.vm).vm ∧ (s.setVm T'.vm).vm.findClass own = some m.cls ∧ Cold Z EL s xs T'.vm h' ∧
      Exa Z h' a "java/lang/String" ∧ Fld Z h' a "java/lang/String" "coder" "B" (.int 0) ∧ Fld Z h' a "java/lang/String" "value" "[B" (.ref b) ∧ Arv Z h' b k .byte z vs (.int 0) ∧ a < h'.size ∧ b < h'.size ∧ (∀ x ∈ xs, x ≠ a ∧ x ≠ b) ∧
      ∀ t, Steps p.tables e below (T'.setTop { g with pc := g.pc + 2, stack := .ref a :: g.stack }) t → Steps p.tables e below (T.setTop g) t := by
  obtain ⟨k0, hS, hk⟩ := H.1
  obtain ⟨a, T', h', k1, b, k, X', e1, E, hS', hk', hZ', ho', f1, f2, f3, f4, f5, f6, hC, -, hne, st⟩ := ldcCH X hx hZ hown w wS eT hS hk hEL hmem H.2.1.1 ht hz hl hg hd hn hbig hc hl'
  have H' := H.go ⟨k1, hS', hk'⟩ hC
  exact ⟨a, b, k, T', h', X', e1, E, hZ', ho', H', f1, f2, f3, f4, f5, f6, fun x hx => hne x (H'.safe hx), st⟩
end Cold
end Jvm.OwnKit
namespace Jvm.OwnKit
end Jvm.OwnKit
namespace Jvm.Pilot.@@N@@
open Jvm Jvm.ClassFile Sem Op Lib Jvm.Free Jvm.Stand Jvm.LawKit Jvm.RoadKit Jvm.OwnKit Bundle Jvm.Pilot.@@N@@.Jvm.D
set_option maxRecDepth 65536
set_option maxHeartbeats 40000000
abbrev HW (a0 : Array Value) (Z : State) : Prop := ∀ d ∈ tables_1, d.before a0 Z = true
theorem own_lenk {Z : State} {args : Array Value} {t : Term} {a : Addr} {c : Cell} {ty : FieldType} {k : Int32} (ev : t.eval args Z none [] Z = some (.ref a)) (A : Arr Z Z.heap a c ty) (h : (Jvm.Cond.eq (Jvm.Term.length t) (Jvm.Term.int k)).value args Z none Z [] = some true) : c.slots.size < 2 ^ 31 ∧ c.slots.size.toInt32 = k := by
  have e := eqv_i (Term.int_eval k) h
  have ha := A.fin (U := Z) (Vm.Alike.refl _)
  by_cases q : c.slots.size < 2 ^ 31
  · have e2 := len_f (first := Z) (o := none) (idx := []) (args := args) ev ha q
    rw [e] at e2
    exact ⟨q, by injection e2 with e3; injection e3 with e4; exact e4.symm⟩
  · exfalso
    simp [Term.eval, ev, ha, q] at e
theorem own_eqr {args : Array Value} {first s : State} {o : Option Outcome} {idx : List Nat} {a b : Term} {y : Addr} (hb : b.eval args first o idx s = some (.ref y)) (h : (Jvm.Cond.eq a b).value args first o s idx = some true) : a.eval args first o idx s = some (.ref y) := by
  cases ha : a.eval args first o idx s with
  | none => simp [Cond.value, ha, hb] at h
  | some x => cases x <;> simp [Cond.value, ha, hb] at h ⊢; try exact h
theorem own_nearv {Z : State} {h : Heap} {a b : Addr} {k k' : ClassId} {ty ty' : FieldType} {n n' : Int32} {vs vs' : List Value} {d d' : Value} (F : Arv Z h a k ty n vs d) (G : Arv Z h b k' ty' n' vs' d') (q : n.toNatClampNeg ≠ n'.toNatClampNeg) : a ≠ b := fun e => by
  subst e
  obtain ⟨c1, A, -, S, -⟩ := F
  obtain ⟨c2, B, -, S', -⟩ := G
  cases A.1.symm.trans B.1
  exact q (S.symm.trans S')
theorem own_w48 {Z : State} {a0 : Array Value} (hw : HW a0 Z) : (Cond.initialized "com/example/tapline/tapline/rules/ReturnPeriod").before a0 Z = true := hw _ (List.mem_of_getElem? (i := 48) rfl)
theorem own_w49 {Z : State} {a0 : Array Value} (hw : HW a0 Z) : (Cond.laysStatic "com/example/tapline/tapline/rules/ReturnPeriod" "MONTH" "Lcom/example/tapline/tapline/rules/ReturnPeriod;").before a0 Z = true := hw _ (List.mem_of_getElem? (i := 49) rfl)
theorem own_w66 {Z : State} {a0 : Array Value} (hw : HW a0 Z) : (Cond.initializedFor "com/example/tapline/tapline/rules/ReturnPeriod" "$VALUES" "[Lcom/example/tapline/tapline/rules/ReturnPeriod;").before a0 Z = true := hw _ (List.mem_of_getElem? (i := 66) rfl)
theorem own_w65 {Z : State} {a0 : Array Value} (hw : HW a0 Z) : (Cond.laysStatic "com/example/tapline/tapline/rules/ReturnPeriod" "QUARTER" "Lcom/example/tapline/tapline/rules/ReturnPeriod;").before a0 Z = true := hw _ (List.mem_of_getElem? (i := 65) rfl)
theorem sg0_0_1 : decs code [(0, .bipush 8, 2)] := ⟨at_0, trivial⟩
theorem own_w0 {Z : State} {a0 : Array Value} (hw : HW a0 Z) : (Cond.arrayClass Jvm.ClassFile.FieldType.char).before a0 Z = true := hw _ (List.mem_of_getElem? (i := 0) rfl)
theorem sg0_4_7 : decs code [(4, .astore 6, 2), (6, .aload 6, 2), (8, .iconst 0, 1), (9, .iload_n 1, 1), (10, .sipush 255, 3), (13, .iand, 1), (14, .i2c, 1)] := ⟨at_4, at_6, at_8, at_9, at_10, at_13, at_14, trivial⟩
theorem sg0_16_8 : decs code [(16, .aload 6, 2), (18, .iconst 1, 1), (19, .iload_n 1, 1), (20, .bipush 8, 2), (22, .iushr, 1), (23, .sipush 255, 3), (26, .iand, 1), (27, .i2c, 1)] := ⟨at_16, at_18, at_19, at_20, at_22, at_23, at_26, at_27, trivial⟩
theorem sg0_29_6 : decs code [(29, .aload 6, 2), (31, .iconst 2, 1), (32, .iload_n 2, 1), (33, .sipush 255, 3), (36, .iand, 1), (37, .i2c, 1)] := ⟨at_29, at_31, at_32, at_33, at_36, at_37, trivial⟩
theorem sg0_39_8 : decs code [(39, .aload 6, 2), (41, .iconst 3, 1), (42, .iload_n 2, 1), (43, .bipush 8, 2), (45, .iushr, 1), (46, .sipush 255, 3), (49, .iand, 1), (50, .i2c, 1)] := ⟨at_39, at_41, at_42, at_43, at_45, at_46, at_49, at_50, trivial⟩
theorem sg0_52_6 : decs code [(52, .aload 6, 2), (54, .iconst 4, 1), (55, .iload_n 3, 1), (56, .sipush 255, 3), (59, .iand, 1), (60, .i2c, 1)] := ⟨at_52, at_54, at_55, at_56, at_59, at_60, trivial⟩
theorem sg0_62_8 : decs code [(62, .aload 6, 2), (64, .iconst 5, 1), (65, .iload_n 3, 1), (66, .bipush 8, 2), (68, .iushr, 1), (69, .sipush 255, 3), (72, .iand, 1), (73, .i2c, 1)] := ⟨at_62, at_64, at_65, at_66, at_68, at_69, at_72, at_73, trivial⟩
theorem sg0_75_6 : decs code [(75, .aload 6, 2), (77, .bipush 6, 2), (79, .iload 4, 2), (81, .sipush 255, 3), (84, .iand, 1), (85, .i2c, 1)] := ⟨at_75, at_77, at_79, at_81, at_84, at_85, trivial⟩
theorem sg0_87_8 : decs code [(87, .aload 6, 2), (89, .bipush 7, 2), (91, .iload 4, 2), (93, .bipush 8, 2), (95, .iushr, 1), (96, .sipush 255, 3), (99, .iand, 1), (100, .i2c, 1)] := ⟨at_87, at_89, at_91, at_93, at_95, at_96, at_99, at_100, trivial⟩
theorem sg0_102_4 : decs code [(102, .iload_n 0, 1), (103, .iconst 3, 1), (104, .iand, 1), (105, .istore 7, 2)] := ⟨at_102, at_103, at_104, at_105, trivial⟩
theorem sg0_107_5 : decs code [(107, .iload_n 0, 1), (108, .iconst 2, 1), (109, .iushr, 1), (110, .iconst 1, 1), (111, .iand, 1)] := ⟨at_107, at_108, at_109, at_110, at_111, trivial⟩
theorem sg0_119_1 : decs code [(119, .iconst 0, 1)] := ⟨at_119, trivial⟩
theorem sg0_115_2 : decs code [(115, .iconst 1, 1), (116, .goto 4, 3)] := ⟨at_115, at_116, trivial⟩
theorem sg0_120_6 : decs code [(120, .istore 8, 2), (122, .iload_n 0, 1), (123, .iconst 3, 1), (124, .iushr, 1), (125, .iconst 1, 1), (126, .iand, 1)] := ⟨at_120, at_122, at_123, at_124, at_125, at_126, trivial⟩
theorem sg0_134_1 : decs code [(134, .iconst 0, 1)] := ⟨at_134, trivial⟩
theorem sg0_130_2 : decs code [(130, .iconst 1, 1), (131, .goto 4, 3)] := ⟨at_130, at_131, trivial⟩
theorem sg0_135_6 : decs code [(135, .istore 9, 2), (137, .iload_n 0, 1), (138, .iconst 4, 1), (139, .iushr, 1), (140, .iconst 1, 1), (141, .iand, 1)] := ⟨at_135, at_137, at_138, at_139, at_140, at_141, trivial⟩
theorem sg0_149_1 : decs code [(149, .iconst 0, 1)] := ⟨at_149, trivial⟩
theorem sg0_145_2 : decs code [(145, .iconst 1, 1), (146, .goto 4, 3)] := ⟨at_145, at_146, trivial⟩
theorem sg0_150_2 : decs code [(150, .istore 10, 2), (152, .iload 7, 2)] := ⟨at_150, at_152, trivial⟩
theorem sg0_157_3 : decs code [(157, .aload 6, 2), (159, .iconst 0, 1), (160, .bipush 109, 2)] := ⟨at_157, at_159, at_160, trivial⟩
theorem sg0_163_3 : decs code [(163, .aload 6, 2), (165, .iconst 1, 1), (166, .bipush 111, 2)] := ⟨at_163, at_165, at_166, trivial⟩
theorem sg0_169_3 : decs code [(169, .aload 6, 2), (171, .iconst 2, 1), (172, .bipush 110, 2)] := ⟨at_169, at_171, at_172, trivial⟩
theorem sg0_175_3 : decs code [(175, .aload 6, 2), (177, .iconst 3, 1), (178, .bipush 116, 2)] := ⟨at_175, at_177, at_178, trivial⟩
theorem sg0_181_3 : decs code [(181, .aload 6, 2), (183, .iconst 4, 1), (184, .bipush 104, 2)] := ⟨at_181, at_183, at_184, trivial⟩
theorem sg0_187_3 : decs code [(187, .iconst 5, 1), (188, .istore 11, 2), (190, .goto 67, 3)] := ⟨at_187, at_188, at_190, trivial⟩
theorem sg0_193_2 : decs code [(193, .iload 7, 2), (195, .iconst 1, 1)] := ⟨at_193, at_195, trivial⟩
theorem sg0_199_3 : decs code [(199, .aload 6, 2), (201, .iconst 0, 1), (202, .bipush 113, 2)] := ⟨at_199, at_201, at_202, trivial⟩
theorem sg0_205_3 : decs code [(205, .aload 6, 2), (207, .iconst 1, 1), (208, .bipush 117, 2)] := ⟨at_205, at_207, at_208, trivial⟩
theorem sg0_211_3 : decs code [(211, .aload 6, 2), (213, .iconst 2, 1), (214, .bipush 97, 2)] := ⟨at_211, at_213, at_214, trivial⟩
theorem sg0_217_3 : decs code [(217, .aload 6, 2), (219, .iconst 3, 1), (220, .bipush 114, 2)] := ⟨at_217, at_219, at_220, trivial⟩
theorem sg0_223_3 : decs code [(223, .aload 6, 2), (225, .iconst 4, 1), (226, .bipush 116, 2)] := ⟨at_223, at_225, at_226, trivial⟩
theorem sg0_229_3 : decs code [(229, .aload 6, 2), (231, .iconst 5, 1), (232, .bipush 101, 2)] := ⟨at_229, at_231, at_232, trivial⟩
theorem sg0_235_3 : decs code [(235, .aload 6, 2), (237, .bipush 6, 2), (239, .bipush 114, 2)] := ⟨at_235, at_237, at_239, trivial⟩
theorem sg0_242_3 : decs code [(242, .bipush 7, 2), (244, .istore 11, 2), (246, .goto 11, 3)] := ⟨at_242, at_244, at_246, trivial⟩
theorem sg0_249_4 : decs code [(249, .iload_n 0, 1), (250, .iconst 5, 1), (251, .iushr, 1), (252, .bipush 9, 2)] := ⟨at_249, at_250, at_251, at_252, trivial⟩
theorem sg0_255_1 : decs code [(255, .istore 11, 2)] := ⟨at_255, trivial⟩
theorem sg0_257_1 : decs code [(257, .iload 8, 2)] := ⟨at_257, trivial⟩
theorem sg0_262_2 : decs code [(262, .iload 11, 2), (264, .bipush 8, 2)] := ⟨at_262, at_264, trivial⟩
theorem sg0_269_4 : decs code [(269, .iload 11, 2), (271, .iconst 1, 1), (272, .iadd, 1), (273, .istore 11, 2)] := ⟨at_269, at_271, at_272, at_273, trivial⟩
theorem sg0_275_1 : decs code [(275, .iload 9, 2)] := ⟨at_275, trivial⟩
theorem sg0_280_1 : decs code [(280, .iload 11, 2)] := ⟨at_280, trivial⟩
theorem sg0_285_4 : decs code [(285, .iload 11, 2), (287, .iconst 1, 1), (288, .isub, 1), (289, .istore 11, 2)] := ⟨at_285, at_287, at_288, at_289, trivial⟩
theorem sg0_291_1 : decs code [(291, .iload 10, 2)] := ⟨at_291, trivial⟩
theorem sg0_296_1 : decs code [(296, .iload 11, 2)] := ⟨at_296, trivial⟩
theorem sg0_301_4 : decs code [(301, .iload 5, 2), (303, .sipush 255, 3), (306, .iand, 1), (307, .iload 11, 2)] := ⟨at_301, at_303, at_306, at_307, trivial⟩
theorem sg0_310_9 : decs code [(310, .istore 12, 2), (312, .aload 6, 2), (314, .iload 12, 2), (316, .iload 5, 2), (318, .bipush 8, 2), (320, .iushr, 1), (321, .sipush 255, 3), (324, .iand, 1), (325, .i2c, 1)] := ⟨at_310, at_312, at_314, at_316, at_318, at_320, at_321, at_324, at_325, trivial⟩
theorem own_w1 {Z : State} {a0 : Array Value} (hw : HW a0 Z) : (Cond.methodLink "com/example/tapline/tapline/rules/ReturnPeriodByIdPinLaw" 12 ⟨"com/example/tapline/tapline/rules/ReturnPeriodByIdPinLaw", "str", "([CI)Ljava/lang/String;"⟩).before a0 Z = true := hw _ (List.mem_of_getElem? (i := 1) rfl)
theorem d1_0 : decode method_2_code 0 = .ok (.iload_n 1, 1) := by decide +kernel
theorem sg1_0_1 : decs method_2_code [(0, .iload_n 1, 1)] := ⟨d1_0, trivial⟩
theorem d1_1 : decode method_2_code 1 = .ok (.ifCond .gt 14, 3) := by decide +kernel
theorem d1_15 : decode method_2_code 15 = .ok (.iload_n 1, 1) := by decide +kernel
theorem d1_16 : decode method_2_code 16 = .ok (.iconst 1, 1) := by decide +kernel
theorem sg1_15_2 : decs method_2_code [(15, .iload_n 1, 1), (16, .iconst 1, 1)] := ⟨d1_15, d1_16, trivial⟩
theorem d1_17 : decode method_2_code 17 = .ok (.if_icmp .ne 20, 3) := by decide +kernel
theorem d1_20 : decode method_2_code 20 = .ok (.new 7, 3) := by decide +kernel
theorem own_w5 {Z : State} {a0 : Array Value} (hw : HW a0 Z) : (Cond.classLink "com/example/tapline/tapline/rules/ReturnPeriodByIdPinLaw" 7 "java/lang/String").before a0 Z = true := hw _ (List.mem_of_getElem? (i := 5) rfl)
theorem own_w6 {Z : State} {a0 : Array Value} (hw : HW a0 Z) : (Cond.instantiable "java/lang/String" 4).before a0 Z = true := hw _ (List.mem_of_getElem? (i := 6) rfl)
theorem own_w7 {Z : State} {a0 : Array Value} (hw : HW a0 Z) : (Cond.initialized "java/lang/String").before a0 Z = true := hw _ (List.mem_of_getElem? (i := 7) rfl)
theorem own_w31 {Z : State} {a0 : Array Value} (hw : HW a0 Z) : (Cond.laysFinal "java/lang/String" "java/lang/String" "coder" "B").before a0 Z = true := hw _ (List.mem_of_getElem? (i := 31) rfl)
theorem own_w33 {Z : State} {a0 : Array Value} (hw : HW a0 Z) : (Cond.laysFinal "java/lang/String" "java/lang/String" "value" "[B").before a0 Z = true := hw _ (List.mem_of_getElem? (i := 33) rfl)
theorem d1_23 : decode method_2_code 23 = .ok (.dup, 1) := by decide +kernel
theorem d1_24 : decode method_2_code 24 = .ok (.iconst 1, 1) := by decide +kernel
theorem sg1_23_2 : decs method_2_code [(23, .dup, 1), (24, .iconst 1, 1)] := ⟨d1_23, d1_24, trivial⟩
theorem d1_25 : decode method_2_code 25 = .ok (.newarray .char, 2) := by decide +kernel
theorem d1_27 : decode method_2_code 27 = .ok (.dup, 1) := by decide +kernel
theorem d1_28 : decode method_2_code 28 = .ok (.iconst 0, 1) := by decide +kernel
theorem d1_29 : decode method_2_code 29 = .ok (.aload_n 0, 1) := by decide +kernel
theorem d1_30 : decode method_2_code 30 = .ok (.iconst 0, 1) := by decide +kernel
theorem sg1_27_4 : decs method_2_code [(27, .dup, 1), (28, .iconst 0, 1), (29, .aload_n 0, 1), (30, .iconst 0, 1)] := ⟨d1_27, d1_28, d1_29, d1_30, trivial⟩
theorem d1_31 : decode method_2_code 31 = .ok (.caload, 1) := by decide +kernel
theorem d1_32 : decode method_2_code 32 = .ok (.castore, 1) := by decide +kernel
theorem own_w8 {Z : State} {a0 : Array Value} (hw : HW a0 Z) : (Cond.methodLink "com/example/tapline/tapline/rules/ReturnPeriodByIdPinLaw" 9 ⟨"java/lang/String", "<init>", "([C)V"⟩).before a0 Z = true := hw _ (List.mem_of_getElem? (i := 8) rfl)
theorem d1_33 : decode method_2_code 33 = .ok (.invokespecial 9, 3) := by decide +kernel
theorem d2_0 : decode jdk_42_method_3_code 0 = .ok (.aload_n 0, 1) := by decide +kernel
theorem d2_1 : decode jdk_42_method_3_code 1 = .ok (.aload_n 1, 1) := by decide +kernel
theorem d2_2 : decode jdk_42_method_3_code 2 = .ok (.iconst 0, 1) := by decide +kernel
theorem d2_3 : decode jdk_42_method_3_code 3 = .ok (.aload_n 1, 1) := by decide +kernel
theorem sg2_0_4 : decs jdk_42_method_3_code [(0, .aload_n 0, 1), (1, .aload_n 1, 1), (2, .iconst 0, 1), (3, .aload_n 1, 1)] := ⟨d2_0, d2_1, d2_2, d2_3, trivial⟩
theorem d2_4 : decode jdk_42_method_3_code 4 = .ok (.arraylength, 1) := by decide +kernel
theorem d2_5 : decode jdk_42_method_3_code 5 = .ok (.aconst_null, 1) := by decide +kernel
theorem own_w11 {Z : State} {a0 : Array Value} (hw : HW a0 Z) : (Cond.methodLink "java/lang/String" 27 ⟨"java/lang/String", "<init>", "([CIILjava/lang/Void;)V"⟩).before a0 Z = true := hw _ (List.mem_of_getElem? (i := 11) rfl)
theorem sg2_5_1 : decs jdk_42_method_3_code [(5, .aconst_null, 1)] := ⟨d2_5, trivial⟩
theorem d2_6 : decode jdk_42_method_3_code 6 = .ok (.invokespecial 27, 3) := by decide +kernel
theorem d3_0 : decode jdk_42_method_149_code 0 = .ok (.aload_n 0, 1) := by decide +kernel
theorem own_w15 {Z : State} {a0 : Array Value} (hw : HW a0 Z) : (Cond.methodLink "java/lang/String" 1 ⟨"java/lang/Object", "<init>", "()V"⟩).before a0 Z = true := hw _ (List.mem_of_getElem? (i := 15) rfl)
theorem sg3_0_1 : decs jdk_42_method_149_code [(0, .aload_n 0, 1)] := ⟨d3_0, trivial⟩
theorem d3_1 : decode jdk_42_method_149_code 1 = .ok (.invokespecial 1, 3) := by decide +kernel
theorem own_w17 {Z : State} {a0 : Array Value} (hw : HW a0 Z) : (Cond.code ⟨"java/lang/Object", "<init>", "()V"⟩ object_method_1_code 1 (Option.none : Option Jvm.ClassFile.FieldType)).before a0 Z = true := hw _ (List.mem_of_getElem? (i := 17) rfl)
theorem own_w16 {Z : State} {a0 : Array Value} (hw : HW a0 Z) : (Cond.instanceMethod ⟨"java/lang/Object", "<init>", "()V"⟩).before a0 Z = true := hw _ (List.mem_of_getElem? (i := 16) rfl)
theorem d3_4 : decode jdk_42_method_149_code 4 = .ok (.iload_n 3, 1) := by decide +kernel
theorem sg3_4_1 : decs jdk_42_method_149_code [(4, .iload_n 3, 1)] := ⟨d3_4, trivial⟩
theorem d3_5 : decode jdk_42_method_149_code 5 = .ok (.ifCond .ne 22, 3) := by decide +kernel
theorem d3_27 : decode jdk_42_method_149_code 27 = .ok (.getstatic 38, 3) := by decide +kernel
theorem own_w18 {Z : State} {a0 : Array Value} (hw : HW a0 Z) : (Cond.fieldLink "java/lang/String" 38 "java/lang/String" "COMPACT_STRINGS" "Z").before a0 Z = true := hw _ (List.mem_of_getElem? (i := 18) rfl)
theorem d3_30 : decode jdk_42_method_149_code 30 = .ok (.ifCond .eq 28, 3) := by decide +kernel
theorem d3_33 : decode jdk_42_method_149_code 33 = .ok (.aload_n 1, 1) := by decide +kernel
theorem d3_34 : decode jdk_42_method_149_code 34 = .ok (.iload_n 2, 1) := by decide +kernel
theorem d3_35 : decode jdk_42_method_149_code 35 = .ok (.iload_n 3, 1) := by decide +kernel
theorem own_w19 {Z : State} {a0 : Array Value} (hw : HW a0 Z) : (Cond.methodLink "java/lang/String" 177 ⟨"java/lang/StringUTF16", "compress", "([CII)[B"⟩).before a0 Z = true := hw _ (List.mem_of_getElem? (i := 19) rfl)
theorem sg3_33_3 : decs jdk_42_method_149_code [(33, .aload_n 1, 1), (34, .iload_n 2, 1), (35, .iload_n 3, 1)] := ⟨d3_33, d3_34, d3_35, trivial⟩
theorem d3_36 : decode jdk_42_method_149_code 36 = .ok (.invokestatic 177, 3) := by decide +kernel
theorem d5_0 : decode jdk_52_method_16_code 0 = .ok (.iload_n 2, 1) := by decide +kernel
theorem sg5_0_1 : decs jdk_52_method_16_code [(0, .iload_n 2, 1)] := ⟨d5_0, trivial⟩
theorem d5_1 : decode jdk_52_method_16_code 1 = .ok (.newarray .byte, 2) := by decide +kernel
theorem own_w23 {Z : State} {a0 : Array Value} (hw : HW a0 Z) : (Cond.arrayClass Jvm.ClassFile.FieldType.byte).before a0 Z = true := hw _ (List.mem_of_getElem? (i := 23) rfl)
theorem d5_3 : decode jdk_52_method_16_code 3 = .ok (.astore_n 3, 1) := by decide +kernel
theorem d5_4 : decode jdk_52_method_16_code 4 = .ok (.aload_n 0, 1) := by decide +kernel
theorem d5_5 : decode jdk_52_method_16_code 5 = .ok (.iload_n 1, 1) := by decide +kernel
theorem d5_6 : decode jdk_52_method_16_code 6 = .ok (.aload_n 3, 1) := by decide +kernel
theorem d5_7 : decode jdk_52_method_16_code 7 = .ok (.iconst 0, 1) := by decide +kernel
theorem d5_8 : decode jdk_52_method_16_code 8 = .ok (.iload_n 2, 1) := by decide +kernel
theorem own_w24 {Z : State} {a0 : Array Value} (hw : HW a0 Z) : (Cond.methodLink "java/lang/StringUTF16" 115 ⟨"java/lang/StringUTF16", "compress", "([CI[BII)I"⟩).before a0 Z = true := hw _ (List.mem_of_getElem? (i := 24) rfl)
theorem sg5_3_6 : decs jdk_52_method_16_code [(3, .astore_n 3, 1), (4, .aload_n 0, 1), (5, .iload_n 1, 1), (6, .aload_n 3, 1), (7, .iconst 0, 1), (8, .iload_n 2, 1)] := ⟨d5_3, d5_4, d5_5, d5_6, d5_7, d5_8, trivial⟩
theorem d5_9 : decode jdk_52_method_16_code 9 = .ok (.invokestatic 115, 3) := by decide +kernel
theorem d6_0 : decode jdk_52_method_21_code 0 = .ok (.iconst 0, 1) := by decide +kernel
theorem d6_1 : decode jdk_52_method_21_code 1 = .ok (.istore 5, 2) := by decide +kernel
theorem d6_3 : decode jdk_52_method_21_code 3 = .ok (.iload 5, 2) := by decide +kernel
theorem d6_5 : decode jdk_52_method_21_code 5 = .ok (.iload 4, 2) := by decide +kernel
theorem sg6_0_4 : decs jdk_52_method_21_code [(0, .iconst 0, 1), (1, .istore 5, 2), (3, .iload 5, 2), (5, .iload 4, 2)] := ⟨d6_0, d6_1, d6_3, d6_5, trivial⟩
theorem d6_7 : decode jdk_52_method_21_code 7 = .ok (.if_icmp .ge 37, 3) := by decide +kernel
theorem d6_10 : decode jdk_52_method_21_code 10 = .ok (.aload_n 0, 1) := by decide +kernel
theorem d6_11 : decode jdk_52_method_21_code 11 = .ok (.iload_n 1, 1) := by decide +kernel
theorem sg6_10_2 : decs jdk_52_method_21_code [(10, .aload_n 0, 1), (11, .iload_n 1, 1)] := ⟨d6_10, d6_11, trivial⟩
theorem d6_12 : decode jdk_52_method_21_code 12 = .ok (.caload, 1) := by decide +kernel
theorem d6_13 : decode jdk_52_method_21_code 13 = .ok (.istore 6, 2) := by decide +kernel
theorem d6_15 : decode jdk_52_method_21_code 15 = .ok (.iload 6, 2) := by decide +kernel
theorem d6_17 : decode jdk_52_method_21_code 17 = .ok (.sipush 255, 3) := by decide +kernel
theorem sg6_13_3 : decs jdk_52_method_21_code [(13, .istore 6, 2), (15, .iload 6, 2), (17, .sipush 255, 3)] := ⟨d6_13, d6_15, d6_17, trivial⟩
theorem d6_20 : decode jdk_52_method_21_code 20 = .ok (.if_icmp .le 6, 3) := by decide +kernel
theorem d6_26 : decode jdk_52_method_21_code 26 = .ok (.aload_n 2, 1) := by decide +kernel
theorem d6_27 : decode jdk_52_method_21_code 27 = .ok (.iload_n 3, 1) := by decide +kernel
theorem d6_28 : decode jdk_52_method_21_code 28 = .ok (.iload 6, 2) := by decide +kernel
theorem d6_30 : decode jdk_52_method_21_code 30 = .ok (.i2b, 1) := by decide +kernel
theorem sg6_26_4 : decs jdk_52_method_21_code [(26, .aload_n 2, 1), (27, .iload_n 3, 1), (28, .iload 6, 2), (30, .i2b, 1)] := ⟨d6_26, d6_27, d6_28, d6_30, trivial⟩
theorem d6_31 : decode jdk_52_method_21_code 31 = .ok (.bastore, 1) := by decide +kernel
theorem d6_32 : decode jdk_52_method_21_code 32 = .ok (.iinc 1 1, 3) := by decide +kernel
theorem d6_35 : decode jdk_52_method_21_code 35 = .ok (.iinc 3 1, 3) := by decide +kernel
theorem d6_38 : decode jdk_52_method_21_code 38 = .ok (.iinc 5 1, 3) := by decide +kernel
theorem d6_41 : decode jdk_52_method_21_code 41 = .ok (.goto (-38), 3) := by decide +kernel
theorem sg6_32_6 : decs jdk_52_method_21_code [(32, .iinc 1 1, 3), (35, .iinc 3 1, 3), (38, .iinc 5 1, 3), (41, .goto (-38), 3), (3, .iload 5, 2), (5, .iload 4, 2)] := ⟨d6_32, d6_35, d6_38, d6_41, d6_3, d6_5, trivial⟩
theorem d6_44 : decode jdk_52_method_21_code 44 = .ok (.iload 4, 2) := by decide +kernel
theorem sg6_44_1 : decs jdk_52_method_21_code [(44, .iload 4, 2)] := ⟨d6_44, trivial⟩
theorem d6_46 : decode jdk_52_method_21_code 46 = .ok (.ireturn, 1) := by decide +kernel
theorem ef_rm6_0 (m : MethodId) (x0 : Addr) (x1 : Int32) (x2 : Addr) (x4 : Int32) : entryFrame m #[(.ref x0), (.int x1), (.ref x2), (.int x1), (.int x4)] 7 = mkF m 0 #[.val (.ref x0), .val (.int x1), .val (.ref x2), .val (.int x1), .val (.int x4), .unset, .unset] [] := by first | (simp [entryFrame, mkF, argsToLocals, Value.category]; done) | rfl
theorem own_pn0 : plainName "java/lang/StringUTF16" = true := by first | (simp [plainName, overriddenIn]; done) | decide +kernel
theorem own_w26 {Z : State} {a0 : Array Value} (hw : HW a0 Z) : (Cond.code ⟨"java/lang/StringUTF16", "compress", "([CI[BII)I"⟩ jdk_52_method_21_code 7 (Option.some Jvm.ClassFile.FieldType.int)).before a0 Z = true := hw _ (List.mem_of_getElem? (i := 26) rfl)
theorem own_w21 {Z : State} {a0 : Array Value} (hw : HW a0 Z) : (Cond.initialized "java/lang/StringUTF16").before a0 Z = true := hw _ (List.mem_of_getElem? (i := 21) rfl)
theorem own_pd0 : parseMethodDescriptor "([CI[BII)I" = some ⟨[(.array .char), .int, (.array .byte), .int, .int], some .int⟩ := by decide +kernel
theorem own_w25 {Z : State} {a0 : Array Value} (hw : HW a0 Z) : (Cond.static ⟨"java/lang/StringUTF16", "compress", "([CI[BII)I"⟩).before a0 Z = true := hw _ (List.mem_of_getElem? (i := 25) rfl)
theorem d5_12 : decode jdk_52_method_16_code 12 = .ok (.istore 4, 2) := by decide +kernel
theorem d5_14 : decode jdk_52_method_16_code 14 = .ok (.iload 4, 2) := by decide +kernel
theorem d5_16 : decode jdk_52_method_16_code 16 = .ok (.iload_n 2, 1) := by decide +kernel
theorem sg5_12_3 : decs jdk_52_method_16_code [(12, .istore 4, 2), (14, .iload 4, 2), (16, .iload_n 2, 1)] := ⟨d5_12, d5_14, d5_16, trivial⟩
theorem d5_17 : decode jdk_52_method_16_code 17 = .ok (.if_icmp .eq 40, 3) := by decide +kernel
theorem d5_57 : decode jdk_52_method_16_code 57 = .ok (.aload_n 3, 1) := by decide +kernel
theorem sg5_57_1 : decs jdk_52_method_16_code [(57, .aload_n 3, 1)] := ⟨d5_57, trivial⟩
theorem d5_58 : decode jdk_52_method_16_code 58 = .ok (.areturn, 1) := by decide +kernel
theorem ef_rm5_0 (m : MethodId) (x0 : Addr) (x1 : Int32) (x2 : Int32) : entryFrame m #[(.ref x0), (.int x1), (.int x2)] 6 = mkF m 0 #[.val (.ref x0), .val (.int x1), .val (.int x2), .unset, .unset, .unset] [] := by first | (simp [entryFrame, mkF, argsToLocals, Value.category]; done) | rfl
theorem own_w22 {Z : State} {a0 : Array Value} (hw : HW a0 Z) : (Cond.code ⟨"java/lang/StringUTF16", "compress", "([CII)[B"⟩ jdk_52_method_16_code 6 (Option.some (Jvm.ClassFile.FieldType.array Jvm.ClassFile.FieldType.byte))).before a0 Z = true := hw _ (List.mem_of_getElem? (i := 22) rfl)
theorem own_pd1 : parseMethodDescriptor "([CII)[B" = some ⟨[(.array .char), .int, .int], some (.array .byte)⟩ := by decide +kernel
theorem own_w20 {Z : State} {a0 : Array Value} (hw : HW a0 Z) : (Cond.static ⟨"java/lang/StringUTF16", "compress", "([CII)[B"⟩).before a0 Z = true := hw _ (List.mem_of_getElem? (i := 20) rfl)
theorem d3_39 : decode jdk_42_method_149_code 39 = .ok (.astore 5, 2) := by decide +kernel
theorem d3_41 : decode jdk_42_method_149_code 41 = .ok (.aload_n 0, 1) := by decide +kernel
theorem d3_42 : decode jdk_42_method_149_code 42 = .ok (.aload 5, 2) := by decide +kernel
theorem d3_44 : decode jdk_42_method_149_code 44 = .ok (.iload_n 3, 1) := by decide +kernel
theorem own_w27 {Z : State} {a0 : Array Value} (hw : HW a0 Z) : (Cond.methodLink "java/lang/String" 47 ⟨"java/lang/StringUTF16", "coderFromArrayLen", "([BI)B"⟩).before a0 Z = true := hw _ (List.mem_of_getElem? (i := 27) rfl)
theorem sg3_39_4 : decs jdk_42_method_149_code [(39, .astore 5, 2), (41, .aload_n 0, 1), (42, .aload 5, 2), (44, .iload_n 3, 1)] := ⟨d3_39, d3_41, d3_42, d3_44, trivial⟩
theorem d3_45 : decode jdk_42_method_149_code 45 = .ok (.invokestatic 47, 3) := by decide +kernel
theorem d7_0 : decode jdk_52_method_15_code 0 = .ok (.iload_n 1, 1) := by decide +kernel
theorem d7_1 : decode jdk_52_method_15_code 1 = .ok (.aload_n 0, 1) := by decide +kernel
theorem sg7_0_2 : decs jdk_52_method_15_code [(0, .iload_n 1, 1), (1, .aload_n 0, 1)] := ⟨d7_0, d7_1, trivial⟩
theorem d7_2 : decode jdk_52_method_15_code 2 = .ok (.arraylength, 1) := by decide +kernel
theorem d7_3 : decode jdk_52_method_15_code 3 = .ok (.isub, 1) := by decide +kernel
theorem d7_4 : decode jdk_52_method_15_code 4 = .ok (.bipush 31, 2) := by decide +kernel
theorem d7_6 : decode jdk_52_method_15_code 6 = .ok (.iushr, 1) := by decide +kernel
theorem d7_7 : decode jdk_52_method_15_code 7 = .ok (.i2b, 1) := by decide +kernel
theorem sg7_3_4 : decs jdk_52_method_15_code [(3, .isub, 1), (4, .bipush 31, 2), (6, .iushr, 1), (7, .i2b, 1)] := ⟨d7_3, d7_4, d7_6, d7_7, trivial⟩
theorem d7_8 : decode jdk_52_method_15_code 8 = .ok (.ireturn, 1) := by decide +kernel
theorem ef_rm7_0 (m : MethodId) (x0 : Addr) (x1 : Int32) : entryFrame m #[(.ref x0), (.int x1)] 2 = mkF m 0 #[.val (.ref x0), .val (.int x1)] [] := by first | (simp [entryFrame, mkF, argsToLocals, Value.category]; done) | rfl
theorem own_w29 {Z : State} {a0 : Array Value} (hw : HW a0 Z) : (Cond.code ⟨"java/lang/StringUTF16", "coderFromArrayLen", "([BI)B"⟩ jdk_52_method_15_code 2 (Option.some Jvm.ClassFile.FieldType.byte)).before a0 Z = true := hw _ (List.mem_of_getElem? (i := 29) rfl)
theorem own_pd2 : parseMethodDescriptor "([BI)B" = some ⟨[(.array .byte), .int], some .byte⟩ := by decide +kernel
theorem own_w28 {Z : State} {a0 : Array Value} (hw : HW a0 Z) : (Cond.static ⟨"java/lang/StringUTF16", "coderFromArrayLen", "([BI)B"⟩).before a0 Z = true := hw _ (List.mem_of_getElem? (i := 28) rfl)
theorem d3_48 : decode jdk_42_method_149_code 48 = .ok (.putfield 15, 3) := by decide +kernel
theorem own_w30 {Z : State} {a0 : Array Value} (hw : HW a0 Z) : (Cond.fieldLink "java/lang/String" 15 "java/lang/String" "coder" "B").before a0 Z = true := hw _ (List.mem_of_getElem? (i := 30) rfl)
theorem d3_51 : decode jdk_42_method_149_code 51 = .ok (.aload_n 0, 1) := by decide +kernel
theorem d3_52 : decode jdk_42_method_149_code 52 = .ok (.aload 5, 2) := by decide +kernel
theorem sg3_51_2 : decs jdk_42_method_149_code [(51, .aload_n 0, 1), (52, .aload 5, 2)] := ⟨d3_51, d3_52, trivial⟩
theorem d3_54 : decode jdk_42_method_149_code 54 = .ok (.putfield 9, 3) := by decide +kernel
theorem own_w32 {Z : State} {a0 : Array Value} (hw : HW a0 Z) : (Cond.fieldLink "java/lang/String" 9 "java/lang/String" "value" "[B").before a0 Z = true := hw _ (List.mem_of_getElem? (i := 32) rfl)
theorem d3_57 : decode jdk_42_method_149_code 57 = .ok (.return_, 1) := by decide +kernel
theorem ef_rm3_0 (m : MethodId) (x0 : Addr) (x1 : Addr) (x2 : Int32) (x3 : Int32) : entryFrame m #[(.ref x0), (.ref x1), (.int x2), (.int x3), .null] 6 = mkF m 0 #[.val (.ref x0), .val (.ref x1), .val (.int x2), .val (.int x3), .val .null, .unset] [] := by first | (simp [entryFrame, mkF, argsToLocals, Value.category]; done) | rfl
theorem own_pn1 : plainName "java/lang/String" = true := by first | (simp [plainName, overriddenIn]; done) | decide +kernel
theorem own_w14 {Z : State} {a0 : Array Value} (hw : HW a0 Z) : (Cond.code ⟨"java/lang/String", "<init>", "([CIILjava/lang/Void;)V"⟩ jdk_42_method_149_code 6 (Option.none : Option Jvm.ClassFile.FieldType)).before a0 Z = true := hw _ (List.mem_of_getElem? (i := 14) rfl)
theorem own_pd3 : parseMethodDescriptor "([CIILjava/lang/Void;)V" = some ⟨[(.array .char), .int, .int, (.object "java/lang/Void")], none⟩ := by decide +kernel
theorem own_w12 {Z : State} {a0 : Array Value} (hw : HW a0 Z) : (Cond.instanceMethod ⟨"java/lang/String", "<init>", "([CIILjava/lang/Void;)V"⟩).before a0 Z = true := hw _ (List.mem_of_getElem? (i := 12) rfl)
theorem d2_9 : decode jdk_42_method_3_code 9 = .ok (.return_, 1) := by decide +kernel
theorem ef_rm2_0 (m : MethodId) (x0 : Addr) (x1 : Addr) : entryFrame m #[(.ref x0), (.ref x1)] 2 = mkF m 0 #[.val (.ref x0), .val (.ref x1)] [] := by first | (simp [entryFrame, mkF, argsToLocals, Value.category]; done) | rfl
theorem own_w10 {Z : State} {a0 : Array Value} (hw : HW a0 Z) : (Cond.code ⟨"java/lang/String", "<init>", "([C)V"⟩ jdk_42_method_3_code 2 (Option.none : Option Jvm.ClassFile.FieldType)).before a0 Z = true := hw _ (List.mem_of_getElem? (i := 10) rfl)
theorem own_pd4 : parseMethodDescriptor "([C)V" = some ⟨[(.array .char)], none⟩ := by decide +kernel
theorem own_w9 {Z : State} {a0 : Array Value} (hw : HW a0 Z) : (Cond.instanceMethod ⟨"java/lang/String", "<init>", "([C)V"⟩).before a0 Z = true := hw _ (List.mem_of_getElem? (i := 9) rfl)
theorem d1_36 : decode method_2_code 36 = .ok (.areturn, 1) := by decide +kernel
theorem d1_37 : decode method_2_code 37 = .ok (.iload_n 1, 1) := by decide +kernel
theorem d1_38 : decode method_2_code 38 = .ok (.iconst 2, 1) := by decide +kernel
theorem sg1_37_2 : decs method_2_code [(37, .iload_n 1, 1), (38, .iconst 2, 1)] := ⟨d1_37, d1_38, trivial⟩
theorem d1_39 : decode method_2_code 39 = .ok (.if_icmp .ne 26, 3) := by decide +kernel
theorem d1_42 : decode method_2_code 42 = .ok (.new 7, 3) := by decide +kernel
theorem d1_45 : decode method_2_code 45 = .ok (.dup, 1) := by decide +kernel
theorem d1_46 : decode method_2_code 46 = .ok (.iconst 2, 1) := by decide +kernel
theorem sg1_45_2 : decs method_2_code [(45, .dup, 1), (46, .iconst 2, 1)] := ⟨d1_45, d1_46, trivial⟩
theorem d1_47 : decode method_2_code 47 = .ok (.newarray .char, 2) := by decide +kernel
theorem d1_49 : decode method_2_code 49 = .ok (.dup, 1) := by decide +kernel
theorem d1_50 : decode method_2_code 50 = .ok (.iconst 0, 1) := by decide +kernel
theorem d1_51 : decode method_2_code 51 = .ok (.aload_n 0, 1) := by decide +kernel
theorem d1_52 : decode method_2_code 52 = .ok (.iconst 0, 1) := by decide +kernel
theorem sg1_49_4 : decs method_2_code [(49, .dup, 1), (50, .iconst 0, 1), (51, .aload_n 0, 1), (52, .iconst 0, 1)] := ⟨d1_49, d1_50, d1_51, d1_52, trivial⟩
theorem d1_53 : decode method_2_code 53 = .ok (.caload, 1) := by decide +kernel
theorem d1_54 : decode method_2_code 54 = .ok (.castore, 1) := by decide +kernel
theorem d1_55 : decode method_2_code 55 = .ok (.dup, 1) := by decide +kernel
theorem d1_56 : decode method_2_code 56 = .ok (.iconst 1, 1) := by decide +kernel
theorem d1_57 : decode method_2_code 57 = .ok (.aload_n 0, 1) := by decide +kernel
theorem d1_58 : decode method_2_code 58 = .ok (.iconst 1, 1) := by decide +kernel
theorem sg1_55_4 : decs method_2_code [(55, .dup, 1), (56, .iconst 1, 1), (57, .aload_n 0, 1), (58, .iconst 1, 1)] := ⟨d1_55, d1_56, d1_57, d1_58, trivial⟩
theorem d1_59 : decode method_2_code 59 = .ok (.caload, 1) := by decide +kernel
theorem d1_60 : decode method_2_code 60 = .ok (.castore, 1) := by decide +kernel
theorem d1_61 : decode method_2_code 61 = .ok (.invokespecial 9, 3) := by decide +kernel
theorem ef_rm6_1 (m : MethodId) (x0 : Addr) (x1 : Int32) (x2 : Addr) (x4 : Int32) : entryFrame m #[(.ref x0), (.int x1), (.ref x2), (.int x1), (.int x4)] 7 = mkF m 0 #[.val (.ref x0), .val (.int x1), .val (.ref x2), .val (.int x1), .val (.int x4), .unset, .unset] [] := by first | (simp [entryFrame, mkF, argsToLocals, Value.category]; done) | rfl
theorem ef_rm5_1 (m : MethodId) (x0 : Addr) (x1 : Int32) (x2 : Int32) : entryFrame m #[(.ref x0), (.int x1), (.int x2)] 6 = mkF m 0 #[.val (.ref x0), .val (.int x1), .val (.int x2), .unset, .unset, .unset] [] := by first | (simp [entryFrame, mkF, argsToLocals, Value.category]; done) | rfl
theorem ef_rm7_1 (m : MethodId) (x0 : Addr) (x1 : Int32) : entryFrame m #[(.ref x0), (.int x1)] 2 = mkF m 0 #[.val (.ref x0), .val (.int x1)] [] := by first | (simp [entryFrame, mkF, argsToLocals, Value.category]; done) | rfl
theorem ef_rm3_1 (m : MethodId) (x0 : Addr) (x1 : Addr) (x2 : Int32) (x3 : Int32) : entryFrame m #[(.ref x0), (.ref x1), (.int x2), (.int x3), .null] 6 = mkF m 0 #[.val (.ref x0), .val (.ref x1), .val (.int x2), .val (.int x3), .val .null, .unset] [] := by first | (simp [entryFrame, mkF, argsToLocals, Value.category]; done) | rfl
theorem ef_rm2_1 (m : MethodId) (x0 : Addr) (x1 : Addr) : entryFrame m #[(.ref x0), (.ref x1)] 2 = mkF m 0 #[.val (.ref x0), .val (.ref x1)] [] := by first | (simp [entryFrame, mkF, argsToLocals, Value.category]; done) | rfl
theorem d1_64 : decode method_2_code 64 = .ok (.areturn, 1) := by decide +kernel
theorem d1_65 : decode method_2_code 65 = .ok (.iload_n 1, 1) := by decide +kernel
theorem d1_66 : decode method_2_code 66 = .ok (.iconst 3, 1) := by decide +kernel
theorem sg1_65_2 : decs method_2_code [(65, .iload_n 1, 1), (66, .iconst 3, 1)] := ⟨d1_65, d1_66, trivial⟩
theorem d1_67 : decode method_2_code 67 = .ok (.if_icmp .ne 32, 3) := by decide +kernel
theorem d1_70 : decode method_2_code 70 = .ok (.new 7, 3) := by decide +kernel
theorem d1_73 : decode method_2_code 73 = .ok (.dup, 1) := by decide +kernel
theorem d1_74 : decode method_2_code 74 = .ok (.iconst 3, 1) := by decide +kernel
theorem sg1_73_2 : decs method_2_code [(73, .dup, 1), (74, .iconst 3, 1)] := ⟨d1_73, d1_74, trivial⟩
theorem d1_75 : decode method_2_code 75 = .ok (.newarray .char, 2) := by decide +kernel
theorem d1_77 : decode method_2_code 77 = .ok (.dup, 1) := by decide +kernel
theorem d1_78 : decode method_2_code 78 = .ok (.iconst 0, 1) := by decide +kernel
theorem d1_79 : decode method_2_code 79 = .ok (.aload_n 0, 1) := by decide +kernel
theorem d1_80 : decode method_2_code 80 = .ok (.iconst 0, 1) := by decide +kernel
theorem sg1_77_4 : decs method_2_code [(77, .dup, 1), (78, .iconst 0, 1), (79, .aload_n 0, 1), (80, .iconst 0, 1)] := ⟨d1_77, d1_78, d1_79, d1_80, trivial⟩
theorem d1_81 : decode method_2_code 81 = .ok (.caload, 1) := by decide +kernel
theorem d1_82 : decode method_2_code 82 = .ok (.castore, 1) := by decide +kernel
theorem d1_83 : decode method_2_code 83 = .ok (.dup, 1) := by decide +kernel
theorem d1_84 : decode method_2_code 84 = .ok (.iconst 1, 1) := by decide +kernel
theorem d1_85 : decode method_2_code 85 = .ok (.aload_n 0, 1) := by decide +kernel
theorem d1_86 : decode method_2_code 86 = .ok (.iconst 1, 1) := by decide +kernel
theorem sg1_83_4 : decs method_2_code [(83, .dup, 1), (84, .iconst 1, 1), (85, .aload_n 0, 1), (86, .iconst 1, 1)] := ⟨d1_83, d1_84, d1_85, d1_86, trivial⟩
theorem d1_87 : decode method_2_code 87 = .ok (.caload, 1) := by decide +kernel
theorem d1_88 : decode method_2_code 88 = .ok (.castore, 1) := by decide +kernel
theorem d1_89 : decode method_2_code 89 = .ok (.dup, 1) := by decide +kernel
theorem d1_90 : decode method_2_code 90 = .ok (.iconst 2, 1) := by decide +kernel
theorem d1_91 : decode method_2_code 91 = .ok (.aload_n 0, 1) := by decide +kernel
theorem d1_92 : decode method_2_code 92 = .ok (.iconst 2, 1) := by decide +kernel
theorem sg1_89_4 : decs method_2_code [(89, .dup, 1), (90, .iconst 2, 1), (91, .aload_n 0, 1), (92, .iconst 2, 1)] := ⟨d1_89, d1_90, d1_91, d1_92, trivial⟩
theorem d1_93 : decode method_2_code 93 = .ok (.caload, 1) := by decide +kernel
theorem d1_94 : decode method_2_code 94 = .ok (.castore, 1) := by decide +kernel
theorem d1_95 : decode method_2_code 95 = .ok (.invokespecial 9, 3) := by decide +kernel
theorem ef_rm6_2 (m : MethodId) (x0 : Addr) (x1 : Int32) (x2 : Addr) (x4 : Int32) : entryFrame m #[(.ref x0), (.int x1), (.ref x2), (.int x1), (.int x4)] 7 = mkF m 0 #[.val (.ref x0), .val (.int x1), .val (.ref x2), .val (.int x1), .val (.int x4), .unset, .unset] [] := by first | (simp [entryFrame, mkF, argsToLocals, Value.category]; done) | rfl
theorem ef_rm5_2 (m : MethodId) (x0 : Addr) (x1 : Int32) (x2 : Int32) : entryFrame m #[(.ref x0), (.int x1), (.int x2)] 6 = mkF m 0 #[.val (.ref x0), .val (.int x1), .val (.int x2), .unset, .unset, .unset] [] := by first | (simp [entryFrame, mkF, argsToLocals, Value.category]; done) | rfl
theorem ef_rm7_2 (m : MethodId) (x0 : Addr) (x1 : Int32) : entryFrame m #[(.ref x0), (.int x1)] 2 = mkF m 0 #[.val (.ref x0), .val (.int x1)] [] := by first | (simp [entryFrame, mkF, argsToLocals, Value.category]; done) | rfl
theorem ef_rm3_2 (m : MethodId) (x0 : Addr) (x1 : Addr) (x2 : Int32) (x3 : Int32) : entryFrame m #[(.ref x0), (.ref x1), (.int x2), (.int x3), .null] 6 = mkF m 0 #[.val (.ref x0), .val (.ref x1), .val (.int x2), .val (.int x3), .val .null, .unset] [] := by first | (simp [entryFrame, mkF, argsToLocals, Value.category]; done) | rfl
theorem ef_rm2_2 (m : MethodId) (x0 : Addr) (x1 : Addr) : entryFrame m #[(.ref x0), (.ref x1)] 2 = mkF m 0 #[.val (.ref x0), .val (.ref x1)] [] := by first | (simp [entryFrame, mkF, argsToLocals, Value.category]; done) | rfl
theorem d1_98 : decode method_2_code 98 = .ok (.areturn, 1) := by decide +kernel
theorem d1_99 : decode method_2_code 99 = .ok (.iload_n 1, 1) := by decide +kernel
theorem d1_100 : decode method_2_code 100 = .ok (.iconst 4, 1) := by decide +kernel
theorem sg1_99_2 : decs method_2_code [(99, .iload_n 1, 1), (100, .iconst 4, 1)] := ⟨d1_99, d1_100, trivial⟩
theorem d1_101 : decode method_2_code 101 = .ok (.if_icmp .ne 38, 3) := by decide +kernel
theorem d1_104 : decode method_2_code 104 = .ok (.new 7, 3) := by decide +kernel
theorem d1_107 : decode method_2_code 107 = .ok (.dup, 1) := by decide +kernel
theorem d1_108 : decode method_2_code 108 = .ok (.iconst 4, 1) := by decide +kernel
theorem sg1_107_2 : decs method_2_code [(107, .dup, 1), (108, .iconst 4, 1)] := ⟨d1_107, d1_108, trivial⟩
theorem d1_109 : decode method_2_code 109 = .ok (.newarray .char, 2) := by decide +kernel
theorem d1_111 : decode method_2_code 111 = .ok (.dup, 1) := by decide +kernel
theorem d1_112 : decode method_2_code 112 = .ok (.iconst 0, 1) := by decide +kernel
theorem d1_113 : decode method_2_code 113 = .ok (.aload_n 0, 1) := by decide +kernel
theorem d1_114 : decode method_2_code 114 = .ok (.iconst 0, 1) := by decide +kernel
theorem sg1_111_4 : decs method_2_code [(111, .dup, 1), (112, .iconst 0, 1), (113, .aload_n 0, 1), (114, .iconst 0, 1)] := ⟨d1_111, d1_112, d1_113, d1_114, trivial⟩
theorem d1_115 : decode method_2_code 115 = .ok (.caload, 1) := by decide +kernel
theorem d1_116 : decode method_2_code 116 = .ok (.castore, 1) := by decide +kernel
theorem d1_117 : decode method_2_code 117 = .ok (.dup, 1) := by decide +kernel
theorem d1_118 : decode method_2_code 118 = .ok (.iconst 1, 1) := by decide +kernel
theorem d1_119 : decode method_2_code 119 = .ok (.aload_n 0, 1) := by decide +kernel
theorem d1_120 : decode method_2_code 120 = .ok (.iconst 1, 1) := by decide +kernel
theorem sg1_117_4 : decs method_2_code [(117, .dup, 1), (118, .iconst 1, 1), (119, .aload_n 0, 1), (120, .iconst 1, 1)] := ⟨d1_117, d1_118, d1_119, d1_120, trivial⟩
theorem d1_121 : decode method_2_code 121 = .ok (.caload, 1) := by decide +kernel
theorem d1_122 : decode method_2_code 122 = .ok (.castore, 1) := by decide +kernel
theorem d1_123 : decode method_2_code 123 = .ok (.dup, 1) := by decide +kernel
theorem d1_124 : decode method_2_code 124 = .ok (.iconst 2, 1) := by decide +kernel
theorem d1_125 : decode method_2_code 125 = .ok (.aload_n 0, 1) := by decide +kernel
theorem d1_126 : decode method_2_code 126 = .ok (.iconst 2, 1) := by decide +kernel
theorem sg1_123_4 : decs method_2_code [(123, .dup, 1), (124, .iconst 2, 1), (125, .aload_n 0, 1), (126, .iconst 2, 1)] := ⟨d1_123, d1_124, d1_125, d1_126, trivial⟩
theorem d1_127 : decode method_2_code 127 = .ok (.caload, 1) := by decide +kernel
theorem d1_128 : decode method_2_code 128 = .ok (.castore, 1) := by decide +kernel
theorem d1_129 : decode method_2_code 129 = .ok (.dup, 1) := by decide +kernel
theorem d1_130 : decode method_2_code 130 = .ok (.iconst 3, 1) := by decide +kernel
theorem d1_131 : decode method_2_code 131 = .ok (.aload_n 0, 1) := by decide +kernel
theorem d1_132 : decode method_2_code 132 = .ok (.iconst 3, 1) := by decide +kernel
theorem sg1_129_4 : decs method_2_code [(129, .dup, 1), (130, .iconst 3, 1), (131, .aload_n 0, 1), (132, .iconst 3, 1)] := ⟨d1_129, d1_130, d1_131, d1_132, trivial⟩
theorem d1_133 : decode method_2_code 133 = .ok (.caload, 1) := by decide +kernel
theorem d1_134 : decode method_2_code 134 = .ok (.castore, 1) := by decide +kernel
theorem d1_135 : decode method_2_code 135 = .ok (.invokespecial 9, 3) := by decide +kernel
theorem ef_rm6_3 (m : MethodId) (x0 : Addr) (x1 : Int32) (x2 : Addr) (x4 : Int32) : entryFrame m #[(.ref x0), (.int x1), (.ref x2), (.int x1), (.int x4)] 7 = mkF m 0 #[.val (.ref x0), .val (.int x1), .val (.ref x2), .val (.int x1), .val (.int x4), .unset, .unset] [] := by first | (simp [entryFrame, mkF, argsToLocals, Value.category]; done) | rfl
theorem ef_rm5_3 (m : MethodId) (x0 : Addr) (x1 : Int32) (x2 : Int32) : entryFrame m #[(.ref x0), (.int x1), (.int x2)] 6 = mkF m 0 #[.val (.ref x0), .val (.int x1), .val (.int x2), .unset, .unset, .unset] [] := by first | (simp [entryFrame, mkF, argsToLocals, Value.category]; done) | rfl
theorem ef_rm7_3 (m : MethodId) (x0 : Addr) (x1 : Int32) : entryFrame m #[(.ref x0), (.int x1)] 2 = mkF m 0 #[.val (.ref x0), .val (.int x1)] [] := by first | (simp [entryFrame, mkF, argsToLocals, Value.category]; done) | rfl
theorem ef_rm3_3 (m : MethodId) (x0 : Addr) (x1 : Addr) (x2 : Int32) (x3 : Int32) : entryFrame m #[(.ref x0), (.ref x1), (.int x2), (.int x3), .null] 6 = mkF m 0 #[.val (.ref x0), .val (.ref x1), .val (.int x2), .val (.int x3), .val .null, .unset] [] := by first | (simp [entryFrame, mkF, argsToLocals, Value.category]; done) | rfl
theorem ef_rm2_3 (m : MethodId) (x0 : Addr) (x1 : Addr) : entryFrame m #[(.ref x0), (.ref x1)] 2 = mkF m 0 #[.val (.ref x0), .val (.ref x1)] [] := by first | (simp [entryFrame, mkF, argsToLocals, Value.category]; done) | rfl
theorem d1_138 : decode method_2_code 138 = .ok (.areturn, 1) := by decide +kernel
theorem d1_139 : decode method_2_code 139 = .ok (.iload_n 1, 1) := by decide +kernel
theorem d1_140 : decode method_2_code 140 = .ok (.iconst 5, 1) := by decide +kernel
theorem sg1_139_2 : decs method_2_code [(139, .iload_n 1, 1), (140, .iconst 5, 1)] := ⟨d1_139, d1_140, trivial⟩
theorem d1_141 : decode method_2_code 141 = .ok (.if_icmp .ne 44, 3) := by decide +kernel
theorem d1_144 : decode method_2_code 144 = .ok (.new 7, 3) := by decide +kernel
theorem d1_147 : decode method_2_code 147 = .ok (.dup, 1) := by decide +kernel
theorem d1_148 : decode method_2_code 148 = .ok (.iconst 5, 1) := by decide +kernel
theorem sg1_147_2 : decs method_2_code [(147, .dup, 1), (148, .iconst 5, 1)] := ⟨d1_147, d1_148, trivial⟩
theorem d1_149 : decode method_2_code 149 = .ok (.newarray .char, 2) := by decide +kernel
theorem d1_151 : decode method_2_code 151 = .ok (.dup, 1) := by decide +kernel
theorem d1_152 : decode method_2_code 152 = .ok (.iconst 0, 1) := by decide +kernel
theorem d1_153 : decode method_2_code 153 = .ok (.aload_n 0, 1) := by decide +kernel
theorem d1_154 : decode method_2_code 154 = .ok (.iconst 0, 1) := by decide +kernel
theorem sg1_151_4 : decs method_2_code [(151, .dup, 1), (152, .iconst 0, 1), (153, .aload_n 0, 1), (154, .iconst 0, 1)] := ⟨d1_151, d1_152, d1_153, d1_154, trivial⟩
theorem d1_155 : decode method_2_code 155 = .ok (.caload, 1) := by decide +kernel
theorem d1_156 : decode method_2_code 156 = .ok (.castore, 1) := by decide +kernel
theorem d1_157 : decode method_2_code 157 = .ok (.dup, 1) := by decide +kernel
theorem d1_158 : decode method_2_code 158 = .ok (.iconst 1, 1) := by decide +kernel
theorem d1_159 : decode method_2_code 159 = .ok (.aload_n 0, 1) := by decide +kernel
theorem d1_160 : decode method_2_code 160 = .ok (.iconst 1, 1) := by decide +kernel
theorem sg1_157_4 : decs method_2_code [(157, .dup, 1), (158, .iconst 1, 1), (159, .aload_n 0, 1), (160, .iconst 1, 1)] := ⟨d1_157, d1_158, d1_159, d1_160, trivial⟩
theorem d1_161 : decode method_2_code 161 = .ok (.caload, 1) := by decide +kernel
theorem d1_162 : decode method_2_code 162 = .ok (.castore, 1) := by decide +kernel
theorem d1_163 : decode method_2_code 163 = .ok (.dup, 1) := by decide +kernel
theorem d1_164 : decode method_2_code 164 = .ok (.iconst 2, 1) := by decide +kernel
theorem d1_165 : decode method_2_code 165 = .ok (.aload_n 0, 1) := by decide +kernel
theorem d1_166 : decode method_2_code 166 = .ok (.iconst 2, 1) := by decide +kernel
theorem sg1_163_4 : decs method_2_code [(163, .dup, 1), (164, .iconst 2, 1), (165, .aload_n 0, 1), (166, .iconst 2, 1)] := ⟨d1_163, d1_164, d1_165, d1_166, trivial⟩
theorem d1_167 : decode method_2_code 167 = .ok (.caload, 1) := by decide +kernel
theorem d1_168 : decode method_2_code 168 = .ok (.castore, 1) := by decide +kernel
theorem d1_169 : decode method_2_code 169 = .ok (.dup, 1) := by decide +kernel
theorem d1_170 : decode method_2_code 170 = .ok (.iconst 3, 1) := by decide +kernel
theorem d1_171 : decode method_2_code 171 = .ok (.aload_n 0, 1) := by decide +kernel
theorem d1_172 : decode method_2_code 172 = .ok (.iconst 3, 1) := by decide +kernel
theorem sg1_169_4 : decs method_2_code [(169, .dup, 1), (170, .iconst 3, 1), (171, .aload_n 0, 1), (172, .iconst 3, 1)] := ⟨d1_169, d1_170, d1_171, d1_172, trivial⟩
theorem d1_173 : decode method_2_code 173 = .ok (.caload, 1) := by decide +kernel
theorem d1_174 : decode method_2_code 174 = .ok (.castore, 1) := by decide +kernel
theorem d1_175 : decode method_2_code 175 = .ok (.dup, 1) := by decide +kernel
theorem d1_176 : decode method_2_code 176 = .ok (.iconst 4, 1) := by decide +kernel
theorem d1_177 : decode method_2_code 177 = .ok (.aload_n 0, 1) := by decide +kernel
theorem d1_178 : decode method_2_code 178 = .ok (.iconst 4, 1) := by decide +kernel
theorem sg1_175_4 : decs method_2_code [(175, .dup, 1), (176, .iconst 4, 1), (177, .aload_n 0, 1), (178, .iconst 4, 1)] := ⟨d1_175, d1_176, d1_177, d1_178, trivial⟩
theorem d1_179 : decode method_2_code 179 = .ok (.caload, 1) := by decide +kernel
theorem d1_180 : decode method_2_code 180 = .ok (.castore, 1) := by decide +kernel
theorem d1_181 : decode method_2_code 181 = .ok (.invokespecial 9, 3) := by decide +kernel
theorem ef_rm6_4 (m : MethodId) (x0 : Addr) (x1 : Int32) (x2 : Addr) (x4 : Int32) : entryFrame m #[(.ref x0), (.int x1), (.ref x2), (.int x1), (.int x4)] 7 = mkF m 0 #[.val (.ref x0), .val (.int x1), .val (.ref x2), .val (.int x1), .val (.int x4), .unset, .unset] [] := by first | (simp [entryFrame, mkF, argsToLocals, Value.category]; done) | rfl
theorem ef_rm5_4 (m : MethodId) (x0 : Addr) (x1 : Int32) (x2 : Int32) : entryFrame m #[(.ref x0), (.int x1), (.int x2)] 6 = mkF m 0 #[.val (.ref x0), .val (.int x1), .val (.int x2), .unset, .unset, .unset] [] := by first | (simp [entryFrame, mkF, argsToLocals, Value.category]; done) | rfl
theorem ef_rm7_4 (m : MethodId) (x0 : Addr) (x1 : Int32) : entryFrame m #[(.ref x0), (.int x1)] 2 = mkF m 0 #[.val (.ref x0), .val (.int x1)] [] := by first | (simp [entryFrame, mkF, argsToLocals, Value.category]; done) | rfl
theorem ef_rm3_4 (m : MethodId) (x0 : Addr) (x1 : Addr) (x2 : Int32) (x3 : Int32) : entryFrame m #[(.ref x0), (.ref x1), (.int x2), (.int x3), .null] 6 = mkF m 0 #[.val (.ref x0), .val (.ref x1), .val (.int x2), .val (.int x3), .val .null, .unset] [] := by first | (simp [entryFrame, mkF, argsToLocals, Value.category]; done) | rfl
theorem ef_rm2_4 (m : MethodId) (x0 : Addr) (x1 : Addr) : entryFrame m #[(.ref x0), (.ref x1)] 2 = mkF m 0 #[.val (.ref x0), .val (.ref x1)] [] := by first | (simp [entryFrame, mkF, argsToLocals, Value.category]; done) | rfl
theorem d1_184 : decode method_2_code 184 = .ok (.areturn, 1) := by decide +kernel
theorem d1_185 : decode method_2_code 185 = .ok (.iload_n 1, 1) := by decide +kernel
theorem d1_186 : decode method_2_code 186 = .ok (.bipush 6, 2) := by decide +kernel
theorem sg1_185_2 : decs method_2_code [(185, .iload_n 1, 1), (186, .bipush 6, 2)] := ⟨d1_185, d1_186, trivial⟩
theorem d1_188 : decode method_2_code 188 = .ok (.if_icmp .ne 51, 3) := by decide +kernel
theorem d1_191 : decode method_2_code 191 = .ok (.new 7, 3) := by decide +kernel
theorem d1_194 : decode method_2_code 194 = .ok (.dup, 1) := by decide +kernel
theorem d1_195 : decode method_2_code 195 = .ok (.bipush 6, 2) := by decide +kernel
theorem sg1_194_2 : decs method_2_code [(194, .dup, 1), (195, .bipush 6, 2)] := ⟨d1_194, d1_195, trivial⟩
theorem d1_197 : decode method_2_code 197 = .ok (.newarray .char, 2) := by decide +kernel
theorem d1_199 : decode method_2_code 199 = .ok (.dup, 1) := by decide +kernel
theorem d1_200 : decode method_2_code 200 = .ok (.iconst 0, 1) := by decide +kernel
theorem d1_201 : decode method_2_code 201 = .ok (.aload_n 0, 1) := by decide +kernel
theorem d1_202 : decode method_2_code 202 = .ok (.iconst 0, 1) := by decide +kernel
theorem sg1_199_4 : decs method_2_code [(199, .dup, 1), (200, .iconst 0, 1), (201, .aload_n 0, 1), (202, .iconst 0, 1)] := ⟨d1_199, d1_200, d1_201, d1_202, trivial⟩
theorem d1_203 : decode method_2_code 203 = .ok (.caload, 1) := by decide +kernel
theorem d1_204 : decode method_2_code 204 = .ok (.castore, 1) := by decide +kernel
theorem d1_205 : decode method_2_code 205 = .ok (.dup, 1) := by decide +kernel
theorem d1_206 : decode method_2_code 206 = .ok (.iconst 1, 1) := by decide +kernel
theorem d1_207 : decode method_2_code 207 = .ok (.aload_n 0, 1) := by decide +kernel
theorem d1_208 : decode method_2_code 208 = .ok (.iconst 1, 1) := by decide +kernel
theorem sg1_205_4 : decs method_2_code [(205, .dup, 1), (206, .iconst 1, 1), (207, .aload_n 0, 1), (208, .iconst 1, 1)] := ⟨d1_205, d1_206, d1_207, d1_208, trivial⟩
theorem d1_209 : decode method_2_code 209 = .ok (.caload, 1) := by decide +kernel
theorem d1_210 : decode method_2_code 210 = .ok (.castore, 1) := by decide +kernel
theorem d1_211 : decode method_2_code 211 = .ok (.dup, 1) := by decide +kernel
theorem d1_212 : decode method_2_code 212 = .ok (.iconst 2, 1) := by decide +kernel
theorem d1_213 : decode method_2_code 213 = .ok (.aload_n 0, 1) := by decide +kernel
theorem d1_214 : decode method_2_code 214 = .ok (.iconst 2, 1) := by decide +kernel
theorem sg1_211_4 : decs method_2_code [(211, .dup, 1), (212, .iconst 2, 1), (213, .aload_n 0, 1), (214, .iconst 2, 1)] := ⟨d1_211, d1_212, d1_213, d1_214, trivial⟩
theorem d1_215 : decode method_2_code 215 = .ok (.caload, 1) := by decide +kernel
theorem d1_216 : decode method_2_code 216 = .ok (.castore, 1) := by decide +kernel
theorem d1_217 : decode method_2_code 217 = .ok (.dup, 1) := by decide +kernel
theorem d1_218 : decode method_2_code 218 = .ok (.iconst 3, 1) := by decide +kernel
theorem d1_219 : decode method_2_code 219 = .ok (.aload_n 0, 1) := by decide +kernel
theorem d1_220 : decode method_2_code 220 = .ok (.iconst 3, 1) := by decide +kernel
theorem sg1_217_4 : decs method_2_code [(217, .dup, 1), (218, .iconst 3, 1), (219, .aload_n 0, 1), (220, .iconst 3, 1)] := ⟨d1_217, d1_218, d1_219, d1_220, trivial⟩
theorem d1_221 : decode method_2_code 221 = .ok (.caload, 1) := by decide +kernel
theorem d1_222 : decode method_2_code 222 = .ok (.castore, 1) := by decide +kernel
theorem d1_223 : decode method_2_code 223 = .ok (.dup, 1) := by decide +kernel
theorem d1_224 : decode method_2_code 224 = .ok (.iconst 4, 1) := by decide +kernel
theorem d1_225 : decode method_2_code 225 = .ok (.aload_n 0, 1) := by decide +kernel
theorem d1_226 : decode method_2_code 226 = .ok (.iconst 4, 1) := by decide +kernel
theorem sg1_223_4 : decs method_2_code [(223, .dup, 1), (224, .iconst 4, 1), (225, .aload_n 0, 1), (226, .iconst 4, 1)] := ⟨d1_223, d1_224, d1_225, d1_226, trivial⟩
theorem d1_227 : decode method_2_code 227 = .ok (.caload, 1) := by decide +kernel
theorem d1_228 : decode method_2_code 228 = .ok (.castore, 1) := by decide +kernel
theorem d1_229 : decode method_2_code 229 = .ok (.dup, 1) := by decide +kernel
theorem d1_230 : decode method_2_code 230 = .ok (.iconst 5, 1) := by decide +kernel
theorem d1_231 : decode method_2_code 231 = .ok (.aload_n 0, 1) := by decide +kernel
theorem d1_232 : decode method_2_code 232 = .ok (.iconst 5, 1) := by decide +kernel
theorem sg1_229_4 : decs method_2_code [(229, .dup, 1), (230, .iconst 5, 1), (231, .aload_n 0, 1), (232, .iconst 5, 1)] := ⟨d1_229, d1_230, d1_231, d1_232, trivial⟩
theorem d1_233 : decode method_2_code 233 = .ok (.caload, 1) := by decide +kernel
theorem d1_234 : decode method_2_code 234 = .ok (.castore, 1) := by decide +kernel
theorem d1_235 : decode method_2_code 235 = .ok (.invokespecial 9, 3) := by decide +kernel
theorem ef_rm6_5 (m : MethodId) (x0 : Addr) (x1 : Int32) (x2 : Addr) (x4 : Int32) : entryFrame m #[(.ref x0), (.int x1), (.ref x2), (.int x1), (.int x4)] 7 = mkF m 0 #[.val (.ref x0), .val (.int x1), .val (.ref x2), .val (.int x1), .val (.int x4), .unset, .unset] [] := by first | (simp [entryFrame, mkF, argsToLocals, Value.category]; done) | rfl
theorem ef_rm5_5 (m : MethodId) (x0 : Addr) (x1 : Int32) (x2 : Int32) : entryFrame m #[(.ref x0), (.int x1), (.int x2)] 6 = mkF m 0 #[.val (.ref x0), .val (.int x1), .val (.int x2), .unset, .unset, .unset] [] := by first | (simp [entryFrame, mkF, argsToLocals, Value.category]; done) | rfl
theorem ef_rm7_5 (m : MethodId) (x0 : Addr) (x1 : Int32) : entryFrame m #[(.ref x0), (.int x1)] 2 = mkF m 0 #[.val (.ref x0), .val (.int x1)] [] := by first | (simp [entryFrame, mkF, argsToLocals, Value.category]; done) | rfl
theorem ef_rm3_5 (m : MethodId) (x0 : Addr) (x1 : Addr) (x2 : Int32) (x3 : Int32) : entryFrame m #[(.ref x0), (.ref x1), (.int x2), (.int x3), .null] 6 = mkF m 0 #[.val (.ref x0), .val (.ref x1), .val (.int x2), .val (.int x3), .val .null, .unset] [] := by first | (simp [entryFrame, mkF, argsToLocals, Value.category]; done) | rfl
theorem ef_rm2_5 (m : MethodId) (x0 : Addr) (x1 : Addr) : entryFrame m #[(.ref x0), (.ref x1)] 2 = mkF m 0 #[.val (.ref x0), .val (.ref x1)] [] := by first | (simp [entryFrame, mkF, argsToLocals, Value.category]; done) | rfl
theorem d1_238 : decode method_2_code 238 = .ok (.areturn, 1) := by decide +kernel
theorem d1_239 : decode method_2_code 239 = .ok (.iload_n 1, 1) := by decide +kernel
theorem d1_240 : decode method_2_code 240 = .ok (.bipush 7, 2) := by decide +kernel
theorem sg1_239_2 : decs method_2_code [(239, .iload_n 1, 1), (240, .bipush 7, 2)] := ⟨d1_239, d1_240, trivial⟩
theorem d1_242 : decode method_2_code 242 = .ok (.if_icmp .ne 59, 3) := by decide +kernel
theorem d1_245 : decode method_2_code 245 = .ok (.new 7, 3) := by decide +kernel
theorem d1_248 : decode method_2_code 248 = .ok (.dup, 1) := by decide +kernel
theorem d1_249 : decode method_2_code 249 = .ok (.bipush 7, 2) := by decide +kernel
theorem sg1_248_2 : decs method_2_code [(248, .dup, 1), (249, .bipush 7, 2)] := ⟨d1_248, d1_249, trivial⟩
theorem d1_251 : decode method_2_code 251 = .ok (.newarray .char, 2) := by decide +kernel
theorem d1_253 : decode method_2_code 253 = .ok (.dup, 1) := by decide +kernel
theorem d1_254 : decode method_2_code 254 = .ok (.iconst 0, 1) := by decide +kernel
theorem d1_255 : decode method_2_code 255 = .ok (.aload_n 0, 1) := by decide +kernel
theorem d1_256 : decode method_2_code 256 = .ok (.iconst 0, 1) := by decide +kernel
theorem sg1_253_4 : decs method_2_code [(253, .dup, 1), (254, .iconst 0, 1), (255, .aload_n 0, 1), (256, .iconst 0, 1)] := ⟨d1_253, d1_254, d1_255, d1_256, trivial⟩
theorem d1_257 : decode method_2_code 257 = .ok (.caload, 1) := by decide +kernel
theorem d1_258 : decode method_2_code 258 = .ok (.castore, 1) := by decide +kernel
theorem d1_259 : decode method_2_code 259 = .ok (.dup, 1) := by decide +kernel
theorem d1_260 : decode method_2_code 260 = .ok (.iconst 1, 1) := by decide +kernel
theorem d1_261 : decode method_2_code 261 = .ok (.aload_n 0, 1) := by decide +kernel
theorem d1_262 : decode method_2_code 262 = .ok (.iconst 1, 1) := by decide +kernel
theorem sg1_259_4 : decs method_2_code [(259, .dup, 1), (260, .iconst 1, 1), (261, .aload_n 0, 1), (262, .iconst 1, 1)] := ⟨d1_259, d1_260, d1_261, d1_262, trivial⟩
theorem d1_263 : decode method_2_code 263 = .ok (.caload, 1) := by decide +kernel
theorem d1_264 : decode method_2_code 264 = .ok (.castore, 1) := by decide +kernel
theorem d1_265 : decode method_2_code 265 = .ok (.dup, 1) := by decide +kernel
theorem d1_266 : decode method_2_code 266 = .ok (.iconst 2, 1) := by decide +kernel
theorem d1_267 : decode method_2_code 267 = .ok (.aload_n 0, 1) := by decide +kernel
theorem d1_268 : decode method_2_code 268 = .ok (.iconst 2, 1) := by decide +kernel
theorem sg1_265_4 : decs method_2_code [(265, .dup, 1), (266, .iconst 2, 1), (267, .aload_n 0, 1), (268, .iconst 2, 1)] := ⟨d1_265, d1_266, d1_267, d1_268, trivial⟩
theorem d1_269 : decode method_2_code 269 = .ok (.caload, 1) := by decide +kernel
theorem d1_270 : decode method_2_code 270 = .ok (.castore, 1) := by decide +kernel
theorem d1_271 : decode method_2_code 271 = .ok (.dup, 1) := by decide +kernel
theorem d1_272 : decode method_2_code 272 = .ok (.iconst 3, 1) := by decide +kernel
theorem d1_273 : decode method_2_code 273 = .ok (.aload_n 0, 1) := by decide +kernel
theorem d1_274 : decode method_2_code 274 = .ok (.iconst 3, 1) := by decide +kernel
theorem sg1_271_4 : decs method_2_code [(271, .dup, 1), (272, .iconst 3, 1), (273, .aload_n 0, 1), (274, .iconst 3, 1)] := ⟨d1_271, d1_272, d1_273, d1_274, trivial⟩
theorem d1_275 : decode method_2_code 275 = .ok (.caload, 1) := by decide +kernel
theorem d1_276 : decode method_2_code 276 = .ok (.castore, 1) := by decide +kernel
theorem d1_277 : decode method_2_code 277 = .ok (.dup, 1) := by decide +kernel
theorem d1_278 : decode method_2_code 278 = .ok (.iconst 4, 1) := by decide +kernel
theorem d1_279 : decode method_2_code 279 = .ok (.aload_n 0, 1) := by decide +kernel
theorem d1_280 : decode method_2_code 280 = .ok (.iconst 4, 1) := by decide +kernel
theorem sg1_277_4 : decs method_2_code [(277, .dup, 1), (278, .iconst 4, 1), (279, .aload_n 0, 1), (280, .iconst 4, 1)] := ⟨d1_277, d1_278, d1_279, d1_280, trivial⟩
theorem d1_281 : decode method_2_code 281 = .ok (.caload, 1) := by decide +kernel
theorem d1_282 : decode method_2_code 282 = .ok (.castore, 1) := by decide +kernel
theorem d1_283 : decode method_2_code 283 = .ok (.dup, 1) := by decide +kernel
theorem d1_284 : decode method_2_code 284 = .ok (.iconst 5, 1) := by decide +kernel
theorem d1_285 : decode method_2_code 285 = .ok (.aload_n 0, 1) := by decide +kernel
theorem d1_286 : decode method_2_code 286 = .ok (.iconst 5, 1) := by decide +kernel
theorem sg1_283_4 : decs method_2_code [(283, .dup, 1), (284, .iconst 5, 1), (285, .aload_n 0, 1), (286, .iconst 5, 1)] := ⟨d1_283, d1_284, d1_285, d1_286, trivial⟩
theorem d1_287 : decode method_2_code 287 = .ok (.caload, 1) := by decide +kernel
theorem d1_288 : decode method_2_code 288 = .ok (.castore, 1) := by decide +kernel
theorem d1_289 : decode method_2_code 289 = .ok (.dup, 1) := by decide +kernel
theorem d1_290 : decode method_2_code 290 = .ok (.bipush 6, 2) := by decide +kernel
theorem d1_292 : decode method_2_code 292 = .ok (.aload_n 0, 1) := by decide +kernel
theorem d1_293 : decode method_2_code 293 = .ok (.bipush 6, 2) := by decide +kernel
theorem sg1_289_4 : decs method_2_code [(289, .dup, 1), (290, .bipush 6, 2), (292, .aload_n 0, 1), (293, .bipush 6, 2)] := ⟨d1_289, d1_290, d1_292, d1_293, trivial⟩
theorem d1_295 : decode method_2_code 295 = .ok (.caload, 1) := by decide +kernel
theorem d1_296 : decode method_2_code 296 = .ok (.castore, 1) := by decide +kernel
theorem d1_297 : decode method_2_code 297 = .ok (.invokespecial 9, 3) := by decide +kernel
theorem ef_rm6_6 (m : MethodId) (x0 : Addr) (x1 : Int32) (x2 : Addr) (x4 : Int32) : entryFrame m #[(.ref x0), (.int x1), (.ref x2), (.int x1), (.int x4)] 7 = mkF m 0 #[.val (.ref x0), .val (.int x1), .val (.ref x2), .val (.int x1), .val (.int x4), .unset, .unset] [] := by first | (simp [entryFrame, mkF, argsToLocals, Value.category]; done) | rfl
theorem ef_rm5_6 (m : MethodId) (x0 : Addr) (x1 : Int32) (x2 : Int32) : entryFrame m #[(.ref x0), (.int x1), (.int x2)] 6 = mkF m 0 #[.val (.ref x0), .val (.int x1), .val (.int x2), .unset, .unset, .unset] [] := by first | (simp [entryFrame, mkF, argsToLocals, Value.category]; done) | rfl
theorem ef_rm7_6 (m : MethodId) (x0 : Addr) (x1 : Int32) : entryFrame m #[(.ref x0), (.int x1)] 2 = mkF m 0 #[.val (.ref x0), .val (.int x1)] [] := by first | (simp [entryFrame, mkF, argsToLocals, Value.category]; done) | rfl
theorem ef_rm3_6 (m : MethodId) (x0 : Addr) (x1 : Addr) (x2 : Int32) (x3 : Int32) : entryFrame m #[(.ref x0), (.ref x1), (.int x2), (.int x3), .null] 6 = mkF m 0 #[.val (.ref x0), .val (.ref x1), .val (.int x2), .val (.int x3), .val .null, .unset] [] := by first | (simp [entryFrame, mkF, argsToLocals, Value.category]; done) | rfl
theorem ef_rm2_6 (m : MethodId) (x0 : Addr) (x1 : Addr) : entryFrame m #[(.ref x0), (.ref x1)] 2 = mkF m 0 #[.val (.ref x0), .val (.ref x1)] [] := by first | (simp [entryFrame, mkF, argsToLocals, Value.category]; done) | rfl
theorem d1_300 : decode method_2_code 300 = .ok (.areturn, 1) := by decide +kernel
theorem d1_301 : decode method_2_code 301 = .ok (.new 7, 3) := by decide +kernel
theorem d1_304 : decode method_2_code 304 = .ok (.dup, 1) := by decide +kernel
theorem d1_305 : decode method_2_code 305 = .ok (.bipush 8, 2) := by decide +kernel
theorem sg1_304_2 : decs method_2_code [(304, .dup, 1), (305, .bipush 8, 2)] := ⟨d1_304, d1_305, trivial⟩
theorem d1_307 : decode method_2_code 307 = .ok (.newarray .char, 2) := by decide +kernel
theorem d1_309 : decode method_2_code 309 = .ok (.dup, 1) := by decide +kernel
theorem d1_310 : decode method_2_code 310 = .ok (.iconst 0, 1) := by decide +kernel
theorem d1_311 : decode method_2_code 311 = .ok (.aload_n 0, 1) := by decide +kernel
theorem d1_312 : decode method_2_code 312 = .ok (.iconst 0, 1) := by decide +kernel
theorem sg1_309_4 : decs method_2_code [(309, .dup, 1), (310, .iconst 0, 1), (311, .aload_n 0, 1), (312, .iconst 0, 1)] := ⟨d1_309, d1_310, d1_311, d1_312, trivial⟩
theorem d1_313 : decode method_2_code 313 = .ok (.caload, 1) := by decide +kernel
theorem d1_314 : decode method_2_code 314 = .ok (.castore, 1) := by decide +kernel
theorem d1_315 : decode method_2_code 315 = .ok (.dup, 1) := by decide +kernel
theorem d1_316 : decode method_2_code 316 = .ok (.iconst 1, 1) := by decide +kernel
theorem d1_317 : decode method_2_code 317 = .ok (.aload_n 0, 1) := by decide +kernel
theorem d1_318 : decode method_2_code 318 = .ok (.iconst 1, 1) := by decide +kernel
theorem sg1_315_4 : decs method_2_code [(315, .dup, 1), (316, .iconst 1, 1), (317, .aload_n 0, 1), (318, .iconst 1, 1)] := ⟨d1_315, d1_316, d1_317, d1_318, trivial⟩
theorem d1_319 : decode method_2_code 319 = .ok (.caload, 1) := by decide +kernel
theorem d1_320 : decode method_2_code 320 = .ok (.castore, 1) := by decide +kernel
theorem d1_321 : decode method_2_code 321 = .ok (.dup, 1) := by decide +kernel
theorem d1_322 : decode method_2_code 322 = .ok (.iconst 2, 1) := by decide +kernel
theorem d1_323 : decode method_2_code 323 = .ok (.aload_n 0, 1) := by decide +kernel
theorem d1_324 : decode method_2_code 324 = .ok (.iconst 2, 1) := by decide +kernel
theorem sg1_321_4 : decs method_2_code [(321, .dup, 1), (322, .iconst 2, 1), (323, .aload_n 0, 1), (324, .iconst 2, 1)] := ⟨d1_321, d1_322, d1_323, d1_324, trivial⟩
theorem d1_325 : decode method_2_code 325 = .ok (.caload, 1) := by decide +kernel
theorem d1_326 : decode method_2_code 326 = .ok (.castore, 1) := by decide +kernel
theorem d1_327 : decode method_2_code 327 = .ok (.dup, 1) := by decide +kernel
theorem d1_328 : decode method_2_code 328 = .ok (.iconst 3, 1) := by decide +kernel
theorem d1_329 : decode method_2_code 329 = .ok (.aload_n 0, 1) := by decide +kernel
theorem d1_330 : decode method_2_code 330 = .ok (.iconst 3, 1) := by decide +kernel
theorem sg1_327_4 : decs method_2_code [(327, .dup, 1), (328, .iconst 3, 1), (329, .aload_n 0, 1), (330, .iconst 3, 1)] := ⟨d1_327, d1_328, d1_329, d1_330, trivial⟩
theorem d1_331 : decode method_2_code 331 = .ok (.caload, 1) := by decide +kernel
theorem d1_332 : decode method_2_code 332 = .ok (.castore, 1) := by decide +kernel
theorem d1_333 : decode method_2_code 333 = .ok (.dup, 1) := by decide +kernel
theorem d1_334 : decode method_2_code 334 = .ok (.iconst 4, 1) := by decide +kernel
theorem d1_335 : decode method_2_code 335 = .ok (.aload_n 0, 1) := by decide +kernel
theorem d1_336 : decode method_2_code 336 = .ok (.iconst 4, 1) := by decide +kernel
theorem sg1_333_4 : decs method_2_code [(333, .dup, 1), (334, .iconst 4, 1), (335, .aload_n 0, 1), (336, .iconst 4, 1)] := ⟨d1_333, d1_334, d1_335, d1_336, trivial⟩
theorem d1_337 : decode method_2_code 337 = .ok (.caload, 1) := by decide +kernel
theorem d1_338 : decode method_2_code 338 = .ok (.castore, 1) := by decide +kernel
theorem d1_339 : decode method_2_code 339 = .ok (.dup, 1) := by decide +kernel
theorem d1_340 : decode method_2_code 340 = .ok (.iconst 5, 1) := by decide +kernel
theorem d1_341 : decode method_2_code 341 = .ok (.aload_n 0, 1) := by decide +kernel
theorem d1_342 : decode method_2_code 342 = .ok (.iconst 5, 1) := by decide +kernel
theorem sg1_339_4 : decs method_2_code [(339, .dup, 1), (340, .iconst 5, 1), (341, .aload_n 0, 1), (342, .iconst 5, 1)] := ⟨d1_339, d1_340, d1_341, d1_342, trivial⟩
theorem d1_343 : decode method_2_code 343 = .ok (.caload, 1) := by decide +kernel
theorem d1_344 : decode method_2_code 344 = .ok (.castore, 1) := by decide +kernel
theorem d1_345 : decode method_2_code 345 = .ok (.dup, 1) := by decide +kernel
theorem d1_346 : decode method_2_code 346 = .ok (.bipush 6, 2) := by decide +kernel
theorem d1_348 : decode method_2_code 348 = .ok (.aload_n 0, 1) := by decide +kernel
theorem d1_349 : decode method_2_code 349 = .ok (.bipush 6, 2) := by decide +kernel
theorem sg1_345_4 : decs method_2_code [(345, .dup, 1), (346, .bipush 6, 2), (348, .aload_n 0, 1), (349, .bipush 6, 2)] := ⟨d1_345, d1_346, d1_348, d1_349, trivial⟩
theorem d1_351 : decode method_2_code 351 = .ok (.caload, 1) := by decide +kernel
theorem d1_352 : decode method_2_code 352 = .ok (.castore, 1) := by decide +kernel
theorem d1_353 : decode method_2_code 353 = .ok (.dup, 1) := by decide +kernel
theorem d1_354 : decode method_2_code 354 = .ok (.bipush 7, 2) := by decide +kernel
theorem d1_356 : decode method_2_code 356 = .ok (.aload_n 0, 1) := by decide +kernel
theorem d1_357 : decode method_2_code 357 = .ok (.bipush 7, 2) := by decide +kernel
theorem sg1_353_4 : decs method_2_code [(353, .dup, 1), (354, .bipush 7, 2), (356, .aload_n 0, 1), (357, .bipush 7, 2)] := ⟨d1_353, d1_354, d1_356, d1_357, trivial⟩
theorem d1_359 : decode method_2_code 359 = .ok (.caload, 1) := by decide +kernel
theorem d1_360 : decode method_2_code 360 = .ok (.castore, 1) := by decide +kernel
theorem d1_361 : decode method_2_code 361 = .ok (.invokespecial 9, 3) := by decide +kernel
theorem ef_rm6_7 (m : MethodId) (x0 : Addr) (x1 : Int32) (x2 : Addr) (x4 : Int32) : entryFrame m #[(.ref x0), (.int x1), (.ref x2), (.int x1), (.int x4)] 7 = mkF m 0 #[.val (.ref x0), .val (.int x1), .val (.ref x2), .val (.int x1), .val (.int x4), .unset, .unset] [] := by first | (simp [entryFrame, mkF, argsToLocals, Value.category]; done) | rfl
theorem ef_rm5_7 (m : MethodId) (x0 : Addr) (x1 : Int32) (x2 : Int32) : entryFrame m #[(.ref x0), (.int x1), (.int x2)] 6 = mkF m 0 #[.val (.ref x0), .val (.int x1), .val (.int x2), .unset, .unset, .unset] [] := by first | (simp [entryFrame, mkF, argsToLocals, Value.category]; done) | rfl
theorem ef_rm7_7 (m : MethodId) (x0 : Addr) (x1 : Int32) : entryFrame m #[(.ref x0), (.int x1)] 2 = mkF m 0 #[.val (.ref x0), .val (.int x1)] [] := by first | (simp [entryFrame, mkF, argsToLocals, Value.category]; done) | rfl
theorem ef_rm3_7 (m : MethodId) (x0 : Addr) (x1 : Addr) (x2 : Int32) (x3 : Int32) : entryFrame m #[(.ref x0), (.ref x1), (.int x2), (.int x3), .null] 6 = mkF m 0 #[.val (.ref x0), .val (.ref x1), .val (.int x2), .val (.int x3), .val .null, .unset] [] := by first | (simp [entryFrame, mkF, argsToLocals, Value.category]; done) | rfl
theorem ef_rm2_7 (m : MethodId) (x0 : Addr) (x1 : Addr) : entryFrame m #[(.ref x0), (.ref x1)] 2 = mkF m 0 #[.val (.ref x0), .val (.ref x1)] [] := by first | (simp [entryFrame, mkF, argsToLocals, Value.category]; done) | rfl
theorem d1_364 : decode method_2_code 364 = .ok (.areturn, 1) := by decide +kernel
theorem d1_4 : decode method_2_code 4 = .ok (.new 7, 3) := by decide +kernel
theorem d1_7 : decode method_2_code 7 = .ok (.dup, 1) := by decide +kernel
theorem d1_8 : decode method_2_code 8 = .ok (.iconst 0, 1) := by decide +kernel
theorem sg1_7_2 : decs method_2_code [(7, .dup, 1), (8, .iconst 0, 1)] := ⟨d1_7, d1_8, trivial⟩
theorem d1_9 : decode method_2_code 9 = .ok (.newarray .char, 2) := by decide +kernel
theorem d1_11 : decode method_2_code 11 = .ok (.invokespecial 9, 3) := by decide +kernel
theorem d3_8 : decode jdk_42_method_149_code 8 = .ok (.aload_n 0, 1) := by decide +kernel
theorem sg3_8_1 : decs jdk_42_method_149_code [(8, .aload_n 0, 1)] := ⟨d3_8, trivial⟩
theorem d3_9 : decode jdk_42_method_149_code 9 = .ok (.ldc 7, 2) := by decide +kernel
theorem own_w74 {Z : State} {a0 : Array Value} (hw : HW a0 Z) : (Cond.stringLink "java/lang/String" 7 "").before a0 Z = true := hw _ (List.mem_of_getElem? (i := 74) rfl)
theorem d3_11 : decode jdk_42_method_149_code 11 = .ok (.getfield 9, 3) := by decide +kernel
theorem d3_14 : decode jdk_42_method_149_code 14 = .ok (.putfield 9, 3) := by decide +kernel
theorem d3_17 : decode jdk_42_method_149_code 17 = .ok (.aload_n 0, 1) := by decide +kernel
theorem sg3_17_1 : decs jdk_42_method_149_code [(17, .aload_n 0, 1)] := ⟨d3_17, trivial⟩
theorem d3_18 : decode jdk_42_method_149_code 18 = .ok (.ldc 7, 2) := by decide +kernel
theorem d3_20 : decode jdk_42_method_149_code 20 = .ok (.getfield 15, 3) := by decide +kernel
theorem d3_23 : decode jdk_42_method_149_code 23 = .ok (.putfield 15, 3) := by decide +kernel
theorem d3_26 : decode jdk_42_method_149_code 26 = .ok (.return_, 1) := by decide +kernel
theorem ef_rm3_8 (m : MethodId) (x0 : Addr) (x1 : Addr) (x2 : Int32) : entryFrame m #[(.ref x0), (.ref x1), (.int x2), (.int x2), .null] 6 = mkF m 0 #[.val (.ref x0), .val (.ref x1), .val (.int x2), .val (.int x2), .val .null, .unset] [] := by first | (simp [entryFrame, mkF, argsToLocals, Value.category]; done) | rfl
theorem ef_rm2_8 (m : MethodId) (x0 : Addr) (x1 : Addr) : entryFrame m #[(.ref x0), (.ref x1)] 2 = mkF m 0 #[.val (.ref x0), .val (.ref x1)] [] := by first | (simp [entryFrame, mkF, argsToLocals, Value.category]; done) | rfl
theorem d1_14 : decode method_2_code 14 = .ok (.areturn, 1) := by decide +kernel
theorem sg0_327_2 : decs code [(327, .aload 6, 2), (329, .iload 11, 2)] := ⟨at_327, at_329, trivial⟩
theorem ef_rm1_0 (m : MethodId) (x0 : Addr) (x1 : Int32) : entryFrame m #[(.ref x0), (.int x1)] 2 = mkF m 0 #[.val (.ref x0), .val (.int x1)] [] := by first | (simp [entryFrame, mkF, argsToLocals, Value.category]; done) | rfl
theorem own_pn2 : plainName "com/example/tapline/tapline/rules/ReturnPeriodByIdPinLaw" = true := by first | (simp [plainName, overriddenIn]; done) | decide +kernel
theorem own_w4 {Z : State} {a0 : Array Value} (hw : HW a0 Z) : (Cond.code ⟨"com/example/tapline/tapline/rules/ReturnPeriodByIdPinLaw", "str", "([CI)Ljava/lang/String;"⟩ method_2_code 2 (Option.some (Jvm.ClassFile.FieldType.object "java/lang/String"))).before a0 Z = true := hw _ (List.mem_of_getElem? (i := 4) rfl)
theorem own_w3 {Z : State} {a0 : Array Value} (hw : HW a0 Z) : (Cond.initialized "com/example/tapline/tapline/rules/ReturnPeriodByIdPinLaw").before a0 Z = true := hw _ (List.mem_of_getElem? (i := 3) rfl)
theorem own_pd5 : parseMethodDescriptor "([CI)Ljava/lang/String;" = some ⟨[(.array .char), .int], some (.object "java/lang/String")⟩ := by decide +kernel
theorem own_w2 {Z : State} {a0 : Array Value} (hw : HW a0 Z) : (Cond.static ⟨"com/example/tapline/tapline/rules/ReturnPeriodByIdPinLaw", "str", "([CI)Ljava/lang/String;"⟩).before a0 Z = true := hw _ (List.mem_of_getElem? (i := 2) rfl)
theorem sg0_336_1 : decs code [(336, .aload 12, 2)] := ⟨at_336, trivial⟩
theorem own_w34 {Z : State} {a0 : Array Value} (hw : HW a0 Z) : (Cond.stringLink "com/example/tapline/tapline/rules/ReturnPeriodByIdPinLaw" 18 "month").before a0 Z = true := hw _ (List.mem_of_getElem? (i := 34) rfl)
theorem own_w37 {Z : State} {a0 : Array Value} (hw : HW a0 Z) : (Cond.methodLink "com/example/tapline/tapline/rules/ReturnPeriodByIdPinLaw" 20 ⟨"java/lang/String", "equals", "(Ljava/lang/Object;)Z"⟩).before a0 Z = true := hw _ (List.mem_of_getElem? (i := 37) rfl)
theorem d8_0 : decode jdk_42_method_66_code 0 = .ok (.aload_n 0, 1) := by decide +kernel
theorem d8_1 : decode jdk_42_method_66_code 1 = .ok (.aload_n 1, 1) := by decide +kernel
theorem sg8_0_2 : decs jdk_42_method_66_code [(0, .aload_n 0, 1), (1, .aload_n 1, 1)] := ⟨d8_0, d8_1, trivial⟩
theorem d8_2 : decode jdk_42_method_66_code 2 = .ok (.if_acmp .ne 5, 3) := by decide +kernel
theorem d8_7 : decode jdk_42_method_66_code 7 = .ok (.aload_n 1, 1) := by decide +kernel
theorem sg8_7_1 : decs jdk_42_method_66_code [(7, .aload_n 1, 1)] := ⟨d8_7, trivial⟩
theorem d8_8 : decode jdk_42_method_66_code 8 = .ok (.instanceof 10, 3) := by decide +kernel
theorem own_w42 {Z : State} {a0 : Array Value} (hw : HW a0 Z) : (Cond.classLink "java/lang/String" 10 "java/lang/String").before a0 Z = true := hw _ (List.mem_of_getElem? (i := 42) rfl)
theorem d8_11 : decode jdk_42_method_66_code 11 = .ok (.ifCond .eq 43, 3) := by decide +kernel
theorem d8_14 : decode jdk_42_method_66_code 14 = .ok (.aload_n 1, 1) := by decide +kernel
theorem sg8_14_1 : decs jdk_42_method_66_code [(14, .aload_n 1, 1)] := ⟨d8_14, trivial⟩
theorem d8_15 : decode jdk_42_method_66_code 15 = .ok (.checkcast 10, 3) := by decide +kernel
theorem d8_18 : decode jdk_42_method_66_code 18 = .ok (.astore_n 2, 1) := by decide +kernel
theorem sg8_18_1 : decs jdk_42_method_66_code [(18, .astore_n 2, 1)] := ⟨d8_18, trivial⟩
theorem d8_19 : decode jdk_42_method_66_code 19 = .ok (.getstatic 38, 3) := by decide +kernel
theorem d8_22 : decode jdk_42_method_66_code 22 = .ok (.ifCond .eq 14, 3) := by decide +kernel
theorem d8_25 : decode jdk_42_method_66_code 25 = .ok (.aload_n 0, 1) := by decide +kernel
theorem sg8_25_1 : decs jdk_42_method_66_code [(25, .aload_n 0, 1)] := ⟨d8_25, trivial⟩
theorem d8_26 : decode jdk_42_method_66_code 26 = .ok (.getfield 15, 3) := by decide +kernel
theorem d8_29 : decode jdk_42_method_66_code 29 = .ok (.aload_n 2, 1) := by decide +kernel
theorem sg8_29_1 : decs jdk_42_method_66_code [(29, .aload_n 2, 1)] := ⟨d8_29, trivial⟩
theorem d8_30 : decode jdk_42_method_66_code 30 = .ok (.getfield 15, 3) := by decide +kernel
theorem d8_33 : decode jdk_42_method_66_code 33 = .ok (.if_icmp .ne 21, 3) := by decide +kernel
theorem d8_36 : decode jdk_42_method_66_code 36 = .ok (.aload_n 0, 1) := by decide +kernel
theorem sg8_36_1 : decs jdk_42_method_66_code [(36, .aload_n 0, 1)] := ⟨d8_36, trivial⟩
theorem d8_37 : decode jdk_42_method_66_code 37 = .ok (.getfield 9, 3) := by decide +kernel
theorem d8_40 : decode jdk_42_method_66_code 40 = .ok (.aload_n 2, 1) := by decide +kernel
theorem sg8_40_1 : decs jdk_42_method_66_code [(40, .aload_n 2, 1)] := ⟨d8_40, trivial⟩
theorem d8_41 : decode jdk_42_method_66_code 41 = .ok (.getfield 9, 3) := by decide +kernel
theorem own_w43 {Z : State} {a0 : Array Value} (hw : HW a0 Z) : (Cond.methodLink "java/lang/String" 541 ⟨"java/lang/StringLatin1", "equals", "([B[B)Z"⟩).before a0 Z = true := hw _ (List.mem_of_getElem? (i := 43) rfl)
theorem d8_44 : decode jdk_42_method_66_code 44 = .ok (.invokestatic 541, 3) := by decide +kernel
theorem d9_0 : decode jdk_43_method_13_code 0 = .ok (.aload_n 0, 1) := by decide +kernel
theorem sg9_0_1 : decs jdk_43_method_13_code [(0, .aload_n 0, 1)] := ⟨d9_0, trivial⟩
theorem d9_1 : decode jdk_43_method_13_code 1 = .ok (.arraylength, 1) := by decide +kernel
theorem d9_2 : decode jdk_43_method_13_code 2 = .ok (.aload_n 1, 1) := by decide +kernel
theorem sg9_2_1 : decs jdk_43_method_13_code [(2, .aload_n 1, 1)] := ⟨d9_2, trivial⟩
theorem d9_3 : decode jdk_43_method_13_code 3 = .ok (.arraylength, 1) := by decide +kernel
theorem d9_4 : decode jdk_43_method_13_code 4 = .ok (.if_icmp .ne 30, 3) := by decide +kernel
theorem d9_34 : decode jdk_43_method_13_code 34 = .ok (.iconst 0, 1) := by decide +kernel
theorem sg9_34_1 : decs jdk_43_method_13_code [(34, .iconst 0, 1)] := ⟨d9_34, trivial⟩
theorem d9_35 : decode jdk_43_method_13_code 35 = .ok (.ireturn, 1) := by decide +kernel
theorem ef_rm9_0 (m : MethodId) (x0 : Addr) (x1 : Addr) : entryFrame m #[(.ref x0), (.ref x1)] 3 = mkF m 0 #[.val (.ref x0), .val (.ref x1), .unset] [] := by first | (simp [entryFrame, mkF, argsToLocals, Value.category]; done) | rfl
theorem own_pn3 : plainName "java/lang/StringLatin1" = true := by first | (simp [plainName, overriddenIn]; done) | decide +kernel
theorem own_w46 {Z : State} {a0 : Array Value} (hw : HW a0 Z) : (Cond.code ⟨"java/lang/StringLatin1", "equals", "([B[B)Z"⟩ jdk_43_method_13_code 3 (Option.some Jvm.ClassFile.FieldType.boolean)).before a0 Z = true := hw _ (List.mem_of_getElem? (i := 46) rfl)
theorem own_w45 {Z : State} {a0 : Array Value} (hw : HW a0 Z) : (Cond.initialized "java/lang/StringLatin1").before a0 Z = true := hw _ (List.mem_of_getElem? (i := 45) rfl)
theorem own_pd6 : parseMethodDescriptor "([B[B)Z" = some ⟨[(.array .byte), (.array .byte)], some .boolean⟩ := by decide +kernel
theorem own_w44 {Z : State} {a0 : Array Value} (hw : HW a0 Z) : (Cond.static ⟨"java/lang/StringLatin1", "equals", "([B[B)Z"⟩).before a0 Z = true := hw _ (List.mem_of_getElem? (i := 44) rfl)
theorem d8_47 : decode jdk_42_method_66_code 47 = .ok (.ifCond .eq 7, 3) := by decide +kernel
theorem d8_54 : decode jdk_42_method_66_code 54 = .ok (.iconst 0, 1) := by decide +kernel
theorem sg8_54_1 : decs jdk_42_method_66_code [(54, .iconst 0, 1)] := ⟨d8_54, trivial⟩
theorem d8_55 : decode jdk_42_method_66_code 55 = .ok (.ireturn, 1) := by decide +kernel
theorem ef_rm8_0 (m : MethodId) (x0 : Addr) (x1 : Addr) : entryFrame m #[(.ref x0), (.ref x1)] 3 = mkF m 0 #[.val (.ref x0), .val (.ref x1), .unset] [] := by first | (simp [entryFrame, mkF, argsToLocals, Value.category]; done) | rfl
theorem own_w41 {Z : State} {a0 : Array Value} (hw : HW a0 Z) : (Cond.code ⟨"java/lang/String", "equals", "(Ljava/lang/Object;)Z"⟩ jdk_42_method_66_code 3 (Option.some Jvm.ClassFile.FieldType.boolean)).before a0 Z = true := hw _ (List.mem_of_getElem? (i := 41) rfl)
theorem own_pd7 : parseMethodDescriptor "(Ljava/lang/Object;)Z" = some ⟨[(.object "java/lang/Object")], some .boolean⟩ := by decide +kernel
theorem own_w40 {Z : State} {a0 : Array Value} (hw : HW a0 Z) : (Cond.selects "java/lang/String" ⟨"java/lang/String", "equals", "(Ljava/lang/Object;)Z"⟩ ⟨"java/lang/String", "equals", "(Ljava/lang/Object;)Z"⟩).before a0 Z = true := hw _ (List.mem_of_getElem? (i := 40) rfl)
theorem own_w38 {Z : State} {a0 : Array Value} (hw : HW a0 Z) : (Cond.declares ⟨"java/lang/String", "equals", "(Ljava/lang/Object;)Z"⟩).before a0 Z = true := hw _ (List.mem_of_getElem? (i := 38) rfl)
theorem own_w39 {Z : State} {a0 : Array Value} (hw : HW a0 Z) : (Cond.instanceMethod ⟨"java/lang/String", "equals", "(Ljava/lang/Object;)Z"⟩).before a0 Z = true := hw _ (List.mem_of_getElem? (i := 39) rfl)
theorem sg0_354_1 : decs code [(354, .aload 12, 2)] := ⟨at_354, trivial⟩
theorem own_w72 {Z : State} {a0 : Array Value} (hw : HW a0 Z) : (Cond.stringLink "com/example/tapline/tapline/rules/ReturnPeriodByIdPinLaw" 30 "quarter").before a0 Z = true := hw _ (List.mem_of_getElem? (i := 72) rfl)
theorem own_w50 {Z : State} {a0 : Array Value} (hw : HW a0 Z) : (Cond.methodLink "com/example/tapline/tapline/rules/ReturnPeriodByIdPinLaw" 35 ⟨"com/example/tapline/tapline/rules/ReturnPeriod", "byId", "(Ljava/lang/String;)Lcom/example/tapline/tapline/rules/ReturnPeriod;"⟩).before a0 Z = true := hw _ (List.mem_of_getElem? (i := 50) rfl)
theorem d10_0 : decode prog_74_method_7_code 0 = .ok (.aconst_null, 1) := by decide +kernel
theorem d10_1 : decode prog_74_method_7_code 1 = .ok (.astore_n 1, 1) := by decide +kernel
theorem own_w53 {Z : State} {a0 : Array Value} (hw : HW a0 Z) : (Cond.methodLink "com/example/tapline/tapline/rules/ReturnPeriod" 54 ⟨"com/example/tapline/tapline/rules/ReturnPeriod", "values", "()[Lcom/example/tapline/tapline/rules/ReturnPeriod;"⟩).before a0 Z = true := hw _ (List.mem_of_getElem? (i := 53) rfl)
theorem sg10_0_2 : decs prog_74_method_7_code [(0, .aconst_null, 1), (1, .astore_n 1, 1)] := ⟨d10_0, d10_1, trivial⟩
theorem d10_2 : decode prog_74_method_7_code 2 = .ok (.invokestatic 54, 3) := by decide +kernel
theorem d11_0 : decode prog_74_method_1_code 0 = .ok (.getstatic 10, 3) := by decide +kernel
theorem own_w56 {Z : State} {a0 : Array Value} (hw : HW a0 Z) : (Cond.fieldLink "com/example/tapline/tapline/rules/ReturnPeriod" 10 "com/example/tapline/tapline/rules/ReturnPeriod" "$VALUES" "[Lcom/example/tapline/tapline/rules/ReturnPeriod;").before a0 Z = true := hw _ (List.mem_of_getElem? (i := 56) rfl)
theorem own_w58 {Z : State} {a0 : Array Value} (hw : HW a0 Z) : (Cond.methodLink "com/example/tapline/tapline/rules/ReturnPeriod" 14 ⟨"[Lcom/example/tapline/tapline/rules/ReturnPeriod;", "clone", "()Ljava/lang/Object;"⟩).before a0 Z = true := hw _ (List.mem_of_getElem? (i := 58) rfl)
theorem d11_3 : decode prog_74_method_1_code 3 = .ok (.invokevirtual 14, 3) := by decide +kernel
theorem own_w59 {Z : State} {a0 : Array Value} (hw : HW a0 Z) : (Cond.sameMethod "[Lcom/example/tapline/tapline/rules/ReturnPeriod;" "java/lang/Object" "clone" "()Ljava/lang/Object;").before a0 Z = true := hw _ (List.mem_of_getElem? (i := 59) rfl)
theorem own_w63 {Z : State} {a0 : Array Value} (hw : HW a0 Z) : (Cond.native ⟨"java/lang/Object", "clone", "()Ljava/lang/Object;"⟩).before a0 Z = true := hw _ (List.mem_of_getElem? (i := 63) rfl)
theorem own_w61 {Z : State} {a0 : Array Value} (hw : HW a0 Z) : (Cond.instanceMethod ⟨"java/lang/Object", "clone", "()Ljava/lang/Object;"⟩).before a0 Z = true := hw _ (List.mem_of_getElem? (i := 61) rfl)
theorem own_w62 {Z : State} {a0 : Array Value} (hw : HW a0 Z) : (Cond.selects "[Lcom/example/tapline/tapline/rules/ReturnPeriod;" ⟨"[Lcom/example/tapline/tapline/rules/ReturnPeriod;", "clone", "()Ljava/lang/Object;"⟩ ⟨"java/lang/Object", "clone", "()Ljava/lang/Object;"⟩).before a0 Z = true := hw _ (List.mem_of_getElem? (i := 62) rfl)
theorem own_w64 {Z : State} {a0 : Array Value} (hw : HW a0 Z) : (Cond.castable "[Lcom/example/tapline/tapline/rules/ReturnPeriod;" "java/lang/Cloneable").before a0 Z = true := hw _ (List.mem_of_getElem? (i := 64) rfl)
theorem d11_6 : decode prog_74_method_1_code 6 = .ok (.checkcast 15, 3) := by decide +kernel
theorem own_w67 {Z : State} {a0 : Array Value} (hw : HW a0 Z) : (Cond.classLink "com/example/tapline/tapline/rules/ReturnPeriod" 15 "[Lcom/example/tapline/tapline/rules/ReturnPeriod;").before a0 Z = true := hw _ (List.mem_of_getElem? (i := 67) rfl)
theorem d11_9 : decode prog_74_method_1_code 9 = .ok (.areturn, 1) := by decide +kernel
theorem ef_rm11_0 (m : MethodId)  : entryFrame m #[] 0 = mkF m 0 #[] [] := by first | (simp [entryFrame, mkF, argsToLocals, Value.category]; done) | rfl
theorem own_pn4 : plainName "com/example/tapline/tapline/rules/ReturnPeriod" = true := by first | (simp [plainName, overriddenIn]; done) | decide +kernel
theorem own_w55 {Z : State} {a0 : Array Value} (hw : HW a0 Z) : (Cond.code ⟨"com/example/tapline/tapline/rules/ReturnPeriod", "values", "()[Lcom/example/tapline/tapline/rules/ReturnPeriod;"⟩ prog_74_method_1_code 0 (Option.some (Jvm.ClassFile.FieldType.array (Jvm.ClassFile.FieldType.object "com/example/tapline/tapline/rules/ReturnPeriod")))).before a0 Z = true := hw _ (List.mem_of_getElem? (i := 55) rfl)
theorem own_pd8 : parseMethodDescriptor "()[Lcom/example/tapline/tapline/rules/ReturnPeriod;" = some ⟨[], some (.array (.object "com/example/tapline/tapline/rules/ReturnPeriod"))⟩ := by decide +kernel
theorem own_w54 {Z : State} {a0 : Array Value} (hw : HW a0 Z) : (Cond.static ⟨"com/example/tapline/tapline/rules/ReturnPeriod", "values", "()[Lcom/example/tapline/tapline/rules/ReturnPeriod;"⟩).before a0 Z = true := hw _ (List.mem_of_getElem? (i := 54) rfl)
theorem d10_5 : decode prog_74_method_7_code 5 = .ok (.astore_n 2, 1) := by decide +kernel
theorem d10_6 : decode prog_74_method_7_code 6 = .ok (.aload_n 2, 1) := by decide +kernel
theorem sg10_5_2 : decs prog_74_method_7_code [(5, .astore_n 2, 1), (6, .aload_n 2, 1)] := ⟨d10_5, d10_6, trivial⟩
theorem d10_7 : decode prog_74_method_7_code 7 = .ok (.arraylength, 1) := by decide +kernel
theorem d10_8 : decode prog_74_method_7_code 8 = .ok (.istore_n 3, 1) := by decide +kernel
theorem d10_9 : decode prog_74_method_7_code 9 = .ok (.iconst 0, 1) := by decide +kernel
theorem d10_10 : decode prog_74_method_7_code 10 = .ok (.istore 4, 2) := by decide +kernel
theorem d10_12 : decode prog_74_method_7_code 12 = .ok (.iload 4, 2) := by decide +kernel
theorem d10_14 : decode prog_74_method_7_code 14 = .ok (.iload_n 3, 1) := by decide +kernel
theorem sg10_8_5 : decs prog_74_method_7_code [(8, .istore_n 3, 1), (9, .iconst 0, 1), (10, .istore 4, 2), (12, .iload 4, 2), (14, .iload_n 3, 1)] := ⟨d10_8, d10_9, d10_10, d10_12, d10_14, trivial⟩
theorem d10_15 : decode prog_74_method_7_code 15 = .ok (.if_icmp .ge 30, 3) := by decide +kernel
theorem d10_18 : decode prog_74_method_7_code 18 = .ok (.aload_n 2, 1) := by decide +kernel
theorem d10_19 : decode prog_74_method_7_code 19 = .ok (.iload 4, 2) := by decide +kernel
theorem sg10_18_2 : decs prog_74_method_7_code [(18, .aload_n 2, 1), (19, .iload 4, 2)] := ⟨d10_18, d10_19, trivial⟩
theorem d10_21 : decode prog_74_method_7_code 21 = .ok (.aaload, 1) := by decide +kernel
theorem d10_22 : decode prog_74_method_7_code 22 = .ok (.astore 5, 2) := by decide +kernel
theorem d10_24 : decode prog_74_method_7_code 24 = .ok (.aload 5, 2) := by decide +kernel
theorem sg10_22_2 : decs prog_74_method_7_code [(22, .astore 5, 2), (24, .aload 5, 2)] := ⟨d10_22, d10_24, trivial⟩
theorem d10_26 : decode prog_74_method_7_code 26 = .ok (.getfield 29, 3) := by decide +kernel
theorem own_w69 {Z : State} {a0 : Array Value} (hw : HW a0 Z) : (Cond.fieldLink "com/example/tapline/tapline/rules/ReturnPeriod" 29 "com/example/tapline/tapline/rules/ReturnPeriod" "id" "Ljava/lang/String;").before a0 Z = true := hw _ (List.mem_of_getElem? (i := 69) rfl)
theorem d10_29 : decode prog_74_method_7_code 29 = .ok (.aload_n 0, 1) := by decide +kernel
theorem own_w71 {Z : State} {a0 : Array Value} (hw : HW a0 Z) : (Cond.methodLink "com/example/tapline/tapline/rules/ReturnPeriod" 58 ⟨"java/lang/String", "equals", "(Ljava/lang/Object;)Z"⟩).before a0 Z = true := hw _ (List.mem_of_getElem? (i := 71) rfl)
theorem sg10_29_1 : decs prog_74_method_7_code [(29, .aload_n 0, 1)] := ⟨d10_29, trivial⟩
theorem d10_30 : decode prog_74_method_7_code 30 = .ok (.invokevirtual 58, 3) := by decide +kernel
theorem d10_33 : decode prog_74_method_7_code 33 = .ok (.ifCond .eq 6, 3) := by decide +kernel
theorem d10_39 : decode prog_74_method_7_code 39 = .ok (.iinc 4 1, 3) := by decide +kernel
theorem d10_42 : decode prog_74_method_7_code 42 = .ok (.goto (-30), 3) := by decide +kernel
theorem sg10_39_4 : decs prog_74_method_7_code [(39, .iinc 4 1, 3), (42, .goto (-30), 3), (12, .iload 4, 2), (14, .iload_n 3, 1)] := ⟨d10_39, d10_42, d10_12, d10_14, trivial⟩
theorem d10_45 : decode prog_74_method_7_code 45 = .ok (.aload_n 1, 1) := by decide +kernel
theorem sg10_45_1 : decs prog_74_method_7_code [(45, .aload_n 1, 1)] := ⟨d10_45, trivial⟩
theorem d10_46 : decode prog_74_method_7_code 46 = .ok (.areturn, 1) := by decide +kernel
theorem sg0_372_3 : decs code [(372, .aconst_null, 1), (373, .astore 13, 2), (375, .aload 12, 2)] := ⟨at_372, at_373, at_375, trivial⟩
theorem ef_rm10_0 (m : MethodId) (x0 : Addr) : entryFrame m #[(.ref x0)] 6 = mkF m 0 #[.val (.ref x0), .unset, .unset, .unset, .unset, .unset] [] := by first | (simp [entryFrame, mkF, argsToLocals, Value.category]; done) | rfl
theorem own_w52 {Z : State} {a0 : Array Value} (hw : HW a0 Z) : (Cond.code ⟨"com/example/tapline/tapline/rules/ReturnPeriod", "byId", "(Ljava/lang/String;)Lcom/example/tapline/tapline/rules/ReturnPeriod;"⟩ prog_74_method_7_code 6 (Option.some (Jvm.ClassFile.FieldType.object "com/example/tapline/tapline/rules/ReturnPeriod"))).before a0 Z = true := hw _ (List.mem_of_getElem? (i := 52) rfl)
theorem own_pd9 : parseMethodDescriptor "(Ljava/lang/String;)Lcom/example/tapline/tapline/rules/ReturnPeriod;" = some ⟨[(.object "java/lang/String")], some (.object "com/example/tapline/tapline/rules/ReturnPeriod")⟩ := by decide +kernel
theorem own_w51 {Z : State} {a0 : Array Value} (hw : HW a0 Z) : (Cond.static ⟨"com/example/tapline/tapline/rules/ReturnPeriod", "byId", "(Ljava/lang/String;)Lcom/example/tapline/tapline/rules/ReturnPeriod;"⟩).before a0 Z = true := hw _ (List.mem_of_getElem? (i := 51) rfl)
theorem sg0_380_3 : decs code [(380, .astore 14, 2), (382, .aload 14, 2), (384, .aload 13, 2)] := ⟨at_380, at_382, at_384, trivial⟩
theorem sg0_389_2 : decs code [(389, .iconst 1, 1), (390, .goto 4, 3)] := ⟨at_389, at_390, trivial⟩
theorem ef_rm1_1 (m : MethodId) (x0 : Addr) (x1 : Int32) : entryFrame m #[(.ref x0), (.int x1)] 2 = mkF m 0 #[.val (.ref x0), .val (.int x1)] [] := by first | (simp [entryFrame, mkF, argsToLocals, Value.category]; done) | rfl
theorem ef_rm1_2 (m : MethodId) (x0 : Addr) (x1 : Int32) : entryFrame m #[(.ref x0), (.int x1)] 2 = mkF m 0 #[.val (.ref x0), .val (.int x1)] [] := by first | (simp [entryFrame, mkF, argsToLocals, Value.category]; done) | rfl
theorem ef_rm1_3 (m : MethodId) (x0 : Addr) (x1 : Int32) : entryFrame m #[(.ref x0), (.int x1)] 2 = mkF m 0 #[.val (.ref x0), .val (.int x1)] [] := by first | (simp [entryFrame, mkF, argsToLocals, Value.category]; done) | rfl
theorem ef_rm1_4 (m : MethodId) (x0 : Addr) (x1 : Int32) : entryFrame m #[(.ref x0), (.int x1)] 2 = mkF m 0 #[.val (.ref x0), .val (.int x1)] [] := by first | (simp [entryFrame, mkF, argsToLocals, Value.category]; done) | rfl
theorem d9_7 : decode jdk_43_method_13_code 7 = .ok (.iconst 0, 1) := by decide +kernel
theorem d9_8 : decode jdk_43_method_13_code 8 = .ok (.istore_n 2, 1) := by decide +kernel
theorem d9_9 : decode jdk_43_method_13_code 9 = .ok (.iload_n 2, 1) := by decide +kernel
theorem d9_10 : decode jdk_43_method_13_code 10 = .ok (.aload_n 0, 1) := by decide +kernel
theorem sg9_7_4 : decs jdk_43_method_13_code [(7, .iconst 0, 1), (8, .istore_n 2, 1), (9, .iload_n 2, 1), (10, .aload_n 0, 1)] := ⟨d9_7, d9_8, d9_9, d9_10, trivial⟩
theorem d9_11 : decode jdk_43_method_13_code 11 = .ok (.arraylength, 1) := by decide +kernel
theorem d9_12 : decode jdk_43_method_13_code 12 = .ok (.if_icmp .ge 20, 3) := by decide +kernel
theorem d9_15 : decode jdk_43_method_13_code 15 = .ok (.aload_n 0, 1) := by decide +kernel
theorem d9_16 : decode jdk_43_method_13_code 16 = .ok (.iload_n 2, 1) := by decide +kernel
theorem sg9_15_2 : decs jdk_43_method_13_code [(15, .aload_n 0, 1), (16, .iload_n 2, 1)] := ⟨d9_15, d9_16, trivial⟩
theorem d9_17 : decode jdk_43_method_13_code 17 = .ok (.baload, 1) := by decide +kernel
theorem d9_18 : decode jdk_43_method_13_code 18 = .ok (.aload_n 1, 1) := by decide +kernel
theorem d9_19 : decode jdk_43_method_13_code 19 = .ok (.iload_n 2, 1) := by decide +kernel
theorem sg9_18_2 : decs jdk_43_method_13_code [(18, .aload_n 1, 1), (19, .iload_n 2, 1)] := ⟨d9_18, d9_19, trivial⟩
theorem d9_20 : decode jdk_43_method_13_code 20 = .ok (.baload, 1) := by decide +kernel
theorem d9_21 : decode jdk_43_method_13_code 21 = .ok (.if_icmp .eq 5, 3) := by decide +kernel
theorem d9_26 : decode jdk_43_method_13_code 26 = .ok (.iinc 2 1, 3) := by decide +kernel
theorem d9_29 : decode jdk_43_method_13_code 29 = .ok (.goto (-20), 3) := by decide +kernel
theorem sg9_26_4 : decs jdk_43_method_13_code [(26, .iinc 2 1, 3), (29, .goto (-20), 3), (9, .iload_n 2, 1), (10, .aload_n 0, 1)] := ⟨d9_26, d9_29, d9_9, d9_10, trivial⟩
theorem d9_32 : decode jdk_43_method_13_code 32 = .ok (.iconst 1, 1) := by decide +kernel
theorem sg9_32_1 : decs jdk_43_method_13_code [(32, .iconst 1, 1)] := ⟨d9_32, trivial⟩
theorem d9_33 : decode jdk_43_method_13_code 33 = .ok (.ireturn, 1) := by decide +kernel
theorem d9_24 : decode jdk_43_method_13_code 24 = .ok (.iconst 0, 1) := by decide +kernel
theorem sg9_24_1 : decs jdk_43_method_13_code [(24, .iconst 0, 1)] := ⟨d9_24, trivial⟩
theorem d9_25 : decode jdk_43_method_13_code 25 = .ok (.ireturn, 1) := by decide +kernel
def f_rm9_1 (u1 u2 u3 u4 u5 u6 u7 u8 u9 u10 : Int32) : Int32 := (if u1 = u6 then (if u2 = u7 then (if u3 = u8 then (if u4 = u9 then (if u5 = u10 then (1 : Int32) else (0 : Int32)) else (0 : Int32)) else (0 : Int32)) else (0 : Int32)) else (0 : Int32))
theorem ef_rm9_1 (m : MethodId) (x0 : Addr) (x1 : Addr) : entryFrame m #[(.ref x0), (.ref x1)] 3 = mkF m 0 #[.val (.ref x0), .val (.ref x1), .unset] [] := by first | (simp [entryFrame, mkF, argsToLocals, Value.category]; done) | rfl
theorem d8_50 : decode jdk_42_method_66_code 50 = .ok (.iconst 1, 1) := by decide +kernel
theorem d8_51 : decode jdk_42_method_66_code 51 = .ok (.goto 4, 3) := by decide +kernel
theorem sg8_50_2 : decs jdk_42_method_66_code [(50, .iconst 1, 1), (51, .goto 4, 3)] := ⟨d8_50, d8_51, trivial⟩
def f_rm8_1 (u1 u2 u3 u4 u5 u6 u7 u8 u9 u10 : Int32) : Int32 := (if (f_rm9_1 u1 u2 u3 u4 u5 u6 u7 u8 u9 u10) = (0 : Int32) then (0 : Int32) else (1 : Int32))
theorem ef_rm8_1 (m : MethodId) (x0 : Addr) (x1 : Addr) : entryFrame m #[(.ref x0), (.ref x1)] 3 = mkF m 0 #[.val (.ref x0), .val (.ref x1), .unset] [] := by first | (simp [entryFrame, mkF, argsToLocals, Value.category]; done) | rfl
theorem sg0_372_2 : decs code [(372, .aconst_null, 1), (373, .astore 13, 2)] := ⟨at_372, at_373, trivial⟩
theorem own_w47 {Z : State} {a0 : Array Value} (hw : HW a0 Z) : (Cond.fieldLink "com/example/tapline/tapline/rules/ReturnPeriodByIdPinLaw" 24 "com/example/tapline/tapline/rules/ReturnPeriod" "MONTH" "Lcom/example/tapline/tapline/rules/ReturnPeriod;").before a0 Z = true := hw _ (List.mem_of_getElem? (i := 47) rfl)
theorem sg0_349_2 : decs code [(349, .astore 13, 2), (351, .goto 24, 3)] := ⟨at_349, at_351, trivial⟩
theorem d10_36 : decode prog_74_method_7_code 36 = .ok (.aload 5, 2) := by decide +kernel
theorem d10_38 : decode prog_74_method_7_code 38 = .ok (.astore_n 1, 1) := by decide +kernel
theorem sg10_36_6 : decs prog_74_method_7_code [(36, .aload 5, 2), (38, .astore_n 1, 1), (39, .iinc 4 1, 3), (42, .goto (-30), 3), (12, .iload 4, 2), (14, .iload_n 3, 1)] := ⟨d10_36, d10_38, d10_39, d10_42, d10_12, d10_14, trivial⟩
theorem ef_rm10_1 (m : MethodId) (x0 : Addr) : entryFrame m #[(.ref x0)] 6 = mkF m 0 #[.val (.ref x0), .unset, .unset, .unset, .unset, .unset] [] := by first | (simp [entryFrame, mkF, argsToLocals, Value.category]; done) | rfl
theorem ef_rm10_2 (m : MethodId) (x0 : Addr) : entryFrame m #[(.ref x0)] 6 = mkF m 0 #[.val (.ref x0), .unset, .unset, .unset, .unset, .unset] [] := by first | (simp [entryFrame, mkF, argsToLocals, Value.category]; done) | rfl
theorem sg0_393_1 : decs code [(393, .iconst 0, 1)] := ⟨at_393, trivial⟩
theorem sg0_349_3 : decs code [(349, .astore 13, 2), (351, .goto 24, 3), (375, .aload 12, 2)] := ⟨at_349, at_351, at_375, trivial⟩
theorem ef_rm1_5 (m : MethodId) (x0 : Addr) (x1 : Int32) : entryFrame m #[(.ref x0), (.int x1)] 2 = mkF m 0 #[.val (.ref x0), .val (.int x1)] [] := by first | (simp [entryFrame, mkF, argsToLocals, Value.category]; done) | rfl
theorem ef_rm1_6 (m : MethodId) (x0 : Addr) (x1 : Int32) : entryFrame m #[(.ref x0), (.int x1)] 2 = mkF m 0 #[.val (.ref x0), .val (.int x1)] [] := by first | (simp [entryFrame, mkF, argsToLocals, Value.category]; done) | rfl
def f_rm9_2 (u1 u2 u3 u4 u5 u6 u7 u8 u9 u10 u11 u12 u13 u14 : Int32) : Int32 := (if u1 = u8 then (if u2 = u9 then (if u3 = u10 then (if u4 = u11 then (if u5 = u12 then (if u6 = u13 then (if u7 = u14 then (1 : Int32) else (0 : Int32)) else (0 : Int32)) else (0 : Int32)) else (0 : Int32)) else (0 : Int32)) else (0 : Int32)) else (0 : Int32))
theorem ef_rm9_2 (m : MethodId) (x0 : Addr) (x1 : Addr) : entryFrame m #[(.ref x0), (.ref x1)] 3 = mkF m 0 #[.val (.ref x0), .val (.ref x1), .unset] [] := by first | (simp [entryFrame, mkF, argsToLocals, Value.category]; done) | rfl
def f_rm8_2 (u1 u2 u3 u4 u5 u6 u7 u8 u9 u10 u11 u12 u13 u14 : Int32) : Int32 := (if (f_rm9_2 u1 u2 u3 u4 u5 u6 u7 u8 u9 u10 u11 u12 u13 u14) = (0 : Int32) then (0 : Int32) else (1 : Int32))
theorem ef_rm8_2 (m : MethodId) (x0 : Addr) (x1 : Addr) : entryFrame m #[(.ref x0), (.ref x1)] 3 = mkF m 0 #[.val (.ref x0), .val (.ref x1), .unset] [] := by first | (simp [entryFrame, mkF, argsToLocals, Value.category]; done) | rfl
theorem own_w73 {Z : State} {a0 : Array Value} (hw : HW a0 Z) : (Cond.fieldLink "com/example/tapline/tapline/rules/ReturnPeriodByIdPinLaw" 32 "com/example/tapline/tapline/rules/ReturnPeriod" "QUARTER" "Lcom/example/tapline/tapline/rules/ReturnPeriod;").before a0 Z = true := hw _ (List.mem_of_getElem? (i := 73) rfl)
theorem sg0_367_2 : decs code [(367, .astore 13, 2), (369, .goto 6, 3)] := ⟨at_367, at_369, trivial⟩
theorem ef_rm10_3 (m : MethodId) (x0 : Addr) : entryFrame m #[(.ref x0)] 6 = mkF m 0 #[.val (.ref x0), .unset, .unset, .unset, .unset, .unset] [] := by first | (simp [entryFrame, mkF, argsToLocals, Value.category]; done) | rfl
theorem ef_rm10_4 (m : MethodId) (x0 : Addr) : entryFrame m #[(.ref x0)] 6 = mkF m 0 #[.val (.ref x0), .unset, .unset, .unset, .unset, .unset] [] := by first | (simp [entryFrame, mkF, argsToLocals, Value.category]; done) | rfl
theorem sg0_367_3 : decs code [(367, .astore 13, 2), (369, .goto 6, 3), (375, .aload 12, 2)] := ⟨at_367, at_369, at_375, trivial⟩
theorem ef_rm1_7 (m : MethodId) (x0 : Addr) (x1 : Int32) : entryFrame m #[(.ref x0), (.int x1)] 2 = mkF m 0 #[.val (.ref x0), .val (.int x1)] [] := by first | (simp [entryFrame, mkF, argsToLocals, Value.category]; done) | rfl
theorem ef_rm1_8 (m : MethodId) (x0 : Addr) (x1 : Int32) : entryFrame m #[(.ref x0), (.int x1)] 2 = mkF m 0 #[.val (.ref x0), .val (.int x1)] [] := by first | (simp [entryFrame, mkF, argsToLocals, Value.category]; done) | rfl
theorem ef_rm0 (m : MethodId) (x0 : Int32) (x1 : Int32) (x2 : Int32) (x3 : Int32) (x4 : Int32) (x5 : Int32) : entryFrame m #[(.int x0), (.int x1), (.int x2), (.int x3), (.int x4), (.int x5)] maxLocals = mkF m 0 #[.val (.int x0), .val (.int x1), .val (.int x2), .val (.int x3), .val (.int x4), .val (.int x5), .unset, .unset, .unset, .unset, .unset, .unset, .unset, .unset, .unset] [] := by first | (simp [entryFrame, mkF, argsToLocals, Value.category, maxLocals]; done) | rfl
abbrev own_EL : List (String × Nat) := [("com/example/tapline/tapline/rules/ReturnPeriodByIdPinLaw", 18), ("com/example/tapline/tapline/rules/ReturnPeriodByIdPinLaw", 30), ("java/lang/String", 7)]
theorem own_hEL {Z : State} {a0 : Array Value} (hw : HW a0 Z) : EW Z a0 own_EL := (EW.cons (own_w34 hw) (by decide) (EW.cons (own_w72 hw) (by decide) (EW.cons (own_w74 hw) (by decide) EW.nil)))
theorem own_wS0 : ∀ a ∈ Bundle.stringAtoms, a ∈ tables_1 := by decide +kernel
theorem own_wS {Z : State} {a0 : Array Value} (hw : HW a0 Z) : ∀ a ∈ Bundle.stringAtoms, a.before a0 Z = true := fun a ha => hw a (own_wS0 a ha)
theorem rm6_0 (l : Launch) (Z : State) (a0 : Array Value) (hw : HW a0 Z) (ws : List Jvm.Cond) (o0 o2 : Addr) (k_o0 : ClassId) (u1 : Int32) (k_o2 : ClassId) (h0 : Heap) (n0 : Nat) (O0 : Old Z n0 h0) (V_o0 : Arv Z h0 o0 k_o0 .char (1 : Int32) [(.int u1)] (.int (0 : Int32))) (bnd_u1 : ¬ u1 < (0 : Int32) ∧ ¬ (255 : Int32) < u1) (V_o2 : Arv Z h0 o2 k_o2 .byte (1 : Int32) [(.int (0 : Int32))] (.int (0 : Int32))) (g_o2 : n0 ≤ o2) :
    Con l Z (⟨"java/lang/StringUTF16", "compress", "([CI[BII)I"⟩ : MethodName) jdk_52_method_21_code 7 (some .int) ws ({ frames := 0, cells := 0, slots := 0, locals := 0 } : Room) #[(.ref o0), (.int (0 : Int32)), (.ref o2), (.int (0 : Int32)), (.int (1 : Int32))] h0 (fun v h L => v = some (.int (1 : Int32)) ∧ Fr n0 L ∧ Keep h0 h [o2] ∧ Arv Z h o2 k_o2 .byte (1 : Int32) [(.int (u1.toInt8.toInt32))] (.int (0 : Int32))) := by
 refine own_body (plainFor_of_name own_pn0) (fun m => ef_rm6_0 m o0 (0 : Int32) o2 (1 : Int32)) ?_
 intro p e s m below meth c s₁ hx hby hlk hml hret hZ hown hnm X0 e0
 have N0 := Fr.nil n0
 refine Home.run X0 hx hby sg6_0_4 (pc' := 7) (L' := #[.val (.ref o0), .val (.int (0 : Int32)), .val (.ref o2), .val (.int (0 : Int32)), .val (.int (1 : Int32)), .val (.int (0 : Int32)), .unset]) (S' := [(.int (1 : Int32)), (.int (0 : Int32))]) rfl ?_
 refine Home.go (fun _ => XS.icmpNo X0.here hx rfl (hb hby d6_7) rfl (tlt (by decide)).2.1) ?_
 refine Home.run X0 hx hby sg6_10_2 (pc' := 12) (L' := #[.val (.ref o0), .val (.int (0 : Int32)), .val (.ref o2), .val (.int (0 : Int32)), .val (.int (1 : Int32)), .val (.int (0 : Int32)), .unset]) (S' := [(.int (0 : Int32)), (.ref o0)]) rfl ?_
 obtain ⟨cl1, Ar1, q1, S1, M1, H1, G1⟩ := id V_o0
 have ib1 : ¬ ((0 : Int32) < 0 ∨ cl1.slots.size ≤ ((0 : Int32)).toNatClampNeg) := inb_of S1 ⟨by decide, by decide⟩
 refine Home.go (X0.caload hx (j := (0 : Int32)) (v := (.int u1)) (by rw [e0]; exact Ar1.1) (State.isArrayOf_alike hZ.alike Ar1.2.1) Ar1.2.2 ib1 (Has.at H1 ib1 rfl) rfl rfl (hb hby d6_12)) ?_
 refine Home.run X0 hx hby sg6_13_3 (pc' := 20) (L' := #[.val (.ref o0), .val (.int (0 : Int32)), .val (.ref o2), .val (.int (0 : Int32)), .val (.int (1 : Int32)), .val (.int (0 : Int32)), .val (.int u1)]) (S' := [(.int (255 : Int32)), (.int u1)]) rfl ?_
 refine Home.go (fun _ => XS.icmpYes X0.here hx rfl (pc0 := 20) (pc' := 26) rfl (hb hby d6_20) rfl (flt (bnd_nlt (bnd_lit (255 : Int32)) bnd_u1 (by decide +kernel))).2.2.2 (by decide) (by decide)) ?_
 refine Home.run X0 hx hby sg6_26_4 (pc' := 31) (L' := #[.val (.ref o0), .val (.int (0 : Int32)), .val (.ref o2), .val (.int (0 : Int32)), .val (.int (1 : Int32)), .val (.int (0 : Int32)), .val (.int u1)]) (S' := [(.int (u1.toInt8.toInt32)), (.int (0 : Int32)), (.ref o2)]) rfl ?_
 obtain ⟨cl2, Ar2, q2, S2, M2, H2, G2⟩ := id V_o2
 refine Home.wr (stB X0 hx hZ e0 Ar2 (j := (0 : Int32)) (inb_of S2 ⟨by decide, by decide⟩) rfl rfl (hb hby d6_31)) fun T2 h2 X2 e2 W2 => ?_
 have W2' := Wr.to W2 (congrArg Value.int (nar_byte_id (bnd_i2b u1) (by decide +kernel) (by decide +kernel)))
 have V2 : Arv Z h2 o2 k_o2 .byte (1 : Int32) [(.int (u1.toInt8.toInt32))] (.int (0 : Int32)) := Arv.set Ar2 q2 S2 M2 H2 G2 (fits_byte_b (bnd_i2b u1) (by decide +kernel) (by decide +kernel)) W2' 0 rfl (Nat.le_of_ble_eq_true rfl)
 have O2 := O0.wr W2 g_o2
 have K2 : Keep h0 h2 ([o2] : List Addr) := Keep.wr (Keep.refl h0 ([o2] : List Addr)) W2 (Or.inl (List.mem_of_getElem? (i := 0) rfl))
 have N2 := Fr.snoc X2 N0 g_o2
 show Home T2 (mkF m 32 #[.val (.ref o0), .val (.int (0 : Int32)), .val (.ref o2), .val (.int (0 : Int32)), .val (.int (1 : Int32)), .val (.int (0 : Int32)), .val (.int u1)] [])
 refine Home.run X2 hx hby sg6_32_6 (pc' := 7) (L' := #[.val (.ref o0), .val (.int (1 : Int32)), .val (.ref o2), .val (.int (1 : Int32)), .val (.int (1 : Int32)), .val (.int (1 : Int32)), .val (.int u1)]) (S' := [(.int (1 : Int32)), (.int (1 : Int32))]) rfl ?_
 refine Home.go (fun _ => XS.icmpYes X2.here hx rfl (pc0 := 7) (pc' := 44) rfl (hb hby d6_7) rfl (flt (by decide)).2.1 (by decide) (by decide)) ?_
 refine Home.run X2 hx hby sg6_44_1 (pc' := 46) (L' := #[.val (.ref o0), .val (.int (1 : Int32)), .val (.ref o2), .val (.int (1 : Int32)), .val (.int (1 : Int32)), .val (.int (1 : Int32)), .val (.int u1)]) (S' := [(.int (1 : Int32))]) rfl ?_
 exact Home.retI X2 hx hlk hret (hb hby d6_46) (by rw [show T2.heap = h2 from e2]; exact ⟨rfl, N2, K2, V2⟩) (by decide) (by decide)
theorem rm5_0 (l : Launch) (Z : State) (a0 : Array Value) (hw : HW a0 Z) (ws : List Jvm.Cond) (o0 : Addr) (k_o0 : ClassId) (u1 : Int32) (h0 : Heap) (n0 : Nat) (O0 : Old Z n0 h0) (V_o0 : Arv Z h0 o0 k_o0 .char (1 : Int32) [(.int u1)] (.int (0 : Int32))) (bnd_u1 : ¬ u1 < (0 : Int32) ∧ ¬ (255 : Int32) < u1) :
    Con l Z (⟨"java/lang/StringUTF16", "compress", "([CII)[B"⟩ : MethodName) jdk_52_method_16_code 6 (some (.array .byte)) ws ({ frames := 1, cells := 1, slots := 1, locals := 18 } : Room) #[(.ref o0), (.int (0 : Int32)), (.int (1 : Int32))] h0 (fun v h L => ∃ (b1 : Addr), ∃ (k1 : ClassId), v = some (.ref b1) ∧ Fr n0 L ∧ h0.size ≤ b1 ∧ Keep h0 h [] ∧ Arv Z h b1 k1 .byte (1 : Int32) [(.int (u1.toInt8.toInt32))] (.int (0 : Int32))) := by
 refine own_body (plainFor_of_name own_pn0) (fun m => ef_rm5_0 m o0 (0 : Int32) (1 : Int32)) ?_
 intro p e s m below meth c s₁ hx hby hlk hml hret hZ hown hnm X0 e0
 have N0 := Fr.nil n0
 refine Home.run X0 hx hby sg5_0_1 (pc' := 1) (L' := #[.val (.ref o0), .val (.int (0 : Int32)), .val (.int (1 : Int32)), .unset, .unset, .unset]) (S' := [(.int (1 : Int32))]) rfl ?_
 refine Home.na (own_newP (aty := .byte) X0 hx hZ (own_w23 hw) e0 (g := (mkF m 1 #[.val (.ref o0), .val (.int (0 : Int32)), .val (.int (1 : Int32)), .unset, .unset, .unset] [(.int (1 : Int32))])) rfl (hb hby d5_1) rfl (by decide) (cap := 1) (by decide) (by decide) (by decide) (by decide)) fun T1 h1 k1 b1 g1 X1 e1 E1 A1 => ?_
 have g_b1 : n0 ≤ b1 := Nat.le_trans (Old.le O0) (Nat.le_of_eq g1.symm)
 have V1 : Arv Z h1 b1 k1 .byte (1 : Int32) [(.int (0 : Int32))] (.int (0 : Int32)) := (Arv.new A1 (by decide)).pad (pad_rep [] (.int (0 : Int32)) 1)
 have O1 := O0.ext E1
 have K1 : Keep h0 h1 ([] : List Addr) := Keep.ext (Keep.refl h0 ([] : List Addr)) E1
 refine Home.run X1 hx hby sg5_3_6 (pc' := 9) (L' := #[.val (.ref o0), .val (.int (0 : Int32)), .val (.int (1 : Int32)), .val (.ref b1), .unset, .unset]) (S' := [(.int (1 : Int32)), (.int (0 : Int32)), (.ref b1), (.int (0 : Int32)), (.ref o0)]) rfl ?_
 refine Home.call (own_static X1 hx hZ hown (own_w24 hw) (own_w25 hw) (own_w21 hw) (own_w26 hw) (by decide) (rm6_0 l Z a0 hw [] o0 b1 k_o0 u1 k1 h1 n0 O1 (V_o0.keep K1 nin0) bnd_u1 V1 g_b1) e1 rfl (by rw [hml]; rfl) (argsL := [(.ref o0), (.int (0 : Int32)), (.ref b1), (.int (0 : Int32)), (.int (1 : Int32))]) (rest := []) (lenOf own_pd0 rfl) rfl rfl (W := 0) (by exact hW0) (by decide) (by decide) (hb hby d5_9) (by decide) (by decide)) ?_
 rintro _ T2 L2 X2 ⟨rfl, N2q, K2q, P2_0⟩
 have O2 := Old.keep O1 K2q (allS g_b1 all0)
 have K2 : Keep h0 T2.heap ([] : List Addr) := Keep.trans K1 K2q (allS (Or.inr (Nat.le_trans (Nat.le_refl _) (Nat.le_of_eq g1.symm))) all0)
 have N2 := Fr.app N0 N2q
 show Home T2 (mkF m 12 #[.val (.ref o0), .val (.int (0 : Int32)), .val (.int (1 : Int32)), .val (.ref b1), .unset, .unset] [(.int (1 : Int32))])
 refine Home.run X2 hx hby sg5_12_3 (pc' := 17) (L' := #[.val (.ref o0), .val (.int (0 : Int32)), .val (.int (1 : Int32)), .val (.ref b1), .val (.int (1 : Int32)), .unset]) (S' := [(.int (1 : Int32)), (.int (1 : Int32))]) rfl ?_
 refine Home.go (fun _ => XS.icmpYes X2.here hx rfl (pc0 := 17) (pc' := 57) rfl (hb hby d5_17) rfl (teq (by decide)).1 (by decide) (by decide)) ?_
 refine Home.run X2 hx hby sg5_57_1 (pc' := 58) (L' := #[.val (.ref o0), .val (.int (0 : Int32)), .val (.int (1 : Int32)), .val (.ref b1), .val (.int (1 : Int32)), .unset]) (S' := [(.ref b1)]) rfl ?_
 exact Home.retR X2 hx hlk hret rfl rfl (hb hby d5_58) ⟨b1, k1, rfl, N2, (Nat.le_trans (Nat.le_refl _) (Nat.le_of_eq g1.symm)), K2, P2_0⟩ (by decide) (by decide)
theorem rm7_0 (l : Launch) (Z : State) (a0 : Array Value) (hw : HW a0 Z) (ws : List Jvm.Cond) (o0 : Addr) (k_o0 : ClassId) (u1 : Int32) (h0 : Heap) (n0 : Nat) (O0 : Old Z n0 h0) (V_o0 : Arv Z h0 o0 k_o0 .byte (1 : Int32) [(.int u1)] (.int (0 : Int32))) :
    Con l Z (⟨"java/lang/StringUTF16", "coderFromArrayLen", "([BI)B"⟩ : MethodName) jdk_52_method_15_code 2 (some .byte) ws ({ frames := 0, cells := 0, slots := 0, locals := 0 } : Room) #[(.ref o0), (.int (1 : Int32))] h0 (Pur (some (.int (0 : Int32))) h0) := by
 refine own_body (plainFor_of_name own_pn0) (fun m => ef_rm7_0 m o0 (1 : Int32)) ?_
 intro p e s m below meth c s₁ hx hby hlk hml hret hZ hown hnm X0 e0
 have N0 := Fr.nil n0
 refine Home.run X0 hx hby sg7_0_2 (pc' := 2) (L' := #[.val (.ref o0), .val (.int (1 : Int32))]) (S' := [(.ref o0), (.int (1 : Int32))]) rfl ?_
 obtain ⟨cl1, Ar1, q1, S1, M1, H1, G1⟩ := id V_o0
 refine Home.go (own_alen X0 hx hZ e0 Ar1 S1 M1 rfl rfl (hb hby d7_2)) ?_
 refine Home.run X0 hx hby sg7_3_4 (pc' := 8) (L' := #[.val (.ref o0), .val (.int (1 : Int32))]) (S' := [(.int (0 : Int32))]) rfl ?_
 exact Home.retN X0 hx hlk (t := .byte) hret (by simp) (hb hby d7_8) ⟨congrArg some (congrArg Value.int (by first | rfl | exact nar_i2c _ | exact nar_i2b _)), rfl, e0⟩ (by decide) (by decide)
theorem rm3_0 (l : Launch) (Z : State) (a0 : Array Value) (hw : HW a0 Z) (ws : List Jvm.Cond) (o0 o1 : Addr) (sv_COMPACT_STRINGS : Int32) (k_o1 : ClassId) (u1 : Int32) (h0 : Heap) (n0 : Nat) (O0 : Old Z n0 h0) (S_COMPACT_STRINGS : Sta Z Z.heap "java/lang/String" "COMPACT_STRINGS" "Z" (.int sv_COMPACT_STRINGS)) (hCS : ¬ (sv_COMPACT_STRINGS = (0 : Int32))) (V_o1 : Arv Z h0 o1 k_o1 .char (1 : Int32) [(.int u1)] (.int (0 : Int32))) (bnd_u1 : ¬ u1 < (0 : Int32) ∧ ¬ (255 : Int32) < u1) (E_o0 : Exa Z h0 o0 "java/lang/String") (F_coder_o0 : Fld Z h0 o0 "java/lang/String" "coder" "B" (.int (0 : Int32))) (g_o0 : n0 ≤ o0) (F_value_o0 : Fld Z h0 o0 "java/lang/String" "value" "[B" .null) :
    Con l Z (⟨"java/lang/String", "<init>", "([CIILjava/lang/Void;)V"⟩ : MethodName) jdk_42_method_149_code 6 none ws ({ frames := 2, cells := 1, slots := 1, locals := 35 } : Room) #[(.ref o0), (.ref o1), (.int (0 : Int32)), (.int (1 : Int32)), .null] h0 (fun v h L => ∃ (b1_3 : Addr), ∃ (k1_3 : ClassId), v = none ∧ Fr n0 L ∧ h0.size ≤ b1_3 ∧ Keep h0 h [o0] ∧ Exa Z h o0 "java/lang/String" ∧ Fld Z h o0 "java/lang/String" "coder" "B" (.int (0 : Int32)) ∧ Fld Z h o0 "java/lang/String" "value" "[B" (.ref b1_3) ∧ Arv Z h b1_3 k1_3 .byte (1 : Int32) [(.int (u1.toInt8.toInt32))] (.int (0 : Int32))) := by
 refine own_body (plainFor_of_name own_pn1) (fun m => ef_rm3_0 m o0 o1 (0 : Int32) (1 : Int32)) ?_
 intro p e s m below meth c s₁ hx hby hlk hml hret hZ hown hnm X0 e0
 have N0 := Fr.nil n0
 refine Home.run X0 hx hby sg3_0_1 (pc' := 1) (L' := #[.val (.ref o0), .val (.ref o1), .val (.int (0 : Int32)), .val (.int (1 : Int32)), .val .null, .unset]) (S' := [(.ref o0)]) rfl ?_
 refine Home.st (initO X0 hx hZ hown (own_w15 hw) (own_w16 hw) (own_w17 hw) e0 rfl (by rw [hml]; rfl) rfl (hb hby d3_1) (by decide) (W := 0) (by exact hW0) (by decide)) fun T1 X1 e1 => ?_
 refine Home.run X1 hx hby sg3_4_1 (pc' := 5) (L' := #[.val (.ref o0), .val (.ref o1), .val (.int (0 : Int32)), .val (.int (1 : Int32)), .val .null, .unset]) (S' := [(.int (1 : Int32))]) rfl ?_
 refine Home.go (fun _ => XS.ifYes X1.here hx rfl (pc0 := 5) (pc' := 27) rfl (hb hby d3_5) rfl ((if0 _ _).trans (feq (by decide)).2) (by decide) (by decide)) ?_
 refine Home.st (getS2 X1 hx hZ hown (host := "") (Or.inl (own_w18 hw)) Via.refl e1 (S_COMPACT_STRINGS.ext O0.2) rfl (hb hby d3_27)) fun T2 X2 e2 => ?_
 refine Home.go (fun _ => XS.ifNo X2.here hx rfl (hb hby d3_30) rfl ((if0 _ _).trans (feq hCS).1)) ?_
 refine Home.run X2 hx hby sg3_33_3 (pc' := 36) (L' := #[.val (.ref o0), .val (.ref o1), .val (.int (0 : Int32)), .val (.int (1 : Int32)), .val .null, .unset]) (S' := [(.int (1 : Int32)), (.int (0 : Int32)), (.ref o1)]) rfl ?_
 refine Home.call (own_static X2 hx hZ hown (own_w19 hw) (own_w20 hw) (own_w21 hw) (own_w22 hw) (by decide) (rm5_0 l Z a0 hw [] o1 k_o1 u1 h0 n0 O0 V_o1 bnd_u1) e2 rfl (by rw [hml]; rfl) (argsL := [(.ref o1), (.int (0 : Int32)), (.int (1 : Int32))]) (rest := []) (lenOf own_pd1 rfl) rfl rfl (W := 0) (by exact hW0) (by decide) (by decide) (hb hby d3_36) (by decide) (by decide)) ?_
 rintro _ T3 L3 X3 ⟨b1_3, k1_3, rfl, N3q, sz_b1_3, K3q, P3_0⟩
 have g_b1_3 : n0 ≤ b1_3 := Nat.le_trans (Old.le O0) sz_b1_3
 have O3 := Old.keep O0 K3q all0
 have K3 : Keep h0 T3.heap ([o0] : List Addr) := Keep.trans (Keep.refl h0 ([o0] : List Addr)) K3q all0
 have N3 := Fr.app N0 N3q
 show Home T3 (mkF m 39 #[.val (.ref o0), .val (.ref o1), .val (.int (0 : Int32)), .val (.int (1 : Int32)), .val .null, .unset] [(.ref b1_3)])
 refine Home.run X3 hx hby sg3_39_4 (pc' := 45) (L' := #[.val (.ref o0), .val (.ref o1), .val (.int (0 : Int32)), .val (.int (1 : Int32)), .val .null, .val (.ref b1_3)]) (S' := [(.int (1 : Int32)), (.ref b1_3), (.ref o0)]) rfl ?_
 refine Home.st (own_pure (own_static X3 hx hZ hown (own_w27 hw) (own_w28 hw) (own_w21 hw) (own_w29 hw) (by decide) (rm7_0 l Z a0 hw [] b1_3 k1_3 (u1.toInt8.toInt32) T3.heap n0 O3 P3_0) rfl rfl (by rw [hml]; rfl) (argsL := [(.ref b1_3), (.int (1 : Int32))]) (rest := [(.ref o0)]) (lenOf own_pd2 rfl) rfl rfl (W := 1) (by exact hW0) (by decide) (by decide) (hb hby d3_45) (by decide) (by decide))) fun T4 X4 e4 => ?_
 have q5 := (F_coder_o0.keep K3q nin0)
 refine Home.wr (putFN X4 hx hZ hown (own_w30 hw) Via.refl e4 q5 (E_o0.keep K3) (Or.inr ⟨(own_w31 hw), rfl, hnm⟩) (own_w6 hw) (ty := .byte) (v := (.int (0 : Int32))) (v' := (.int (0 : Int32))) (by decide) rfl rfl rfl rfl (hb hby d3_48)) fun T6 h6 X6 e6 W6 => ?_
 have Fw6 := q5.same W6
 have O6 := O3.wr W6 g_o0
 have K6 : Keep h0 h6 ([o0] : List Addr) := Keep.wr K3 W6 (Or.inl (List.mem_of_getElem? (i := 0) rfl))
 have N6 := Fr.snoc X6 N3 g_o0
 show Home T6 (mkF m 51 #[.val (.ref o0), .val (.ref o1), .val (.int (0 : Int32)), .val (.int (1 : Int32)), .val .null, .val (.ref b1_3)] [])
 refine Home.run X6 hx hby sg3_51_2 (pc' := 54) (L' := #[.val (.ref o0), .val (.ref o1), .val (.int (0 : Int32)), .val (.int (1 : Int32)), .val .null, .val (.ref b1_3)]) (S' := [(.ref b1_3), (.ref o0)]) rfl ?_
 have q7 := ((F_value_o0.keep K3q nin0).other W6 (Or.inr (slot_ne (Or.inr (own_w33 hw)) (Or.inr (own_w31 hw)) (by decide) (t := (.array .byte)) (t' := .byte) (by decide) (by decide))))
 refine Home.wr (putF X6 hx hZ hown (host := "") (Or.inl (own_w32 hw)) Via.refl e6 q7 (E_o0.keep K6) (Or.inr ⟨(own_w33 hw), rfl, hnm⟩) (own_w6 hw) (ty := (.array .byte)) (by decide) rfl rfl rfl rfl (hb hby d3_54)) fun T8 h8 X8 e8 W8 => ?_
 have Fw8 := q7.same W8
 have O8 := O6.wr W8 g_o0
 have K8 : Keep h0 h8 ([o0] : List Addr) := Keep.wr K6 W8 (Or.inl (List.mem_of_getElem? (i := 0) rfl))
 have N8 := Fr.snoc X8 N6 g_o0
 have q9 := (Fw6.other W8 (Or.inr (slot_ne (Or.inr (own_w31 hw)) (Or.inr (own_w33 hw)) (by decide) (t := .byte) (t' := (.array .byte)) (by decide) (by decide))))
 have ne10 : b1_3 ≠ o0 := (Ne.symm (Nat.ne_of_lt (Nat.lt_of_lt_of_le E_o0.lt (Nat.le_trans (Nat.le_refl _) sz_b1_3))))
 have q11 := ((P3_0.other W6 ne10).other W8 ne10)
 exact Home.ret0 X8 hx hlk hret (hb hby d3_57) (by rw [show T8.heap = h8 from e8]; exact ⟨b1_3, k1_3, rfl, N8, (Nat.le_trans (Nat.le_refl _) sz_b1_3), K8, (E_o0.keep K8), q9, Fw8, q11⟩) (by decide) (by decide)
theorem rm2_0 (l : Launch) (Z : State) (a0 : Array Value) (hw : HW a0 Z) (ws : List Jvm.Cond) (o0 o1 : Addr) (k_o1 : ClassId) (u1 sv_COMPACT_STRINGS : Int32) (h0 : Heap) (n0 : Nat) (O0 : Old Z n0 h0) (V_o1 : Arv Z h0 o1 k_o1 .char (1 : Int32) [(.int u1)] (.int (0 : Int32))) (S_COMPACT_STRINGS : Sta Z Z.heap "java/lang/String" "COMPACT_STRINGS" "Z" (.int sv_COMPACT_STRINGS)) (E_o0 : Exa Z h0 o0 "java/lang/String") (F_coder_o0 : Fld Z h0 o0 "java/lang/String" "coder" "B" (.int (0 : Int32))) (F_value_o0 : Fld Z h0 o0 "java/lang/String" "value" "[B" .null) (bnd_u1 : ¬ u1 < (0 : Int32) ∧ ¬ (255 : Int32) < u1) (g_o0 : n0 ≤ o0) (hCS : ¬ (sv_COMPACT_STRINGS = (0 : Int32))) :
    Con l Z (⟨"java/lang/String", "<init>", "([C)V"⟩ : MethodName) jdk_42_method_3_code 2 none ws ({ frames := 3, cells := 1, slots := 1, locals := 52 } : Room) #[(.ref o0), (.ref o1)] h0 (fun v h L => ∃ (b1_3_2 : Addr), ∃ (k1_3_2 : ClassId), v = none ∧ Fr n0 L ∧ h0.size ≤ b1_3_2 ∧ Keep h0 h [o0] ∧ Exa Z h o0 "java/lang/String" ∧ Fld Z h o0 "java/lang/String" "coder" "B" (.int (0 : Int32)) ∧ Fld Z h o0 "java/lang/String" "value" "[B" (.ref b1_3_2) ∧ Arv Z h b1_3_2 k1_3_2 .byte (1 : Int32) [(.int (u1.toInt8.toInt32))] (.int (0 : Int32))) := by
 refine own_body (plainFor_of_name own_pn1) (fun m => ef_rm2_0 m o0 o1) ?_
 intro p e s m below meth c s₁ hx hby hlk hml hret hZ hown hnm X0 e0
 have N0 := Fr.nil n0
 refine Home.run X0 hx hby sg2_0_4 (pc' := 4) (L' := #[.val (.ref o0), .val (.ref o1)]) (S' := [(.ref o1), (.int (0 : Int32)), (.ref o1), (.ref o0)]) rfl ?_
 obtain ⟨cl1, Ar1, q1, S1, M1, H1, G1⟩ := id V_o1
 refine Home.go (own_alen X0 hx hZ e0 Ar1 S1 M1 rfl rfl (hb hby d2_4)) ?_
 refine Home.run X0 hx hby sg2_5_1 (pc' := 6) (L' := #[.val (.ref o0), .val (.ref o1)]) (S' := [.null, (.int (1 : Int32)), (.int (0 : Int32)), (.ref o1), (.ref o0)]) rfl ?_
 refine Home.call (own_special X0 hx hZ hown rfl (own_w11 hw) (own_w12 hw) (own_w7 hw) (own_w14 hw) (by decide) (rm3_0 l Z a0 hw [] o0 o1 sv_COMPACT_STRINGS k_o1 u1 h0 n0 O0 S_COMPACT_STRINGS hCS V_o1 bnd_u1 E_o0 F_coder_o0 g_o0 F_value_o0) e0 rfl (by rw [hml]; rfl) (a := o0) (argsL := [(.ref o1), (.int (0 : Int32)), (.int (1 : Int32)), .null]) (rest := []) (lenOf own_pd3 rfl) rfl rfl (W := 0) (by exact hW0) (by decide) (by decide) (hb hby d2_6) (by decide) (by decide)) ?_
 rintro _ T2 L2 X2 ⟨b1_3_2, k1_3_2, rfl, N2q, sz_b1_3_2, K2q, P2_0, P2_1, P2_2, P2_3⟩
 have g_b1_3_2 : n0 ≤ b1_3_2 := Nat.le_trans (Old.le O0) sz_b1_3_2
 have O2 := Old.keep O0 K2q (allS g_o0 all0)
 have K2 : Keep h0 T2.heap ([o0] : List Addr) := Keep.trans (Keep.refl h0 ([o0] : List Addr)) K2q (allS (Or.inl (List.mem_of_getElem? (i := 0) rfl)) all0)
 have N2 := Fr.app N0 N2q
 show Home T2 (mkF m 9 #[.val (.ref o0), .val (.ref o1)] [])
 exact Home.ret0 X2 hx hlk hret (hb hby d2_9) ⟨b1_3_2, k1_3_2, rfl, N2, (Nat.le_trans (Nat.le_refl _) sz_b1_3_2), K2, P2_0, P2_1, P2_2, P2_3⟩ (by decide) (by decide)
theorem rm6_1 (l : Launch) (Z : State) (a0 : Array Value) (hw : HW a0 Z) (ws : List Jvm.Cond) (o0 o2 : Addr) (k_o0 : ClassId) (u1 u2 : Int32) (k_o2 : ClassId) (h0 : Heap) (n0 : Nat) (O0 : Old Z n0 h0) (V_o0 : Arv Z h0 o0 k_o0 .char (2 : Int32) [(.int u1), (.int u2)] (.int (0 : Int32))) (bnd_u1 : ¬ u1 < (0 : Int32) ∧ ¬ (255 : Int32) < u1) (V_o2 : Arv Z h0 o2 k_o2 .byte (2 : Int32) [(.int (0 : Int32)), (.int (0 : Int32))] (.int (0 : Int32))) (g_o2 : n0 ≤ o2) (ne_o0_o2 : o0 ≠ o2) (bnd_u2 : ¬ u2 < (0 : Int32) ∧ ¬ (255 : Int32) < u2) :
    Con l Z (⟨"java/lang/StringUTF16", "compress", "([CI[BII)I"⟩ : MethodName) jdk_52_method_21_code 7 (some .int) ws ({ frames := 0, cells := 0, slots := 0, locals := 0 } : Room) #[(.ref o0), (.int (0 : Int32)), (.ref o2), (.int (0 : Int32)), (.int (2 : Int32))] h0 (fun v h L => v = some (.int (2 : Int32)) ∧ Fr n0 L ∧ Keep h0 h [o2] ∧ Arv Z h o2 k_o2 .byte (2 : Int32) [(.int (u1.toInt8.toInt32)), (.int (u2.toInt8.toInt32))] (.int (0 : Int32))) := by
 refine own_body (plainFor_of_name own_pn0) (fun m => ef_rm6_1 m o0 (0 : Int32) o2 (2 : Int32)) ?_
 intro p e s m below meth c s₁ hx hby hlk hml hret hZ hown hnm X0 e0
 have N0 := Fr.nil n0
 refine Home.run X0 hx hby sg6_0_4 (pc' := 7) (L' := #[.val (.ref o0), .val (.int (0 : Int32)), .val (.ref o2), .val (.int (0 : Int32)), .val (.int (2 : Int32)), .val (.int (0 : Int32)), .unset]) (S' := [(.int (2 : Int32)), (.int (0 : Int32))]) rfl ?_
 refine Home.go (fun _ => XS.icmpNo X0.here hx rfl (hb hby d6_7) rfl (tlt (by decide)).2.1) ?_
 refine Home.run X0 hx hby sg6_10_2 (pc' := 12) (L' := #[.val (.ref o0), .val (.int (0 : Int32)), .val (.ref o2), .val (.int (0 : Int32)), .val (.int (2 : Int32)), .val (.int (0 : Int32)), .unset]) (S' := [(.int (0 : Int32)), (.ref o0)]) rfl ?_
 obtain ⟨cl1, Ar1, q1, S1, M1, H1, G1⟩ := id V_o0
 have ib1 : ¬ ((0 : Int32) < 0 ∨ cl1.slots.size ≤ ((0 : Int32)).toNatClampNeg) := inb_of S1 ⟨by decide, by decide⟩
 refine Home.go (X0.caload hx (j := (0 : Int32)) (v := (.int u1)) (by rw [e0]; exact Ar1.1) (State.isArrayOf_alike hZ.alike Ar1.2.1) Ar1.2.2 ib1 (Has.at H1 ib1 rfl) rfl rfl (hb hby d6_12)) ?_
 refine Home.run X0 hx hby sg6_13_3 (pc' := 20) (L' := #[.val (.ref o0), .val (.int (0 : Int32)), .val (.ref o2), .val (.int (0 : Int32)), .val (.int (2 : Int32)), .val (.int (0 : Int32)), .val (.int u1)]) (S' := [(.int (255 : Int32)), (.int u1)]) rfl ?_
 refine Home.go (fun _ => XS.icmpYes X0.here hx rfl (pc0 := 20) (pc' := 26) rfl (hb hby d6_20) rfl (flt (bnd_nlt (bnd_lit (255 : Int32)) bnd_u1 (by decide +kernel))).2.2.2 (by decide) (by decide)) ?_
 refine Home.run X0 hx hby sg6_26_4 (pc' := 31) (L' := #[.val (.ref o0), .val (.int (0 : Int32)), .val (.ref o2), .val (.int (0 : Int32)), .val (.int (2 : Int32)), .val (.int (0 : Int32)), .val (.int u1)]) (S' := [(.int (u1.toInt8.toInt32)), (.int (0 : Int32)), (.ref o2)]) rfl ?_
 obtain ⟨cl2, Ar2, q2, S2, M2, H2, G2⟩ := id V_o2
 refine Home.wr (stB X0 hx hZ e0 Ar2 (j := (0 : Int32)) (inb_of S2 ⟨by decide, by decide⟩) rfl rfl (hb hby d6_31)) fun T2 h2 X2 e2 W2 => ?_
 have W2' := Wr.to W2 (congrArg Value.int (nar_byte_id (bnd_i2b u1) (by decide +kernel) (by decide +kernel)))
 have V2 : Arv Z h2 o2 k_o2 .byte (2 : Int32) [(.int (u1.toInt8.toInt32)), (.int (0 : Int32))] (.int (0 : Int32)) := Arv.set Ar2 q2 S2 M2 H2 G2 (fits_byte_b (bnd_i2b u1) (by decide +kernel) (by decide +kernel)) W2' 0 rfl (Nat.le_of_ble_eq_true rfl)
 have O2 := O0.wr W2 g_o2
 have K2 : Keep h0 h2 ([o2] : List Addr) := Keep.wr (Keep.refl h0 ([o2] : List Addr)) W2 (Or.inl (List.mem_of_getElem? (i := 0) rfl))
 have N2 := Fr.snoc X2 N0 g_o2
 show Home T2 (mkF m 32 #[.val (.ref o0), .val (.int (0 : Int32)), .val (.ref o2), .val (.int (0 : Int32)), .val (.int (2 : Int32)), .val (.int (0 : Int32)), .val (.int u1)] [])
 refine Home.run X2 hx hby sg6_32_6 (pc' := 7) (L' := #[.val (.ref o0), .val (.int (1 : Int32)), .val (.ref o2), .val (.int (1 : Int32)), .val (.int (2 : Int32)), .val (.int (1 : Int32)), .val (.int u1)]) (S' := [(.int (2 : Int32)), (.int (1 : Int32))]) rfl ?_
 refine Home.go (fun _ => XS.icmpNo X2.here hx rfl (hb hby d6_7) rfl (tlt (by decide)).2.1) ?_
 refine Home.run X2 hx hby sg6_10_2 (pc' := 12) (L' := #[.val (.ref o0), .val (.int (1 : Int32)), .val (.ref o2), .val (.int (1 : Int32)), .val (.int (2 : Int32)), .val (.int (1 : Int32)), .val (.int u1)]) (S' := [(.int (1 : Int32)), (.ref o0)]) rfl ?_
 have q3 := (V_o0.other W2 ne_o0_o2)
 obtain ⟨cl4, Ar4, q4, S4, M4, H4, G4⟩ := id q3
 have ib4 : ¬ ((1 : Int32) < 0 ∨ cl4.slots.size ≤ ((1 : Int32)).toNatClampNeg) := inb_of S4 ⟨by decide, by decide⟩
 refine Home.go (X2.caload hx (j := (1 : Int32)) (v := (.int u2)) (by rw [e2]; exact Ar4.1) (State.isArrayOf_alike hZ.alike Ar4.2.1) Ar4.2.2 ib4 (Has.at H4 ib4 rfl) rfl rfl (hb hby d6_12)) ?_
 refine Home.run X2 hx hby sg6_13_3 (pc' := 20) (L' := #[.val (.ref o0), .val (.int (1 : Int32)), .val (.ref o2), .val (.int (1 : Int32)), .val (.int (2 : Int32)), .val (.int (1 : Int32)), .val (.int u2)]) (S' := [(.int (255 : Int32)), (.int u2)]) rfl ?_
 refine Home.go (fun _ => XS.icmpYes X2.here hx rfl (pc0 := 20) (pc' := 26) rfl (hb hby d6_20) rfl (flt (bnd_nlt (bnd_lit (255 : Int32)) bnd_u2 (by decide +kernel))).2.2.2 (by decide) (by decide)) ?_
 refine Home.run X2 hx hby sg6_26_4 (pc' := 31) (L' := #[.val (.ref o0), .val (.int (1 : Int32)), .val (.ref o2), .val (.int (1 : Int32)), .val (.int (2 : Int32)), .val (.int (1 : Int32)), .val (.int u2)]) (S' := [(.int (u2.toInt8.toInt32)), (.int (1 : Int32)), (.ref o2)]) rfl ?_
 obtain ⟨cl5, Ar5, q5, S5, M5, H5, G5⟩ := id V2
 refine Home.wr (stB X2 hx hZ e2 Ar5 (j := (1 : Int32)) (inb_of S5 ⟨by decide, by decide⟩) rfl rfl (hb hby d6_31)) fun T5 h5 X5 e5 W5 => ?_
 have W5' := Wr.to W5 (congrArg Value.int (nar_byte_id (bnd_i2b u2) (by decide +kernel) (by decide +kernel)))
 have V5 : Arv Z h5 o2 k_o2 .byte (2 : Int32) [(.int (u1.toInt8.toInt32)), (.int (u2.toInt8.toInt32))] (.int (0 : Int32)) := Arv.set Ar5 q5 S5 M5 H5 G5 (fits_byte_b (bnd_i2b u2) (by decide +kernel) (by decide +kernel)) W5' 1 rfl (Nat.le_of_ble_eq_true rfl)
 have O5 := O2.wr W5 g_o2
 have K5 : Keep h0 h5 ([o2] : List Addr) := Keep.wr K2 W5 (Or.inl (List.mem_of_getElem? (i := 0) rfl))
 have N5 := Fr.snoc X5 N2 g_o2
 show Home T5 (mkF m 32 #[.val (.ref o0), .val (.int (1 : Int32)), .val (.ref o2), .val (.int (1 : Int32)), .val (.int (2 : Int32)), .val (.int (1 : Int32)), .val (.int u2)] [])
 refine Home.run X5 hx hby sg6_32_6 (pc' := 7) (L' := #[.val (.ref o0), .val (.int (2 : Int32)), .val (.ref o2), .val (.int (2 : Int32)), .val (.int (2 : Int32)), .val (.int (2 : Int32)), .val (.int u2)]) (S' := [(.int (2 : Int32)), (.int (2 : Int32))]) rfl ?_
 refine Home.go (fun _ => XS.icmpYes X5.here hx rfl (pc0 := 7) (pc' := 44) rfl (hb hby d6_7) rfl (flt (by decide)).2.1 (by decide) (by decide)) ?_
 refine Home.run X5 hx hby sg6_44_1 (pc' := 46) (L' := #[.val (.ref o0), .val (.int (2 : Int32)), .val (.ref o2), .val (.int (2 : Int32)), .val (.int (2 : Int32)), .val (.int (2 : Int32)), .val (.int u2)]) (S' := [(.int (2 : Int32))]) rfl ?_
 exact Home.retI X5 hx hlk hret (hb hby d6_46) (by rw [show T5.heap = h5 from e5]; exact ⟨rfl, N5, K5, V5⟩) (by decide) (by decide)
theorem rm5_1 (l : Launch) (Z : State) (a0 : Array Value) (hw : HW a0 Z) (ws : List Jvm.Cond) (o0 : Addr) (k_o0 : ClassId) (u1 u2 : Int32) (h0 : Heap) (n0 : Nat) (O0 : Old Z n0 h0) (V_o0 : Arv Z h0 o0 k_o0 .char (2 : Int32) [(.int u1), (.int u2)] (.int (0 : Int32))) (bnd_u1 : ¬ u1 < (0 : Int32) ∧ ¬ (255 : Int32) < u1) (bnd_u2 : ¬ u2 < (0 : Int32) ∧ ¬ (255 : Int32) < u2) :
    Con l Z (⟨"java/lang/StringUTF16", "compress", "([CII)[B"⟩ : MethodName) jdk_52_method_16_code 6 (some (.array .byte)) ws ({ frames := 1, cells := 1, slots := 2, locals := 18 } : Room) #[(.ref o0), (.int (0 : Int32)), (.int (2 : Int32))] h0 (fun v h L => ∃ (b1 : Addr), ∃ (k1 : ClassId), v = some (.ref b1) ∧ Fr n0 L ∧ h0.size ≤ b1 ∧ Keep h0 h [] ∧ Arv Z h b1 k1 .byte (2 : Int32) [(.int (u1.toInt8.toInt32)), (.int (u2.toInt8.toInt32))] (.int (0 : Int32))) := by
 refine own_body (plainFor_of_name own_pn0) (fun m => ef_rm5_1 m o0 (0 : Int32) (2 : Int32)) ?_
 intro p e s m below meth c s₁ hx hby hlk hml hret hZ hown hnm X0 e0
 have N0 := Fr.nil n0
 refine Home.run X0 hx hby sg5_0_1 (pc' := 1) (L' := #[.val (.ref o0), .val (.int (0 : Int32)), .val (.int (2 : Int32)), .unset, .unset, .unset]) (S' := [(.int (2 : Int32))]) rfl ?_
 refine Home.na (own_newP (aty := .byte) X0 hx hZ (own_w23 hw) e0 (g := (mkF m 1 #[.val (.ref o0), .val (.int (0 : Int32)), .val (.int (2 : Int32)), .unset, .unset, .unset] [(.int (2 : Int32))])) rfl (hb hby d5_1) rfl (by decide) (cap := 2) (by decide) (by decide) (by decide) (by decide)) fun T1 h1 k1 b1 g1 X1 e1 E1 A1 => ?_
 have g_b1 : n0 ≤ b1 := Nat.le_trans (Old.le O0) (Nat.le_of_eq g1.symm)
 have V1 : Arv Z h1 b1 k1 .byte (2 : Int32) [(.int (0 : Int32)), (.int (0 : Int32))] (.int (0 : Int32)) := (Arv.new A1 (by decide)).pad (pad_rep [] (.int (0 : Int32)) 2)
 have O1 := O0.ext E1
 have K1 : Keep h0 h1 ([] : List Addr) := Keep.ext (Keep.refl h0 ([] : List Addr)) E1
 refine Home.run X1 hx hby sg5_3_6 (pc' := 9) (L' := #[.val (.ref o0), .val (.int (0 : Int32)), .val (.int (2 : Int32)), .val (.ref b1), .unset, .unset]) (S' := [(.int (2 : Int32)), (.int (0 : Int32)), (.ref b1), (.int (0 : Int32)), (.ref o0)]) rfl ?_
 have ne2 : o0 ≠ b1 := (Nat.ne_of_lt (Nat.lt_of_lt_of_le V_o0.lt (Nat.le_trans (Nat.le_refl _) (Nat.le_of_eq g1.symm))))
 refine Home.call (own_static X1 hx hZ hown (own_w24 hw) (own_w25 hw) (own_w21 hw) (own_w26 hw) (by decide) (rm6_1 l Z a0 hw [] o0 b1 k_o0 u1 u2 k1 h1 n0 O1 (V_o0.keep K1 nin0) bnd_u1 V1 g_b1 ne2 bnd_u2) e1 rfl (by rw [hml]; rfl) (argsL := [(.ref o0), (.int (0 : Int32)), (.ref b1), (.int (0 : Int32)), (.int (2 : Int32))]) (rest := []) (lenOf own_pd0 rfl) rfl rfl (W := 0) (by exact hW0) (by decide) (by decide) (hb hby d5_9) (by decide) (by decide)) ?_
 rintro _ T3 L3 X3 ⟨rfl, N3q, K3q, P3_0⟩
 have O3 := Old.keep O1 K3q (allS g_b1 all0)
 have K3 : Keep h0 T3.heap ([] : List Addr) := Keep.trans K1 K3q (allS (Or.inr (Nat.le_trans (Nat.le_refl _) (Nat.le_of_eq g1.symm))) all0)
 have N3 := Fr.app N0 N3q
 show Home T3 (mkF m 12 #[.val (.ref o0), .val (.int (0 : Int32)), .val (.int (2 : Int32)), .val (.ref b1), .unset, .unset] [(.int (2 : Int32))])
 refine Home.run X3 hx hby sg5_12_3 (pc' := 17) (L' := #[.val (.ref o0), .val (.int (0 : Int32)), .val (.int (2 : Int32)), .val (.ref b1), .val (.int (2 : Int32)), .unset]) (S' := [(.int (2 : Int32)), (.int (2 : Int32))]) rfl ?_
 refine Home.go (fun _ => XS.icmpYes X3.here hx rfl (pc0 := 17) (pc' := 57) rfl (hb hby d5_17) rfl (teq (by decide)).1 (by decide) (by decide)) ?_
 refine Home.run X3 hx hby sg5_57_1 (pc' := 58) (L' := #[.val (.ref o0), .val (.int (0 : Int32)), .val (.int (2 : Int32)), .val (.ref b1), .val (.int (2 : Int32)), .unset]) (S' := [(.ref b1)]) rfl ?_
 exact Home.retR X3 hx hlk hret rfl rfl (hb hby d5_58) ⟨b1, k1, rfl, N3, (Nat.le_trans (Nat.le_refl _) (Nat.le_of_eq g1.symm)), K3, P3_0⟩ (by decide) (by decide)
theorem rm7_1 (l : Launch) (Z : State) (a0 : Array Value) (hw : HW a0 Z) (ws : List Jvm.Cond) (o0 : Addr) (k_o0 : ClassId) (u1 u2 : Int32) (h0 : Heap) (n0 : Nat) (O0 : Old Z n0 h0) (V_o0 : Arv Z h0 o0 k_o0 .byte (2 : Int32) [(.int u1), (.int u2)] (.int (0 : Int32))) :
    Con l Z (⟨"java/lang/StringUTF16", "coderFromArrayLen", "([BI)B"⟩ : MethodName) jdk_52_method_15_code 2 (some .byte) ws ({ frames := 0, cells := 0, slots := 0, locals := 0 } : Room) #[(.ref o0), (.int (2 : Int32))] h0 (Pur (some (.int (0 : Int32))) h0) := by
 refine own_body (plainFor_of_name own_pn0) (fun m => ef_rm7_1 m o0 (2 : Int32)) ?_
 intro p e s m below meth c s₁ hx hby hlk hml hret hZ hown hnm X0 e0
 have N0 := Fr.nil n0
 refine Home.run X0 hx hby sg7_0_2 (pc' := 2) (L' := #[.val (.ref o0), .val (.int (2 : Int32))]) (S' := [(.ref o0), (.int (2 : Int32))]) rfl ?_
 obtain ⟨cl1, Ar1, q1, S1, M1, H1, G1⟩ := id V_o0
 refine Home.go (own_alen X0 hx hZ e0 Ar1 S1 M1 rfl rfl (hb hby d7_2)) ?_
 refine Home.run X0 hx hby sg7_3_4 (pc' := 8) (L' := #[.val (.ref o0), .val (.int (2 : Int32))]) (S' := [(.int (0 : Int32))]) rfl ?_
 exact Home.retN X0 hx hlk (t := .byte) hret (by simp) (hb hby d7_8) ⟨congrArg some (congrArg Value.int (by first | rfl | exact nar_i2c _ | exact nar_i2b _)), rfl, e0⟩ (by decide) (by decide)
theorem rm3_1 (l : Launch) (Z : State) (a0 : Array Value) (hw : HW a0 Z) (ws : List Jvm.Cond) (o0 o1 : Addr) (sv_COMPACT_STRINGS : Int32) (k_o1 : ClassId) (u1 u2 : Int32) (h0 : Heap) (n0 : Nat) (O0 : Old Z n0 h0) (S_COMPACT_STRINGS : Sta Z Z.heap "java/lang/String" "COMPACT_STRINGS" "Z" (.int sv_COMPACT_STRINGS)) (hCS : ¬ (sv_COMPACT_STRINGS = (0 : Int32))) (V_o1 : Arv Z h0 o1 k_o1 .char (2 : Int32) [(.int u1), (.int u2)] (.int (0 : Int32))) (bnd_u1 : ¬ u1 < (0 : Int32) ∧ ¬ (255 : Int32) < u1) (bnd_u2 : ¬ u2 < (0 : Int32) ∧ ¬ (255 : Int32) < u2) (E_o0 : Exa Z h0 o0 "java/lang/String") (F_coder_o0 : Fld Z h0 o0 "java/lang/String" "coder" "B" (.int (0 : Int32))) (g_o0 : n0 ≤ o0) (F_value_o0 : Fld Z h0 o0 "java/lang/String" "value" "[B" .null) :
    Con l Z (⟨"java/lang/String", "<init>", "([CIILjava/lang/Void;)V"⟩ : MethodName) jdk_42_method_149_code 6 none ws ({ frames := 2, cells := 1, slots := 2, locals := 35 } : Room) #[(.ref o0), (.ref o1), (.int (0 : Int32)), (.int (2 : Int32)), .null] h0 (fun v h L => ∃ (b1_3 : Addr), ∃ (k1_3 : ClassId), v = none ∧ Fr n0 L ∧ h0.size ≤ b1_3 ∧ Keep h0 h [o0] ∧ Exa Z h o0 "java/lang/String" ∧ Fld Z h o0 "java/lang/String" "coder" "B" (.int (0 : Int32)) ∧ Fld Z h o0 "java/lang/String" "value" "[B" (.ref b1_3) ∧ Arv Z h b1_3 k1_3 .byte (2 : Int32) [(.int (u1.toInt8.toInt32)), (.int (u2.toInt8.toInt32))] (.int (0 : Int32))) := by
 refine own_body (plainFor_of_name own_pn1) (fun m => ef_rm3_1 m o0 o1 (0 : Int32) (2 : Int32)) ?_
 intro p e s m below meth c s₁ hx hby hlk hml hret hZ hown hnm X0 e0
 have N0 := Fr.nil n0
 refine Home.run X0 hx hby sg3_0_1 (pc' := 1) (L' := #[.val (.ref o0), .val (.ref o1), .val (.int (0 : Int32)), .val (.int (2 : Int32)), .val .null, .unset]) (S' := [(.ref o0)]) rfl ?_
 refine Home.st (initO X0 hx hZ hown (own_w15 hw) (own_w16 hw) (own_w17 hw) e0 rfl (by rw [hml]; rfl) rfl (hb hby d3_1) (by decide) (W := 0) (by exact hW0) (by decide)) fun T1 X1 e1 => ?_
 refine Home.run X1 hx hby sg3_4_1 (pc' := 5) (L' := #[.val (.ref o0), .val (.ref o1), .val (.int (0 : Int32)), .val (.int (2 : Int32)), .val .null, .unset]) (S' := [(.int (2 : Int32))]) rfl ?_
 refine Home.go (fun _ => XS.ifYes X1.here hx rfl (pc0 := 5) (pc' := 27) rfl (hb hby d3_5) rfl ((if0 _ _).trans (feq (by decide)).2) (by decide) (by decide)) ?_
 refine Home.st (getS2 X1 hx hZ hown (host := "") (Or.inl (own_w18 hw)) Via.refl e1 (S_COMPACT_STRINGS.ext O0.2) rfl (hb hby d3_27)) fun T2 X2 e2 => ?_
 refine Home.go (fun _ => XS.ifNo X2.here hx rfl (hb hby d3_30) rfl ((if0 _ _).trans (feq hCS).1)) ?_
 refine Home.run X2 hx hby sg3_33_3 (pc' := 36) (L' := #[.val (.ref o0), .val (.ref o1), .val (.int (0 : Int32)), .val (.int (2 : Int32)), .val .null, .unset]) (S' := [(.int (2 : Int32)), (.int (0 : Int32)), (.ref o1)]) rfl ?_
 refine Home.call (own_static X2 hx hZ hown (own_w19 hw) (own_w20 hw) (own_w21 hw) (own_w22 hw) (by decide) (rm5_1 l Z a0 hw [] o1 k_o1 u1 u2 h0 n0 O0 V_o1 bnd_u1 bnd_u2) e2 rfl (by rw [hml]; rfl) (argsL := [(.ref o1), (.int (0 : Int32)), (.int (2 : Int32))]) (rest := []) (lenOf own_pd1 rfl) rfl rfl (W := 0) (by exact hW0) (by decide) (by decide) (hb hby d3_36) (by decide) (by decide)) ?_
 rintro _ T3 L3 X3 ⟨b1_3, k1_3, rfl, N3q, sz_b1_3, K3q, P3_0⟩
 have g_b1_3 : n0 ≤ b1_3 := Nat.le_trans (Old.le O0) sz_b1_3
 have O3 := Old.keep O0 K3q all0
 have K3 : Keep h0 T3.heap ([o0] : List Addr) := Keep.trans (Keep.refl h0 ([o0] : List Addr)) K3q all0
 have N3 := Fr.app N0 N3q
 show Home T3 (mkF m 39 #[.val (.ref o0), .val (.ref o1), .val (.int (0 : Int32)), .val (.int (2 : Int32)), .val .null, .unset] [(.ref b1_3)])
 refine Home.run X3 hx hby sg3_39_4 (pc' := 45) (L' := #[.val (.ref o0), .val (.ref o1), .val (.int (0 : Int32)), .val (.int (2 : Int32)), .val .null, .val (.ref b1_3)]) (S' := [(.int (2 : Int32)), (.ref b1_3), (.ref o0)]) rfl ?_
 refine Home.st (own_pure (own_static X3 hx hZ hown (own_w27 hw) (own_w28 hw) (own_w21 hw) (own_w29 hw) (by decide) (rm7_1 l Z a0 hw [] b1_3 k1_3 (u1.toInt8.toInt32) (u2.toInt8.toInt32) T3.heap n0 O3 P3_0) rfl rfl (by rw [hml]; rfl) (argsL := [(.ref b1_3), (.int (2 : Int32))]) (rest := [(.ref o0)]) (lenOf own_pd2 rfl) rfl rfl (W := 1) (by exact hW0) (by decide) (by decide) (hb hby d3_45) (by decide) (by decide))) fun T4 X4 e4 => ?_
 have q5 := (F_coder_o0.keep K3q nin0)
 refine Home.wr (putFN X4 hx hZ hown (own_w30 hw) Via.refl e4 q5 (E_o0.keep K3) (Or.inr ⟨(own_w31 hw), rfl, hnm⟩) (own_w6 hw) (ty := .byte) (v := (.int (0 : Int32))) (v' := (.int (0 : Int32))) (by decide) rfl rfl rfl rfl (hb hby d3_48)) fun T6 h6 X6 e6 W6 => ?_
 have Fw6 := q5.same W6
 have O6 := O3.wr W6 g_o0
 have K6 : Keep h0 h6 ([o0] : List Addr) := Keep.wr K3 W6 (Or.inl (List.mem_of_getElem? (i := 0) rfl))
 have N6 := Fr.snoc X6 N3 g_o0
 show Home T6 (mkF m 51 #[.val (.ref o0), .val (.ref o1), .val (.int (0 : Int32)), .val (.int (2 : Int32)), .val .null, .val (.ref b1_3)] [])
 refine Home.run X6 hx hby sg3_51_2 (pc' := 54) (L' := #[.val (.ref o0), .val (.ref o1), .val (.int (0 : Int32)), .val (.int (2 : Int32)), .val .null, .val (.ref b1_3)]) (S' := [(.ref b1_3), (.ref o0)]) rfl ?_
 have q7 := ((F_value_o0.keep K3q nin0).other W6 (Or.inr (slot_ne (Or.inr (own_w33 hw)) (Or.inr (own_w31 hw)) (by decide) (t := (.array .byte)) (t' := .byte) (by decide) (by decide))))
 refine Home.wr (putF X6 hx hZ hown (host := "") (Or.inl (own_w32 hw)) Via.refl e6 q7 (E_o0.keep K6) (Or.inr ⟨(own_w33 hw), rfl, hnm⟩) (own_w6 hw) (ty := (.array .byte)) (by decide) rfl rfl rfl rfl (hb hby d3_54)) fun T8 h8 X8 e8 W8 => ?_
 have Fw8 := q7.same W8
 have O8 := O6.wr W8 g_o0
 have K8 : Keep h0 h8 ([o0] : List Addr) := Keep.wr K6 W8 (Or.inl (List.mem_of_getElem? (i := 0) rfl))
 have N8 := Fr.snoc X8 N6 g_o0
 have q9 := (Fw6.other W8 (Or.inr (slot_ne (Or.inr (own_w31 hw)) (Or.inr (own_w33 hw)) (by decide) (t := .byte) (t' := (.array .byte)) (by decide) (by decide))))
 have ne10 : b1_3 ≠ o0 := (Ne.symm (Nat.ne_of_lt (Nat.lt_of_lt_of_le E_o0.lt (Nat.le_trans (Nat.le_refl _) sz_b1_3))))
 have q11 := ((P3_0.other W6 ne10).other W8 ne10)
 exact Home.ret0 X8 hx hlk hret (hb hby d3_57) (by rw [show T8.heap = h8 from e8]; exact ⟨b1_3, k1_3, rfl, N8, (Nat.le_trans (Nat.le_refl _) sz_b1_3), K8, (E_o0.keep K8), q9, Fw8, q11⟩) (by decide) (by decide)
theorem rm2_1 (l : Launch) (Z : State) (a0 : Array Value) (hw : HW a0 Z) (ws : List Jvm.Cond) (o0 o1 : Addr) (k_o1 : ClassId) (u1 u2 sv_COMPACT_STRINGS : Int32) (h0 : Heap) (n0 : Nat) (O0 : Old Z n0 h0) (V_o1 : Arv Z h0 o1 k_o1 .char (2 : Int32) [(.int u1), (.int u2)] (.int (0 : Int32))) (S_COMPACT_STRINGS : Sta Z Z.heap "java/lang/String" "COMPACT_STRINGS" "Z" (.int sv_COMPACT_STRINGS)) (E_o0 : Exa Z h0 o0 "java/lang/String") (F_coder_o0 : Fld Z h0 o0 "java/lang/String" "coder" "B" (.int (0 : Int32))) (F_value_o0 : Fld Z h0 o0 "java/lang/String" "value" "[B" .null) (bnd_u1 : ¬ u1 < (0 : Int32) ∧ ¬ (255 : Int32) < u1) (bnd_u2 : ¬ u2 < (0 : Int32) ∧ ¬ (255 : Int32) < u2) (g_o0 : n0 ≤ o0) (hCS : ¬ (sv_COMPACT_STRINGS = (0 : Int32))) :
    Con l Z (⟨"java/lang/String", "<init>", "([C)V"⟩ : MethodName) jdk_42_method_3_code 2 none ws ({ frames := 3, cells := 1, slots := 2, locals := 52 } : Room) #[(.ref o0), (.ref o1)] h0 (fun v h L => ∃ (b1_3_2 : Addr), ∃ (k1_3_2 : ClassId), v = none ∧ Fr n0 L ∧ h0.size ≤ b1_3_2 ∧ Keep h0 h [o0] ∧ Exa Z h o0 "java/lang/String" ∧ Fld Z h o0 "java/lang/String" "coder" "B" (.int (0 : Int32)) ∧ Fld Z h o0 "java/lang/String" "value" "[B" (.ref b1_3_2) ∧ Arv Z h b1_3_2 k1_3_2 .byte (2 : Int32) [(.int (u1.toInt8.toInt32)), (.int (u2.toInt8.toInt32))] (.int (0 : Int32))) := by
 refine own_body (plainFor_of_name own_pn1) (fun m => ef_rm2_1 m o0 o1) ?_
 intro p e s m below meth c s₁ hx hby hlk hml hret hZ hown hnm X0 e0
 have N0 := Fr.nil n0
 refine Home.run X0 hx hby sg2_0_4 (pc' := 4) (L' := #[.val (.ref o0), .val (.ref o1)]) (S' := [(.ref o1), (.int (0 : Int32)), (.ref o1), (.ref o0)]) rfl ?_
 obtain ⟨cl1, Ar1, q1, S1, M1, H1, G1⟩ := id V_o1
 refine Home.go (own_alen X0 hx hZ e0 Ar1 S1 M1 rfl rfl (hb hby d2_4)) ?_
 refine Home.run X0 hx hby sg2_5_1 (pc' := 6) (L' := #[.val (.ref o0), .val (.ref o1)]) (S' := [.null, (.int (2 : Int32)), (.int (0 : Int32)), (.ref o1), (.ref o0)]) rfl ?_
 refine Home.call (own_special X0 hx hZ hown rfl (own_w11 hw) (own_w12 hw) (own_w7 hw) (own_w14 hw) (by decide) (rm3_1 l Z a0 hw [] o0 o1 sv_COMPACT_STRINGS k_o1 u1 u2 h0 n0 O0 S_COMPACT_STRINGS hCS V_o1 bnd_u1 bnd_u2 E_o0 F_coder_o0 g_o0 F_value_o0) e0 rfl (by rw [hml]; rfl) (a := o0) (argsL := [(.ref o1), (.int (0 : Int32)), (.int (2 : Int32)), .null]) (rest := []) (lenOf own_pd3 rfl) rfl rfl (W := 0) (by exact hW0) (by decide) (by decide) (hb hby d2_6) (by decide) (by decide)) ?_
 rintro _ T2 L2 X2 ⟨b1_3_2, k1_3_2, rfl, N2q, sz_b1_3_2, K2q, P2_0, P2_1, P2_2, P2_3⟩
 have g_b1_3_2 : n0 ≤ b1_3_2 := Nat.le_trans (Old.le O0) sz_b1_3_2
 have O2 := Old.keep O0 K2q (allS g_o0 all0)
 have K2 : Keep h0 T2.heap ([o0] : List Addr) := Keep.trans (Keep.refl h0 ([o0] : List Addr)) K2q (allS (Or.inl (List.mem_of_getElem? (i := 0) rfl)) all0)
 have N2 := Fr.app N0 N2q
 show Home T2 (mkF m 9 #[.val (.ref o0), .val (.ref o1)] [])
 exact Home.ret0 X2 hx hlk hret (hb hby d2_9) ⟨b1_3_2, k1_3_2, rfl, N2, (Nat.le_trans (Nat.le_refl _) sz_b1_3_2), K2, P2_0, P2_1, P2_2, P2_3⟩ (by decide) (by decide)
theorem rm6_2 (l : Launch) (Z : State) (a0 : Array Value) (hw : HW a0 Z) (ws : List Jvm.Cond) (o0 o2 : Addr) (k_o0 : ClassId) (u1 u2 u3 : Int32) (k_o2 : ClassId) (h0 : Heap) (n0 : Nat) (O0 : Old Z n0 h0) (V_o0 : Arv Z h0 o0 k_o0 .char (3 : Int32) [(.int u1), (.int u2), (.int u3)] (.int (0 : Int32))) (bnd_u1 : ¬ u1 < (0 : Int32) ∧ ¬ (255 : Int32) < u1) (V_o2 : Arv Z h0 o2 k_o2 .byte (3 : Int32) [(.int (0 : Int32)), (.int (0 : Int32)), (.int (0 : Int32))] (.int (0 : Int32))) (g_o2 : n0 ≤ o2) (ne_o0_o2 : o0 ≠ o2) (bnd_u2 : ¬ u2 < (0 : Int32) ∧ ¬ (255 : Int32) < u2) (bnd_u3 : ¬ u3 < (0 : Int32) ∧ ¬ (255 : Int32) < u3) :
    Con l Z (⟨"java/lang/StringUTF16", "compress", "([CI[BII)I"⟩ : MethodName) jdk_52_method_21_code 7 (some .int) ws ({ frames := 0, cells := 0, slots := 0, locals := 0 } : Room) #[(.ref o0), (.int (0 : Int32)), (.ref o2), (.int (0 : Int32)), (.int (3 : Int32))] h0 (fun v h L => v = some (.int (3 : Int32)) ∧ Fr n0 L ∧ Keep h0 h [o2] ∧ Arv Z h o2 k_o2 .byte (3 : Int32) [(.int (u1.toInt8.toInt32)), (.int (u2.toInt8.toInt32)), (.int (u3.toInt8.toInt32))] (.int (0 : Int32))) := by
 refine own_body (plainFor_of_name own_pn0) (fun m => ef_rm6_2 m o0 (0 : Int32) o2 (3 : Int32)) ?_
 intro p e s m below meth c s₁ hx hby hlk hml hret hZ hown hnm X0 e0
 have N0 := Fr.nil n0
 refine Home.run X0 hx hby sg6_0_4 (pc' := 7) (L' := #[.val (.ref o0), .val (.int (0 : Int32)), .val (.ref o2), .val (.int (0 : Int32)), .val (.int (3 : Int32)), .val (.int (0 : Int32)), .unset]) (S' := [(.int (3 : Int32)), (.int (0 : Int32))]) rfl ?_
 refine Home.go (fun _ => XS.icmpNo X0.here hx rfl (hb hby d6_7) rfl (tlt (by decide)).2.1) ?_
 refine Home.run X0 hx hby sg6_10_2 (pc' := 12) (L' := #[.val (.ref o0), .val (.int (0 : Int32)), .val (.ref o2), .val (.int (0 : Int32)), .val (.int (3 : Int32)), .val (.int (0 : Int32)), .unset]) (S' := [(.int (0 : Int32)), (.ref o0)]) rfl ?_
 obtain ⟨cl1, Ar1, q1, S1, M1, H1, G1⟩ := id V_o0
 have ib1 : ¬ ((0 : Int32) < 0 ∨ cl1.slots.size ≤ ((0 : Int32)).toNatClampNeg) := inb_of S1 ⟨by decide, by decide⟩
 refine Home.go (X0.caload hx (j := (0 : Int32)) (v := (.int u1)) (by rw [e0]; exact Ar1.1) (State.isArrayOf_alike hZ.alike Ar1.2.1) Ar1.2.2 ib1 (Has.at H1 ib1 rfl) rfl rfl (hb hby d6_12)) ?_
 refine Home.run X0 hx hby sg6_13_3 (pc' := 20) (L' := #[.val (.ref o0), .val (.int (0 : Int32)), .val (.ref o2), .val (.int (0 : Int32)), .val (.int (3 : Int32)), .val (.int (0 : Int32)), .val (.int u1)]) (S' := [(.int (255 : Int32)), (.int u1)]) rfl ?_
 refine Home.go (fun _ => XS.icmpYes X0.here hx rfl (pc0 := 20) (pc' := 26) rfl (hb hby d6_20) rfl (flt (bnd_nlt (bnd_lit (255 : Int32)) bnd_u1 (by decide +kernel))).2.2.2 (by decide) (by decide)) ?_
 refine Home.run X0 hx hby sg6_26_4 (pc' := 31) (L' := #[.val (.ref o0), .val (.int (0 : Int32)), .val (.ref o2), .val (.int (0 : Int32)), .val (.int (3 : Int32)), .val (.int (0 : Int32)), .val (.int u1)]) (S' := [(.int (u1.toInt8.toInt32)), (.int (0 : Int32)), (.ref o2)]) rfl ?_
 obtain ⟨cl2, Ar2, q2, S2, M2, H2, G2⟩ := id V_o2
 refine Home.wr (stB X0 hx hZ e0 Ar2 (j := (0 : Int32)) (inb_of S2 ⟨by decide, by decide⟩) rfl rfl (hb hby d6_31)) fun T2 h2 X2 e2 W2 => ?_
 have W2' := Wr.to W2 (congrArg Value.int (nar_byte_id (bnd_i2b u1) (by decide +kernel) (by decide +kernel)))
 have V2 : Arv Z h2 o2 k_o2 .byte (3 : Int32) [(.int (u1.toInt8.toInt32)), (.int (0 : Int32)), (.int (0 : Int32))] (.int (0 : Int32)) := Arv.set Ar2 q2 S2 M2 H2 G2 (fits_byte_b (bnd_i2b u1) (by decide +kernel) (by decide +kernel)) W2' 0 rfl (Nat.le_of_ble_eq_true rfl)
 have O2 := O0.wr W2 g_o2
 have K2 : Keep h0 h2 ([o2] : List Addr) := Keep.wr (Keep.refl h0 ([o2] : List Addr)) W2 (Or.inl (List.mem_of_getElem? (i := 0) rfl))
 have N2 := Fr.snoc X2 N0 g_o2
 show Home T2 (mkF m 32 #[.val (.ref o0), .val (.int (0 : Int32)), .val (.ref o2), .val (.int (0 : Int32)), .val (.int (3 : Int32)), .val (.int (0 : Int32)), .val (.int u1)] [])
 refine Home.run X2 hx hby sg6_32_6 (pc' := 7) (L' := #[.val (.ref o0), .val (.int (1 : Int32)), .val (.ref o2), .val (.int (1 : Int32)), .val (.int (3 : Int32)), .val (.int (1 : Int32)), .val (.int u1)]) (S' := [(.int (3 : Int32)), (.int (1 : Int32))]) rfl ?_
 refine Home.go (fun _ => XS.icmpNo X2.here hx rfl (hb hby d6_7) rfl (tlt (by decide)).2.1) ?_
 refine Home.run X2 hx hby sg6_10_2 (pc' := 12) (L' := #[.val (.ref o0), .val (.int (1 : Int32)), .val (.ref o2), .val (.int (1 : Int32)), .val (.int (3 : Int32)), .val (.int (1 : Int32)), .val (.int u1)]) (S' := [(.int (1 : Int32)), (.ref o0)]) rfl ?_
 have q3 := (V_o0.other W2 ne_o0_o2)
 obtain ⟨cl4, Ar4, q4, S4, M4, H4, G4⟩ := id q3
 have ib4 : ¬ ((1 : Int32) < 0 ∨ cl4.slots.size ≤ ((1 : Int32)).toNatClampNeg) := inb_of S4 ⟨by decide, by decide⟩
 refine Home.go (X2.caload hx (j := (1 : Int32)) (v := (.int u2)) (by rw [e2]; exact Ar4.1) (State.isArrayOf_alike hZ.alike Ar4.2.1) Ar4.2.2 ib4 (Has.at H4 ib4 rfl) rfl rfl (hb hby d6_12)) ?_
 refine Home.run X2 hx hby sg6_13_3 (pc' := 20) (L' := #[.val (.ref o0), .val (.int (1 : Int32)), .val (.ref o2), .val (.int (1 : Int32)), .val (.int (3 : Int32)), .val (.int (1 : Int32)), .val (.int u2)]) (S' := [(.int (255 : Int32)), (.int u2)]) rfl ?_
 refine Home.go (fun _ => XS.icmpYes X2.here hx rfl (pc0 := 20) (pc' := 26) rfl (hb hby d6_20) rfl (flt (bnd_nlt (bnd_lit (255 : Int32)) bnd_u2 (by decide +kernel))).2.2.2 (by decide) (by decide)) ?_
 refine Home.run X2 hx hby sg6_26_4 (pc' := 31) (L' := #[.val (.ref o0), .val (.int (1 : Int32)), .val (.ref o2), .val (.int (1 : Int32)), .val (.int (3 : Int32)), .val (.int (1 : Int32)), .val (.int u2)]) (S' := [(.int (u2.toInt8.toInt32)), (.int (1 : Int32)), (.ref o2)]) rfl ?_
 obtain ⟨cl5, Ar5, q5, S5, M5, H5, G5⟩ := id V2
 refine Home.wr (stB X2 hx hZ e2 Ar5 (j := (1 : Int32)) (inb_of S5 ⟨by decide, by decide⟩) rfl rfl (hb hby d6_31)) fun T5 h5 X5 e5 W5 => ?_
 have W5' := Wr.to W5 (congrArg Value.int (nar_byte_id (bnd_i2b u2) (by decide +kernel) (by decide +kernel)))
 have V5 : Arv Z h5 o2 k_o2 .byte (3 : Int32) [(.int (u1.toInt8.toInt32)), (.int (u2.toInt8.toInt32)), (.int (0 : Int32))] (.int (0 : Int32)) := Arv.set Ar5 q5 S5 M5 H5 G5 (fits_byte_b (bnd_i2b u2) (by decide +kernel) (by decide +kernel)) W5' 1 rfl (Nat.le_of_ble_eq_true rfl)
 have O5 := O2.wr W5 g_o2
 have K5 : Keep h0 h5 ([o2] : List Addr) := Keep.wr K2 W5 (Or.inl (List.mem_of_getElem? (i := 0) rfl))
 have N5 := Fr.snoc X5 N2 g_o2
 show Home T5 (mkF m 32 #[.val (.ref o0), .val (.int (1 : Int32)), .val (.ref o2), .val (.int (1 : Int32)), .val (.int (3 : Int32)), .val (.int (1 : Int32)), .val (.int u2)] [])
 refine Home.run X5 hx hby sg6_32_6 (pc' := 7) (L' := #[.val (.ref o0), .val (.int (2 : Int32)), .val (.ref o2), .val (.int (2 : Int32)), .val (.int (3 : Int32)), .val (.int (2 : Int32)), .val (.int u2)]) (S' := [(.int (3 : Int32)), (.int (2 : Int32))]) rfl ?_
 refine Home.go (fun _ => XS.icmpNo X5.here hx rfl (hb hby d6_7) rfl (tlt (by decide)).2.1) ?_
 refine Home.run X5 hx hby sg6_10_2 (pc' := 12) (L' := #[.val (.ref o0), .val (.int (2 : Int32)), .val (.ref o2), .val (.int (2 : Int32)), .val (.int (3 : Int32)), .val (.int (2 : Int32)), .val (.int u2)]) (S' := [(.int (2 : Int32)), (.ref o0)]) rfl ?_
 have q6 := (q3.other W5 ne_o0_o2)
 obtain ⟨cl7, Ar7, q7, S7, M7, H7, G7⟩ := id q6
 have ib7 : ¬ ((2 : Int32) < 0 ∨ cl7.slots.size ≤ ((2 : Int32)).toNatClampNeg) := inb_of S7 ⟨by decide, by decide⟩
 refine Home.go (X5.caload hx (j := (2 : Int32)) (v := (.int u3)) (by rw [e5]; exact Ar7.1) (State.isArrayOf_alike hZ.alike Ar7.2.1) Ar7.2.2 ib7 (Has.at H7 ib7 rfl) rfl rfl (hb hby d6_12)) ?_
 refine Home.run X5 hx hby sg6_13_3 (pc' := 20) (L' := #[.val (.ref o0), .val (.int (2 : Int32)), .val (.ref o2), .val (.int (2 : Int32)), .val (.int (3 : Int32)), .val (.int (2 : Int32)), .val (.int u3)]) (S' := [(.int (255 : Int32)), (.int u3)]) rfl ?_
 refine Home.go (fun _ => XS.icmpYes X5.here hx rfl (pc0 := 20) (pc' := 26) rfl (hb hby d6_20) rfl (flt (bnd_nlt (bnd_lit (255 : Int32)) bnd_u3 (by decide +kernel))).2.2.2 (by decide) (by decide)) ?_
 refine Home.run X5 hx hby sg6_26_4 (pc' := 31) (L' := #[.val (.ref o0), .val (.int (2 : Int32)), .val (.ref o2), .val (.int (2 : Int32)), .val (.int (3 : Int32)), .val (.int (2 : Int32)), .val (.int u3)]) (S' := [(.int (u3.toInt8.toInt32)), (.int (2 : Int32)), (.ref o2)]) rfl ?_
 obtain ⟨cl8, Ar8, q8, S8, M8, H8, G8⟩ := id V5
 refine Home.wr (stB X5 hx hZ e5 Ar8 (j := (2 : Int32)) (inb_of S8 ⟨by decide, by decide⟩) rfl rfl (hb hby d6_31)) fun T8 h8 X8 e8 W8 => ?_
 have W8' := Wr.to W8 (congrArg Value.int (nar_byte_id (bnd_i2b u3) (by decide +kernel) (by decide +kernel)))
 have V8 : Arv Z h8 o2 k_o2 .byte (3 : Int32) [(.int (u1.toInt8.toInt32)), (.int (u2.toInt8.toInt32)), (.int (u3.toInt8.toInt32))] (.int (0 : Int32)) := Arv.set Ar8 q8 S8 M8 H8 G8 (fits_byte_b (bnd_i2b u3) (by decide +kernel) (by decide +kernel)) W8' 2 rfl (Nat.le_of_ble_eq_true rfl)
 have O8 := O5.wr W8 g_o2
 have K8 : Keep h0 h8 ([o2] : List Addr) := Keep.wr K5 W8 (Or.inl (List.mem_of_getElem? (i := 0) rfl))
 have N8 := Fr.snoc X8 N5 g_o2
 show Home T8 (mkF m 32 #[.val (.ref o0), .val (.int (2 : Int32)), .val (.ref o2), .val (.int (2 : Int32)), .val (.int (3 : Int32)), .val (.int (2 : Int32)), .val (.int u3)] [])
 refine Home.run X8 hx hby sg6_32_6 (pc' := 7) (L' := #[.val (.ref o0), .val (.int (3 : Int32)), .val (.ref o2), .val (.int (3 : Int32)), .val (.int (3 : Int32)), .val (.int (3 : Int32)), .val (.int u3)]) (S' := [(.int (3 : Int32)), (.int (3 : Int32))]) rfl ?_
 refine Home.go (fun _ => XS.icmpYes X8.here hx rfl (pc0 := 7) (pc' := 44) rfl (hb hby d6_7) rfl (flt (by decide)).2.1 (by decide) (by decide)) ?_
 refine Home.run X8 hx hby sg6_44_1 (pc' := 46) (L' := #[.val (.ref o0), .val (.int (3 : Int32)), .val (.ref o2), .val (.int (3 : Int32)), .val (.int (3 : Int32)), .val (.int (3 : Int32)), .val (.int u3)]) (S' := [(.int (3 : Int32))]) rfl ?_
 exact Home.retI X8 hx hlk hret (hb hby d6_46) (by rw [show T8.heap = h8 from e8]; exact ⟨rfl, N8, K8, V8⟩) (by decide) (by decide)
theorem rm5_2 (l : Launch) (Z : State) (a0 : Array Value) (hw : HW a0 Z) (ws : List Jvm.Cond) (o0 : Addr) (k_o0 : ClassId) (u1 u2 u3 : Int32) (h0 : Heap) (n0 : Nat) (O0 : Old Z n0 h0) (V_o0 : Arv Z h0 o0 k_o0 .char (3 : Int32) [(.int u1), (.int u2), (.int u3)] (.int (0 : Int32))) (bnd_u1 : ¬ u1 < (0 : Int32) ∧ ¬ (255 : Int32) < u1) (bnd_u2 : ¬ u2 < (0 : Int32) ∧ ¬ (255 : Int32) < u2) (bnd_u3 : ¬ u3 < (0 : Int32) ∧ ¬ (255 : Int32) < u3) :
    Con l Z (⟨"java/lang/StringUTF16", "compress", "([CII)[B"⟩ : MethodName) jdk_52_method_16_code 6 (some (.array .byte)) ws ({ frames := 1, cells := 1, slots := 3, locals := 18 } : Room) #[(.ref o0), (.int (0 : Int32)), (.int (3 : Int32))] h0 (fun v h L => ∃ (b1 : Addr), ∃ (k1 : ClassId), v = some (.ref b1) ∧ Fr n0 L ∧ h0.size ≤ b1 ∧ Keep h0 h [] ∧ Arv Z h b1 k1 .byte (3 : Int32) [(.int (u1.toInt8.toInt32)), (.int (u2.toInt8.toInt32)), (.int (u3.toInt8.toInt32))] (.int (0 : Int32))) := by
 refine own_body (plainFor_of_name own_pn0) (fun m => ef_rm5_2 m o0 (0 : Int32) (3 : Int32)) ?_
 intro p e s m below meth c s₁ hx hby hlk hml hret hZ hown hnm X0 e0
 have N0 := Fr.nil n0
 refine Home.run X0 hx hby sg5_0_1 (pc' := 1) (L' := #[.val (.ref o0), .val (.int (0 : Int32)), .val (.int (3 : Int32)), .unset, .unset, .unset]) (S' := [(.int (3 : Int32))]) rfl ?_
 refine Home.na (own_newP (aty := .byte) X0 hx hZ (own_w23 hw) e0 (g := (mkF m 1 #[.val (.ref o0), .val (.int (0 : Int32)), .val (.int (3 : Int32)), .unset, .unset, .unset] [(.int (3 : Int32))])) rfl (hb hby d5_1) rfl (by decide) (cap := 3) (by decide) (by decide) (by decide) (by decide)) fun T1 h1 k1 b1 g1 X1 e1 E1 A1 => ?_
 have g_b1 : n0 ≤ b1 := Nat.le_trans (Old.le O0) (Nat.le_of_eq g1.symm)
 have V1 : Arv Z h1 b1 k1 .byte (3 : Int32) [(.int (0 : Int32)), (.int (0 : Int32)), (.int (0 : Int32))] (.int (0 : Int32)) := (Arv.new A1 (by decide)).pad (pad_rep [] (.int (0 : Int32)) 3)
 have O1 := O0.ext E1
 have K1 : Keep h0 h1 ([] : List Addr) := Keep.ext (Keep.refl h0 ([] : List Addr)) E1
 refine Home.run X1 hx hby sg5_3_6 (pc' := 9) (L' := #[.val (.ref o0), .val (.int (0 : Int32)), .val (.int (3 : Int32)), .val (.ref b1), .unset, .unset]) (S' := [(.int (3 : Int32)), (.int (0 : Int32)), (.ref b1), (.int (0 : Int32)), (.ref o0)]) rfl ?_
 have ne2 : o0 ≠ b1 := (Nat.ne_of_lt (Nat.lt_of_lt_of_le V_o0.lt (Nat.le_trans (Nat.le_refl _) (Nat.le_of_eq g1.symm))))
 refine Home.call (own_static X1 hx hZ hown (own_w24 hw) (own_w25 hw) (own_w21 hw) (own_w26 hw) (by decide) (rm6_2 l Z a0 hw [] o0 b1 k_o0 u1 u2 u3 k1 h1 n0 O1 (V_o0.keep K1 nin0) bnd_u1 V1 g_b1 ne2 bnd_u2 bnd_u3) e1 rfl (by rw [hml]; rfl) (argsL := [(.ref o0), (.int (0 : Int32)), (.ref b1), (.int (0 : Int32)), (.int (3 : Int32))]) (rest := []) (lenOf own_pd0 rfl) rfl rfl (W := 0) (by exact hW0) (by decide) (by decide) (hb hby d5_9) (by decide) (by decide)) ?_
 rintro _ T3 L3 X3 ⟨rfl, N3q, K3q, P3_0⟩
 have O3 := Old.keep O1 K3q (allS g_b1 all0)
 have K3 : Keep h0 T3.heap ([] : List Addr) := Keep.trans K1 K3q (allS (Or.inr (Nat.le_trans (Nat.le_refl _) (Nat.le_of_eq g1.symm))) all0)
 have N3 := Fr.app N0 N3q
 show Home T3 (mkF m 12 #[.val (.ref o0), .val (.int (0 : Int32)), .val (.int (3 : Int32)), .val (.ref b1), .unset, .unset] [(.int (3 : Int32))])
 refine Home.run X3 hx hby sg5_12_3 (pc' := 17) (L' := #[.val (.ref o0), .val (.int (0 : Int32)), .val (.int (3 : Int32)), .val (.ref b1), .val (.int (3 : Int32)), .unset]) (S' := [(.int (3 : Int32)), (.int (3 : Int32))]) rfl ?_
 refine Home.go (fun _ => XS.icmpYes X3.here hx rfl (pc0 := 17) (pc' := 57) rfl (hb hby d5_17) rfl (teq (by decide)).1 (by decide) (by decide)) ?_
 refine Home.run X3 hx hby sg5_57_1 (pc' := 58) (L' := #[.val (.ref o0), .val (.int (0 : Int32)), .val (.int (3 : Int32)), .val (.ref b1), .val (.int (3 : Int32)), .unset]) (S' := [(.ref b1)]) rfl ?_
 exact Home.retR X3 hx hlk hret rfl rfl (hb hby d5_58) ⟨b1, k1, rfl, N3, (Nat.le_trans (Nat.le_refl _) (Nat.le_of_eq g1.symm)), K3, P3_0⟩ (by decide) (by decide)
theorem rm7_2 (l : Launch) (Z : State) (a0 : Array Value) (hw : HW a0 Z) (ws : List Jvm.Cond) (o0 : Addr) (k_o0 : ClassId) (u1 u2 u3 : Int32) (h0 : Heap) (n0 : Nat) (O0 : Old Z n0 h0) (V_o0 : Arv Z h0 o0 k_o0 .byte (3 : Int32) [(.int u1), (.int u2), (.int u3)] (.int (0 : Int32))) :
    Con l Z (⟨"java/lang/StringUTF16", "coderFromArrayLen", "([BI)B"⟩ : MethodName) jdk_52_method_15_code 2 (some .byte) ws ({ frames := 0, cells := 0, slots := 0, locals := 0 } : Room) #[(.ref o0), (.int (3 : Int32))] h0 (Pur (some (.int (0 : Int32))) h0) := by
 refine own_body (plainFor_of_name own_pn0) (fun m => ef_rm7_2 m o0 (3 : Int32)) ?_
 intro p e s m below meth c s₁ hx hby hlk hml hret hZ hown hnm X0 e0
 have N0 := Fr.nil n0
 refine Home.run X0 hx hby sg7_0_2 (pc' := 2) (L' := #[.val (.ref o0), .val (.int (3 : Int32))]) (S' := [(.ref o0), (.int (3 : Int32))]) rfl ?_
 obtain ⟨cl1, Ar1, q1, S1, M1, H1, G1⟩ := id V_o0
 refine Home.go (own_alen X0 hx hZ e0 Ar1 S1 M1 rfl rfl (hb hby d7_2)) ?_
 refine Home.run X0 hx hby sg7_3_4 (pc' := 8) (L' := #[.val (.ref o0), .val (.int (3 : Int32))]) (S' := [(.int (0 : Int32))]) rfl ?_
 exact Home.retN X0 hx hlk (t := .byte) hret (by simp) (hb hby d7_8) ⟨congrArg some (congrArg Value.int (by first | rfl | exact nar_i2c _ | exact nar_i2b _)), rfl, e0⟩ (by decide) (by decide)
theorem rm3_2 (l : Launch) (Z : State) (a0 : Array Value) (hw : HW a0 Z) (ws : List Jvm.Cond) (o0 o1 : Addr) (sv_COMPACT_STRINGS : Int32) (k_o1 : ClassId) (u1 u2 u3 : Int32) (h0 : Heap) (n0 : Nat) (O0 : Old Z n0 h0) (S_COMPACT_STRINGS : Sta Z Z.heap "java/lang/String" "COMPACT_STRINGS" "Z" (.int sv_COMPACT_STRINGS)) (hCS : ¬ (sv_COMPACT_STRINGS = (0 : Int32))) (V_o1 : Arv Z h0 o1 k_o1 .char (3 : Int32) [(.int u1), (.int u2), (.int u3)] (.int (0 : Int32))) (bnd_u1 : ¬ u1 < (0 : Int32) ∧ ¬ (255 : Int32) < u1) (bnd_u2 : ¬ u2 < (0 : Int32) ∧ ¬ (255 : Int32) < u2) (bnd_u3 : ¬ u3 < (0 : Int32) ∧ ¬ (255 : Int32) < u3) (E_o0 : Exa Z h0 o0 "java/lang/String") (F_coder_o0 : Fld Z h0 o0 "java/lang/String" "coder" "B" (.int (0 : Int32))) (g_o0 : n0 ≤ o0) (F_value_o0 : Fld Z h0 o0 "java/lang/String" "value" "[B" .null) :
    Con l Z (⟨"java/lang/String", "<init>", "([CIILjava/lang/Void;)V"⟩ : MethodName) jdk_42_method_149_code 6 none ws ({ frames := 2, cells := 1, slots := 3, locals := 35 } : Room) #[(.ref o0), (.ref o1), (.int (0 : Int32)), (.int (3 : Int32)), .null] h0 (fun v h L => ∃ (b1_3 : Addr), ∃ (k1_3 : ClassId), v = none ∧ Fr n0 L ∧ h0.size ≤ b1_3 ∧ Keep h0 h [o0] ∧ Exa Z h o0 "java/lang/String" ∧ Fld Z h o0 "java/lang/String" "coder" "B" (.int (0 : Int32)) ∧ Fld Z h o0 "java/lang/String" "value" "[B" (.ref b1_3) ∧ Arv Z h b1_3 k1_3 .byte (3 : Int32) [(.int (u1.toInt8.toInt32)), (.int (u2.toInt8.toInt32)), (.int (u3.toInt8.toInt32))] (.int (0 : Int32))) := by
 refine own_body (plainFor_of_name own_pn1) (fun m => ef_rm3_2 m o0 o1 (0 : Int32) (3 : Int32)) ?_
 intro p e s m below meth c s₁ hx hby hlk hml hret hZ hown hnm X0 e0
 have N0 := Fr.nil n0
 refine Home.run X0 hx hby sg3_0_1 (pc' := 1) (L' := #[.val (.ref o0), .val (.ref o1), .val (.int (0 : Int32)), .val (.int (3 : Int32)), .val .null, .unset]) (S' := [(.ref o0)]) rfl ?_
 refine Home.st (initO X0 hx hZ hown (own_w15 hw) (own_w16 hw) (own_w17 hw) e0 rfl (by rw [hml]; rfl) rfl (hb hby d3_1) (by decide) (W := 0) (by exact hW0) (by decide)) fun T1 X1 e1 => ?_
 refine Home.run X1 hx hby sg3_4_1 (pc' := 5) (L' := #[.val (.ref o0), .val (.ref o1), .val (.int (0 : Int32)), .val (.int (3 : Int32)), .val .null, .unset]) (S' := [(.int (3 : Int32))]) rfl ?_
 refine Home.go (fun _ => XS.ifYes X1.here hx rfl (pc0 := 5) (pc' := 27) rfl (hb hby d3_5) rfl ((if0 _ _).trans (feq (by decide)).2) (by decide) (by decide)) ?_
 refine Home.st (getS2 X1 hx hZ hown (host := "") (Or.inl (own_w18 hw)) Via.refl e1 (S_COMPACT_STRINGS.ext O0.2) rfl (hb hby d3_27)) fun T2 X2 e2 => ?_
 refine Home.go (fun _ => XS.ifNo X2.here hx rfl (hb hby d3_30) rfl ((if0 _ _).trans (feq hCS).1)) ?_
 refine Home.run X2 hx hby sg3_33_3 (pc' := 36) (L' := #[.val (.ref o0), .val (.ref o1), .val (.int (0 : Int32)), .val (.int (3 : Int32)), .val .null, .unset]) (S' := [(.int (3 : Int32)), (.int (0 : Int32)), (.ref o1)]) rfl ?_
 refine Home.call (own_static X2 hx hZ hown (own_w19 hw) (own_w20 hw) (own_w21 hw) (own_w22 hw) (by decide) (rm5_2 l Z a0 hw [] o1 k_o1 u1 u2 u3 h0 n0 O0 V_o1 bnd_u1 bnd_u2 bnd_u3) e2 rfl (by rw [hml]; rfl) (argsL := [(.ref o1), (.int (0 : Int32)), (.int (3 : Int32))]) (rest := []) (lenOf own_pd1 rfl) rfl rfl (W := 0) (by exact hW0) (by decide) (by decide) (hb hby d3_36) (by decide) (by decide)) ?_
 rintro _ T3 L3 X3 ⟨b1_3, k1_3, rfl, N3q, sz_b1_3, K3q, P3_0⟩
 have g_b1_3 : n0 ≤ b1_3 := Nat.le_trans (Old.le O0) sz_b1_3
 have O3 := Old.keep O0 K3q all0
 have K3 : Keep h0 T3.heap ([o0] : List Addr) := Keep.trans (Keep.refl h0 ([o0] : List Addr)) K3q all0
 have N3 := Fr.app N0 N3q
 show Home T3 (mkF m 39 #[.val (.ref o0), .val (.ref o1), .val (.int (0 : Int32)), .val (.int (3 : Int32)), .val .null, .unset] [(.ref b1_3)])
 refine Home.run X3 hx hby sg3_39_4 (pc' := 45) (L' := #[.val (.ref o0), .val (.ref o1), .val (.int (0 : Int32)), .val (.int (3 : Int32)), .val .null, .val (.ref b1_3)]) (S' := [(.int (3 : Int32)), (.ref b1_3), (.ref o0)]) rfl ?_
 refine Home.st (own_pure (own_static X3 hx hZ hown (own_w27 hw) (own_w28 hw) (own_w21 hw) (own_w29 hw) (by decide) (rm7_2 l Z a0 hw [] b1_3 k1_3 (u1.toInt8.toInt32) (u2.toInt8.toInt32) (u3.toInt8.toInt32) T3.heap n0 O3 P3_0) rfl rfl (by rw [hml]; rfl) (argsL := [(.ref b1_3), (.int (3 : Int32))]) (rest := [(.ref o0)]) (lenOf own_pd2 rfl) rfl rfl (W := 1) (by exact hW0) (by decide) (by decide) (hb hby d3_45) (by decide) (by decide))) fun T4 X4 e4 => ?_
 have q5 := (F_coder_o0.keep K3q nin0)
 refine Home.wr (putFN X4 hx hZ hown (own_w30 hw) Via.refl e4 q5 (E_o0.keep K3) (Or.inr ⟨(own_w31 hw), rfl, hnm⟩) (own_w6 hw) (ty := .byte) (v := (.int (0 : Int32))) (v' := (.int (0 : Int32))) (by decide) rfl rfl rfl rfl (hb hby d3_48)) fun T6 h6 X6 e6 W6 => ?_
 have Fw6 := q5.same W6
 have O6 := O3.wr W6 g_o0
 have K6 : Keep h0 h6 ([o0] : List Addr) := Keep.wr K3 W6 (Or.inl (List.mem_of_getElem? (i := 0) rfl))
 have N6 := Fr.snoc X6 N3 g_o0
 show Home T6 (mkF m 51 #[.val (.ref o0), .val (.ref o1), .val (.int (0 : Int32)), .val (.int (3 : Int32)), .val .null, .val (.ref b1_3)] [])
 refine Home.run X6 hx hby sg3_51_2 (pc' := 54) (L' := #[.val (.ref o0), .val (.ref o1), .val (.int (0 : Int32)), .val (.int (3 : Int32)), .val .null, .val (.ref b1_3)]) (S' := [(.ref b1_3), (.ref o0)]) rfl ?_
 have q7 := ((F_value_o0.keep K3q nin0).other W6 (Or.inr (slot_ne (Or.inr (own_w33 hw)) (Or.inr (own_w31 hw)) (by decide) (t := (.array .byte)) (t' := .byte) (by decide) (by decide))))
 refine Home.wr (putF X6 hx hZ hown (host := "") (Or.inl (own_w32 hw)) Via.refl e6 q7 (E_o0.keep K6) (Or.inr ⟨(own_w33 hw), rfl, hnm⟩) (own_w6 hw) (ty := (.array .byte)) (by decide) rfl rfl rfl rfl (hb hby d3_54)) fun T8 h8 X8 e8 W8 => ?_
 have Fw8 := q7.same W8
 have O8 := O6.wr W8 g_o0
 have K8 : Keep h0 h8 ([o0] : List Addr) := Keep.wr K6 W8 (Or.inl (List.mem_of_getElem? (i := 0) rfl))
 have N8 := Fr.snoc X8 N6 g_o0
 have q9 := (Fw6.other W8 (Or.inr (slot_ne (Or.inr (own_w31 hw)) (Or.inr (own_w33 hw)) (by decide) (t := .byte) (t' := (.array .byte)) (by decide) (by decide))))
 have ne10 : b1_3 ≠ o0 := (Ne.symm (Nat.ne_of_lt (Nat.lt_of_lt_of_le E_o0.lt (Nat.le_trans (Nat.le_refl _) sz_b1_3))))
 have q11 := ((P3_0.other W6 ne10).other W8 ne10)
 exact Home.ret0 X8 hx hlk hret (hb hby d3_57) (by rw [show T8.heap = h8 from e8]; exact ⟨b1_3, k1_3, rfl, N8, (Nat.le_trans (Nat.le_refl _) sz_b1_3), K8, (E_o0.keep K8), q9, Fw8, q11⟩) (by decide) (by decide)
theorem rm2_2 (l : Launch) (Z : State) (a0 : Array Value) (hw : HW a0 Z) (ws : List Jvm.Cond) (o0 o1 : Addr) (k_o1 : ClassId) (u1 u2 u3 sv_COMPACT_STRINGS : Int32) (h0 : Heap) (n0 : Nat) (O0 : Old Z n0 h0) (V_o1 : Arv Z h0 o1 k_o1 .char (3 : Int32) [(.int u1), (.int u2), (.int u3)] (.int (0 : Int32))) (S_COMPACT_STRINGS : Sta Z Z.heap "java/lang/String" "COMPACT_STRINGS" "Z" (.int sv_COMPACT_STRINGS)) (E_o0 : Exa Z h0 o0 "java/lang/String") (F_coder_o0 : Fld Z h0 o0 "java/lang/String" "coder" "B" (.int (0 : Int32))) (F_value_o0 : Fld Z h0 o0 "java/lang/String" "value" "[B" .null) (bnd_u1 : ¬ u1 < (0 : Int32) ∧ ¬ (255 : Int32) < u1) (bnd_u2 : ¬ u2 < (0 : Int32) ∧ ¬ (255 : Int32) < u2) (bnd_u3 : ¬ u3 < (0 : Int32) ∧ ¬ (255 : Int32) < u3) (g_o0 : n0 ≤ o0) (hCS : ¬ (sv_COMPACT_STRINGS = (0 : Int32))) :
    Con l Z (⟨"java/lang/String", "<init>", "([C)V"⟩ : MethodName) jdk_42_method_3_code 2 none ws ({ frames := 3, cells := 1, slots := 3, locals := 52 } : Room) #[(.ref o0), (.ref o1)] h0 (fun v h L => ∃ (b1_3_2 : Addr), ∃ (k1_3_2 : ClassId), v = none ∧ Fr n0 L ∧ h0.size ≤ b1_3_2 ∧ Keep h0 h [o0] ∧ Exa Z h o0 "java/lang/String" ∧ Fld Z h o0 "java/lang/String" "coder" "B" (.int (0 : Int32)) ∧ Fld Z h o0 "java/lang/String" "value" "[B" (.ref b1_3_2) ∧ Arv Z h b1_3_2 k1_3_2 .byte (3 : Int32) [(.int (u1.toInt8.toInt32)), (.int (u2.toInt8.toInt32)), (.int (u3.toInt8.toInt32))] (.int (0 : Int32))) := by
 refine own_body (plainFor_of_name own_pn1) (fun m => ef_rm2_2 m o0 o1) ?_
 intro p e s m below meth c s₁ hx hby hlk hml hret hZ hown hnm X0 e0
 have N0 := Fr.nil n0
 refine Home.run X0 hx hby sg2_0_4 (pc' := 4) (L' := #[.val (.ref o0), .val (.ref o1)]) (S' := [(.ref o1), (.int (0 : Int32)), (.ref o1), (.ref o0)]) rfl ?_
 obtain ⟨cl1, Ar1, q1, S1, M1, H1, G1⟩ := id V_o1
 refine Home.go (own_alen X0 hx hZ e0 Ar1 S1 M1 rfl rfl (hb hby d2_4)) ?_
 refine Home.run X0 hx hby sg2_5_1 (pc' := 6) (L' := #[.val (.ref o0), .val (.ref o1)]) (S' := [.null, (.int (3 : Int32)), (.int (0 : Int32)), (.ref o1), (.ref o0)]) rfl ?_
 refine Home.call (own_special X0 hx hZ hown rfl (own_w11 hw) (own_w12 hw) (own_w7 hw) (own_w14 hw) (by decide) (rm3_2 l Z a0 hw [] o0 o1 sv_COMPACT_STRINGS k_o1 u1 u2 u3 h0 n0 O0 S_COMPACT_STRINGS hCS V_o1 bnd_u1 bnd_u2 bnd_u3 E_o0 F_coder_o0 g_o0 F_value_o0) e0 rfl (by rw [hml]; rfl) (a := o0) (argsL := [(.ref o1), (.int (0 : Int32)), (.int (3 : Int32)), .null]) (rest := []) (lenOf own_pd3 rfl) rfl rfl (W := 0) (by exact hW0) (by decide) (by decide) (hb hby d2_6) (by decide) (by decide)) ?_
 rintro _ T2 L2 X2 ⟨b1_3_2, k1_3_2, rfl, N2q, sz_b1_3_2, K2q, P2_0, P2_1, P2_2, P2_3⟩
 have g_b1_3_2 : n0 ≤ b1_3_2 := Nat.le_trans (Old.le O0) sz_b1_3_2
 have O2 := Old.keep O0 K2q (allS g_o0 all0)
 have K2 : Keep h0 T2.heap ([o0] : List Addr) := Keep.trans (Keep.refl h0 ([o0] : List Addr)) K2q (allS (Or.inl (List.mem_of_getElem? (i := 0) rfl)) all0)
 have N2 := Fr.app N0 N2q
 show Home T2 (mkF m 9 #[.val (.ref o0), .val (.ref o1)] [])
 exact Home.ret0 X2 hx hlk hret (hb hby d2_9) ⟨b1_3_2, k1_3_2, rfl, N2, (Nat.le_trans (Nat.le_refl _) sz_b1_3_2), K2, P2_0, P2_1, P2_2, P2_3⟩ (by decide) (by decide)
theorem rm6_3 (l : Launch) (Z : State) (a0 : Array Value) (hw : HW a0 Z) (ws : List Jvm.Cond) (o0 o2 : Addr) (k_o0 : ClassId) (u1 u2 u3 u4 : Int32) (k_o2 : ClassId) (h0 : Heap) (n0 : Nat) (O0 : Old Z n0 h0) (V_o0 : Arv Z h0 o0 k_o0 .char (4 : Int32) [(.int u1), (.int u2), (.int u3), (.int u4)] (.int (0 : Int32))) (bnd_u1 : ¬ u1 < (0 : Int32) ∧ ¬ (255 : Int32) < u1) (V_o2 : Arv Z h0 o2 k_o2 .byte (4 : Int32) [(.int (0 : Int32)), (.int (0 : Int32)), (.int (0 : Int32)), (.int (0 : Int32))] (.int (0 : Int32))) (g_o2 : n0 ≤ o2) (ne_o0_o2 : o0 ≠ o2) (bnd_u2 : ¬ u2 < (0 : Int32) ∧ ¬ (255 : Int32) < u2) (bnd_u3 : ¬ u3 < (0 : Int32) ∧ ¬ (255 : Int32) < u3) (bnd_u4 : ¬ u4 < (0 : Int32) ∧ ¬ (255 : Int32) < u4) :
    Con l Z (⟨"java/lang/StringUTF16", "compress", "([CI[BII)I"⟩ : MethodName) jdk_52_method_21_code 7 (some .int) ws ({ frames := 0, cells := 0, slots := 0, locals := 0 } : Room) #[(.ref o0), (.int (0 : Int32)), (.ref o2), (.int (0 : Int32)), (.int (4 : Int32))] h0 (fun v h L => v = some (.int (4 : Int32)) ∧ Fr n0 L ∧ Keep h0 h [o2] ∧ Arv Z h o2 k_o2 .byte (4 : Int32) [(.int (u1.toInt8.toInt32)), (.int (u2.toInt8.toInt32)), (.int (u3.toInt8.toInt32)), (.int (u4.toInt8.toInt32))] (.int (0 : Int32))) := by
 refine own_body (plainFor_of_name own_pn0) (fun m => ef_rm6_3 m o0 (0 : Int32) o2 (4 : Int32)) ?_
 intro p e s m below meth c s₁ hx hby hlk hml hret hZ hown hnm X0 e0
 have N0 := Fr.nil n0
 refine Home.run X0 hx hby sg6_0_4 (pc' := 7) (L' := #[.val (.ref o0), .val (.int (0 : Int32)), .val (.ref o2), .val (.int (0 : Int32)), .val (.int (4 : Int32)), .val (.int (0 : Int32)), .unset]) (S' := [(.int (4 : Int32)), (.int (0 : Int32))]) rfl ?_
 refine Home.go (fun _ => XS.icmpNo X0.here hx rfl (hb hby d6_7) rfl (tlt (by decide)).2.1) ?_
 refine Home.run X0 hx hby sg6_10_2 (pc' := 12) (L' := #[.val (.ref o0), .val (.int (0 : Int32)), .val (.ref o2), .val (.int (0 : Int32)), .val (.int (4 : Int32)), .val (.int (0 : Int32)), .unset]) (S' := [(.int (0 : Int32)), (.ref o0)]) rfl ?_
 obtain ⟨cl1, Ar1, q1, S1, M1, H1, G1⟩ := id V_o0
 have ib1 : ¬ ((0 : Int32) < 0 ∨ cl1.slots.size ≤ ((0 : Int32)).toNatClampNeg) := inb_of S1 ⟨by decide, by decide⟩
 refine Home.go (X0.caload hx (j := (0 : Int32)) (v := (.int u1)) (by rw [e0]; exact Ar1.1) (State.isArrayOf_alike hZ.alike Ar1.2.1) Ar1.2.2 ib1 (Has.at H1 ib1 rfl) rfl rfl (hb hby d6_12)) ?_
 refine Home.run X0 hx hby sg6_13_3 (pc' := 20) (L' := #[.val (.ref o0), .val (.int (0 : Int32)), .val (.ref o2), .val (.int (0 : Int32)), .val (.int (4 : Int32)), .val (.int (0 : Int32)), .val (.int u1)]) (S' := [(.int (255 : Int32)), (.int u1)]) rfl ?_
 refine Home.go (fun _ => XS.icmpYes X0.here hx rfl (pc0 := 20) (pc' := 26) rfl (hb hby d6_20) rfl (flt (bnd_nlt (bnd_lit (255 : Int32)) bnd_u1 (by decide +kernel))).2.2.2 (by decide) (by decide)) ?_
 refine Home.run X0 hx hby sg6_26_4 (pc' := 31) (L' := #[.val (.ref o0), .val (.int (0 : Int32)), .val (.ref o2), .val (.int (0 : Int32)), .val (.int (4 : Int32)), .val (.int (0 : Int32)), .val (.int u1)]) (S' := [(.int (u1.toInt8.toInt32)), (.int (0 : Int32)), (.ref o2)]) rfl ?_
 obtain ⟨cl2, Ar2, q2, S2, M2, H2, G2⟩ := id V_o2
 refine Home.wr (stB X0 hx hZ e0 Ar2 (j := (0 : Int32)) (inb_of S2 ⟨by decide, by decide⟩) rfl rfl (hb hby d6_31)) fun T2 h2 X2 e2 W2 => ?_
 have W2' := Wr.to W2 (congrArg Value.int (nar_byte_id (bnd_i2b u1) (by decide +kernel) (by decide +kernel)))
 have V2 : Arv Z h2 o2 k_o2 .byte (4 : Int32) [(.int (u1.toInt8.toInt32)), (.int (0 : Int32)), (.int (0 : Int32)), (.int (0 : Int32))] (.int (0 : Int32)) := Arv.set Ar2 q2 S2 M2 H2 G2 (fits_byte_b (bnd_i2b u1) (by decide +kernel) (by decide +kernel)) W2' 0 rfl (Nat.le_of_ble_eq_true rfl)
 have O2 := O0.wr W2 g_o2
 have K2 : Keep h0 h2 ([o2] : List Addr) := Keep.wr (Keep.refl h0 ([o2] : List Addr)) W2 (Or.inl (List.mem_of_getElem? (i := 0) rfl))
 have N2 := Fr.snoc X2 N0 g_o2
 show Home T2 (mkF m 32 #[.val (.ref o0), .val (.int (0 : Int32)), .val (.ref o2), .val (.int (0 : Int32)), .val (.int (4 : Int32)), .val (.int (0 : Int32)), .val (.int u1)] [])
 refine Home.run X2 hx hby sg6_32_6 (pc' := 7) (L' := #[.val (.ref o0), .val (.int (1 : Int32)), .val (.ref o2), .val (.int (1 : Int32)), .val (.int (4 : Int32)), .val (.int (1 : Int32)), .val (.int u1)]) (S' := [(.int (4 : Int32)), (.int (1 : Int32))]) rfl ?_
 refine Home.go (fun _ => XS.icmpNo X2.here hx rfl (hb hby d6_7) rfl (tlt (by decide)).2.1) ?_
 refine Home.run X2 hx hby sg6_10_2 (pc' := 12) (L' := #[.val (.ref o0), .val (.int (1 : Int32)), .val (.ref o2), .val (.int (1 : Int32)), .val (.int (4 : Int32)), .val (.int (1 : Int32)), .val (.int u1)]) (S' := [(.int (1 : Int32)), (.ref o0)]) rfl ?_
 have q3 := (V_o0.other W2 ne_o0_o2)
 obtain ⟨cl4, Ar4, q4, S4, M4, H4, G4⟩ := id q3
 have ib4 : ¬ ((1 : Int32) < 0 ∨ cl4.slots.size ≤ ((1 : Int32)).toNatClampNeg) := inb_of S4 ⟨by decide, by decide⟩
 refine Home.go (X2.caload hx (j := (1 : Int32)) (v := (.int u2)) (by rw [e2]; exact Ar4.1) (State.isArrayOf_alike hZ.alike Ar4.2.1) Ar4.2.2 ib4 (Has.at H4 ib4 rfl) rfl rfl (hb hby d6_12)) ?_
 refine Home.run X2 hx hby sg6_13_3 (pc' := 20) (L' := #[.val (.ref o0), .val (.int (1 : Int32)), .val (.ref o2), .val (.int (1 : Int32)), .val (.int (4 : Int32)), .val (.int (1 : Int32)), .val (.int u2)]) (S' := [(.int (255 : Int32)), (.int u2)]) rfl ?_
 refine Home.go (fun _ => XS.icmpYes X2.here hx rfl (pc0 := 20) (pc' := 26) rfl (hb hby d6_20) rfl (flt (bnd_nlt (bnd_lit (255 : Int32)) bnd_u2 (by decide +kernel))).2.2.2 (by decide) (by decide)) ?_
 refine Home.run X2 hx hby sg6_26_4 (pc' := 31) (L' := #[.val (.ref o0), .val (.int (1 : Int32)), .val (.ref o2), .val (.int (1 : Int32)), .val (.int (4 : Int32)), .val (.int (1 : Int32)), .val (.int u2)]) (S' := [(.int (u2.toInt8.toInt32)), (.int (1 : Int32)), (.ref o2)]) rfl ?_
 obtain ⟨cl5, Ar5, q5, S5, M5, H5, G5⟩ := id V2
 refine Home.wr (stB X2 hx hZ e2 Ar5 (j := (1 : Int32)) (inb_of S5 ⟨by decide, by decide⟩) rfl rfl (hb hby d6_31)) fun T5 h5 X5 e5 W5 => ?_
 have W5' := Wr.to W5 (congrArg Value.int (nar_byte_id (bnd_i2b u2) (by decide +kernel) (by decide +kernel)))
 have V5 : Arv Z h5 o2 k_o2 .byte (4 : Int32) [(.int (u1.toInt8.toInt32)), (.int (u2.toInt8.toInt32)), (.int (0 : Int32)), (.int (0 : Int32))] (.int (0 : Int32)) := Arv.set Ar5 q5 S5 M5 H5 G5 (fits_byte_b (bnd_i2b u2) (by decide +kernel) (by decide +kernel)) W5' 1 rfl (Nat.le_of_ble_eq_true rfl)
 have O5 := O2.wr W5 g_o2
 have K5 : Keep h0 h5 ([o2] : List Addr) := Keep.wr K2 W5 (Or.inl (List.mem_of_getElem? (i := 0) rfl))
 have N5 := Fr.snoc X5 N2 g_o2
 show Home T5 (mkF m 32 #[.val (.ref o0), .val (.int (1 : Int32)), .val (.ref o2), .val (.int (1 : Int32)), .val (.int (4 : Int32)), .val (.int (1 : Int32)), .val (.int u2)] [])
 refine Home.run X5 hx hby sg6_32_6 (pc' := 7) (L' := #[.val (.ref o0), .val (.int (2 : Int32)), .val (.ref o2), .val (.int (2 : Int32)), .val (.int (4 : Int32)), .val (.int (2 : Int32)), .val (.int u2)]) (S' := [(.int (4 : Int32)), (.int (2 : Int32))]) rfl ?_
 refine Home.go (fun _ => XS.icmpNo X5.here hx rfl (hb hby d6_7) rfl (tlt (by decide)).2.1) ?_
 refine Home.run X5 hx hby sg6_10_2 (pc' := 12) (L' := #[.val (.ref o0), .val (.int (2 : Int32)), .val (.ref o2), .val (.int (2 : Int32)), .val (.int (4 : Int32)), .val (.int (2 : Int32)), .val (.int u2)]) (S' := [(.int (2 : Int32)), (.ref o0)]) rfl ?_
 have q6 := (q3.other W5 ne_o0_o2)
 obtain ⟨cl7, Ar7, q7, S7, M7, H7, G7⟩ := id q6
 have ib7 : ¬ ((2 : Int32) < 0 ∨ cl7.slots.size ≤ ((2 : Int32)).toNatClampNeg) := inb_of S7 ⟨by decide, by decide⟩
 refine Home.go (X5.caload hx (j := (2 : Int32)) (v := (.int u3)) (by rw [e5]; exact Ar7.1) (State.isArrayOf_alike hZ.alike Ar7.2.1) Ar7.2.2 ib7 (Has.at H7 ib7 rfl) rfl rfl (hb hby d6_12)) ?_
 refine Home.run X5 hx hby sg6_13_3 (pc' := 20) (L' := #[.val (.ref o0), .val (.int (2 : Int32)), .val (.ref o2), .val (.int (2 : Int32)), .val (.int (4 : Int32)), .val (.int (2 : Int32)), .val (.int u3)]) (S' := [(.int (255 : Int32)), (.int u3)]) rfl ?_
 refine Home.go (fun _ => XS.icmpYes X5.here hx rfl (pc0 := 20) (pc' := 26) rfl (hb hby d6_20) rfl (flt (bnd_nlt (bnd_lit (255 : Int32)) bnd_u3 (by decide +kernel))).2.2.2 (by decide) (by decide)) ?_
 refine Home.run X5 hx hby sg6_26_4 (pc' := 31) (L' := #[.val (.ref o0), .val (.int (2 : Int32)), .val (.ref o2), .val (.int (2 : Int32)), .val (.int (4 : Int32)), .val (.int (2 : Int32)), .val (.int u3)]) (S' := [(.int (u3.toInt8.toInt32)), (.int (2 : Int32)), (.ref o2)]) rfl ?_
 obtain ⟨cl8, Ar8, q8, S8, M8, H8, G8⟩ := id V5
 refine Home.wr (stB X5 hx hZ e5 Ar8 (j := (2 : Int32)) (inb_of S8 ⟨by decide, by decide⟩) rfl rfl (hb hby d6_31)) fun T8 h8 X8 e8 W8 => ?_
 have W8' := Wr.to W8 (congrArg Value.int (nar_byte_id (bnd_i2b u3) (by decide +kernel) (by decide +kernel)))
 have V8 : Arv Z h8 o2 k_o2 .byte (4 : Int32) [(.int (u1.toInt8.toInt32)), (.int (u2.toInt8.toInt32)), (.int (u3.toInt8.toInt32)), (.int (0 : Int32))] (.int (0 : Int32)) := Arv.set Ar8 q8 S8 M8 H8 G8 (fits_byte_b (bnd_i2b u3) (by decide +kernel) (by decide +kernel)) W8' 2 rfl (Nat.le_of_ble_eq_true rfl)
 have O8 := O5.wr W8 g_o2
 have K8 : Keep h0 h8 ([o2] : List Addr) := Keep.wr K5 W8 (Or.inl (List.mem_of_getElem? (i := 0) rfl))
 have N8 := Fr.snoc X8 N5 g_o2
 show Home T8 (mkF m 32 #[.val (.ref o0), .val (.int (2 : Int32)), .val (.ref o2), .val (.int (2 : Int32)), .val (.int (4 : Int32)), .val (.int (2 : Int32)), .val (.int u3)] [])
 refine Home.run X8 hx hby sg6_32_6 (pc' := 7) (L' := #[.val (.ref o0), .val (.int (3 : Int32)), .val (.ref o2), .val (.int (3 : Int32)), .val (.int (4 : Int32)), .val (.int (3 : Int32)), .val (.int u3)]) (S' := [(.int (4 : Int32)), (.int (3 : Int32))]) rfl ?_
 refine Home.go (fun _ => XS.icmpNo X8.here hx rfl (hb hby d6_7) rfl (tlt (by decide)).2.1) ?_
 refine Home.run X8 hx hby sg6_10_2 (pc' := 12) (L' := #[.val (.ref o0), .val (.int (3 : Int32)), .val (.ref o2), .val (.int (3 : Int32)), .val (.int (4 : Int32)), .val (.int (3 : Int32)), .val (.int u3)]) (S' := [(.int (3 : Int32)), (.ref o0)]) rfl ?_
 have q9 := (q6.other W8 ne_o0_o2)
 obtain ⟨cl10, Ar10, q10, S10, M10, H10, G10⟩ := id q9
 have ib10 : ¬ ((3 : Int32) < 0 ∨ cl10.slots.size ≤ ((3 : Int32)).toNatClampNeg) := inb_of S10 ⟨by decide, by decide⟩
 refine Home.go (X8.caload hx (j := (3 : Int32)) (v := (.int u4)) (by rw [e8]; exact Ar10.1) (State.isArrayOf_alike hZ.alike Ar10.2.1) Ar10.2.2 ib10 (Has.at H10 ib10 rfl) rfl rfl (hb hby d6_12)) ?_
 refine Home.run X8 hx hby sg6_13_3 (pc' := 20) (L' := #[.val (.ref o0), .val (.int (3 : Int32)), .val (.ref o2), .val (.int (3 : Int32)), .val (.int (4 : Int32)), .val (.int (3 : Int32)), .val (.int u4)]) (S' := [(.int (255 : Int32)), (.int u4)]) rfl ?_
 refine Home.go (fun _ => XS.icmpYes X8.here hx rfl (pc0 := 20) (pc' := 26) rfl (hb hby d6_20) rfl (flt (bnd_nlt (bnd_lit (255 : Int32)) bnd_u4 (by decide +kernel))).2.2.2 (by decide) (by decide)) ?_
 refine Home.run X8 hx hby sg6_26_4 (pc' := 31) (L' := #[.val (.ref o0), .val (.int (3 : Int32)), .val (.ref o2), .val (.int (3 : Int32)), .val (.int (4 : Int32)), .val (.int (3 : Int32)), .val (.int u4)]) (S' := [(.int (u4.toInt8.toInt32)), (.int (3 : Int32)), (.ref o2)]) rfl ?_
 obtain ⟨cl11, Ar11, q11, S11, M11, H11, G11⟩ := id V8
 refine Home.wr (stB X8 hx hZ e8 Ar11 (j := (3 : Int32)) (inb_of S11 ⟨by decide, by decide⟩) rfl rfl (hb hby d6_31)) fun T11 h11 X11 e11 W11 => ?_
 have W11' := Wr.to W11 (congrArg Value.int (nar_byte_id (bnd_i2b u4) (by decide +kernel) (by decide +kernel)))
 have V11 : Arv Z h11 o2 k_o2 .byte (4 : Int32) [(.int (u1.toInt8.toInt32)), (.int (u2.toInt8.toInt32)), (.int (u3.toInt8.toInt32)), (.int (u4.toInt8.toInt32))] (.int (0 : Int32)) := Arv.set Ar11 q11 S11 M11 H11 G11 (fits_byte_b (bnd_i2b u4) (by decide +kernel) (by decide +kernel)) W11' 3 rfl (Nat.le_of_ble_eq_true rfl)
 have O11 := O8.wr W11 g_o2
 have K11 : Keep h0 h11 ([o2] : List Addr) := Keep.wr K8 W11 (Or.inl (List.mem_of_getElem? (i := 0) rfl))
 have N11 := Fr.snoc X11 N8 g_o2
 show Home T11 (mkF m 32 #[.val (.ref o0), .val (.int (3 : Int32)), .val (.ref o2), .val (.int (3 : Int32)), .val (.int (4 : Int32)), .val (.int (3 : Int32)), .val (.int u4)] [])
 refine Home.run X11 hx hby sg6_32_6 (pc' := 7) (L' := #[.val (.ref o0), .val (.int (4 : Int32)), .val (.ref o2), .val (.int (4 : Int32)), .val (.int (4 : Int32)), .val (.int (4 : Int32)), .val (.int u4)]) (S' := [(.int (4 : Int32)), (.int (4 : Int32))]) rfl ?_
 refine Home.go (fun _ => XS.icmpYes X11.here hx rfl (pc0 := 7) (pc' := 44) rfl (hb hby d6_7) rfl (flt (by decide)).2.1 (by decide) (by decide)) ?_
 refine Home.run X11 hx hby sg6_44_1 (pc' := 46) (L' := #[.val (.ref o0), .val (.int (4 : Int32)), .val (.ref o2), .val (.int (4 : Int32)), .val (.int (4 : Int32)), .val (.int (4 : Int32)), .val (.int u4)]) (S' := [(.int (4 : Int32))]) rfl ?_
 exact Home.retI X11 hx hlk hret (hb hby d6_46) (by rw [show T11.heap = h11 from e11]; exact ⟨rfl, N11, K11, V11⟩) (by decide) (by decide)
theorem rm5_3 (l : Launch) (Z : State) (a0 : Array Value) (hw : HW a0 Z) (ws : List Jvm.Cond) (o0 : Addr) (k_o0 : ClassId) (u1 u2 u3 u4 : Int32) (h0 : Heap) (n0 : Nat) (O0 : Old Z n0 h0) (V_o0 : Arv Z h0 o0 k_o0 .char (4 : Int32) [(.int u1), (.int u2), (.int u3), (.int u4)] (.int (0 : Int32))) (bnd_u1 : ¬ u1 < (0 : Int32) ∧ ¬ (255 : Int32) < u1) (bnd_u2 : ¬ u2 < (0 : Int32) ∧ ¬ (255 : Int32) < u2) (bnd_u3 : ¬ u3 < (0 : Int32) ∧ ¬ (255 : Int32) < u3) (bnd_u4 : ¬ u4 < (0 : Int32) ∧ ¬ (255 : Int32) < u4) :
    Con l Z (⟨"java/lang/StringUTF16", "compress", "([CII)[B"⟩ : MethodName) jdk_52_method_16_code 6 (some (.array .byte)) ws ({ frames := 1, cells := 1, slots := 4, locals := 18 } : Room) #[(.ref o0), (.int (0 : Int32)), (.int (4 : Int32))] h0 (fun v h L => ∃ (b1 : Addr), ∃ (k1 : ClassId), v = some (.ref b1) ∧ Fr n0 L ∧ h0.size ≤ b1 ∧ Keep h0 h [] ∧ Arv Z h b1 k1 .byte (4 : Int32) [(.int (u1.toInt8.toInt32)), (.int (u2.toInt8.toInt32)), (.int (u3.toInt8.toInt32)), (.int (u4.toInt8.toInt32))] (.int (0 : Int32))) := by
 refine own_body (plainFor_of_name own_pn0) (fun m => ef_rm5_3 m o0 (0 : Int32) (4 : Int32)) ?_
 intro p e s m below meth c s₁ hx hby hlk hml hret hZ hown hnm X0 e0
 have N0 := Fr.nil n0
 refine Home.run X0 hx hby sg5_0_1 (pc' := 1) (L' := #[.val (.ref o0), .val (.int (0 : Int32)), .val (.int (4 : Int32)), .unset, .unset, .unset]) (S' := [(.int (4 : Int32))]) rfl ?_
 refine Home.na (own_newP (aty := .byte) X0 hx hZ (own_w23 hw) e0 (g := (mkF m 1 #[.val (.ref o0), .val (.int (0 : Int32)), .val (.int (4 : Int32)), .unset, .unset, .unset] [(.int (4 : Int32))])) rfl (hb hby d5_1) rfl (by decide) (cap := 4) (by decide) (by decide) (by decide) (by decide)) fun T1 h1 k1 b1 g1 X1 e1 E1 A1 => ?_
 have g_b1 : n0 ≤ b1 := Nat.le_trans (Old.le O0) (Nat.le_of_eq g1.symm)
 have V1 : Arv Z h1 b1 k1 .byte (4 : Int32) [(.int (0 : Int32)), (.int (0 : Int32)), (.int (0 : Int32)), (.int (0 : Int32))] (.int (0 : Int32)) := (Arv.new A1 (by decide)).pad (pad_rep [] (.int (0 : Int32)) 4)
 have O1 := O0.ext E1
 have K1 : Keep h0 h1 ([] : List Addr) := Keep.ext (Keep.refl h0 ([] : List Addr)) E1
 refine Home.run X1 hx hby sg5_3_6 (pc' := 9) (L' := #[.val (.ref o0), .val (.int (0 : Int32)), .val (.int (4 : Int32)), .val (.ref b1), .unset, .unset]) (S' := [(.int (4 : Int32)), (.int (0 : Int32)), (.ref b1), (.int (0 : Int32)), (.ref o0)]) rfl ?_
 have ne2 : o0 ≠ b1 := (Nat.ne_of_lt (Nat.lt_of_lt_of_le V_o0.lt (Nat.le_trans (Nat.le_refl _) (Nat.le_of_eq g1.symm))))
 refine Home.call (own_static X1 hx hZ hown (own_w24 hw) (own_w25 hw) (own_w21 hw) (own_w26 hw) (by decide) (rm6_3 l Z a0 hw [] o0 b1 k_o0 u1 u2 u3 u4 k1 h1 n0 O1 (V_o0.keep K1 nin0) bnd_u1 V1 g_b1 ne2 bnd_u2 bnd_u3 bnd_u4) e1 rfl (by rw [hml]; rfl) (argsL := [(.ref o0), (.int (0 : Int32)), (.ref b1), (.int (0 : Int32)), (.int (4 : Int32))]) (rest := []) (lenOf own_pd0 rfl) rfl rfl (W := 0) (by exact hW0) (by decide) (by decide) (hb hby d5_9) (by decide) (by decide)) ?_
 rintro _ T3 L3 X3 ⟨rfl, N3q, K3q, P3_0⟩
 have O3 := Old.keep O1 K3q (allS g_b1 all0)
 have K3 : Keep h0 T3.heap ([] : List Addr) := Keep.trans K1 K3q (allS (Or.inr (Nat.le_trans (Nat.le_refl _) (Nat.le_of_eq g1.symm))) all0)
 have N3 := Fr.app N0 N3q
 show Home T3 (mkF m 12 #[.val (.ref o0), .val (.int (0 : Int32)), .val (.int (4 : Int32)), .val (.ref b1), .unset, .unset] [(.int (4 : Int32))])
 refine Home.run X3 hx hby sg5_12_3 (pc' := 17) (L' := #[.val (.ref o0), .val (.int (0 : Int32)), .val (.int (4 : Int32)), .val (.ref b1), .val (.int (4 : Int32)), .unset]) (S' := [(.int (4 : Int32)), (.int (4 : Int32))]) rfl ?_
 refine Home.go (fun _ => XS.icmpYes X3.here hx rfl (pc0 := 17) (pc' := 57) rfl (hb hby d5_17) rfl (teq (by decide)).1 (by decide) (by decide)) ?_
 refine Home.run X3 hx hby sg5_57_1 (pc' := 58) (L' := #[.val (.ref o0), .val (.int (0 : Int32)), .val (.int (4 : Int32)), .val (.ref b1), .val (.int (4 : Int32)), .unset]) (S' := [(.ref b1)]) rfl ?_
 exact Home.retR X3 hx hlk hret rfl rfl (hb hby d5_58) ⟨b1, k1, rfl, N3, (Nat.le_trans (Nat.le_refl _) (Nat.le_of_eq g1.symm)), K3, P3_0⟩ (by decide) (by decide)
theorem rm7_3 (l : Launch) (Z : State) (a0 : Array Value) (hw : HW a0 Z) (ws : List Jvm.Cond) (o0 : Addr) (k_o0 : ClassId) (u1 u2 u3 u4 : Int32) (h0 : Heap) (n0 : Nat) (O0 : Old Z n0 h0) (V_o0 : Arv Z h0 o0 k_o0 .byte (4 : Int32) [(.int u1), (.int u2), (.int u3), (.int u4)] (.int (0 : Int32))) :
    Con l Z (⟨"java/lang/StringUTF16", "coderFromArrayLen", "([BI)B"⟩ : MethodName) jdk_52_method_15_code 2 (some .byte) ws ({ frames := 0, cells := 0, slots := 0, locals := 0 } : Room) #[(.ref o0), (.int (4 : Int32))] h0 (Pur (some (.int (0 : Int32))) h0) := by
 refine own_body (plainFor_of_name own_pn0) (fun m => ef_rm7_3 m o0 (4 : Int32)) ?_
 intro p e s m below meth c s₁ hx hby hlk hml hret hZ hown hnm X0 e0
 have N0 := Fr.nil n0
 refine Home.run X0 hx hby sg7_0_2 (pc' := 2) (L' := #[.val (.ref o0), .val (.int (4 : Int32))]) (S' := [(.ref o0), (.int (4 : Int32))]) rfl ?_
 obtain ⟨cl1, Ar1, q1, S1, M1, H1, G1⟩ := id V_o0
 refine Home.go (own_alen X0 hx hZ e0 Ar1 S1 M1 rfl rfl (hb hby d7_2)) ?_
 refine Home.run X0 hx hby sg7_3_4 (pc' := 8) (L' := #[.val (.ref o0), .val (.int (4 : Int32))]) (S' := [(.int (0 : Int32))]) rfl ?_
 exact Home.retN X0 hx hlk (t := .byte) hret (by simp) (hb hby d7_8) ⟨congrArg some (congrArg Value.int (by first | rfl | exact nar_i2c _ | exact nar_i2b _)), rfl, e0⟩ (by decide) (by decide)
theorem rm3_3 (l : Launch) (Z : State) (a0 : Array Value) (hw : HW a0 Z) (ws : List Jvm.Cond) (o0 o1 : Addr) (sv_COMPACT_STRINGS : Int32) (k_o1 : ClassId) (u1 u2 u3 u4 : Int32) (h0 : Heap) (n0 : Nat) (O0 : Old Z n0 h0) (S_COMPACT_STRINGS : Sta Z Z.heap "java/lang/String" "COMPACT_STRINGS" "Z" (.int sv_COMPACT_STRINGS)) (hCS : ¬ (sv_COMPACT_STRINGS = (0 : Int32))) (V_o1 : Arv Z h0 o1 k_o1 .char (4 : Int32) [(.int u1), (.int u2), (.int u3), (.int u4)] (.int (0 : Int32))) (bnd_u1 : ¬ u1 < (0 : Int32) ∧ ¬ (255 : Int32) < u1) (bnd_u2 : ¬ u2 < (0 : Int32) ∧ ¬ (255 : Int32) < u2) (bnd_u3 : ¬ u3 < (0 : Int32) ∧ ¬ (255 : Int32) < u3) (bnd_u4 : ¬ u4 < (0 : Int32) ∧ ¬ (255 : Int32) < u4) (E_o0 : Exa Z h0 o0 "java/lang/String") (F_coder_o0 : Fld Z h0 o0 "java/lang/String" "coder" "B" (.int (0 : Int32))) (g_o0 : n0 ≤ o0) (F_value_o0 : Fld Z h0 o0 "java/lang/String" "value" "[B" .null) :
    Con l Z (⟨"java/lang/String", "<init>", "([CIILjava/lang/Void;)V"⟩ : MethodName) jdk_42_method_149_code 6 none ws ({ frames := 2, cells := 1, slots := 4, locals := 35 } : Room) #[(.ref o0), (.ref o1), (.int (0 : Int32)), (.int (4 : Int32)), .null] h0 (fun v h L => ∃ (b1_3 : Addr), ∃ (k1_3 : ClassId), v = none ∧ Fr n0 L ∧ h0.size ≤ b1_3 ∧ Keep h0 h [o0] ∧ Exa Z h o0 "java/lang/String" ∧ Fld Z h o0 "java/lang/String" "coder" "B" (.int (0 : Int32)) ∧ Fld Z h o0 "java/lang/String" "value" "[B" (.ref b1_3) ∧ Arv Z h b1_3 k1_3 .byte (4 : Int32) [(.int (u1.toInt8.toInt32)), (.int (u2.toInt8.toInt32)), (.int (u3.toInt8.toInt32)), (.int (u4.toInt8.toInt32))] (.int (0 : Int32))) := by
 refine own_body (plainFor_of_name own_pn1) (fun m => ef_rm3_3 m o0 o1 (0 : Int32) (4 : Int32)) ?_
 intro p e s m below meth c s₁ hx hby hlk hml hret hZ hown hnm X0 e0
 have N0 := Fr.nil n0
 refine Home.run X0 hx hby sg3_0_1 (pc' := 1) (L' := #[.val (.ref o0), .val (.ref o1), .val (.int (0 : Int32)), .val (.int (4 : Int32)), .val .null, .unset]) (S' := [(.ref o0)]) rfl ?_
 refine Home.st (initO X0 hx hZ hown (own_w15 hw) (own_w16 hw) (own_w17 hw) e0 rfl (by rw [hml]; rfl) rfl (hb hby d3_1) (by decide) (W := 0) (by exact hW0) (by decide)) fun T1 X1 e1 => ?_
 refine Home.run X1 hx hby sg3_4_1 (pc' := 5) (L' := #[.val (.ref o0), .val (.ref o1), .val (.int (0 : Int32)), .val (.int (4 : Int32)), .val .null, .unset]) (S' := [(.int (4 : Int32))]) rfl ?_
 refine Home.go (fun _ => XS.ifYes X1.here hx rfl (pc0 := 5) (pc' := 27) rfl (hb hby d3_5) rfl ((if0 _ _).trans (feq (by decide)).2) (by decide) (by decide)) ?_
 refine Home.st (getS2 X1 hx hZ hown (host := "") (Or.inl (own_w18 hw)) Via.refl e1 (S_COMPACT_STRINGS.ext O0.2) rfl (hb hby d3_27)) fun T2 X2 e2 => ?_
 refine Home.go (fun _ => XS.ifNo X2.here hx rfl (hb hby d3_30) rfl ((if0 _ _).trans (feq hCS).1)) ?_
 refine Home.run X2 hx hby sg3_33_3 (pc' := 36) (L' := #[.val (.ref o0), .val (.ref o1), .val (.int (0 : Int32)), .val (.int (4 : Int32)), .val .null, .unset]) (S' := [(.int (4 : Int32)), (.int (0 : Int32)), (.ref o1)]) rfl ?_
 refine Home.call (own_static X2 hx hZ hown (own_w19 hw) (own_w20 hw) (own_w21 hw) (own_w22 hw) (by decide) (rm5_3 l Z a0 hw [] o1 k_o1 u1 u2 u3 u4 h0 n0 O0 V_o1 bnd_u1 bnd_u2 bnd_u3 bnd_u4) e2 rfl (by rw [hml]; rfl) (argsL := [(.ref o1), (.int (0 : Int32)), (.int (4 : Int32))]) (rest := []) (lenOf own_pd1 rfl) rfl rfl (W := 0) (by exact hW0) (by decide) (by decide) (hb hby d3_36) (by decide) (by decide)) ?_
 rintro _ T3 L3 X3 ⟨b1_3, k1_3, rfl, N3q, sz_b1_3, K3q, P3_0⟩
 have g_b1_3 : n0 ≤ b1_3 := Nat.le_trans (Old.le O0) sz_b1_3
 have O3 := Old.keep O0 K3q all0
 have K3 : Keep h0 T3.heap ([o0] : List Addr) := Keep.trans (Keep.refl h0 ([o0] : List Addr)) K3q all0
 have N3 := Fr.app N0 N3q
 show Home T3 (mkF m 39 #[.val (.ref o0), .val (.ref o1), .val (.int (0 : Int32)), .val (.int (4 : Int32)), .val .null, .unset] [(.ref b1_3)])
 refine Home.run X3 hx hby sg3_39_4 (pc' := 45) (L' := #[.val (.ref o0), .val (.ref o1), .val (.int (0 : Int32)), .val (.int (4 : Int32)), .val .null, .val (.ref b1_3)]) (S' := [(.int (4 : Int32)), (.ref b1_3), (.ref o0)]) rfl ?_
 refine Home.st (own_pure (own_static X3 hx hZ hown (own_w27 hw) (own_w28 hw) (own_w21 hw) (own_w29 hw) (by decide) (rm7_3 l Z a0 hw [] b1_3 k1_3 (u1.toInt8.toInt32) (u2.toInt8.toInt32) (u3.toInt8.toInt32) (u4.toInt8.toInt32) T3.heap n0 O3 P3_0) rfl rfl (by rw [hml]; rfl) (argsL := [(.ref b1_3), (.int (4 : Int32))]) (rest := [(.ref o0)]) (lenOf own_pd2 rfl) rfl rfl (W := 1) (by exact hW0) (by decide) (by decide) (hb hby d3_45) (by decide) (by decide))) fun T4 X4 e4 => ?_
 have q5 := (F_coder_o0.keep K3q nin0)
 refine Home.wr (putFN X4 hx hZ hown (own_w30 hw) Via.refl e4 q5 (E_o0.keep K3) (Or.inr ⟨(own_w31 hw), rfl, hnm⟩) (own_w6 hw) (ty := .byte) (v := (.int (0 : Int32))) (v' := (.int (0 : Int32))) (by decide) rfl rfl rfl rfl (hb hby d3_48)) fun T6 h6 X6 e6 W6 => ?_
 have Fw6 := q5.same W6
 have O6 := O3.wr W6 g_o0
 have K6 : Keep h0 h6 ([o0] : List Addr) := Keep.wr K3 W6 (Or.inl (List.mem_of_getElem? (i := 0) rfl))
 have N6 := Fr.snoc X6 N3 g_o0
 show Home T6 (mkF m 51 #[.val (.ref o0), .val (.ref o1), .val (.int (0 : Int32)), .val (.int (4 : Int32)), .val .null, .val (.ref b1_3)] [])
 refine Home.run X6 hx hby sg3_51_2 (pc' := 54) (L' := #[.val (.ref o0), .val (.ref o1), .val (.int (0 : Int32)), .val (.int (4 : Int32)), .val .null, .val (.ref b1_3)]) (S' := [(.ref b1_3), (.ref o0)]) rfl ?_
 have q7 := ((F_value_o0.keep K3q nin0).other W6 (Or.inr (slot_ne (Or.inr (own_w33 hw)) (Or.inr (own_w31 hw)) (by decide) (t := (.array .byte)) (t' := .byte) (by decide) (by decide))))
 refine Home.wr (putF X6 hx hZ hown (host := "") (Or.inl (own_w32 hw)) Via.refl e6 q7 (E_o0.keep K6) (Or.inr ⟨(own_w33 hw), rfl, hnm⟩) (own_w6 hw) (ty := (.array .byte)) (by decide) rfl rfl rfl rfl (hb hby d3_54)) fun T8 h8 X8 e8 W8 => ?_
 have Fw8 := q7.same W8
 have O8 := O6.wr W8 g_o0
 have K8 : Keep h0 h8 ([o0] : List Addr) := Keep.wr K6 W8 (Or.inl (List.mem_of_getElem? (i := 0) rfl))
 have N8 := Fr.snoc X8 N6 g_o0
 have q9 := (Fw6.other W8 (Or.inr (slot_ne (Or.inr (own_w31 hw)) (Or.inr (own_w33 hw)) (by decide) (t := .byte) (t' := (.array .byte)) (by decide) (by decide))))
 have ne10 : b1_3 ≠ o0 := (Ne.symm (Nat.ne_of_lt (Nat.lt_of_lt_of_le E_o0.lt (Nat.le_trans (Nat.le_refl _) sz_b1_3))))
 have q11 := ((P3_0.other W6 ne10).other W8 ne10)
 exact Home.ret0 X8 hx hlk hret (hb hby d3_57) (by rw [show T8.heap = h8 from e8]; exact ⟨b1_3, k1_3, rfl, N8, (Nat.le_trans (Nat.le_refl _) sz_b1_3), K8, (E_o0.keep K8), q9, Fw8, q11⟩) (by decide) (by decide)
theorem rm2_3 (l : Launch) (Z : State) (a0 : Array Value) (hw : HW a0 Z) (ws : List Jvm.Cond) (o0 o1 : Addr) (k_o1 : ClassId) (u1 u2 u3 u4 sv_COMPACT_STRINGS : Int32) (h0 : Heap) (n0 : Nat) (O0 : Old Z n0 h0) (V_o1 : Arv Z h0 o1 k_o1 .char (4 : Int32) [(.int u1), (.int u2), (.int u3), (.int u4)] (.int (0 : Int32))) (S_COMPACT_STRINGS : Sta Z Z.heap "java/lang/String" "COMPACT_STRINGS" "Z" (.int sv_COMPACT_STRINGS)) (E_o0 : Exa Z h0 o0 "java/lang/String") (F_coder_o0 : Fld Z h0 o0 "java/lang/String" "coder" "B" (.int (0 : Int32))) (F_value_o0 : Fld Z h0 o0 "java/lang/String" "value" "[B" .null) (bnd_u1 : ¬ u1 < (0 : Int32) ∧ ¬ (255 : Int32) < u1) (bnd_u2 : ¬ u2 < (0 : Int32) ∧ ¬ (255 : Int32) < u2) (bnd_u3 : ¬ u3 < (0 : Int32) ∧ ¬ (255 : Int32) < u3) (bnd_u4 : ¬ u4 < (0 : Int32) ∧ ¬ (255 : Int32) < u4) (g_o0 : n0 ≤ o0) (hCS : ¬ (sv_COMPACT_STRINGS = (0 : Int32))) :
    Con l Z (⟨"java/lang/String", "<init>", "([C)V"⟩ : MethodName) jdk_42_method_3_code 2 none ws ({ frames := 3, cells := 1, slots := 4, locals := 52 } : Room) #[(.ref o0), (.ref o1)] h0 (fun v h L => ∃ (b1_3_2 : Addr), ∃ (k1_3_2 : ClassId), v = none ∧ Fr n0 L ∧ h0.size ≤ b1_3_2 ∧ Keep h0 h [o0] ∧ Exa Z h o0 "java/lang/String" ∧ Fld Z h o0 "java/lang/String" "coder" "B" (.int (0 : Int32)) ∧ Fld Z h o0 "java/lang/String" "value" "[B" (.ref b1_3_2) ∧ Arv Z h b1_3_2 k1_3_2 .byte (4 : Int32) [(.int (u1.toInt8.toInt32)), (.int (u2.toInt8.toInt32)), (.int (u3.toInt8.toInt32)), (.int (u4.toInt8.toInt32))] (.int (0 : Int32))) := by
 refine own_body (plainFor_of_name own_pn1) (fun m => ef_rm2_3 m o0 o1) ?_
 intro p e s m below meth c s₁ hx hby hlk hml hret hZ hown hnm X0 e0
 have N0 := Fr.nil n0
 refine Home.run X0 hx hby sg2_0_4 (pc' := 4) (L' := #[.val (.ref o0), .val (.ref o1)]) (S' := [(.ref o1), (.int (0 : Int32)), (.ref o1), (.ref o0)]) rfl ?_
 obtain ⟨cl1, Ar1, q1, S1, M1, H1, G1⟩ := id V_o1
 refine Home.go (own_alen X0 hx hZ e0 Ar1 S1 M1 rfl rfl (hb hby d2_4)) ?_
 refine Home.run X0 hx hby sg2_5_1 (pc' := 6) (L' := #[.val (.ref o0), .val (.ref o1)]) (S' := [.null, (.int (4 : Int32)), (.int (0 : Int32)), (.ref o1), (.ref o0)]) rfl ?_
 refine Home.call (own_special X0 hx hZ hown rfl (own_w11 hw) (own_w12 hw) (own_w7 hw) (own_w14 hw) (by decide) (rm3_3 l Z a0 hw [] o0 o1 sv_COMPACT_STRINGS k_o1 u1 u2 u3 u4 h0 n0 O0 S_COMPACT_STRINGS hCS V_o1 bnd_u1 bnd_u2 bnd_u3 bnd_u4 E_o0 F_coder_o0 g_o0 F_value_o0) e0 rfl (by rw [hml]; rfl) (a := o0) (argsL := [(.ref o1), (.int (0 : Int32)), (.int (4 : Int32)), .null]) (rest := []) (lenOf own_pd3 rfl) rfl rfl (W := 0) (by exact hW0) (by decide) (by decide) (hb hby d2_6) (by decide) (by decide)) ?_
 rintro _ T2 L2 X2 ⟨b1_3_2, k1_3_2, rfl, N2q, sz_b1_3_2, K2q, P2_0, P2_1, P2_2, P2_3⟩
 have g_b1_3_2 : n0 ≤ b1_3_2 := Nat.le_trans (Old.le O0) sz_b1_3_2
 have O2 := Old.keep O0 K2q (allS g_o0 all0)
 have K2 : Keep h0 T2.heap ([o0] : List Addr) := Keep.trans (Keep.refl h0 ([o0] : List Addr)) K2q (allS (Or.inl (List.mem_of_getElem? (i := 0) rfl)) all0)
 have N2 := Fr.app N0 N2q
 show Home T2 (mkF m 9 #[.val (.ref o0), .val (.ref o1)] [])
 exact Home.ret0 X2 hx hlk hret (hb hby d2_9) ⟨b1_3_2, k1_3_2, rfl, N2, (Nat.le_trans (Nat.le_refl _) sz_b1_3_2), K2, P2_0, P2_1, P2_2, P2_3⟩ (by decide) (by decide)
theorem rm6_4 (l : Launch) (Z : State) (a0 : Array Value) (hw : HW a0 Z) (ws : List Jvm.Cond) (o0 o2 : Addr) (k_o0 : ClassId) (u1 u2 u3 u4 u5 : Int32) (k_o2 : ClassId) (h0 : Heap) (n0 : Nat) (O0 : Old Z n0 h0) (V_o0 : Arv Z h0 o0 k_o0 .char (5 : Int32) [(.int u1), (.int u2), (.int u3), (.int u4), (.int u5)] (.int (0 : Int32))) (bnd_u1 : ¬ u1 < (0 : Int32) ∧ ¬ (255 : Int32) < u1) (V_o2 : Arv Z h0 o2 k_o2 .byte (5 : Int32) [(.int (0 : Int32)), (.int (0 : Int32)), (.int (0 : Int32)), (.int (0 : Int32)), (.int (0 : Int32))] (.int (0 : Int32))) (g_o2 : n0 ≤ o2) (ne_o0_o2 : o0 ≠ o2) (bnd_u2 : ¬ u2 < (0 : Int32) ∧ ¬ (255 : Int32) < u2) (bnd_u3 : ¬ u3 < (0 : Int32) ∧ ¬ (255 : Int32) < u3) (bnd_u4 : ¬ u4 < (0 : Int32) ∧ ¬ (255 : Int32) < u4) (bnd_u5 : ¬ u5 < (0 : Int32) ∧ ¬ (255 : Int32) < u5) :
    Con l Z (⟨"java/lang/StringUTF16", "compress", "([CI[BII)I"⟩ : MethodName) jdk_52_method_21_code 7 (some .int) ws ({ frames := 0, cells := 0, slots := 0, locals := 0 } : Room) #[(.ref o0), (.int (0 : Int32)), (.ref o2), (.int (0 : Int32)), (.int (5 : Int32))] h0 (fun v h L => v = some (.int (5 : Int32)) ∧ Fr n0 L ∧ Keep h0 h [o2] ∧ Arv Z h o2 k_o2 .byte (5 : Int32) [(.int (u1.toInt8.toInt32)), (.int (u2.toInt8.toInt32)), (.int (u3.toInt8.toInt32)), (.int (u4.toInt8.toInt32)), (.int (u5.toInt8.toInt32))] (.int (0 : Int32))) := by
 refine own_body (plainFor_of_name own_pn0) (fun m => ef_rm6_4 m o0 (0 : Int32) o2 (5 : Int32)) ?_
 intro p e s m below meth c s₁ hx hby hlk hml hret hZ hown hnm X0 e0
 have N0 := Fr.nil n0
 refine Home.run X0 hx hby sg6_0_4 (pc' := 7) (L' := #[.val (.ref o0), .val (.int (0 : Int32)), .val (.ref o2), .val (.int (0 : Int32)), .val (.int (5 : Int32)), .val (.int (0 : Int32)), .unset]) (S' := [(.int (5 : Int32)), (.int (0 : Int32))]) rfl ?_
 refine Home.go (fun _ => XS.icmpNo X0.here hx rfl (hb hby d6_7) rfl (tlt (by decide)).2.1) ?_
 refine Home.run X0 hx hby sg6_10_2 (pc' := 12) (L' := #[.val (.ref o0), .val (.int (0 : Int32)), .val (.ref o2), .val (.int (0 : Int32)), .val (.int (5 : Int32)), .val (.int (0 : Int32)), .unset]) (S' := [(.int (0 : Int32)), (.ref o0)]) rfl ?_
 obtain ⟨cl1, Ar1, q1, S1, M1, H1, G1⟩ := id V_o0
 have ib1 : ¬ ((0 : Int32) < 0 ∨ cl1.slots.size ≤ ((0 : Int32)).toNatClampNeg) := inb_of S1 ⟨by decide, by decide⟩
 refine Home.go (X0.caload hx (j := (0 : Int32)) (v := (.int u1)) (by rw [e0]; exact Ar1.1) (State.isArrayOf_alike hZ.alike Ar1.2.1) Ar1.2.2 ib1 (Has.at H1 ib1 rfl) rfl rfl (hb hby d6_12)) ?_
 refine Home.run X0 hx hby sg6_13_3 (pc' := 20) (L' := #[.val (.ref o0), .val (.int (0 : Int32)), .val (.ref o2), .val (.int (0 : Int32)), .val (.int (5 : Int32)), .val (.int (0 : Int32)), .val (.int u1)]) (S' := [(.int (255 : Int32)), (.int u1)]) rfl ?_
 refine Home.go (fun _ => XS.icmpYes X0.here hx rfl (pc0 := 20) (pc' := 26) rfl (hb hby d6_20) rfl (flt (bnd_nlt (bnd_lit (255 : Int32)) bnd_u1 (by decide +kernel))).2.2.2 (by decide) (by decide)) ?_
 refine Home.run X0 hx hby sg6_26_4 (pc' := 31) (L' := #[.val (.ref o0), .val (.int (0 : Int32)), .val (.ref o2), .val (.int (0 : Int32)), .val (.int (5 : Int32)), .val (.int (0 : Int32)), .val (.int u1)]) (S' := [(.int (u1.toInt8.toInt32)), (.int (0 : Int32)), (.ref o2)]) rfl ?_
 obtain ⟨cl2, Ar2, q2, S2, M2, H2, G2⟩ := id V_o2
 refine Home.wr (stB X0 hx hZ e0 Ar2 (j := (0 : Int32)) (inb_of S2 ⟨by decide, by decide⟩) rfl rfl (hb hby d6_31)) fun T2 h2 X2 e2 W2 => ?_
 have W2' := Wr.to W2 (congrArg Value.int (nar_byte_id (bnd_i2b u1) (by decide +kernel) (by decide +kernel)))
 have V2 : Arv Z h2 o2 k_o2 .byte (5 : Int32) [(.int (u1.toInt8.toInt32)), (.int (0 : Int32)), (.int (0 : Int32)), (.int (0 : Int32)), (.int (0 : Int32))] (.int (0 : Int32)) := Arv.set Ar2 q2 S2 M2 H2 G2 (fits_byte_b (bnd_i2b u1) (by decide +kernel) (by decide +kernel)) W2' 0 rfl (Nat.le_of_ble_eq_true rfl)
 have O2 := O0.wr W2 g_o2
 have K2 : Keep h0 h2 ([o2] : List Addr) := Keep.wr (Keep.refl h0 ([o2] : List Addr)) W2 (Or.inl (List.mem_of_getElem? (i := 0) rfl))
 have N2 := Fr.snoc X2 N0 g_o2
 show Home T2 (mkF m 32 #[.val (.ref o0), .val (.int (0 : Int32)), .val (.ref o2), .val (.int (0 : Int32)), .val (.int (5 : Int32)), .val (.int (0 : Int32)), .val (.int u1)] [])
 refine Home.run X2 hx hby sg6_32_6 (pc' := 7) (L' := #[.val (.ref o0), .val (.int (1 : Int32)), .val (.ref o2), .val (.int (1 : Int32)), .val (.int (5 : Int32)), .val (.int (1 : Int32)), .val (.int u1)]) (S' := [(.int (5 : Int32)), (.int (1 : Int32))]) rfl ?_
 refine Home.go (fun _ => XS.icmpNo X2.here hx rfl (hb hby d6_7) rfl (tlt (by decide)).2.1) ?_
 refine Home.run X2 hx hby sg6_10_2 (pc' := 12) (L' := #[.val (.ref o0), .val (.int (1 : Int32)), .val (.ref o2), .val (.int (1 : Int32)), .val (.int (5 : Int32)), .val (.int (1 : Int32)), .val (.int u1)]) (S' := [(.int (1 : Int32)), (.ref o0)]) rfl ?_
 have q3 := (V_o0.other W2 ne_o0_o2)
 obtain ⟨cl4, Ar4, q4, S4, M4, H4, G4⟩ := id q3
 have ib4 : ¬ ((1 : Int32) < 0 ∨ cl4.slots.size ≤ ((1 : Int32)).toNatClampNeg) := inb_of S4 ⟨by decide, by decide⟩
 refine Home.go (X2.caload hx (j := (1 : Int32)) (v := (.int u2)) (by rw [e2]; exact Ar4.1) (State.isArrayOf_alike hZ.alike Ar4.2.1) Ar4.2.2 ib4 (Has.at H4 ib4 rfl) rfl rfl (hb hby d6_12)) ?_
 refine Home.run X2 hx hby sg6_13_3 (pc' := 20) (L' := #[.val (.ref o0), .val (.int (1 : Int32)), .val (.ref o2), .val (.int (1 : Int32)), .val (.int (5 : Int32)), .val (.int (1 : Int32)), .val (.int u2)]) (S' := [(.int (255 : Int32)), (.int u2)]) rfl ?_
 refine Home.go (fun _ => XS.icmpYes X2.here hx rfl (pc0 := 20) (pc' := 26) rfl (hb hby d6_20) rfl (flt (bnd_nlt (bnd_lit (255 : Int32)) bnd_u2 (by decide +kernel))).2.2.2 (by decide) (by decide)) ?_
 refine Home.run X2 hx hby sg6_26_4 (pc' := 31) (L' := #[.val (.ref o0), .val (.int (1 : Int32)), .val (.ref o2), .val (.int (1 : Int32)), .val (.int (5 : Int32)), .val (.int (1 : Int32)), .val (.int u2)]) (S' := [(.int (u2.toInt8.toInt32)), (.int (1 : Int32)), (.ref o2)]) rfl ?_
 obtain ⟨cl5, Ar5, q5, S5, M5, H5, G5⟩ := id V2
 refine Home.wr (stB X2 hx hZ e2 Ar5 (j := (1 : Int32)) (inb_of S5 ⟨by decide, by decide⟩) rfl rfl (hb hby d6_31)) fun T5 h5 X5 e5 W5 => ?_
 have W5' := Wr.to W5 (congrArg Value.int (nar_byte_id (bnd_i2b u2) (by decide +kernel) (by decide +kernel)))
 have V5 : Arv Z h5 o2 k_o2 .byte (5 : Int32) [(.int (u1.toInt8.toInt32)), (.int (u2.toInt8.toInt32)), (.int (0 : Int32)), (.int (0 : Int32)), (.int (0 : Int32))] (.int (0 : Int32)) := Arv.set Ar5 q5 S5 M5 H5 G5 (fits_byte_b (bnd_i2b u2) (by decide +kernel) (by decide +kernel)) W5' 1 rfl (Nat.le_of_ble_eq_true rfl)
 have O5 := O2.wr W5 g_o2
 have K5 : Keep h0 h5 ([o2] : List Addr) := Keep.wr K2 W5 (Or.inl (List.mem_of_getElem? (i := 0) rfl))
 have N5 := Fr.snoc X5 N2 g_o2
 show Home T5 (mkF m 32 #[.val (.ref o0), .val (.int (1 : Int32)), .val (.ref o2), .val (.int (1 : Int32)), .val (.int (5 : Int32)), .val (.int (1 : Int32)), .val (.int u2)] [])
 refine Home.run X5 hx hby sg6_32_6 (pc' := 7) (L' := #[.val (.ref o0), .val (.int (2 : Int32)), .val (.ref o2), .val (.int (2 : Int32)), .val (.int (5 : Int32)), .val (.int (2 : Int32)), .val (.int u2)]) (S' := [(.int (5 : Int32)), (.int (2 : Int32))]) rfl ?_
 refine Home.go (fun _ => XS.icmpNo X5.here hx rfl (hb hby d6_7) rfl (tlt (by decide)).2.1) ?_
 refine Home.run X5 hx hby sg6_10_2 (pc' := 12) (L' := #[.val (.ref o0), .val (.int (2 : Int32)), .val (.ref o2), .val (.int (2 : Int32)), .val (.int (5 : Int32)), .val (.int (2 : Int32)), .val (.int u2)]) (S' := [(.int (2 : Int32)), (.ref o0)]) rfl ?_
 have q6 := (q3.other W5 ne_o0_o2)
 obtain ⟨cl7, Ar7, q7, S7, M7, H7, G7⟩ := id q6
 have ib7 : ¬ ((2 : Int32) < 0 ∨ cl7.slots.size ≤ ((2 : Int32)).toNatClampNeg) := inb_of S7 ⟨by decide, by decide⟩
 refine Home.go (X5.caload hx (j := (2 : Int32)) (v := (.int u3)) (by rw [e5]; exact Ar7.1) (State.isArrayOf_alike hZ.alike Ar7.2.1) Ar7.2.2 ib7 (Has.at H7 ib7 rfl) rfl rfl (hb hby d6_12)) ?_
 refine Home.run X5 hx hby sg6_13_3 (pc' := 20) (L' := #[.val (.ref o0), .val (.int (2 : Int32)), .val (.ref o2), .val (.int (2 : Int32)), .val (.int (5 : Int32)), .val (.int (2 : Int32)), .val (.int u3)]) (S' := [(.int (255 : Int32)), (.int u3)]) rfl ?_
 refine Home.go (fun _ => XS.icmpYes X5.here hx rfl (pc0 := 20) (pc' := 26) rfl (hb hby d6_20) rfl (flt (bnd_nlt (bnd_lit (255 : Int32)) bnd_u3 (by decide +kernel))).2.2.2 (by decide) (by decide)) ?_
 refine Home.run X5 hx hby sg6_26_4 (pc' := 31) (L' := #[.val (.ref o0), .val (.int (2 : Int32)), .val (.ref o2), .val (.int (2 : Int32)), .val (.int (5 : Int32)), .val (.int (2 : Int32)), .val (.int u3)]) (S' := [(.int (u3.toInt8.toInt32)), (.int (2 : Int32)), (.ref o2)]) rfl ?_
 obtain ⟨cl8, Ar8, q8, S8, M8, H8, G8⟩ := id V5
 refine Home.wr (stB X5 hx hZ e5 Ar8 (j := (2 : Int32)) (inb_of S8 ⟨by decide, by decide⟩) rfl rfl (hb hby d6_31)) fun T8 h8 X8 e8 W8 => ?_
 have W8' := Wr.to W8 (congrArg Value.int (nar_byte_id (bnd_i2b u3) (by decide +kernel) (by decide +kernel)))
 have V8 : Arv Z h8 o2 k_o2 .byte (5 : Int32) [(.int (u1.toInt8.toInt32)), (.int (u2.toInt8.toInt32)), (.int (u3.toInt8.toInt32)), (.int (0 : Int32)), (.int (0 : Int32))] (.int (0 : Int32)) := Arv.set Ar8 q8 S8 M8 H8 G8 (fits_byte_b (bnd_i2b u3) (by decide +kernel) (by decide +kernel)) W8' 2 rfl (Nat.le_of_ble_eq_true rfl)
 have O8 := O5.wr W8 g_o2
 have K8 : Keep h0 h8 ([o2] : List Addr) := Keep.wr K5 W8 (Or.inl (List.mem_of_getElem? (i := 0) rfl))
 have N8 := Fr.snoc X8 N5 g_o2
 show Home T8 (mkF m 32 #[.val (.ref o0), .val (.int (2 : Int32)), .val (.ref o2), .val (.int (2 : Int32)), .val (.int (5 : Int32)), .val (.int (2 : Int32)), .val (.int u3)] [])
 refine Home.run X8 hx hby sg6_32_6 (pc' := 7) (L' := #[.val (.ref o0), .val (.int (3 : Int32)), .val (.ref o2), .val (.int (3 : Int32)), .val (.int (5 : Int32)), .val (.int (3 : Int32)), .val (.int u3)]) (S' := [(.int (5 : Int32)), (.int (3 : Int32))]) rfl ?_
 refine Home.go (fun _ => XS.icmpNo X8.here hx rfl (hb hby d6_7) rfl (tlt (by decide)).2.1) ?_
 refine Home.run X8 hx hby sg6_10_2 (pc' := 12) (L' := #[.val (.ref o0), .val (.int (3 : Int32)), .val (.ref o2), .val (.int (3 : Int32)), .val (.int (5 : Int32)), .val (.int (3 : Int32)), .val (.int u3)]) (S' := [(.int (3 : Int32)), (.ref o0)]) rfl ?_
 have q9 := (q6.other W8 ne_o0_o2)
 obtain ⟨cl10, Ar10, q10, S10, M10, H10, G10⟩ := id q9
 have ib10 : ¬ ((3 : Int32) < 0 ∨ cl10.slots.size ≤ ((3 : Int32)).toNatClampNeg) := inb_of S10 ⟨by decide, by decide⟩
 refine Home.go (X8.caload hx (j := (3 : Int32)) (v := (.int u4)) (by rw [e8]; exact Ar10.1) (State.isArrayOf_alike hZ.alike Ar10.2.1) Ar10.2.2 ib10 (Has.at H10 ib10 rfl) rfl rfl (hb hby d6_12)) ?_
 refine Home.run X8 hx hby sg6_13_3 (pc' := 20) (L' := #[.val (.ref o0), .val (.int (3 : Int32)), .val (.ref o2), .val (.int (3 : Int32)), .val (.int (5 : Int32)), .val (.int (3 : Int32)), .val (.int u4)]) (S' := [(.int (255 : Int32)), (.int u4)]) rfl ?_
 refine Home.go (fun _ => XS.icmpYes X8.here hx rfl (pc0 := 20) (pc' := 26) rfl (hb hby d6_20) rfl (flt (bnd_nlt (bnd_lit (255 : Int32)) bnd_u4 (by decide +kernel))).2.2.2 (by decide) (by decide)) ?_
 refine Home.run X8 hx hby sg6_26_4 (pc' := 31) (L' := #[.val (.ref o0), .val (.int (3 : Int32)), .val (.ref o2), .val (.int (3 : Int32)), .val (.int (5 : Int32)), .val (.int (3 : Int32)), .val (.int u4)]) (S' := [(.int (u4.toInt8.toInt32)), (.int (3 : Int32)), (.ref o2)]) rfl ?_
 obtain ⟨cl11, Ar11, q11, S11, M11, H11, G11⟩ := id V8
 refine Home.wr (stB X8 hx hZ e8 Ar11 (j := (3 : Int32)) (inb_of S11 ⟨by decide, by decide⟩) rfl rfl (hb hby d6_31)) fun T11 h11 X11 e11 W11 => ?_
 have W11' := Wr.to W11 (congrArg Value.int (nar_byte_id (bnd_i2b u4) (by decide +kernel) (by decide +kernel)))
 have V11 : Arv Z h11 o2 k_o2 .byte (5 : Int32) [(.int (u1.toInt8.toInt32)), (.int (u2.toInt8.toInt32)), (.int (u3.toInt8.toInt32)), (.int (u4.toInt8.toInt32)), (.int (0 : Int32))] (.int (0 : Int32)) := Arv.set Ar11 q11 S11 M11 H11 G11 (fits_byte_b (bnd_i2b u4) (by decide +kernel) (by decide +kernel)) W11' 3 rfl (Nat.le_of_ble_eq_true rfl)
 have O11 := O8.wr W11 g_o2
 have K11 : Keep h0 h11 ([o2] : List Addr) := Keep.wr K8 W11 (Or.inl (List.mem_of_getElem? (i := 0) rfl))
 have N11 := Fr.snoc X11 N8 g_o2
 show Home T11 (mkF m 32 #[.val (.ref o0), .val (.int (3 : Int32)), .val (.ref o2), .val (.int (3 : Int32)), .val (.int (5 : Int32)), .val (.int (3 : Int32)), .val (.int u4)] [])
 refine Home.run X11 hx hby sg6_32_6 (pc' := 7) (L' := #[.val (.ref o0), .val (.int (4 : Int32)), .val (.ref o2), .val (.int (4 : Int32)), .val (.int (5 : Int32)), .val (.int (4 : Int32)), .val (.int u4)]) (S' := [(.int (5 : Int32)), (.int (4 : Int32))]) rfl ?_
 refine Home.go (fun _ => XS.icmpNo X11.here hx rfl (hb hby d6_7) rfl (tlt (by decide)).2.1) ?_
 refine Home.run X11 hx hby sg6_10_2 (pc' := 12) (L' := #[.val (.ref o0), .val (.int (4 : Int32)), .val (.ref o2), .val (.int (4 : Int32)), .val (.int (5 : Int32)), .val (.int (4 : Int32)), .val (.int u4)]) (S' := [(.int (4 : Int32)), (.ref o0)]) rfl ?_
 have q12 := (q9.other W11 ne_o0_o2)
 obtain ⟨cl13, Ar13, q13, S13, M13, H13, G13⟩ := id q12
 have ib13 : ¬ ((4 : Int32) < 0 ∨ cl13.slots.size ≤ ((4 : Int32)).toNatClampNeg) := inb_of S13 ⟨by decide, by decide⟩
 refine Home.go (X11.caload hx (j := (4 : Int32)) (v := (.int u5)) (by rw [e11]; exact Ar13.1) (State.isArrayOf_alike hZ.alike Ar13.2.1) Ar13.2.2 ib13 (Has.at H13 ib13 rfl) rfl rfl (hb hby d6_12)) ?_
 refine Home.run X11 hx hby sg6_13_3 (pc' := 20) (L' := #[.val (.ref o0), .val (.int (4 : Int32)), .val (.ref o2), .val (.int (4 : Int32)), .val (.int (5 : Int32)), .val (.int (4 : Int32)), .val (.int u5)]) (S' := [(.int (255 : Int32)), (.int u5)]) rfl ?_
 refine Home.go (fun _ => XS.icmpYes X11.here hx rfl (pc0 := 20) (pc' := 26) rfl (hb hby d6_20) rfl (flt (bnd_nlt (bnd_lit (255 : Int32)) bnd_u5 (by decide +kernel))).2.2.2 (by decide) (by decide)) ?_
 refine Home.run X11 hx hby sg6_26_4 (pc' := 31) (L' := #[.val (.ref o0), .val (.int (4 : Int32)), .val (.ref o2), .val (.int (4 : Int32)), .val (.int (5 : Int32)), .val (.int (4 : Int32)), .val (.int u5)]) (S' := [(.int (u5.toInt8.toInt32)), (.int (4 : Int32)), (.ref o2)]) rfl ?_
 obtain ⟨cl14, Ar14, q14, S14, M14, H14, G14⟩ := id V11
 refine Home.wr (stB X11 hx hZ e11 Ar14 (j := (4 : Int32)) (inb_of S14 ⟨by decide, by decide⟩) rfl rfl (hb hby d6_31)) fun T14 h14 X14 e14 W14 => ?_
 have W14' := Wr.to W14 (congrArg Value.int (nar_byte_id (bnd_i2b u5) (by decide +kernel) (by decide +kernel)))
 have V14 : Arv Z h14 o2 k_o2 .byte (5 : Int32) [(.int (u1.toInt8.toInt32)), (.int (u2.toInt8.toInt32)), (.int (u3.toInt8.toInt32)), (.int (u4.toInt8.toInt32)), (.int (u5.toInt8.toInt32))] (.int (0 : Int32)) := Arv.set Ar14 q14 S14 M14 H14 G14 (fits_byte_b (bnd_i2b u5) (by decide +kernel) (by decide +kernel)) W14' 4 rfl (Nat.le_of_ble_eq_true rfl)
 have O14 := O11.wr W14 g_o2
 have K14 : Keep h0 h14 ([o2] : List Addr) := Keep.wr K11 W14 (Or.inl (List.mem_of_getElem? (i := 0) rfl))
 have N14 := Fr.snoc X14 N11 g_o2
 show Home T14 (mkF m 32 #[.val (.ref o0), .val (.int (4 : Int32)), .val (.ref o2), .val (.int (4 : Int32)), .val (.int (5 : Int32)), .val (.int (4 : Int32)), .val (.int u5)] [])
 refine Home.run X14 hx hby sg6_32_6 (pc' := 7) (L' := #[.val (.ref o0), .val (.int (5 : Int32)), .val (.ref o2), .val (.int (5 : Int32)), .val (.int (5 : Int32)), .val (.int (5 : Int32)), .val (.int u5)]) (S' := [(.int (5 : Int32)), (.int (5 : Int32))]) rfl ?_
 refine Home.go (fun _ => XS.icmpYes X14.here hx rfl (pc0 := 7) (pc' := 44) rfl (hb hby d6_7) rfl (flt (by decide)).2.1 (by decide) (by decide)) ?_
 refine Home.run X14 hx hby sg6_44_1 (pc' := 46) (L' := #[.val (.ref o0), .val (.int (5 : Int32)), .val (.ref o2), .val (.int (5 : Int32)), .val (.int (5 : Int32)), .val (.int (5 : Int32)), .val (.int u5)]) (S' := [(.int (5 : Int32))]) rfl ?_
 exact Home.retI X14 hx hlk hret (hb hby d6_46) (by rw [show T14.heap = h14 from e14]; exact ⟨rfl, N14, K14, V14⟩) (by decide) (by decide)
theorem rm5_4 (l : Launch) (Z : State) (a0 : Array Value) (hw : HW a0 Z) (ws : List Jvm.Cond) (o0 : Addr) (k_o0 : ClassId) (u1 u2 u3 u4 u5 : Int32) (h0 : Heap) (n0 : Nat) (O0 : Old Z n0 h0) (V_o0 : Arv Z h0 o0 k_o0 .char (5 : Int32) [(.int u1), (.int u2), (.int u3), (.int u4), (.int u5)] (.int (0 : Int32))) (bnd_u1 : ¬ u1 < (0 : Int32) ∧ ¬ (255 : Int32) < u1) (bnd_u2 : ¬ u2 < (0 : Int32) ∧ ¬ (255 : Int32) < u2) (bnd_u3 : ¬ u3 < (0 : Int32) ∧ ¬ (255 : Int32) < u3) (bnd_u4 : ¬ u4 < (0 : Int32) ∧ ¬ (255 : Int32) < u4) (bnd_u5 : ¬ u5 < (0 : Int32) ∧ ¬ (255 : Int32) < u5) :
    Con l Z (⟨"java/lang/StringUTF16", "compress", "([CII)[B"⟩ : MethodName) jdk_52_method_16_code 6 (some (.array .byte)) ws ({ frames := 1, cells := 1, slots := 5, locals := 18 } : Room) #[(.ref o0), (.int (0 : Int32)), (.int (5 : Int32))] h0 (fun v h L => ∃ (b1 : Addr), ∃ (k1 : ClassId), v = some (.ref b1) ∧ Fr n0 L ∧ h0.size ≤ b1 ∧ Keep h0 h [] ∧ Arv Z h b1 k1 .byte (5 : Int32) [(.int (u1.toInt8.toInt32)), (.int (u2.toInt8.toInt32)), (.int (u3.toInt8.toInt32)), (.int (u4.toInt8.toInt32)), (.int (u5.toInt8.toInt32))] (.int (0 : Int32))) := by
 refine own_body (plainFor_of_name own_pn0) (fun m => ef_rm5_4 m o0 (0 : Int32) (5 : Int32)) ?_
 intro p e s m below meth c s₁ hx hby hlk hml hret hZ hown hnm X0 e0
 have N0 := Fr.nil n0
 refine Home.run X0 hx hby sg5_0_1 (pc' := 1) (L' := #[.val (.ref o0), .val (.int (0 : Int32)), .val (.int (5 : Int32)), .unset, .unset, .unset]) (S' := [(.int (5 : Int32))]) rfl ?_
 refine Home.na (own_newP (aty := .byte) X0 hx hZ (own_w23 hw) e0 (g := (mkF m 1 #[.val (.ref o0), .val (.int (0 : Int32)), .val (.int (5 : Int32)), .unset, .unset, .unset] [(.int (5 : Int32))])) rfl (hb hby d5_1) rfl (by decide) (cap := 5) (by decide) (by decide) (by decide) (by decide)) fun T1 h1 k1 b1 g1 X1 e1 E1 A1 => ?_
 have g_b1 : n0 ≤ b1 := Nat.le_trans (Old.le O0) (Nat.le_of_eq g1.symm)
 have V1 : Arv Z h1 b1 k1 .byte (5 : Int32) [(.int (0 : Int32)), (.int (0 : Int32)), (.int (0 : Int32)), (.int (0 : Int32)), (.int (0 : Int32))] (.int (0 : Int32)) := (Arv.new A1 (by decide)).pad (pad_rep [] (.int (0 : Int32)) 5)
 have O1 := O0.ext E1
 have K1 : Keep h0 h1 ([] : List Addr) := Keep.ext (Keep.refl h0 ([] : List Addr)) E1
 refine Home.run X1 hx hby sg5_3_6 (pc' := 9) (L' := #[.val (.ref o0), .val (.int (0 : Int32)), .val (.int (5 : Int32)), .val (.ref b1), .unset, .unset]) (S' := [(.int (5 : Int32)), (.int (0 : Int32)), (.ref b1), (.int (0 : Int32)), (.ref o0)]) rfl ?_
 have ne2 : o0 ≠ b1 := (Nat.ne_of_lt (Nat.lt_of_lt_of_le V_o0.lt (Nat.le_trans (Nat.le_refl _) (Nat.le_of_eq g1.symm))))
 refine Home.call (own_static X1 hx hZ hown (own_w24 hw) (own_w25 hw) (own_w21 hw) (own_w26 hw) (by decide) (rm6_4 l Z a0 hw [] o0 b1 k_o0 u1 u2 u3 u4 u5 k1 h1 n0 O1 (V_o0.keep K1 nin0) bnd_u1 V1 g_b1 ne2 bnd_u2 bnd_u3 bnd_u4 bnd_u5) e1 rfl (by rw [hml]; rfl) (argsL := [(.ref o0), (.int (0 : Int32)), (.ref b1), (.int (0 : Int32)), (.int (5 : Int32))]) (rest := []) (lenOf own_pd0 rfl) rfl rfl (W := 0) (by exact hW0) (by decide) (by decide) (hb hby d5_9) (by decide) (by decide)) ?_
 rintro _ T3 L3 X3 ⟨rfl, N3q, K3q, P3_0⟩
 have O3 := Old.keep O1 K3q (allS g_b1 all0)
 have K3 : Keep h0 T3.heap ([] : List Addr) := Keep.trans K1 K3q (allS (Or.inr (Nat.le_trans (Nat.le_refl _) (Nat.le_of_eq g1.symm))) all0)
 have N3 := Fr.app N0 N3q
 show Home T3 (mkF m 12 #[.val (.ref o0), .val (.int (0 : Int32)), .val (.int (5 : Int32)), .val (.ref b1), .unset, .unset] [(.int (5 : Int32))])
 refine Home.run X3 hx hby sg5_12_3 (pc' := 17) (L' := #[.val (.ref o0), .val (.int (0 : Int32)), .val (.int (5 : Int32)), .val (.ref b1), .val (.int (5 : Int32)), .unset]) (S' := [(.int (5 : Int32)), (.int (5 : Int32))]) rfl ?_
 refine Home.go (fun _ => XS.icmpYes X3.here hx rfl (pc0 := 17) (pc' := 57) rfl (hb hby d5_17) rfl (teq (by decide)).1 (by decide) (by decide)) ?_
 refine Home.run X3 hx hby sg5_57_1 (pc' := 58) (L' := #[.val (.ref o0), .val (.int (0 : Int32)), .val (.int (5 : Int32)), .val (.ref b1), .val (.int (5 : Int32)), .unset]) (S' := [(.ref b1)]) rfl ?_
 exact Home.retR X3 hx hlk hret rfl rfl (hb hby d5_58) ⟨b1, k1, rfl, N3, (Nat.le_trans (Nat.le_refl _) (Nat.le_of_eq g1.symm)), K3, P3_0⟩ (by decide) (by decide)
theorem rm7_4 (l : Launch) (Z : State) (a0 : Array Value) (hw : HW a0 Z) (ws : List Jvm.Cond) (o0 : Addr) (k_o0 : ClassId) (u1 u2 u3 u4 u5 : Int32) (h0 : Heap) (n0 : Nat) (O0 : Old Z n0 h0) (V_o0 : Arv Z h0 o0 k_o0 .byte (5 : Int32) [(.int u1), (.int u2), (.int u3), (.int u4), (.int u5)] (.int (0 : Int32))) :
    Con l Z (⟨"java/lang/StringUTF16", "coderFromArrayLen", "([BI)B"⟩ : MethodName) jdk_52_method_15_code 2 (some .byte) ws ({ frames := 0, cells := 0, slots := 0, locals := 0 } : Room) #[(.ref o0), (.int (5 : Int32))] h0 (Pur (some (.int (0 : Int32))) h0) := by
 refine own_body (plainFor_of_name own_pn0) (fun m => ef_rm7_4 m o0 (5 : Int32)) ?_
 intro p e s m below meth c s₁ hx hby hlk hml hret hZ hown hnm X0 e0
 have N0 := Fr.nil n0
 refine Home.run X0 hx hby sg7_0_2 (pc' := 2) (L' := #[.val (.ref o0), .val (.int (5 : Int32))]) (S' := [(.ref o0), (.int (5 : Int32))]) rfl ?_
 obtain ⟨cl1, Ar1, q1, S1, M1, H1, G1⟩ := id V_o0
 refine Home.go (own_alen X0 hx hZ e0 Ar1 S1 M1 rfl rfl (hb hby d7_2)) ?_
 refine Home.run X0 hx hby sg7_3_4 (pc' := 8) (L' := #[.val (.ref o0), .val (.int (5 : Int32))]) (S' := [(.int (0 : Int32))]) rfl ?_
 exact Home.retN X0 hx hlk (t := .byte) hret (by simp) (hb hby d7_8) ⟨congrArg some (congrArg Value.int (by first | rfl | exact nar_i2c _ | exact nar_i2b _)), rfl, e0⟩ (by decide) (by decide)
theorem rm3_4 (l : Launch) (Z : State) (a0 : Array Value) (hw : HW a0 Z) (ws : List Jvm.Cond) (o0 o1 : Addr) (sv_COMPACT_STRINGS : Int32) (k_o1 : ClassId) (u1 u2 u3 u4 u5 : Int32) (h0 : Heap) (n0 : Nat) (O0 : Old Z n0 h0) (S_COMPACT_STRINGS : Sta Z Z.heap "java/lang/String" "COMPACT_STRINGS" "Z" (.int sv_COMPACT_STRINGS)) (hCS : ¬ (sv_COMPACT_STRINGS = (0 : Int32))) (V_o1 : Arv Z h0 o1 k_o1 .char (5 : Int32) [(.int u1), (.int u2), (.int u3), (.int u4), (.int u5)] (.int (0 : Int32))) (bnd_u1 : ¬ u1 < (0 : Int32) ∧ ¬ (255 : Int32) < u1) (bnd_u2 : ¬ u2 < (0 : Int32) ∧ ¬ (255 : Int32) < u2) (bnd_u3 : ¬ u3 < (0 : Int32) ∧ ¬ (255 : Int32) < u3) (bnd_u4 : ¬ u4 < (0 : Int32) ∧ ¬ (255 : Int32) < u4) (bnd_u5 : ¬ u5 < (0 : Int32) ∧ ¬ (255 : Int32) < u5) (E_o0 : Exa Z h0 o0 "java/lang/String") (F_coder_o0 : Fld Z h0 o0 "java/lang/String" "coder" "B" (.int (0 : Int32))) (g_o0 : n0 ≤ o0) (F_value_o0 : Fld Z h0 o0 "java/lang/String" "value" "[B" .null) :
    Con l Z (⟨"java/lang/String", "<init>", "([CIILjava/lang/Void;)V"⟩ : MethodName) jdk_42_method_149_code 6 none ws ({ frames := 2, cells := 1, slots := 5, locals := 35 } : Room) #[(.ref o0), (.ref o1), (.int (0 : Int32)), (.int (5 : Int32)), .null] h0 (fun v h L => ∃ (b1_3 : Addr), ∃ (k1_3 : ClassId), v = none ∧ Fr n0 L ∧ h0.size ≤ b1_3 ∧ Keep h0 h [o0] ∧ Exa Z h o0 "java/lang/String" ∧ Fld Z h o0 "java/lang/String" "coder" "B" (.int (0 : Int32)) ∧ Fld Z h o0 "java/lang/String" "value" "[B" (.ref b1_3) ∧ Arv Z h b1_3 k1_3 .byte (5 : Int32) [(.int (u1.toInt8.toInt32)), (.int (u2.toInt8.toInt32)), (.int (u3.toInt8.toInt32)), (.int (u4.toInt8.toInt32)), (.int (u5.toInt8.toInt32))] (.int (0 : Int32))) := by
 refine own_body (plainFor_of_name own_pn1) (fun m => ef_rm3_4 m o0 o1 (0 : Int32) (5 : Int32)) ?_
 intro p e s m below meth c s₁ hx hby hlk hml hret hZ hown hnm X0 e0
 have N0 := Fr.nil n0
 refine Home.run X0 hx hby sg3_0_1 (pc' := 1) (L' := #[.val (.ref o0), .val (.ref o1), .val (.int (0 : Int32)), .val (.int (5 : Int32)), .val .null, .unset]) (S' := [(.ref o0)]) rfl ?_
 refine Home.st (initO X0 hx hZ hown (own_w15 hw) (own_w16 hw) (own_w17 hw) e0 rfl (by rw [hml]; rfl) rfl (hb hby d3_1) (by decide) (W := 0) (by exact hW0) (by decide)) fun T1 X1 e1 => ?_
 refine Home.run X1 hx hby sg3_4_1 (pc' := 5) (L' := #[.val (.ref o0), .val (.ref o1), .val (.int (0 : Int32)), .val (.int (5 : Int32)), .val .null, .unset]) (S' := [(.int (5 : Int32))]) rfl ?_
 refine Home.go (fun _ => XS.ifYes X1.here hx rfl (pc0 := 5) (pc' := 27) rfl (hb hby d3_5) rfl ((if0 _ _).trans (feq (by decide)).2) (by decide) (by decide)) ?_
 refine Home.st (getS2 X1 hx hZ hown (host := "") (Or.inl (own_w18 hw)) Via.refl e1 (S_COMPACT_STRINGS.ext O0.2) rfl (hb hby d3_27)) fun T2 X2 e2 => ?_
 refine Home.go (fun _ => XS.ifNo X2.here hx rfl (hb hby d3_30) rfl ((if0 _ _).trans (feq hCS).1)) ?_
 refine Home.run X2 hx hby sg3_33_3 (pc' := 36) (L' := #[.val (.ref o0), .val (.ref o1), .val (.int (0 : Int32)), .val (.int (5 : Int32)), .val .null, .unset]) (S' := [(.int (5 : Int32)), (.int (0 : Int32)), (.ref o1)]) rfl ?_
 refine Home.call (own_static X2 hx hZ hown (own_w19 hw) (own_w20 hw) (own_w21 hw) (own_w22 hw) (by decide) (rm5_4 l Z a0 hw [] o1 k_o1 u1 u2 u3 u4 u5 h0 n0 O0 V_o1 bnd_u1 bnd_u2 bnd_u3 bnd_u4 bnd_u5) e2 rfl (by rw [hml]; rfl) (argsL := [(.ref o1), (.int (0 : Int32)), (.int (5 : Int32))]) (rest := []) (lenOf own_pd1 rfl) rfl rfl (W := 0) (by exact hW0) (by decide) (by decide) (hb hby d3_36) (by decide) (by decide)) ?_
 rintro _ T3 L3 X3 ⟨b1_3, k1_3, rfl, N3q, sz_b1_3, K3q, P3_0⟩
 have g_b1_3 : n0 ≤ b1_3 := Nat.le_trans (Old.le O0) sz_b1_3
 have O3 := Old.keep O0 K3q all0
 have K3 : Keep h0 T3.heap ([o0] : List Addr) := Keep.trans (Keep.refl h0 ([o0] : List Addr)) K3q all0
 have N3 := Fr.app N0 N3q
 show Home T3 (mkF m 39 #[.val (.ref o0), .val (.ref o1), .val (.int (0 : Int32)), .val (.int (5 : Int32)), .val .null, .unset] [(.ref b1_3)])
 refine Home.run X3 hx hby sg3_39_4 (pc' := 45) (L' := #[.val (.ref o0), .val (.ref o1), .val (.int (0 : Int32)), .val (.int (5 : Int32)), .val .null, .val (.ref b1_3)]) (S' := [(.int (5 : Int32)), (.ref b1_3), (.ref o0)]) rfl ?_
 refine Home.st (own_pure (own_static X3 hx hZ hown (own_w27 hw) (own_w28 hw) (own_w21 hw) (own_w29 hw) (by decide) (rm7_4 l Z a0 hw [] b1_3 k1_3 (u1.toInt8.toInt32) (u2.toInt8.toInt32) (u3.toInt8.toInt32) (u4.toInt8.toInt32) (u5.toInt8.toInt32) T3.heap n0 O3 P3_0) rfl rfl (by rw [hml]; rfl) (argsL := [(.ref b1_3), (.int (5 : Int32))]) (rest := [(.ref o0)]) (lenOf own_pd2 rfl) rfl rfl (W := 1) (by exact hW0) (by decide) (by decide) (hb hby d3_45) (by decide) (by decide))) fun T4 X4 e4 => ?_
 have q5 := (F_coder_o0.keep K3q nin0)
 refine Home.wr (putFN X4 hx hZ hown (own_w30 hw) Via.refl e4 q5 (E_o0.keep K3) (Or.inr ⟨(own_w31 hw), rfl, hnm⟩) (own_w6 hw) (ty := .byte) (v := (.int (0 : Int32))) (v' := (.int (0 : Int32))) (by decide) rfl rfl rfl rfl (hb hby d3_48)) fun T6 h6 X6 e6 W6 => ?_
 have Fw6 := q5.same W6
 have O6 := O3.wr W6 g_o0
 have K6 : Keep h0 h6 ([o0] : List Addr) := Keep.wr K3 W6 (Or.inl (List.mem_of_getElem? (i := 0) rfl))
 have N6 := Fr.snoc X6 N3 g_o0
 show Home T6 (mkF m 51 #[.val (.ref o0), .val (.ref o1), .val (.int (0 : Int32)), .val (.int (5 : Int32)), .val .null, .val (.ref b1_3)] [])
 refine Home.run X6 hx hby sg3_51_2 (pc' := 54) (L' := #[.val (.ref o0), .val (.ref o1), .val (.int (0 : Int32)), .val (.int (5 : Int32)), .val .null, .val (.ref b1_3)]) (S' := [(.ref b1_3), (.ref o0)]) rfl ?_
 have q7 := ((F_value_o0.keep K3q nin0).other W6 (Or.inr (slot_ne (Or.inr (own_w33 hw)) (Or.inr (own_w31 hw)) (by decide) (t := (.array .byte)) (t' := .byte) (by decide) (by decide))))
 refine Home.wr (putF X6 hx hZ hown (host := "") (Or.inl (own_w32 hw)) Via.refl e6 q7 (E_o0.keep K6) (Or.inr ⟨(own_w33 hw), rfl, hnm⟩) (own_w6 hw) (ty := (.array .byte)) (by decide) rfl rfl rfl rfl (hb hby d3_54)) fun T8 h8 X8 e8 W8 => ?_
 have Fw8 := q7.same W8
 have O8 := O6.wr W8 g_o0
 have K8 : Keep h0 h8 ([o0] : List Addr) := Keep.wr K6 W8 (Or.inl (List.mem_of_getElem? (i := 0) rfl))
 have N8 := Fr.snoc X8 N6 g_o0
 have q9 := (Fw6.other W8 (Or.inr (slot_ne (Or.inr (own_w31 hw)) (Or.inr (own_w33 hw)) (by decide) (t := .byte) (t' := (.array .byte)) (by decide) (by decide))))
 have ne10 : b1_3 ≠ o0 := (Ne.symm (Nat.ne_of_lt (Nat.lt_of_lt_of_le E_o0.lt (Nat.le_trans (Nat.le_refl _) sz_b1_3))))
 have q11 := ((P3_0.other W6 ne10).other W8 ne10)
 exact Home.ret0 X8 hx hlk hret (hb hby d3_57) (by rw [show T8.heap = h8 from e8]; exact ⟨b1_3, k1_3, rfl, N8, (Nat.le_trans (Nat.le_refl _) sz_b1_3), K8, (E_o0.keep K8), q9, Fw8, q11⟩) (by decide) (by decide)
theorem rm2_4 (l : Launch) (Z : State) (a0 : Array Value) (hw : HW a0 Z) (ws : List Jvm.Cond) (o0 o1 : Addr) (k_o1 : ClassId) (u1 u2 u3 u4 u5 sv_COMPACT_STRINGS : Int32) (h0 : Heap) (n0 : Nat) (O0 : Old Z n0 h0) (V_o1 : Arv Z h0 o1 k_o1 .char (5 : Int32) [(.int u1), (.int u2), (.int u3), (.int u4), (.int u5)] (.int (0 : Int32))) (S_COMPACT_STRINGS : Sta Z Z.heap "java/lang/String" "COMPACT_STRINGS" "Z" (.int sv_COMPACT_STRINGS)) (E_o0 : Exa Z h0 o0 "java/lang/String") (F_coder_o0 : Fld Z h0 o0 "java/lang/String" "coder" "B" (.int (0 : Int32))) (F_value_o0 : Fld Z h0 o0 "java/lang/String" "value" "[B" .null) (bnd_u1 : ¬ u1 < (0 : Int32) ∧ ¬ (255 : Int32) < u1) (bnd_u2 : ¬ u2 < (0 : Int32) ∧ ¬ (255 : Int32) < u2) (bnd_u3 : ¬ u3 < (0 : Int32) ∧ ¬ (255 : Int32) < u3) (bnd_u4 : ¬ u4 < (0 : Int32) ∧ ¬ (255 : Int32) < u4) (bnd_u5 : ¬ u5 < (0 : Int32) ∧ ¬ (255 : Int32) < u5) (g_o0 : n0 ≤ o0) (hCS : ¬ (sv_COMPACT_STRINGS = (0 : Int32))) :
    Con l Z (⟨"java/lang/String", "<init>", "([C)V"⟩ : MethodName) jdk_42_method_3_code 2 none ws ({ frames := 3, cells := 1, slots := 5, locals := 52 } : Room) #[(.ref o0), (.ref o1)] h0 (fun v h L => ∃ (b1_3_2 : Addr), ∃ (k1_3_2 : ClassId), v = none ∧ Fr n0 L ∧ h0.size ≤ b1_3_2 ∧ Keep h0 h [o0] ∧ Exa Z h o0 "java/lang/String" ∧ Fld Z h o0 "java/lang/String" "coder" "B" (.int (0 : Int32)) ∧ Fld Z h o0 "java/lang/String" "value" "[B" (.ref b1_3_2) ∧ Arv Z h b1_3_2 k1_3_2 .byte (5 : Int32) [(.int (u1.toInt8.toInt32)), (.int (u2.toInt8.toInt32)), (.int (u3.toInt8.toInt32)), (.int (u4.toInt8.toInt32)), (.int (u5.toInt8.toInt32))] (.int (0 : Int32))) := by
 refine own_body (plainFor_of_name own_pn1) (fun m => ef_rm2_4 m o0 o1) ?_
 intro p e s m below meth c s₁ hx hby hlk hml hret hZ hown hnm X0 e0
 have N0 := Fr.nil n0
 refine Home.run X0 hx hby sg2_0_4 (pc' := 4) (L' := #[.val (.ref o0), .val (.ref o1)]) (S' := [(.ref o1), (.int (0 : Int32)), (.ref o1), (.ref o0)]) rfl ?_
 obtain ⟨cl1, Ar1, q1, S1, M1, H1, G1⟩ := id V_o1
 refine Home.go (own_alen X0 hx hZ e0 Ar1 S1 M1 rfl rfl (hb hby d2_4)) ?_
 refine Home.run X0 hx hby sg2_5_1 (pc' := 6) (L' := #[.val (.ref o0), .val (.ref o1)]) (S' := [.null, (.int (5 : Int32)), (.int (0 : Int32)), (.ref o1), (.ref o0)]) rfl ?_
 refine Home.call (own_special X0 hx hZ hown rfl (own_w11 hw) (own_w12 hw) (own_w7 hw) (own_w14 hw) (by decide) (rm3_4 l Z a0 hw [] o0 o1 sv_COMPACT_STRINGS k_o1 u1 u2 u3 u4 u5 h0 n0 O0 S_COMPACT_STRINGS hCS V_o1 bnd_u1 bnd_u2 bnd_u3 bnd_u4 bnd_u5 E_o0 F_coder_o0 g_o0 F_value_o0) e0 rfl (by rw [hml]; rfl) (a := o0) (argsL := [(.ref o1), (.int (0 : Int32)), (.int (5 : Int32)), .null]) (rest := []) (lenOf own_pd3 rfl) rfl rfl (W := 0) (by exact hW0) (by decide) (by decide) (hb hby d2_6) (by decide) (by decide)) ?_
 rintro _ T2 L2 X2 ⟨b1_3_2, k1_3_2, rfl, N2q, sz_b1_3_2, K2q, P2_0, P2_1, P2_2, P2_3⟩
 have g_b1_3_2 : n0 ≤ b1_3_2 := Nat.le_trans (Old.le O0) sz_b1_3_2
 have O2 := Old.keep O0 K2q (allS g_o0 all0)
 have K2 : Keep h0 T2.heap ([o0] : List Addr) := Keep.trans (Keep.refl h0 ([o0] : List Addr)) K2q (allS (Or.inl (List.mem_of_getElem? (i := 0) rfl)) all0)
 have N2 := Fr.app N0 N2q
 show Home T2 (mkF m 9 #[.val (.ref o0), .val (.ref o1)] [])
 exact Home.ret0 X2 hx hlk hret (hb hby d2_9) ⟨b1_3_2, k1_3_2, rfl, N2, (Nat.le_trans (Nat.le_refl _) sz_b1_3_2), K2, P2_0, P2_1, P2_2, P2_3⟩ (by decide) (by decide)
theorem rm6_5 (l : Launch) (Z : State) (a0 : Array Value) (hw : HW a0 Z) (ws : List Jvm.Cond) (o0 o2 : Addr) (k_o0 : ClassId) (u1 u2 u3 u4 u5 u6 : Int32) (k_o2 : ClassId) (h0 : Heap) (n0 : Nat) (O0 : Old Z n0 h0) (V_o0 : Arv Z h0 o0 k_o0 .char (6 : Int32) [(.int u1), (.int u2), (.int u3), (.int u4), (.int u5), (.int u6)] (.int (0 : Int32))) (bnd_u1 : ¬ u1 < (0 : Int32) ∧ ¬ (255 : Int32) < u1) (V_o2 : Arv Z h0 o2 k_o2 .byte (6 : Int32) [(.int (0 : Int32)), (.int (0 : Int32)), (.int (0 : Int32)), (.int (0 : Int32)), (.int (0 : Int32)), (.int (0 : Int32))] (.int (0 : Int32))) (g_o2 : n0 ≤ o2) (ne_o0_o2 : o0 ≠ o2) (bnd_u2 : ¬ u2 < (0 : Int32) ∧ ¬ (255 : Int32) < u2) (bnd_u3 : ¬ u3 < (0 : Int32) ∧ ¬ (255 : Int32) < u3) (bnd_u4 : ¬ u4 < (0 : Int32) ∧ ¬ (255 : Int32) < u4) (bnd_u5 : ¬ u5 < (0 : Int32) ∧ ¬ (255 : Int32) < u5) (bnd_u6 : ¬ u6 < (0 : Int32) ∧ ¬ (255 : Int32) < u6) :
    Con l Z (⟨"java/lang/StringUTF16", "compress", "([CI[BII)I"⟩ : MethodName) jdk_52_method_21_code 7 (some .int) ws ({ frames := 0, cells := 0, slots := 0, locals := 0 } : Room) #[(.ref o0), (.int (0 : Int32)), (.ref o2), (.int (0 : Int32)), (.int (6 : Int32))] h0 (fun v h L => v = some (.int (6 : Int32)) ∧ Fr n0 L ∧ Keep h0 h [o2] ∧ Arv Z h o2 k_o2 .byte (6 : Int32) [(.int (u1.toInt8.toInt32)), (.int (u2.toInt8.toInt32)), (.int (u3.toInt8.toInt32)), (.int (u4.toInt8.toInt32)), (.int (u5.toInt8.toInt32)), (.int (u6.toInt8.toInt32))] (.int (0 : Int32))) := by
 refine own_body (plainFor_of_name own_pn0) (fun m => ef_rm6_5 m o0 (0 : Int32) o2 (6 : Int32)) ?_
 intro p e s m below meth c s₁ hx hby hlk hml hret hZ hown hnm X0 e0
 have N0 := Fr.nil n0
 refine Home.run X0 hx hby sg6_0_4 (pc' := 7) (L' := #[.val (.ref o0), .val (.int (0 : Int32)), .val (.ref o2), .val (.int (0 : Int32)), .val (.int (6 : Int32)), .val (.int (0 : Int32)), .unset]) (S' := [(.int (6 : Int32)), (.int (0 : Int32))]) rfl ?_
 refine Home.go (fun _ => XS.icmpNo X0.here hx rfl (hb hby d6_7) rfl (tlt (by decide)).2.1) ?_
 refine Home.run X0 hx hby sg6_10_2 (pc' := 12) (L' := #[.val (.ref o0), .val (.int (0 : Int32)), .val (.ref o2), .val (.int (0 : Int32)), .val (.int (6 : Int32)), .val (.int (0 : Int32)), .unset]) (S' := [(.int (0 : Int32)), (.ref o0)]) rfl ?_
 obtain ⟨cl1, Ar1, q1, S1, M1, H1, G1⟩ := id V_o0
 have ib1 : ¬ ((0 : Int32) < 0 ∨ cl1.slots.size ≤ ((0 : Int32)).toNatClampNeg) := inb_of S1 ⟨by decide, by decide⟩
 refine Home.go (X0.caload hx (j := (0 : Int32)) (v := (.int u1)) (by rw [e0]; exact Ar1.1) (State.isArrayOf_alike hZ.alike Ar1.2.1) Ar1.2.2 ib1 (Has.at H1 ib1 rfl) rfl rfl (hb hby d6_12)) ?_
 refine Home.run X0 hx hby sg6_13_3 (pc' := 20) (L' := #[.val (.ref o0), .val (.int (0 : Int32)), .val (.ref o2), .val (.int (0 : Int32)), .val (.int (6 : Int32)), .val (.int (0 : Int32)), .val (.int u1)]) (S' := [(.int (255 : Int32)), (.int u1)]) rfl ?_
 refine Home.go (fun _ => XS.icmpYes X0.here hx rfl (pc0 := 20) (pc' := 26) rfl (hb hby d6_20) rfl (flt (bnd_nlt (bnd_lit (255 : Int32)) bnd_u1 (by decide +kernel))).2.2.2 (by decide) (by decide)) ?_
 refine Home.run X0 hx hby sg6_26_4 (pc' := 31) (L' := #[.val (.ref o0), .val (.int (0 : Int32)), .val (.ref o2), .val (.int (0 : Int32)), .val (.int (6 : Int32)), .val (.int (0 : Int32)), .val (.int u1)]) (S' := [(.int (u1.toInt8.toInt32)), (.int (0 : Int32)), (.ref o2)]) rfl ?_
 obtain ⟨cl2, Ar2, q2, S2, M2, H2, G2⟩ := id V_o2
 refine Home.wr (stB X0 hx hZ e0 Ar2 (j := (0 : Int32)) (inb_of S2 ⟨by decide, by decide⟩) rfl rfl (hb hby d6_31)) fun T2 h2 X2 e2 W2 => ?_
 have W2' := Wr.to W2 (congrArg Value.int (nar_byte_id (bnd_i2b u1) (by decide +kernel) (by decide +kernel)))
 have V2 : Arv Z h2 o2 k_o2 .byte (6 : Int32) [(.int (u1.toInt8.toInt32)), (.int (0 : Int32)), (.int (0 : Int32)), (.int (0 : Int32)), (.int (0 : Int32)), (.int (0 : Int32))] (.int (0 : Int32)) := Arv.set Ar2 q2 S2 M2 H2 G2 (fits_byte_b (bnd_i2b u1) (by decide +kernel) (by decide +kernel)) W2' 0 rfl (Nat.le_of_ble_eq_true rfl)
 have O2 := O0.wr W2 g_o2
 have K2 : Keep h0 h2 ([o2] : List Addr) := Keep.wr (Keep.refl h0 ([o2] : List Addr)) W2 (Or.inl (List.mem_of_getElem? (i := 0) rfl))
 have N2 := Fr.snoc X2 N0 g_o2
 show Home T2 (mkF m 32 #[.val (.ref o0), .val (.int (0 : Int32)), .val (.ref o2), .val (.int (0 : Int32)), .val (.int (6 : Int32)), .val (.int (0 : Int32)), .val (.int u1)] [])
 refine Home.run X2 hx hby sg6_32_6 (pc' := 7) (L' := #[.val (.ref o0), .val (.int (1 : Int32)), .val (.ref o2), .val (.int (1 : Int32)), .val (.int (6 : Int32)), .val (.int (1 : Int32)), .val (.int u1)]) (S' := [(.int (6 : Int32)), (.int (1 : Int32))]) rfl ?_
 refine Home.go (fun _ => XS.icmpNo X2.here hx rfl (hb hby d6_7) rfl (tlt (by decide)).2.1) ?_
 refine Home.run X2 hx hby sg6_10_2 (pc' := 12) (L' := #[.val (.ref o0), .val (.int (1 : Int32)), .val (.ref o2), .val (.int (1 : Int32)), .val (.int (6 : Int32)), .val (.int (1 : Int32)), .val (.int u1)]) (S' := [(.int (1 : Int32)), (.ref o0)]) rfl ?_
 have q3 := (V_o0.other W2 ne_o0_o2)
 obtain ⟨cl4, Ar4, q4, S4, M4, H4, G4⟩ := id q3
 have ib4 : ¬ ((1 : Int32) < 0 ∨ cl4.slots.size ≤ ((1 : Int32)).toNatClampNeg) := inb_of S4 ⟨by decide, by decide⟩
 refine Home.go (X2.caload hx (j := (1 : Int32)) (v := (.int u2)) (by rw [e2]; exact Ar4.1) (State.isArrayOf_alike hZ.alike Ar4.2.1) Ar4.2.2 ib4 (Has.at H4 ib4 rfl) rfl rfl (hb hby d6_12)) ?_
 refine Home.run X2 hx hby sg6_13_3 (pc' := 20) (L' := #[.val (.ref o0), .val (.int (1 : Int32)), .val (.ref o2), .val (.int (1 : Int32)), .val (.int (6 : Int32)), .val (.int (1 : Int32)), .val (.int u2)]) (S' := [(.int (255 : Int32)), (.int u2)]) rfl ?_
 refine Home.go (fun _ => XS.icmpYes X2.here hx rfl (pc0 := 20) (pc' := 26) rfl (hb hby d6_20) rfl (flt (bnd_nlt (bnd_lit (255 : Int32)) bnd_u2 (by decide +kernel))).2.2.2 (by decide) (by decide)) ?_
 refine Home.run X2 hx hby sg6_26_4 (pc' := 31) (L' := #[.val (.ref o0), .val (.int (1 : Int32)), .val (.ref o2), .val (.int (1 : Int32)), .val (.int (6 : Int32)), .val (.int (1 : Int32)), .val (.int u2)]) (S' := [(.int (u2.toInt8.toInt32)), (.int (1 : Int32)), (.ref o2)]) rfl ?_
 obtain ⟨cl5, Ar5, q5, S5, M5, H5, G5⟩ := id V2
 refine Home.wr (stB X2 hx hZ e2 Ar5 (j := (1 : Int32)) (inb_of S5 ⟨by decide, by decide⟩) rfl rfl (hb hby d6_31)) fun T5 h5 X5 e5 W5 => ?_
 have W5' := Wr.to W5 (congrArg Value.int (nar_byte_id (bnd_i2b u2) (by decide +kernel) (by decide +kernel)))
 have V5 : Arv Z h5 o2 k_o2 .byte (6 : Int32) [(.int (u1.toInt8.toInt32)), (.int (u2.toInt8.toInt32)), (.int (0 : Int32)), (.int (0 : Int32)), (.int (0 : Int32)), (.int (0 : Int32))] (.int (0 : Int32)) := Arv.set Ar5 q5 S5 M5 H5 G5 (fits_byte_b (bnd_i2b u2) (by decide +kernel) (by decide +kernel)) W5' 1 rfl (Nat.le_of_ble_eq_true rfl)
 have O5 := O2.wr W5 g_o2
 have K5 : Keep h0 h5 ([o2] : List Addr) := Keep.wr K2 W5 (Or.inl (List.mem_of_getElem? (i := 0) rfl))
 have N5 := Fr.snoc X5 N2 g_o2
 show Home T5 (mkF m 32 #[.val (.ref o0), .val (.int (1 : Int32)), .val (.ref o2), .val (.int (1 : Int32)), .val (.int (6 : Int32)), .val (.int (1 : Int32)), .val (.int u2)] [])
 refine Home.run X5 hx hby sg6_32_6 (pc' := 7) (L' := #[.val (.ref o0), .val (.int (2 : Int32)), .val (.ref o2), .val (.int (2 : Int32)), .val (.int (6 : Int32)), .val (.int (2 : Int32)), .val (.int u2)]) (S' := [(.int (6 : Int32)), (.int (2 : Int32))]) rfl ?_
 refine Home.go (fun _ => XS.icmpNo X5.here hx rfl (hb hby d6_7) rfl (tlt (by decide)).2.1) ?_
 refine Home.run X5 hx hby sg6_10_2 (pc' := 12) (L' := #[.val (.ref o0), .val (.int (2 : Int32)), .val (.ref o2), .val (.int (2 : Int32)), .val (.int (6 : Int32)), .val (.int (2 : Int32)), .val (.int u2)]) (S' := [(.int (2 : Int32)), (.ref o0)]) rfl ?_
 have q6 := (q3.other W5 ne_o0_o2)
 obtain ⟨cl7, Ar7, q7, S7, M7, H7, G7⟩ := id q6
 have ib7 : ¬ ((2 : Int32) < 0 ∨ cl7.slots.size ≤ ((2 : Int32)).toNatClampNeg) := inb_of S7 ⟨by decide, by decide⟩
 refine Home.go (X5.caload hx (j := (2 : Int32)) (v := (.int u3)) (by rw [e5]; exact Ar7.1) (State.isArrayOf_alike hZ.alike Ar7.2.1) Ar7.2.2 ib7 (Has.at H7 ib7 rfl) rfl rfl (hb hby d6_12)) ?_
 refine Home.run X5 hx hby sg6_13_3 (pc' := 20) (L' := #[.val (.ref o0), .val (.int (2 : Int32)), .val (.ref o2), .val (.int (2 : Int32)), .val (.int (6 : Int32)), .val (.int (2 : Int32)), .val (.int u3)]) (S' := [(.int (255 : Int32)), (.int u3)]) rfl ?_
 refine Home.go (fun _ => XS.icmpYes X5.here hx rfl (pc0 := 20) (pc' := 26) rfl (hb hby d6_20) rfl (flt (bnd_nlt (bnd_lit (255 : Int32)) bnd_u3 (by decide +kernel))).2.2.2 (by decide) (by decide)) ?_
 refine Home.run X5 hx hby sg6_26_4 (pc' := 31) (L' := #[.val (.ref o0), .val (.int (2 : Int32)), .val (.ref o2), .val (.int (2 : Int32)), .val (.int (6 : Int32)), .val (.int (2 : Int32)), .val (.int u3)]) (S' := [(.int (u3.toInt8.toInt32)), (.int (2 : Int32)), (.ref o2)]) rfl ?_
 obtain ⟨cl8, Ar8, q8, S8, M8, H8, G8⟩ := id V5
 refine Home.wr (stB X5 hx hZ e5 Ar8 (j := (2 : Int32)) (inb_of S8 ⟨by decide, by decide⟩) rfl rfl (hb hby d6_31)) fun T8 h8 X8 e8 W8 => ?_
 have W8' := Wr.to W8 (congrArg Value.int (nar_byte_id (bnd_i2b u3) (by decide +kernel) (by decide +kernel)))
 have V8 : Arv Z h8 o2 k_o2 .byte (6 : Int32) [(.int (u1.toInt8.toInt32)), (.int (u2.toInt8.toInt32)), (.int (u3.toInt8.toInt32)), (.int (0 : Int32)), (.int (0 : Int32)), (.int (0 : Int32))] (.int (0 : Int32)) := Arv.set Ar8 q8 S8 M8 H8 G8 (fits_byte_b (bnd_i2b u3) (by decide +kernel) (by decide +kernel)) W8' 2 rfl (Nat.le_of_ble_eq_true rfl)
 have O8 := O5.wr W8 g_o2
 have K8 : Keep h0 h8 ([o2] : List Addr) := Keep.wr K5 W8 (Or.inl (List.mem_of_getElem? (i := 0) rfl))
 have N8 := Fr.snoc X8 N5 g_o2
 show Home T8 (mkF m 32 #[.val (.ref o0), .val (.int (2 : Int32)), .val (.ref o2), .val (.int (2 : Int32)), .val (.int (6 : Int32)), .val (.int (2 : Int32)), .val (.int u3)] [])
 refine Home.run X8 hx hby sg6_32_6 (pc' := 7) (L' := #[.val (.ref o0), .val (.int (3 : Int32)), .val (.ref o2), .val (.int (3 : Int32)), .val (.int (6 : Int32)), .val (.int (3 : Int32)), .val (.int u3)]) (S' := [(.int (6 : Int32)), (.int (3 : Int32))]) rfl ?_
 refine Home.go (fun _ => XS.icmpNo X8.here hx rfl (hb hby d6_7) rfl (tlt (by decide)).2.1) ?_
 refine Home.run X8 hx hby sg6_10_2 (pc' := 12) (L' := #[.val (.ref o0), .val (.int (3 : Int32)), .val (.ref o2), .val (.int (3 : Int32)), .val (.int (6 : Int32)), .val (.int (3 : Int32)), .val (.int u3)]) (S' := [(.int (3 : Int32)), (.ref o0)]) rfl ?_
 have q9 := (q6.other W8 ne_o0_o2)
 obtain ⟨cl10, Ar10, q10, S10, M10, H10, G10⟩ := id q9
 have ib10 : ¬ ((3 : Int32) < 0 ∨ cl10.slots.size ≤ ((3 : Int32)).toNatClampNeg) := inb_of S10 ⟨by decide, by decide⟩
 refine Home.go (X8.caload hx (j := (3 : Int32)) (v := (.int u4)) (by rw [e8]; exact Ar10.1) (State.isArrayOf_alike hZ.alike Ar10.2.1) Ar10.2.2 ib10 (Has.at H10 ib10 rfl) rfl rfl (hb hby d6_12)) ?_
 refine Home.run X8 hx hby sg6_13_3 (pc' := 20) (L' := #[.val (.ref o0), .val (.int (3 : Int32)), .val (.ref o2), .val (.int (3 : Int32)), .val (.int (6 : Int32)), .val (.int (3 : Int32)), .val (.int u4)]) (S' := [(.int (255 : Int32)), (.int u4)]) rfl ?_
 refine Home.go (fun _ => XS.icmpYes X8.here hx rfl (pc0 := 20) (pc' := 26) rfl (hb hby d6_20) rfl (flt (bnd_nlt (bnd_lit (255 : Int32)) bnd_u4 (by decide +kernel))).2.2.2 (by decide) (by decide)) ?_
 refine Home.run X8 hx hby sg6_26_4 (pc' := 31) (L' := #[.val (.ref o0), .val (.int (3 : Int32)), .val (.ref o2), .val (.int (3 : Int32)), .val (.int (6 : Int32)), .val (.int (3 : Int32)), .val (.int u4)]) (S' := [(.int (u4.toInt8.toInt32)), (.int (3 : Int32)), (.ref o2)]) rfl ?_
 obtain ⟨cl11, Ar11, q11, S11, M11, H11, G11⟩ := id V8
 refine Home.wr (stB X8 hx hZ e8 Ar11 (j := (3 : Int32)) (inb_of S11 ⟨by decide, by decide⟩) rfl rfl (hb hby d6_31)) fun T11 h11 X11 e11 W11 => ?_
 have W11' := Wr.to W11 (congrArg Value.int (nar_byte_id (bnd_i2b u4) (by decide +kernel) (by decide +kernel)))
 have V11 : Arv Z h11 o2 k_o2 .byte (6 : Int32) [(.int (u1.toInt8.toInt32)), (.int (u2.toInt8.toInt32)), (.int (u3.toInt8.toInt32)), (.int (u4.toInt8.toInt32)), (.int (0 : Int32)), (.int (0 : Int32))] (.int (0 : Int32)) := Arv.set Ar11 q11 S11 M11 H11 G11 (fits_byte_b (bnd_i2b u4) (by decide +kernel) (by decide +kernel)) W11' 3 rfl (Nat.le_of_ble_eq_true rfl)
 have O11 := O8.wr W11 g_o2
 have K11 : Keep h0 h11 ([o2] : List Addr) := Keep.wr K8 W11 (Or.inl (List.mem_of_getElem? (i := 0) rfl))
 have N11 := Fr.snoc X11 N8 g_o2
 show Home T11 (mkF m 32 #[.val (.ref o0), .val (.int (3 : Int32)), .val (.ref o2), .val (.int (3 : Int32)), .val (.int (6 : Int32)), .val (.int (3 : Int32)), .val (.int u4)] [])
 refine Home.run X11 hx hby sg6_32_6 (pc' := 7) (L' := #[.val (.ref o0), .val (.int (4 : Int32)), .val (.ref o2), .val (.int (4 : Int32)), .val (.int (6 : Int32)), .val (.int (4 : Int32)), .val (.int u4)]) (S' := [(.int (6 : Int32)), (.int (4 : Int32))]) rfl ?_
 refine Home.go (fun _ => XS.icmpNo X11.here hx rfl (hb hby d6_7) rfl (tlt (by decide)).2.1) ?_
 refine Home.run X11 hx hby sg6_10_2 (pc' := 12) (L' := #[.val (.ref o0), .val (.int (4 : Int32)), .val (.ref o2), .val (.int (4 : Int32)), .val (.int (6 : Int32)), .val (.int (4 : Int32)), .val (.int u4)]) (S' := [(.int (4 : Int32)), (.ref o0)]) rfl ?_
 have q12 := (q9.other W11 ne_o0_o2)
 obtain ⟨cl13, Ar13, q13, S13, M13, H13, G13⟩ := id q12
 have ib13 : ¬ ((4 : Int32) < 0 ∨ cl13.slots.size ≤ ((4 : Int32)).toNatClampNeg) := inb_of S13 ⟨by decide, by decide⟩
 refine Home.go (X11.caload hx (j := (4 : Int32)) (v := (.int u5)) (by rw [e11]; exact Ar13.1) (State.isArrayOf_alike hZ.alike Ar13.2.1) Ar13.2.2 ib13 (Has.at H13 ib13 rfl) rfl rfl (hb hby d6_12)) ?_
 refine Home.run X11 hx hby sg6_13_3 (pc' := 20) (L' := #[.val (.ref o0), .val (.int (4 : Int32)), .val (.ref o2), .val (.int (4 : Int32)), .val (.int (6 : Int32)), .val (.int (4 : Int32)), .val (.int u5)]) (S' := [(.int (255 : Int32)), (.int u5)]) rfl ?_
 refine Home.go (fun _ => XS.icmpYes X11.here hx rfl (pc0 := 20) (pc' := 26) rfl (hb hby d6_20) rfl (flt (bnd_nlt (bnd_lit (255 : Int32)) bnd_u5 (by decide +kernel))).2.2.2 (by decide) (by decide)) ?_
 refine Home.run X11 hx hby sg6_26_4 (pc' := 31) (L' := #[.val (.ref o0), .val (.int (4 : Int32)), .val (.ref o2), .val (.int (4 : Int32)), .val (.int (6 : Int32)), .val (.int (4 : Int32)), .val (.int u5)]) (S' := [(.int (u5.toInt8.toInt32)), (.int (4 : Int32)), (.ref o2)]) rfl ?_
 obtain ⟨cl14, Ar14, q14, S14, M14, H14, G14⟩ := id V11
 refine Home.wr (stB X11 hx hZ e11 Ar14 (j := (4 : Int32)) (inb_of S14 ⟨by decide, by decide⟩) rfl rfl (hb hby d6_31)) fun T14 h14 X14 e14 W14 => ?_
 have W14' := Wr.to W14 (congrArg Value.int (nar_byte_id (bnd_i2b u5) (by decide +kernel) (by decide +kernel)))
 have V14 : Arv Z h14 o2 k_o2 .byte (6 : Int32) [(.int (u1.toInt8.toInt32)), (.int (u2.toInt8.toInt32)), (.int (u3.toInt8.toInt32)), (.int (u4.toInt8.toInt32)), (.int (u5.toInt8.toInt32)), (.int (0 : Int32))] (.int (0 : Int32)) := Arv.set Ar14 q14 S14 M14 H14 G14 (fits_byte_b (bnd_i2b u5) (by decide +kernel) (by decide +kernel)) W14' 4 rfl (Nat.le_of_ble_eq_true rfl)
 have O14 := O11.wr W14 g_o2
 have K14 : Keep h0 h14 ([o2] : List Addr) := Keep.wr K11 W14 (Or.inl (List.mem_of_getElem? (i := 0) rfl))
 have N14 := Fr.snoc X14 N11 g_o2
 show Home T14 (mkF m 32 #[.val (.ref o0), .val (.int (4 : Int32)), .val (.ref o2), .val (.int (4 : Int32)), .val (.int (6 : Int32)), .val (.int (4 : Int32)), .val (.int u5)] [])
 refine Home.run X14 hx hby sg6_32_6 (pc' := 7) (L' := #[.val (.ref o0), .val (.int (5 : Int32)), .val (.ref o2), .val (.int (5 : Int32)), .val (.int (6 : Int32)), .val (.int (5 : Int32)), .val (.int u5)]) (S' := [(.int (6 : Int32)), (.int (5 : Int32))]) rfl ?_
 refine Home.go (fun _ => XS.icmpNo X14.here hx rfl (hb hby d6_7) rfl (tlt (by decide)).2.1) ?_
 refine Home.run X14 hx hby sg6_10_2 (pc' := 12) (L' := #[.val (.ref o0), .val (.int (5 : Int32)), .val (.ref o2), .val (.int (5 : Int32)), .val (.int (6 : Int32)), .val (.int (5 : Int32)), .val (.int u5)]) (S' := [(.int (5 : Int32)), (.ref o0)]) rfl ?_
 have q15 := (q12.other W14 ne_o0_o2)
 obtain ⟨cl16, Ar16, q16, S16, M16, H16, G16⟩ := id q15
 have ib16 : ¬ ((5 : Int32) < 0 ∨ cl16.slots.size ≤ ((5 : Int32)).toNatClampNeg) := inb_of S16 ⟨by decide, by decide⟩
 refine Home.go (X14.caload hx (j := (5 : Int32)) (v := (.int u6)) (by rw [e14]; exact Ar16.1) (State.isArrayOf_alike hZ.alike Ar16.2.1) Ar16.2.2 ib16 (Has.at H16 ib16 rfl) rfl rfl (hb hby d6_12)) ?_
 refine Home.run X14 hx hby sg6_13_3 (pc' := 20) (L' := #[.val (.ref o0), .val (.int (5 : Int32)), .val (.ref o2), .val (.int (5 : Int32)), .val (.int (6 : Int32)), .val (.int (5 : Int32)), .val (.int u6)]) (S' := [(.int (255 : Int32)), (.int u6)]) rfl ?_
 refine Home.go (fun _ => XS.icmpYes X14.here hx rfl (pc0 := 20) (pc' := 26) rfl (hb hby d6_20) rfl (flt (bnd_nlt (bnd_lit (255 : Int32)) bnd_u6 (by decide +kernel))).2.2.2 (by decide) (by decide)) ?_
 refine Home.run X14 hx hby sg6_26_4 (pc' := 31) (L' := #[.val (.ref o0), .val (.int (5 : Int32)), .val (.ref o2), .val (.int (5 : Int32)), .val (.int (6 : Int32)), .val (.int (5 : Int32)), .val (.int u6)]) (S' := [(.int (u6.toInt8.toInt32)), (.int (5 : Int32)), (.ref o2)]) rfl ?_
 obtain ⟨cl17, Ar17, q17, S17, M17, H17, G17⟩ := id V14
 refine Home.wr (stB X14 hx hZ e14 Ar17 (j := (5 : Int32)) (inb_of S17 ⟨by decide, by decide⟩) rfl rfl (hb hby d6_31)) fun T17 h17 X17 e17 W17 => ?_
 have W17' := Wr.to W17 (congrArg Value.int (nar_byte_id (bnd_i2b u6) (by decide +kernel) (by decide +kernel)))
 have V17 : Arv Z h17 o2 k_o2 .byte (6 : Int32) [(.int (u1.toInt8.toInt32)), (.int (u2.toInt8.toInt32)), (.int (u3.toInt8.toInt32)), (.int (u4.toInt8.toInt32)), (.int (u5.toInt8.toInt32)), (.int (u6.toInt8.toInt32))] (.int (0 : Int32)) := Arv.set Ar17 q17 S17 M17 H17 G17 (fits_byte_b (bnd_i2b u6) (by decide +kernel) (by decide +kernel)) W17' 5 rfl (Nat.le_of_ble_eq_true rfl)
 have O17 := O14.wr W17 g_o2
 have K17 : Keep h0 h17 ([o2] : List Addr) := Keep.wr K14 W17 (Or.inl (List.mem_of_getElem? (i := 0) rfl))
 have N17 := Fr.snoc X17 N14 g_o2
 show Home T17 (mkF m 32 #[.val (.ref o0), .val (.int (5 : Int32)), .val (.ref o2), .val (.int (5 : Int32)), .val (.int (6 : Int32)), .val (.int (5 : Int32)), .val (.int u6)] [])
 refine Home.run X17 hx hby sg6_32_6 (pc' := 7) (L' := #[.val (.ref o0), .val (.int (6 : Int32)), .val (.ref o2), .val (.int (6 : Int32)), .val (.int (6 : Int32)), .val (.int (6 : Int32)), .val (.int u6)]) (S' := [(.int (6 : Int32)), (.int (6 : Int32))]) rfl ?_
 refine Home.go (fun _ => XS.icmpYes X17.here hx rfl (pc0 := 7) (pc' := 44) rfl (hb hby d6_7) rfl (flt (by decide)).2.1 (by decide) (by decide)) ?_
 refine Home.run X17 hx hby sg6_44_1 (pc' := 46) (L' := #[.val (.ref o0), .val (.int (6 : Int32)), .val (.ref o2), .val (.int (6 : Int32)), .val (.int (6 : Int32)), .val (.int (6 : Int32)), .val (.int u6)]) (S' := [(.int (6 : Int32))]) rfl ?_
 exact Home.retI X17 hx hlk hret (hb hby d6_46) (by rw [show T17.heap = h17 from e17]; exact ⟨rfl, N17, K17, V17⟩) (by decide) (by decide)
theorem rm5_5 (l : Launch) (Z : State) (a0 : Array Value) (hw : HW a0 Z) (ws : List Jvm.Cond) (o0 : Addr) (k_o0 : ClassId) (u1 u2 u3 u4 u5 u6 : Int32) (h0 : Heap) (n0 : Nat) (O0 : Old Z n0 h0) (V_o0 : Arv Z h0 o0 k_o0 .char (6 : Int32) [(.int u1), (.int u2), (.int u3), (.int u4), (.int u5), (.int u6)] (.int (0 : Int32))) (bnd_u1 : ¬ u1 < (0 : Int32) ∧ ¬ (255 : Int32) < u1) (bnd_u2 : ¬ u2 < (0 : Int32) ∧ ¬ (255 : Int32) < u2) (bnd_u3 : ¬ u3 < (0 : Int32) ∧ ¬ (255 : Int32) < u3) (bnd_u4 : ¬ u4 < (0 : Int32) ∧ ¬ (255 : Int32) < u4) (bnd_u5 : ¬ u5 < (0 : Int32) ∧ ¬ (255 : Int32) < u5) (bnd_u6 : ¬ u6 < (0 : Int32) ∧ ¬ (255 : Int32) < u6) :
    Con l Z (⟨"java/lang/StringUTF16", "compress", "([CII)[B"⟩ : MethodName) jdk_52_method_16_code 6 (some (.array .byte)) ws ({ frames := 1, cells := 1, slots := 6, locals := 18 } : Room) #[(.ref o0), (.int (0 : Int32)), (.int (6 : Int32))] h0 (fun v h L => ∃ (b1 : Addr), ∃ (k1 : ClassId), v = some (.ref b1) ∧ Fr n0 L ∧ h0.size ≤ b1 ∧ Keep h0 h [] ∧ Arv Z h b1 k1 .byte (6 : Int32) [(.int (u1.toInt8.toInt32)), (.int (u2.toInt8.toInt32)), (.int (u3.toInt8.toInt32)), (.int (u4.toInt8.toInt32)), (.int (u5.toInt8.toInt32)), (.int (u6.toInt8.toInt32))] (.int (0 : Int32))) := by
 refine own_body (plainFor_of_name own_pn0) (fun m => ef_rm5_5 m o0 (0 : Int32) (6 : Int32)) ?_
 intro p e s m below meth c s₁ hx hby hlk hml hret hZ hown hnm X0 e0
 have N0 := Fr.nil n0
 refine Home.run X0 hx hby sg5_0_1 (pc' := 1) (L' := #[.val (.ref o0), .val (.int (0 : Int32)), .val (.int (6 : Int32)), .unset, .unset, .unset]) (S' := [(.int (6 : Int32))]) rfl ?_
 refine Home.na (own_newP (aty := .byte) X0 hx hZ (own_w23 hw) e0 (g := (mkF m 1 #[.val (.ref o0), .val (.int (0 : Int32)), .val (.int (6 : Int32)), .unset, .unset, .unset] [(.int (6 : Int32))])) rfl (hb hby d5_1) rfl (by decide) (cap := 6) (by decide) (by decide) (by decide) (by decide)) fun T1 h1 k1 b1 g1 X1 e1 E1 A1 => ?_
 have g_b1 : n0 ≤ b1 := Nat.le_trans (Old.le O0) (Nat.le_of_eq g1.symm)
 have V1 : Arv Z h1 b1 k1 .byte (6 : Int32) [(.int (0 : Int32)), (.int (0 : Int32)), (.int (0 : Int32)), (.int (0 : Int32)), (.int (0 : Int32)), (.int (0 : Int32))] (.int (0 : Int32)) := (Arv.new A1 (by decide)).pad (pad_rep [] (.int (0 : Int32)) 6)
 have O1 := O0.ext E1
 have K1 : Keep h0 h1 ([] : List Addr) := Keep.ext (Keep.refl h0 ([] : List Addr)) E1
 refine Home.run X1 hx hby sg5_3_6 (pc' := 9) (L' := #[.val (.ref o0), .val (.int (0 : Int32)), .val (.int (6 : Int32)), .val (.ref b1), .unset, .unset]) (S' := [(.int (6 : Int32)), (.int (0 : Int32)), (.ref b1), (.int (0 : Int32)), (.ref o0)]) rfl ?_
 have ne2 : o0 ≠ b1 := (Nat.ne_of_lt (Nat.lt_of_lt_of_le V_o0.lt (Nat.le_trans (Nat.le_refl _) (Nat.le_of_eq g1.symm))))
 refine Home.call (own_static X1 hx hZ hown (own_w24 hw) (own_w25 hw) (own_w21 hw) (own_w26 hw) (by decide) (rm6_5 l Z a0 hw [] o0 b1 k_o0 u1 u2 u3 u4 u5 u6 k1 h1 n0 O1 (V_o0.keep K1 nin0) bnd_u1 V1 g_b1 ne2 bnd_u2 bnd_u3 bnd_u4 bnd_u5 bnd_u6) e1 rfl (by rw [hml]; rfl) (argsL := [(.ref o0), (.int (0 : Int32)), (.ref b1), (.int (0 : Int32)), (.int (6 : Int32))]) (rest := []) (lenOf own_pd0 rfl) rfl rfl (W := 0) (by exact hW0) (by decide) (by decide) (hb hby d5_9) (by decide) (by decide)) ?_
 rintro _ T3 L3 X3 ⟨rfl, N3q, K3q, P3_0⟩
 have O3 := Old.keep O1 K3q (allS g_b1 all0)
 have K3 : Keep h0 T3.heap ([] : List Addr) := Keep.trans K1 K3q (allS (Or.inr (Nat.le_trans (Nat.le_refl _) (Nat.le_of_eq g1.symm))) all0)
 have N3 := Fr.app N0 N3q
 show Home T3 (mkF m 12 #[.val (.ref o0), .val (.int (0 : Int32)), .val (.int (6 : Int32)), .val (.ref b1), .unset, .unset] [(.int (6 : Int32))])
 refine Home.run X3 hx hby sg5_12_3 (pc' := 17) (L' := #[.val (.ref o0), .val (.int (0 : Int32)), .val (.int (6 : Int32)), .val (.ref b1), .val (.int (6 : Int32)), .unset]) (S' := [(.int (6 : Int32)), (.int (6 : Int32))]) rfl ?_
 refine Home.go (fun _ => XS.icmpYes X3.here hx rfl (pc0 := 17) (pc' := 57) rfl (hb hby d5_17) rfl (teq (by decide)).1 (by decide) (by decide)) ?_
 refine Home.run X3 hx hby sg5_57_1 (pc' := 58) (L' := #[.val (.ref o0), .val (.int (0 : Int32)), .val (.int (6 : Int32)), .val (.ref b1), .val (.int (6 : Int32)), .unset]) (S' := [(.ref b1)]) rfl ?_
 exact Home.retR X3 hx hlk hret rfl rfl (hb hby d5_58) ⟨b1, k1, rfl, N3, (Nat.le_trans (Nat.le_refl _) (Nat.le_of_eq g1.symm)), K3, P3_0⟩ (by decide) (by decide)
theorem rm7_5 (l : Launch) (Z : State) (a0 : Array Value) (hw : HW a0 Z) (ws : List Jvm.Cond) (o0 : Addr) (k_o0 : ClassId) (u1 u2 u3 u4 u5 u6 : Int32) (h0 : Heap) (n0 : Nat) (O0 : Old Z n0 h0) (V_o0 : Arv Z h0 o0 k_o0 .byte (6 : Int32) [(.int u1), (.int u2), (.int u3), (.int u4), (.int u5), (.int u6)] (.int (0 : Int32))) :
    Con l Z (⟨"java/lang/StringUTF16", "coderFromArrayLen", "([BI)B"⟩ : MethodName) jdk_52_method_15_code 2 (some .byte) ws ({ frames := 0, cells := 0, slots := 0, locals := 0 } : Room) #[(.ref o0), (.int (6 : Int32))] h0 (Pur (some (.int (0 : Int32))) h0) := by
 refine own_body (plainFor_of_name own_pn0) (fun m => ef_rm7_5 m o0 (6 : Int32)) ?_
 intro p e s m below meth c s₁ hx hby hlk hml hret hZ hown hnm X0 e0
 have N0 := Fr.nil n0
 refine Home.run X0 hx hby sg7_0_2 (pc' := 2) (L' := #[.val (.ref o0), .val (.int (6 : Int32))]) (S' := [(.ref o0), (.int (6 : Int32))]) rfl ?_
 obtain ⟨cl1, Ar1, q1, S1, M1, H1, G1⟩ := id V_o0
 refine Home.go (own_alen X0 hx hZ e0 Ar1 S1 M1 rfl rfl (hb hby d7_2)) ?_
 refine Home.run X0 hx hby sg7_3_4 (pc' := 8) (L' := #[.val (.ref o0), .val (.int (6 : Int32))]) (S' := [(.int (0 : Int32))]) rfl ?_
 exact Home.retN X0 hx hlk (t := .byte) hret (by simp) (hb hby d7_8) ⟨congrArg some (congrArg Value.int (by first | rfl | exact nar_i2c _ | exact nar_i2b _)), rfl, e0⟩ (by decide) (by decide)
theorem rm3_5 (l : Launch) (Z : State) (a0 : Array Value) (hw : HW a0 Z) (ws : List Jvm.Cond) (o0 o1 : Addr) (sv_COMPACT_STRINGS : Int32) (k_o1 : ClassId) (u1 u2 u3 u4 u5 u6 : Int32) (h0 : Heap) (n0 : Nat) (O0 : Old Z n0 h0) (S_COMPACT_STRINGS : Sta Z Z.heap "java/lang/String" "COMPACT_STRINGS" "Z" (.int sv_COMPACT_STRINGS)) (hCS : ¬ (sv_COMPACT_STRINGS = (0 : Int32))) (V_o1 : Arv Z h0 o1 k_o1 .char (6 : Int32) [(.int u1), (.int u2), (.int u3), (.int u4), (.int u5), (.int u6)] (.int (0 : Int32))) (bnd_u1 : ¬ u1 < (0 : Int32) ∧ ¬ (255 : Int32) < u1) (bnd_u2 : ¬ u2 < (0 : Int32) ∧ ¬ (255 : Int32) < u2) (bnd_u3 : ¬ u3 < (0 : Int32) ∧ ¬ (255 : Int32) < u3) (bnd_u4 : ¬ u4 < (0 : Int32) ∧ ¬ (255 : Int32) < u4) (bnd_u5 : ¬ u5 < (0 : Int32) ∧ ¬ (255 : Int32) < u5) (bnd_u6 : ¬ u6 < (0 : Int32) ∧ ¬ (255 : Int32) < u6) (E_o0 : Exa Z h0 o0 "java/lang/String") (F_coder_o0 : Fld Z h0 o0 "java/lang/String" "coder" "B" (.int (0 : Int32))) (g_o0 : n0 ≤ o0) (F_value_o0 : Fld Z h0 o0 "java/lang/String" "value" "[B" .null) :
    Con l Z (⟨"java/lang/String", "<init>", "([CIILjava/lang/Void;)V"⟩ : MethodName) jdk_42_method_149_code 6 none ws ({ frames := 2, cells := 1, slots := 6, locals := 35 } : Room) #[(.ref o0), (.ref o1), (.int (0 : Int32)), (.int (6 : Int32)), .null] h0 (fun v h L => ∃ (b1_3 : Addr), ∃ (k1_3 : ClassId), v = none ∧ Fr n0 L ∧ h0.size ≤ b1_3 ∧ Keep h0 h [o0] ∧ Exa Z h o0 "java/lang/String" ∧ Fld Z h o0 "java/lang/String" "coder" "B" (.int (0 : Int32)) ∧ Fld Z h o0 "java/lang/String" "value" "[B" (.ref b1_3) ∧ Arv Z h b1_3 k1_3 .byte (6 : Int32) [(.int (u1.toInt8.toInt32)), (.int (u2.toInt8.toInt32)), (.int (u3.toInt8.toInt32)), (.int (u4.toInt8.toInt32)), (.int (u5.toInt8.toInt32)), (.int (u6.toInt8.toInt32))] (.int (0 : Int32))) := by
 refine own_body (plainFor_of_name own_pn1) (fun m => ef_rm3_5 m o0 o1 (0 : Int32) (6 : Int32)) ?_
 intro p e s m below meth c s₁ hx hby hlk hml hret hZ hown hnm X0 e0
 have N0 := Fr.nil n0
 refine Home.run X0 hx hby sg3_0_1 (pc' := 1) (L' := #[.val (.ref o0), .val (.ref o1), .val (.int (0 : Int32)), .val (.int (6 : Int32)), .val .null, .unset]) (S' := [(.ref o0)]) rfl ?_
 refine Home.st (initO X0 hx hZ hown (own_w15 hw) (own_w16 hw) (own_w17 hw) e0 rfl (by rw [hml]; rfl) rfl (hb hby d3_1) (by decide) (W := 0) (by exact hW0) (by decide)) fun T1 X1 e1 => ?_
 refine Home.run X1 hx hby sg3_4_1 (pc' := 5) (L' := #[.val (.ref o0), .val (.ref o1), .val (.int (0 : Int32)), .val (.int (6 : Int32)), .val .null, .unset]) (S' := [(.int (6 : Int32))]) rfl ?_
 refine Home.go (fun _ => XS.ifYes X1.here hx rfl (pc0 := 5) (pc' := 27) rfl (hb hby d3_5) rfl ((if0 _ _).trans (feq (by decide)).2) (by decide) (by decide)) ?_
 refine Home.st (getS2 X1 hx hZ hown (host := "") (Or.inl (own_w18 hw)) Via.refl e1 (S_COMPACT_STRINGS.ext O0.2) rfl (hb hby d3_27)) fun T2 X2 e2 => ?_
 refine Home.go (fun _ => XS.ifNo X2.here hx rfl (hb hby d3_30) rfl ((if0 _ _).trans (feq hCS).1)) ?_
 refine Home.run X2 hx hby sg3_33_3 (pc' := 36) (L' := #[.val (.ref o0), .val (.ref o1), .val (.int (0 : Int32)), .val (.int (6 : Int32)), .val .null, .unset]) (S' := [(.int (6 : Int32)), (.int (0 : Int32)), (.ref o1)]) rfl ?_
 refine Home.call (own_static X2 hx hZ hown (own_w19 hw) (own_w20 hw) (own_w21 hw) (own_w22 hw) (by decide) (rm5_5 l Z a0 hw [] o1 k_o1 u1 u2 u3 u4 u5 u6 h0 n0 O0 V_o1 bnd_u1 bnd_u2 bnd_u3 bnd_u4 bnd_u5 bnd_u6) e2 rfl (by rw [hml]; rfl) (argsL := [(.ref o1), (.int (0 : Int32)), (.int (6 : Int32))]) (rest := []) (lenOf own_pd1 rfl) rfl rfl (W := 0) (by exact hW0) (by decide) (by decide) (hb hby d3_36) (by decide) (by decide)) ?_
 rintro _ T3 L3 X3 ⟨b1_3, k1_3, rfl, N3q, sz_b1_3, K3q, P3_0⟩
 have g_b1_3 : n0 ≤ b1_3 := Nat.le_trans (Old.le O0) sz_b1_3
 have O3 := Old.keep O0 K3q all0
 have K3 : Keep h0 T3.heap ([o0] : List Addr) := Keep.trans (Keep.refl h0 ([o0] : List Addr)) K3q all0
 have N3 := Fr.app N0 N3q
 show Home T3 (mkF m 39 #[.val (.ref o0), .val (.ref o1), .val (.int (0 : Int32)), .val (.int (6 : Int32)), .val .null, .unset] [(.ref b1_3)])
 refine Home.run X3 hx hby sg3_39_4 (pc' := 45) (L' := #[.val (.ref o0), .val (.ref o1), .val (.int (0 : Int32)), .val (.int (6 : Int32)), .val .null, .val (.ref b1_3)]) (S' := [(.int (6 : Int32)), (.ref b1_3), (.ref o0)]) rfl ?_
 refine Home.st (own_pure (own_static X3 hx hZ hown (own_w27 hw) (own_w28 hw) (own_w21 hw) (own_w29 hw) (by decide) (rm7_5 l Z a0 hw [] b1_3 k1_3 (u1.toInt8.toInt32) (u2.toInt8.toInt32) (u3.toInt8.toInt32) (u4.toInt8.toInt32) (u5.toInt8.toInt32) (u6.toInt8.toInt32) T3.heap n0 O3 P3_0) rfl rfl (by rw [hml]; rfl) (argsL := [(.ref b1_3), (.int (6 : Int32))]) (rest := [(.ref o0)]) (lenOf own_pd2 rfl) rfl rfl (W := 1) (by exact hW0) (by decide) (by decide) (hb hby d3_45) (by decide) (by decide))) fun T4 X4 e4 => ?_
 have q5 := (F_coder_o0.keep K3q nin0)
 refine Home.wr (putFN X4 hx hZ hown (own_w30 hw) Via.refl e4 q5 (E_o0.keep K3) (Or.inr ⟨(own_w31 hw), rfl, hnm⟩) (own_w6 hw) (ty := .byte) (v := (.int (0 : Int32))) (v' := (.int (0 : Int32))) (by decide) rfl rfl rfl rfl (hb hby d3_48)) fun T6 h6 X6 e6 W6 => ?_
 have Fw6 := q5.same W6
 have O6 := O3.wr W6 g_o0
 have K6 : Keep h0 h6 ([o0] : List Addr) := Keep.wr K3 W6 (Or.inl (List.mem_of_getElem? (i := 0) rfl))
 have N6 := Fr.snoc X6 N3 g_o0
 show Home T6 (mkF m 51 #[.val (.ref o0), .val (.ref o1), .val (.int (0 : Int32)), .val (.int (6 : Int32)), .val .null, .val (.ref b1_3)] [])
 refine Home.run X6 hx hby sg3_51_2 (pc' := 54) (L' := #[.val (.ref o0), .val (.ref o1), .val (.int (0 : Int32)), .val (.int (6 : Int32)), .val .null, .val (.ref b1_3)]) (S' := [(.ref b1_3), (.ref o0)]) rfl ?_
 have q7 := ((F_value_o0.keep K3q nin0).other W6 (Or.inr (slot_ne (Or.inr (own_w33 hw)) (Or.inr (own_w31 hw)) (by decide) (t := (.array .byte)) (t' := .byte) (by decide) (by decide))))
 refine Home.wr (putF X6 hx hZ hown (host := "") (Or.inl (own_w32 hw)) Via.refl e6 q7 (E_o0.keep K6) (Or.inr ⟨(own_w33 hw), rfl, hnm⟩) (own_w6 hw) (ty := (.array .byte)) (by decide) rfl rfl rfl rfl (hb hby d3_54)) fun T8 h8 X8 e8 W8 => ?_
 have Fw8 := q7.same W8
 have O8 := O6.wr W8 g_o0
 have K8 : Keep h0 h8 ([o0] : List Addr) := Keep.wr K6 W8 (Or.inl (List.mem_of_getElem? (i := 0) rfl))
 have N8 := Fr.snoc X8 N6 g_o0
 have q9 := (Fw6.other W8 (Or.inr (slot_ne (Or.inr (own_w31 hw)) (Or.inr (own_w33 hw)) (by decide) (t := .byte) (t' := (.array .byte)) (by decide) (by decide))))
 have ne10 : b1_3 ≠ o0 := (Ne.symm (Nat.ne_of_lt (Nat.lt_of_lt_of_le E_o0.lt (Nat.le_trans (Nat.le_refl _) sz_b1_3))))
 have q11 := ((P3_0.other W6 ne10).other W8 ne10)
 exact Home.ret0 X8 hx hlk hret (hb hby d3_57) (by rw [show T8.heap = h8 from e8]; exact ⟨b1_3, k1_3, rfl, N8, (Nat.le_trans (Nat.le_refl _) sz_b1_3), K8, (E_o0.keep K8), q9, Fw8, q11⟩) (by decide) (by decide)
theorem rm2_5 (l : Launch) (Z : State) (a0 : Array Value) (hw : HW a0 Z) (ws : List Jvm.Cond) (o0 o1 : Addr) (k_o1 : ClassId) (u1 u2 u3 u4 u5 u6 sv_COMPACT_STRINGS : Int32) (h0 : Heap) (n0 : Nat) (O0 : Old Z n0 h0) (V_o1 : Arv Z h0 o1 k_o1 .char (6 : Int32) [(.int u1), (.int u2), (.int u3), (.int u4), (.int u5), (.int u6)] (.int (0 : Int32))) (S_COMPACT_STRINGS : Sta Z Z.heap "java/lang/String" "COMPACT_STRINGS" "Z" (.int sv_COMPACT_STRINGS)) (E_o0 : Exa Z h0 o0 "java/lang/String") (F_coder_o0 : Fld Z h0 o0 "java/lang/String" "coder" "B" (.int (0 : Int32))) (F_value_o0 : Fld Z h0 o0 "java/lang/String" "value" "[B" .null) (bnd_u1 : ¬ u1 < (0 : Int32) ∧ ¬ (255 : Int32) < u1) (bnd_u2 : ¬ u2 < (0 : Int32) ∧ ¬ (255 : Int32) < u2) (bnd_u3 : ¬ u3 < (0 : Int32) ∧ ¬ (255 : Int32) < u3) (bnd_u4 : ¬ u4 < (0 : Int32) ∧ ¬ (255 : Int32) < u4) (bnd_u5 : ¬ u5 < (0 : Int32) ∧ ¬ (255 : Int32) < u5) (bnd_u6 : ¬ u6 < (0 : Int32) ∧ ¬ (255 : Int32) < u6) (g_o0 : n0 ≤ o0) (hCS : ¬ (sv_COMPACT_STRINGS = (0 : Int32))) :
    Con l Z (⟨"java/lang/String", "<init>", "([C)V"⟩ : MethodName) jdk_42_method_3_code 2 none ws ({ frames := 3, cells := 1, slots := 6, locals := 52 } : Room) #[(.ref o0), (.ref o1)] h0 (fun v h L => ∃ (b1_3_2 : Addr), ∃ (k1_3_2 : ClassId), v = none ∧ Fr n0 L ∧ h0.size ≤ b1_3_2 ∧ Keep h0 h [o0] ∧ Exa Z h o0 "java/lang/String" ∧ Fld Z h o0 "java/lang/String" "coder" "B" (.int (0 : Int32)) ∧ Fld Z h o0 "java/lang/String" "value" "[B" (.ref b1_3_2) ∧ Arv Z h b1_3_2 k1_3_2 .byte (6 : Int32) [(.int (u1.toInt8.toInt32)), (.int (u2.toInt8.toInt32)), (.int (u3.toInt8.toInt32)), (.int (u4.toInt8.toInt32)), (.int (u5.toInt8.toInt32)), (.int (u6.toInt8.toInt32))] (.int (0 : Int32))) := by
 refine own_body (plainFor_of_name own_pn1) (fun m => ef_rm2_5 m o0 o1) ?_
 intro p e s m below meth c s₁ hx hby hlk hml hret hZ hown hnm X0 e0
 have N0 := Fr.nil n0
 refine Home.run X0 hx hby sg2_0_4 (pc' := 4) (L' := #[.val (.ref o0), .val (.ref o1)]) (S' := [(.ref o1), (.int (0 : Int32)), (.ref o1), (.ref o0)]) rfl ?_
 obtain ⟨cl1, Ar1, q1, S1, M1, H1, G1⟩ := id V_o1
 refine Home.go (own_alen X0 hx hZ e0 Ar1 S1 M1 rfl rfl (hb hby d2_4)) ?_
 refine Home.run X0 hx hby sg2_5_1 (pc' := 6) (L' := #[.val (.ref o0), .val (.ref o1)]) (S' := [.null, (.int (6 : Int32)), (.int (0 : Int32)), (.ref o1), (.ref o0)]) rfl ?_
 refine Home.call (own_special X0 hx hZ hown rfl (own_w11 hw) (own_w12 hw) (own_w7 hw) (own_w14 hw) (by decide) (rm3_5 l Z a0 hw [] o0 o1 sv_COMPACT_STRINGS k_o1 u1 u2 u3 u4 u5 u6 h0 n0 O0 S_COMPACT_STRINGS hCS V_o1 bnd_u1 bnd_u2 bnd_u3 bnd_u4 bnd_u5 bnd_u6 E_o0 F_coder_o0 g_o0 F_value_o0) e0 rfl (by rw [hml]; rfl) (a := o0) (argsL := [(.ref o1), (.int (0 : Int32)), (.int (6 : Int32)), .null]) (rest := []) (lenOf own_pd3 rfl) rfl rfl (W := 0) (by exact hW0) (by decide) (by decide) (hb hby d2_6) (by decide) (by decide)) ?_
 rintro _ T2 L2 X2 ⟨b1_3_2, k1_3_2, rfl, N2q, sz_b1_3_2, K2q, P2_0, P2_1, P2_2, P2_3⟩
 have g_b1_3_2 : n0 ≤ b1_3_2 := Nat.le_trans (Old.le O0) sz_b1_3_2
 have O2 := Old.keep O0 K2q (allS g_o0 all0)
 have K2 : Keep h0 T2.heap ([o0] : List Addr) := Keep.trans (Keep.refl h0 ([o0] : List Addr)) K2q (allS (Or.inl (List.mem_of_getElem? (i := 0) rfl)) all0)
 have N2 := Fr.app N0 N2q
 show Home T2 (mkF m 9 #[.val (.ref o0), .val (.ref o1)] [])
 exact Home.ret0 X2 hx hlk hret (hb hby d2_9) ⟨b1_3_2, k1_3_2, rfl, N2, (Nat.le_trans (Nat.le_refl _) sz_b1_3_2), K2, P2_0, P2_1, P2_2, P2_3⟩ (by decide) (by decide)
theorem rm6_6 (l : Launch) (Z : State) (a0 : Array Value) (hw : HW a0 Z) (ws : List Jvm.Cond) (o0 o2 : Addr) (k_o0 : ClassId) (u1 u2 u3 u4 u5 u6 u7 : Int32) (k_o2 : ClassId) (h0 : Heap) (n0 : Nat) (O0 : Old Z n0 h0) (V_o0 : Arv Z h0 o0 k_o0 .char (7 : Int32) [(.int u1), (.int u2), (.int u3), (.int u4), (.int u5), (.int u6), (.int u7)] (.int (0 : Int32))) (bnd_u1 : ¬ u1 < (0 : Int32) ∧ ¬ (255 : Int32) < u1) (V_o2 : Arv Z h0 o2 k_o2 .byte (7 : Int32) [(.int (0 : Int32)), (.int (0 : Int32)), (.int (0 : Int32)), (.int (0 : Int32)), (.int (0 : Int32)), (.int (0 : Int32)), (.int (0 : Int32))] (.int (0 : Int32))) (g_o2 : n0 ≤ o2) (ne_o0_o2 : o0 ≠ o2) (bnd_u2 : ¬ u2 < (0 : Int32) ∧ ¬ (255 : Int32) < u2) (bnd_u3 : ¬ u3 < (0 : Int32) ∧ ¬ (255 : Int32) < u3) (bnd_u4 : ¬ u4 < (0 : Int32) ∧ ¬ (255 : Int32) < u4) (bnd_u5 : ¬ u5 < (0 : Int32) ∧ ¬ (255 : Int32) < u5) (bnd_u6 : ¬ u6 < (0 : Int32) ∧ ¬ (255 : Int32) < u6) (bnd_u7 : ¬ u7 < (0 : Int32) ∧ ¬ (255 : Int32) < u7) :
    Con l Z (⟨"java/lang/StringUTF16", "compress", "([CI[BII)I"⟩ : MethodName) jdk_52_method_21_code 7 (some .int) ws ({ frames := 0, cells := 0, slots := 0, locals := 0 } : Room) #[(.ref o0), (.int (0 : Int32)), (.ref o2), (.int (0 : Int32)), (.int (7 : Int32))] h0 (fun v h L => v = some (.int (7 : Int32)) ∧ Fr n0 L ∧ Keep h0 h [o2] ∧ Arv Z h o2 k_o2 .byte (7 : Int32) [(.int (u1.toInt8.toInt32)), (.int (u2.toInt8.toInt32)), (.int (u3.toInt8.toInt32)), (.int (u4.toInt8.toInt32)), (.int (u5.toInt8.toInt32)), (.int (u6.toInt8.toInt32)), (.int (u7.toInt8.toInt32))] (.int (0 : Int32))) := by
 refine own_body (plainFor_of_name own_pn0) (fun m => ef_rm6_6 m o0 (0 : Int32) o2 (7 : Int32)) ?_
 intro p e s m below meth c s₁ hx hby hlk hml hret hZ hown hnm X0 e0
 have N0 := Fr.nil n0
 refine Home.run X0 hx hby sg6_0_4 (pc' := 7) (L' := #[.val (.ref o0), .val (.int (0 : Int32)), .val (.ref o2), .val (.int (0 : Int32)), .val (.int (7 : Int32)), .val (.int (0 : Int32)), .unset]) (S' := [(.int (7 : Int32)), (.int (0 : Int32))]) rfl ?_
 refine Home.go (fun _ => XS.icmpNo X0.here hx rfl (hb hby d6_7) rfl (tlt (by decide)).2.1) ?_
 refine Home.run X0 hx hby sg6_10_2 (pc' := 12) (L' := #[.val (.ref o0), .val (.int (0 : Int32)), .val (.ref o2), .val (.int (0 : Int32)), .val (.int (7 : Int32)), .val (.int (0 : Int32)), .unset]) (S' := [(.int (0 : Int32)), (.ref o0)]) rfl ?_
 obtain ⟨cl1, Ar1, q1, S1, M1, H1, G1⟩ := id V_o0
 have ib1 : ¬ ((0 : Int32) < 0 ∨ cl1.slots.size ≤ ((0 : Int32)).toNatClampNeg) := inb_of S1 ⟨by decide, by decide⟩
 refine Home.go (X0.caload hx (j := (0 : Int32)) (v := (.int u1)) (by rw [e0]; exact Ar1.1) (State.isArrayOf_alike hZ.alike Ar1.2.1) Ar1.2.2 ib1 (Has.at H1 ib1 rfl) rfl rfl (hb hby d6_12)) ?_
 refine Home.run X0 hx hby sg6_13_3 (pc' := 20) (L' := #[.val (.ref o0), .val (.int (0 : Int32)), .val (.ref o2), .val (.int (0 : Int32)), .val (.int (7 : Int32)), .val (.int (0 : Int32)), .val (.int u1)]) (S' := [(.int (255 : Int32)), (.int u1)]) rfl ?_
 refine Home.go (fun _ => XS.icmpYes X0.here hx rfl (pc0 := 20) (pc' := 26) rfl (hb hby d6_20) rfl (flt (bnd_nlt (bnd_lit (255 : Int32)) bnd_u1 (by decide +kernel))).2.2.2 (by decide) (by decide)) ?_
 refine Home.run X0 hx hby sg6_26_4 (pc' := 31) (L' := #[.val (.ref o0), .val (.int (0 : Int32)), .val (.ref o2), .val (.int (0 : Int32)), .val (.int (7 : Int32)), .val (.int (0 : Int32)), .val (.int u1)]) (S' := [(.int (u1.toInt8.toInt32)), (.int (0 : Int32)), (.ref o2)]) rfl ?_
 obtain ⟨cl2, Ar2, q2, S2, M2, H2, G2⟩ := id V_o2
 refine Home.wr (stB X0 hx hZ e0 Ar2 (j := (0 : Int32)) (inb_of S2 ⟨by decide, by decide⟩) rfl rfl (hb hby d6_31)) fun T2 h2 X2 e2 W2 => ?_
 have W2' := Wr.to W2 (congrArg Value.int (nar_byte_id (bnd_i2b u1) (by decide +kernel) (by decide +kernel)))
 have V2 : Arv Z h2 o2 k_o2 .byte (7 : Int32) [(.int (u1.toInt8.toInt32)), (.int (0 : Int32)), (.int (0 : Int32)), (.int (0 : Int32)), (.int (0 : Int32)), (.int (0 : Int32)), (.int (0 : Int32))] (.int (0 : Int32)) := Arv.set Ar2 q2 S2 M2 H2 G2 (fits_byte_b (bnd_i2b u1) (by decide +kernel) (by decide +kernel)) W2' 0 rfl (Nat.le_of_ble_eq_true rfl)
 have O2 := O0.wr W2 g_o2
 have K2 : Keep h0 h2 ([o2] : List Addr) := Keep.wr (Keep.refl h0 ([o2] : List Addr)) W2 (Or.inl (List.mem_of_getElem? (i := 0) rfl))
 have N2 := Fr.snoc X2 N0 g_o2
 show Home T2 (mkF m 32 #[.val (.ref o0), .val (.int (0 : Int32)), .val (.ref o2), .val (.int (0 : Int32)), .val (.int (7 : Int32)), .val (.int (0 : Int32)), .val (.int u1)] [])
 refine Home.run X2 hx hby sg6_32_6 (pc' := 7) (L' := #[.val (.ref o0), .val (.int (1 : Int32)), .val (.ref o2), .val (.int (1 : Int32)), .val (.int (7 : Int32)), .val (.int (1 : Int32)), .val (.int u1)]) (S' := [(.int (7 : Int32)), (.int (1 : Int32))]) rfl ?_
 refine Home.go (fun _ => XS.icmpNo X2.here hx rfl (hb hby d6_7) rfl (tlt (by decide)).2.1) ?_
 refine Home.run X2 hx hby sg6_10_2 (pc' := 12) (L' := #[.val (.ref o0), .val (.int (1 : Int32)), .val (.ref o2), .val (.int (1 : Int32)), .val (.int (7 : Int32)), .val (.int (1 : Int32)), .val (.int u1)]) (S' := [(.int (1 : Int32)), (.ref o0)]) rfl ?_
 have q3 := (V_o0.other W2 ne_o0_o2)
 obtain ⟨cl4, Ar4, q4, S4, M4, H4, G4⟩ := id q3
 have ib4 : ¬ ((1 : Int32) < 0 ∨ cl4.slots.size ≤ ((1 : Int32)).toNatClampNeg) := inb_of S4 ⟨by decide, by decide⟩
 refine Home.go (X2.caload hx (j := (1 : Int32)) (v := (.int u2)) (by rw [e2]; exact Ar4.1) (State.isArrayOf_alike hZ.alike Ar4.2.1) Ar4.2.2 ib4 (Has.at H4 ib4 rfl) rfl rfl (hb hby d6_12)) ?_
 refine Home.run X2 hx hby sg6_13_3 (pc' := 20) (L' := #[.val (.ref o0), .val (.int (1 : Int32)), .val (.ref o2), .val (.int (1 : Int32)), .val (.int (7 : Int32)), .val (.int (1 : Int32)), .val (.int u2)]) (S' := [(.int (255 : Int32)), (.int u2)]) rfl ?_
 refine Home.go (fun _ => XS.icmpYes X2.here hx rfl (pc0 := 20) (pc' := 26) rfl (hb hby d6_20) rfl (flt (bnd_nlt (bnd_lit (255 : Int32)) bnd_u2 (by decide +kernel))).2.2.2 (by decide) (by decide)) ?_
 refine Home.run X2 hx hby sg6_26_4 (pc' := 31) (L' := #[.val (.ref o0), .val (.int (1 : Int32)), .val (.ref o2), .val (.int (1 : Int32)), .val (.int (7 : Int32)), .val (.int (1 : Int32)), .val (.int u2)]) (S' := [(.int (u2.toInt8.toInt32)), (.int (1 : Int32)), (.ref o2)]) rfl ?_
 obtain ⟨cl5, Ar5, q5, S5, M5, H5, G5⟩ := id V2
 refine Home.wr (stB X2 hx hZ e2 Ar5 (j := (1 : Int32)) (inb_of S5 ⟨by decide, by decide⟩) rfl rfl (hb hby d6_31)) fun T5 h5 X5 e5 W5 => ?_
 have W5' := Wr.to W5 (congrArg Value.int (nar_byte_id (bnd_i2b u2) (by decide +kernel) (by decide +kernel)))
 have V5 : Arv Z h5 o2 k_o2 .byte (7 : Int32) [(.int (u1.toInt8.toInt32)), (.int (u2.toInt8.toInt32)), (.int (0 : Int32)), (.int (0 : Int32)), (.int (0 : Int32)), (.int (0 : Int32)), (.int (0 : Int32))] (.int (0 : Int32)) := Arv.set Ar5 q5 S5 M5 H5 G5 (fits_byte_b (bnd_i2b u2) (by decide +kernel) (by decide +kernel)) W5' 1 rfl (Nat.le_of_ble_eq_true rfl)
 have O5 := O2.wr W5 g_o2
 have K5 : Keep h0 h5 ([o2] : List Addr) := Keep.wr K2 W5 (Or.inl (List.mem_of_getElem? (i := 0) rfl))
 have N5 := Fr.snoc X5 N2 g_o2
 show Home T5 (mkF m 32 #[.val (.ref o0), .val (.int (1 : Int32)), .val (.ref o2), .val (.int (1 : Int32)), .val (.int (7 : Int32)), .val (.int (1 : Int32)), .val (.int u2)] [])
 refine Home.run X5 hx hby sg6_32_6 (pc' := 7) (L' := #[.val (.ref o0), .val (.int (2 : Int32)), .val (.ref o2), .val (.int (2 : Int32)), .val (.int (7 : Int32)), .val (.int (2 : Int32)), .val (.int u2)]) (S' := [(.int (7 : Int32)), (.int (2 : Int32))]) rfl ?_
 refine Home.go (fun _ => XS.icmpNo X5.here hx rfl (hb hby d6_7) rfl (tlt (by decide)).2.1) ?_
 refine Home.run X5 hx hby sg6_10_2 (pc' := 12) (L' := #[.val (.ref o0), .val (.int (2 : Int32)), .val (.ref o2), .val (.int (2 : Int32)), .val (.int (7 : Int32)), .val (.int (2 : Int32)), .val (.int u2)]) (S' := [(.int (2 : Int32)), (.ref o0)]) rfl ?_
 have q6 := (q3.other W5 ne_o0_o2)
 obtain ⟨cl7, Ar7, q7, S7, M7, H7, G7⟩ := id q6
 have ib7 : ¬ ((2 : Int32) < 0 ∨ cl7.slots.size ≤ ((2 : Int32)).toNatClampNeg) := inb_of S7 ⟨by decide, by decide⟩
 refine Home.go (X5.caload hx (j := (2 : Int32)) (v := (.int u3)) (by rw [e5]; exact Ar7.1) (State.isArrayOf_alike hZ.alike Ar7.2.1) Ar7.2.2 ib7 (Has.at H7 ib7 rfl) rfl rfl (hb hby d6_12)) ?_
 refine Home.run X5 hx hby sg6_13_3 (pc' := 20) (L' := #[.val (.ref o0), .val (.int (2 : Int32)), .val (.ref o2), .val (.int (2 : Int32)), .val (.int (7 : Int32)), .val (.int (2 : Int32)), .val (.int u3)]) (S' := [(.int (255 : Int32)), (.int u3)]) rfl ?_
 refine Home.go (fun _ => XS.icmpYes X5.here hx rfl (pc0 := 20) (pc' := 26) rfl (hb hby d6_20) rfl (flt (bnd_nlt (bnd_lit (255 : Int32)) bnd_u3 (by decide +kernel))).2.2.2 (by decide) (by decide)) ?_
 refine Home.run X5 hx hby sg6_26_4 (pc' := 31) (L' := #[.val (.ref o0), .val (.int (2 : Int32)), .val (.ref o2), .val (.int (2 : Int32)), .val (.int (7 : Int32)), .val (.int (2 : Int32)), .val (.int u3)]) (S' := [(.int (u3.toInt8.toInt32)), (.int (2 : Int32)), (.ref o2)]) rfl ?_
 obtain ⟨cl8, Ar8, q8, S8, M8, H8, G8⟩ := id V5
 refine Home.wr (stB X5 hx hZ e5 Ar8 (j := (2 : Int32)) (inb_of S8 ⟨by decide, by decide⟩) rfl rfl (hb hby d6_31)) fun T8 h8 X8 e8 W8 => ?_
 have W8' := Wr.to W8 (congrArg Value.int (nar_byte_id (bnd_i2b u3) (by decide +kernel) (by decide +kernel)))
 have V8 : Arv Z h8 o2 k_o2 .byte (7 : Int32) [(.int (u1.toInt8.toInt32)), (.int (u2.toInt8.toInt32)), (.int (u3.toInt8.toInt32)), (.int (0 : Int32)), (.int (0 : Int32)), (.int (0 : Int32)), (.int (0 : Int32))] (.int (0 : Int32)) := Arv.set Ar8 q8 S8 M8 H8 G8 (fits_byte_b (bnd_i2b u3) (by decide +kernel) (by decide +kernel)) W8' 2 rfl (Nat.le_of_ble_eq_true rfl)
 have O8 := O5.wr W8 g_o2
 have K8 : Keep h0 h8 ([o2] : List Addr) := Keep.wr K5 W8 (Or.inl (List.mem_of_getElem? (i := 0) rfl))
 have N8 := Fr.snoc X8 N5 g_o2
 show Home T8 (mkF m 32 #[.val (.ref o0), .val (.int (2 : Int32)), .val (.ref o2), .val (.int (2 : Int32)), .val (.int (7 : Int32)), .val (.int (2 : Int32)), .val (.int u3)] [])
 refine Home.run X8 hx hby sg6_32_6 (pc' := 7) (L' := #[.val (.ref o0), .val (.int (3 : Int32)), .val (.ref o2), .val (.int (3 : Int32)), .val (.int (7 : Int32)), .val (.int (3 : Int32)), .val (.int u3)]) (S' := [(.int (7 : Int32)), (.int (3 : Int32))]) rfl ?_
 refine Home.go (fun _ => XS.icmpNo X8.here hx rfl (hb hby d6_7) rfl (tlt (by decide)).2.1) ?_
 refine Home.run X8 hx hby sg6_10_2 (pc' := 12) (L' := #[.val (.ref o0), .val (.int (3 : Int32)), .val (.ref o2), .val (.int (3 : Int32)), .val (.int (7 : Int32)), .val (.int (3 : Int32)), .val (.int u3)]) (S' := [(.int (3 : Int32)), (.ref o0)]) rfl ?_
 have q9 := (q6.other W8 ne_o0_o2)
 obtain ⟨cl10, Ar10, q10, S10, M10, H10, G10⟩ := id q9
 have ib10 : ¬ ((3 : Int32) < 0 ∨ cl10.slots.size ≤ ((3 : Int32)).toNatClampNeg) := inb_of S10 ⟨by decide, by decide⟩
 refine Home.go (X8.caload hx (j := (3 : Int32)) (v := (.int u4)) (by rw [e8]; exact Ar10.1) (State.isArrayOf_alike hZ.alike Ar10.2.1) Ar10.2.2 ib10 (Has.at H10 ib10 rfl) rfl rfl (hb hby d6_12)) ?_
 refine Home.run X8 hx hby sg6_13_3 (pc' := 20) (L' := #[.val (.ref o0), .val (.int (3 : Int32)), .val (.ref o2), .val (.int (3 : Int32)), .val (.int (7 : Int32)), .val (.int (3 : Int32)), .val (.int u4)]) (S' := [(.int (255 : Int32)), (.int u4)]) rfl ?_
 refine Home.go (fun _ => XS.icmpYes X8.here hx rfl (pc0 := 20) (pc' := 26) rfl (hb hby d6_20) rfl (flt (bnd_nlt (bnd_lit (255 : Int32)) bnd_u4 (by decide +kernel))).2.2.2 (by decide) (by decide)) ?_
 refine Home.run X8 hx hby sg6_26_4 (pc' := 31) (L' := #[.val (.ref o0), .val (.int (3 : Int32)), .val (.ref o2), .val (.int (3 : Int32)), .val (.int (7 : Int32)), .val (.int (3 : Int32)), .val (.int u4)]) (S' := [(.int (u4.toInt8.toInt32)), (.int (3 : Int32)), (.ref o2)]) rfl ?_
 obtain ⟨cl11, Ar11, q11, S11, M11, H11, G11⟩ := id V8
 refine Home.wr (stB X8 hx hZ e8 Ar11 (j := (3 : Int32)) (inb_of S11 ⟨by decide, by decide⟩) rfl rfl (hb hby d6_31)) fun T11 h11 X11 e11 W11 => ?_
 have W11' := Wr.to W11 (congrArg Value.int (nar_byte_id (bnd_i2b u4) (by decide +kernel) (by decide +kernel)))
 have V11 : Arv Z h11 o2 k_o2 .byte (7 : Int32) [(.int (u1.toInt8.toInt32)), (.int (u2.toInt8.toInt32)), (.int (u3.toInt8.toInt32)), (.int (u4.toInt8.toInt32)), (.int (0 : Int32)), (.int (0 : Int32)), (.int (0 : Int32))] (.int (0 : Int32)) := Arv.set Ar11 q11 S11 M11 H11 G11 (fits_byte_b (bnd_i2b u4) (by decide +kernel) (by decide +kernel)) W11' 3 rfl (Nat.le_of_ble_eq_true rfl)
 have O11 := O8.wr W11 g_o2
 have K11 : Keep h0 h11 ([o2] : List Addr) := Keep.wr K8 W11 (Or.inl (List.mem_of_getElem? (i := 0) rfl))
 have N11 := Fr.snoc X11 N8 g_o2
 show Home T11 (mkF m 32 #[.val (.ref o0), .val (.int (3 : Int32)), .val (.ref o2), .val (.int (3 : Int32)), .val (.int (7 : Int32)), .val (.int (3 : Int32)), .val (.int u4)] [])
 refine Home.run X11 hx hby sg6_32_6 (pc' := 7) (L' := #[.val (.ref o0), .val (.int (4 : Int32)), .val (.ref o2), .val (.int (4 : Int32)), .val (.int (7 : Int32)), .val (.int (4 : Int32)), .val (.int u4)]) (S' := [(.int (7 : Int32)), (.int (4 : Int32))]) rfl ?_
 refine Home.go (fun _ => XS.icmpNo X11.here hx rfl (hb hby d6_7) rfl (tlt (by decide)).2.1) ?_
 refine Home.run X11 hx hby sg6_10_2 (pc' := 12) (L' := #[.val (.ref o0), .val (.int (4 : Int32)), .val (.ref o2), .val (.int (4 : Int32)), .val (.int (7 : Int32)), .val (.int (4 : Int32)), .val (.int u4)]) (S' := [(.int (4 : Int32)), (.ref o0)]) rfl ?_
 have q12 := (q9.other W11 ne_o0_o2)
 obtain ⟨cl13, Ar13, q13, S13, M13, H13, G13⟩ := id q12
 have ib13 : ¬ ((4 : Int32) < 0 ∨ cl13.slots.size ≤ ((4 : Int32)).toNatClampNeg) := inb_of S13 ⟨by decide, by decide⟩
 refine Home.go (X11.caload hx (j := (4 : Int32)) (v := (.int u5)) (by rw [e11]; exact Ar13.1) (State.isArrayOf_alike hZ.alike Ar13.2.1) Ar13.2.2 ib13 (Has.at H13 ib13 rfl) rfl rfl (hb hby d6_12)) ?_
 refine Home.run X11 hx hby sg6_13_3 (pc' := 20) (L' := #[.val (.ref o0), .val (.int (4 : Int32)), .val (.ref o2), .val (.int (4 : Int32)), .val (.int (7 : Int32)), .val (.int (4 : Int32)), .val (.int u5)]) (S' := [(.int (255 : Int32)), (.int u5)]) rfl ?_
 refine Home.go (fun _ => XS.icmpYes X11.here hx rfl (pc0 := 20) (pc' := 26) rfl (hb hby d6_20) rfl (flt (bnd_nlt (bnd_lit (255 : Int32)) bnd_u5 (by decide +kernel))).2.2.2 (by decide) (by decide)) ?_
 refine Home.run X11 hx hby sg6_26_4 (pc' := 31) (L' := #[.val (.ref o0), .val (.int (4 : Int32)), .val (.ref o2), .val (.int (4 : Int32)), .val (.int (7 : Int32)), .val (.int (4 : Int32)), .val (.int u5)]) (S' := [(.int (u5.toInt8.toInt32)), (.int (4 : Int32)), (.ref o2)]) rfl ?_
 obtain ⟨cl14, Ar14, q14, S14, M14, H14, G14⟩ := id V11
 refine Home.wr (stB X11 hx hZ e11 Ar14 (j := (4 : Int32)) (inb_of S14 ⟨by decide, by decide⟩) rfl rfl (hb hby d6_31)) fun T14 h14 X14 e14 W14 => ?_
 have W14' := Wr.to W14 (congrArg Value.int (nar_byte_id (bnd_i2b u5) (by decide +kernel) (by decide +kernel)))
 have V14 : Arv Z h14 o2 k_o2 .byte (7 : Int32) [(.int (u1.toInt8.toInt32)), (.int (u2.toInt8.toInt32)), (.int (u3.toInt8.toInt32)), (.int (u4.toInt8.toInt32)), (.int (u5.toInt8.toInt32)), (.int (0 : Int32)), (.int (0 : Int32))] (.int (0 : Int32)) := Arv.set Ar14 q14 S14 M14 H14 G14 (fits_byte_b (bnd_i2b u5) (by decide +kernel) (by decide +kernel)) W14' 4 rfl (Nat.le_of_ble_eq_true rfl)
 have O14 := O11.wr W14 g_o2
 have K14 : Keep h0 h14 ([o2] : List Addr) := Keep.wr K11 W14 (Or.inl (List.mem_of_getElem? (i := 0) rfl))
 have N14 := Fr.snoc X14 N11 g_o2
 show Home T14 (mkF m 32 #[.val (.ref o0), .val (.int (4 : Int32)), .val (.ref o2), .val (.int (4 : Int32)), .val (.int (7 : Int32)), .val (.int (4 : Int32)), .val (.int u5)] [])
 refine Home.run X14 hx hby sg6_32_6 (pc' := 7) (L' := #[.val (.ref o0), .val (.int (5 : Int32)), .val (.ref o2), .val (.int (5 : Int32)), .val (.int (7 : Int32)), .val (.int (5 : Int32)), .val (.int u5)]) (S' := [(.int (7 : Int32)), (.int (5 : Int32))]) rfl ?_
 refine Home.go (fun _ => XS.icmpNo X14.here hx rfl (hb hby d6_7) rfl (tlt (by decide)).2.1) ?_
 refine Home.run X14 hx hby sg6_10_2 (pc' := 12) (L' := #[.val (.ref o0), .val (.int (5 : Int32)), .val (.ref o2), .val (.int (5 : Int32)), .val (.int (7 : Int32)), .val (.int (5 : Int32)), .val (.int u5)]) (S' := [(.int (5 : Int32)), (.ref o0)]) rfl ?_
 have q15 := (q12.other W14 ne_o0_o2)
 obtain ⟨cl16, Ar16, q16, S16, M16, H16, G16⟩ := id q15
 have ib16 : ¬ ((5 : Int32) < 0 ∨ cl16.slots.size ≤ ((5 : Int32)).toNatClampNeg) := inb_of S16 ⟨by decide, by decide⟩
 refine Home.go (X14.caload hx (j := (5 : Int32)) (v := (.int u6)) (by rw [e14]; exact Ar16.1) (State.isArrayOf_alike hZ.alike Ar16.2.1) Ar16.2.2 ib16 (Has.at H16 ib16 rfl) rfl rfl (hb hby d6_12)) ?_
 refine Home.run X14 hx hby sg6_13_3 (pc' := 20) (L' := #[.val (.ref o0), .val (.int (5 : Int32)), .val (.ref o2), .val (.int (5 : Int32)), .val (.int (7 : Int32)), .val (.int (5 : Int32)), .val (.int u6)]) (S' := [(.int (255 : Int32)), (.int u6)]) rfl ?_
 refine Home.go (fun _ => XS.icmpYes X14.here hx rfl (pc0 := 20) (pc' := 26) rfl (hb hby d6_20) rfl (flt (bnd_nlt (bnd_lit (255 : Int32)) bnd_u6 (by decide +kernel))).2.2.2 (by decide) (by decide)) ?_
 refine Home.run X14 hx hby sg6_26_4 (pc' := 31) (L' := #[.val (.ref o0), .val (.int (5 : Int32)), .val (.ref o2), .val (.int (5 : Int32)), .val (.int (7 : Int32)), .val (.int (5 : Int32)), .val (.int u6)]) (S' := [(.int (u6.toInt8.toInt32)), (.int (5 : Int32)), (.ref o2)]) rfl ?_
 obtain ⟨cl17, Ar17, q17, S17, M17, H17, G17⟩ := id V14
 refine Home.wr (stB X14 hx hZ e14 Ar17 (j := (5 : Int32)) (inb_of S17 ⟨by decide, by decide⟩) rfl rfl (hb hby d6_31)) fun T17 h17 X17 e17 W17 => ?_
 have W17' := Wr.to W17 (congrArg Value.int (nar_byte_id (bnd_i2b u6) (by decide +kernel) (by decide +kernel)))
 have V17 : Arv Z h17 o2 k_o2 .byte (7 : Int32) [(.int (u1.toInt8.toInt32)), (.int (u2.toInt8.toInt32)), (.int (u3.toInt8.toInt32)), (.int (u4.toInt8.toInt32)), (.int (u5.toInt8.toInt32)), (.int (u6.toInt8.toInt32)), (.int (0 : Int32))] (.int (0 : Int32)) := Arv.set Ar17 q17 S17 M17 H17 G17 (fits_byte_b (bnd_i2b u6) (by decide +kernel) (by decide +kernel)) W17' 5 rfl (Nat.le_of_ble_eq_true rfl)
 have O17 := O14.wr W17 g_o2
 have K17 : Keep h0 h17 ([o2] : List Addr) := Keep.wr K14 W17 (Or.inl (List.mem_of_getElem? (i := 0) rfl))
 have N17 := Fr.snoc X17 N14 g_o2
 show Home T17 (mkF m 32 #[.val (.ref o0), .val (.int (5 : Int32)), .val (.ref o2), .val (.int (5 : Int32)), .val (.int (7 : Int32)), .val (.int (5 : Int32)), .val (.int u6)] [])
 refine Home.run X17 hx hby sg6_32_6 (pc' := 7) (L' := #[.val (.ref o0), .val (.int (6 : Int32)), .val (.ref o2), .val (.int (6 : Int32)), .val (.int (7 : Int32)), .val (.int (6 : Int32)), .val (.int u6)]) (S' := [(.int (7 : Int32)), (.int (6 : Int32))]) rfl ?_
 refine Home.go (fun _ => XS.icmpNo X17.here hx rfl (hb hby d6_7) rfl (tlt (by decide)).2.1) ?_
 refine Home.run X17 hx hby sg6_10_2 (pc' := 12) (L' := #[.val (.ref o0), .val (.int (6 : Int32)), .val (.ref o2), .val (.int (6 : Int32)), .val (.int (7 : Int32)), .val (.int (6 : Int32)), .val (.int u6)]) (S' := [(.int (6 : Int32)), (.ref o0)]) rfl ?_
 have q18 := (q15.other W17 ne_o0_o2)
 obtain ⟨cl19, Ar19, q19, S19, M19, H19, G19⟩ := id q18
 have ib19 : ¬ ((6 : Int32) < 0 ∨ cl19.slots.size ≤ ((6 : Int32)).toNatClampNeg) := inb_of S19 ⟨by decide, by decide⟩
 refine Home.go (X17.caload hx (j := (6 : Int32)) (v := (.int u7)) (by rw [e17]; exact Ar19.1) (State.isArrayOf_alike hZ.alike Ar19.2.1) Ar19.2.2 ib19 (Has.at H19 ib19 rfl) rfl rfl (hb hby d6_12)) ?_
 refine Home.run X17 hx hby sg6_13_3 (pc' := 20) (L' := #[.val (.ref o0), .val (.int (6 : Int32)), .val (.ref o2), .val (.int (6 : Int32)), .val (.int (7 : Int32)), .val (.int (6 : Int32)), .val (.int u7)]) (S' := [(.int (255 : Int32)), (.int u7)]) rfl ?_
 refine Home.go (fun _ => XS.icmpYes X17.here hx rfl (pc0 := 20) (pc' := 26) rfl (hb hby d6_20) rfl (flt (bnd_nlt (bnd_lit (255 : Int32)) bnd_u7 (by decide +kernel))).2.2.2 (by decide) (by decide)) ?_
 refine Home.run X17 hx hby sg6_26_4 (pc' := 31) (L' := #[.val (.ref o0), .val (.int (6 : Int32)), .val (.ref o2), .val (.int (6 : Int32)), .val (.int (7 : Int32)), .val (.int (6 : Int32)), .val (.int u7)]) (S' := [(.int (u7.toInt8.toInt32)), (.int (6 : Int32)), (.ref o2)]) rfl ?_
 obtain ⟨cl20, Ar20, q20, S20, M20, H20, G20⟩ := id V17
 refine Home.wr (stB X17 hx hZ e17 Ar20 (j := (6 : Int32)) (inb_of S20 ⟨by decide, by decide⟩) rfl rfl (hb hby d6_31)) fun T20 h20 X20 e20 W20 => ?_
 have W20' := Wr.to W20 (congrArg Value.int (nar_byte_id (bnd_i2b u7) (by decide +kernel) (by decide +kernel)))
 have V20 : Arv Z h20 o2 k_o2 .byte (7 : Int32) [(.int (u1.toInt8.toInt32)), (.int (u2.toInt8.toInt32)), (.int (u3.toInt8.toInt32)), (.int (u4.toInt8.toInt32)), (.int (u5.toInt8.toInt32)), (.int (u6.toInt8.toInt32)), (.int (u7.toInt8.toInt32))] (.int (0 : Int32)) := Arv.set Ar20 q20 S20 M20 H20 G20 (fits_byte_b (bnd_i2b u7) (by decide +kernel) (by decide +kernel)) W20' 6 rfl (Nat.le_of_ble_eq_true rfl)
 have O20 := O17.wr W20 g_o2
 have K20 : Keep h0 h20 ([o2] : List Addr) := Keep.wr K17 W20 (Or.inl (List.mem_of_getElem? (i := 0) rfl))
 have N20 := Fr.snoc X20 N17 g_o2
 show Home T20 (mkF m 32 #[.val (.ref o0), .val (.int (6 : Int32)), .val (.ref o2), .val (.int (6 : Int32)), .val (.int (7 : Int32)), .val (.int (6 : Int32)), .val (.int u7)] [])
 refine Home.run X20 hx hby sg6_32_6 (pc' := 7) (L' := #[.val (.ref o0), .val (.int (7 : Int32)), .val (.ref o2), .val (.int (7 : Int32)), .val (.int (7 : Int32)), .val (.int (7 : Int32)), .val (.int u7)]) (S' := [(.int (7 : Int32)), (.int (7 : Int32))]) rfl ?_
 refine Home.go (fun _ => XS.icmpYes X20.here hx rfl (pc0 := 7) (pc' := 44) rfl (hb hby d6_7) rfl (flt (by decide)).2.1 (by decide) (by decide)) ?_
 refine Home.run X20 hx hby sg6_44_1 (pc' := 46) (L' := #[.val (.ref o0), .val (.int (7 : Int32)), .val (.ref o2), .val (.int (7 : Int32)), .val (.int (7 : Int32)), .val (.int (7 : Int32)), .val (.int u7)]) (S' := [(.int (7 : Int32))]) rfl ?_
 exact Home.retI X20 hx hlk hret (hb hby d6_46) (by rw [show T20.heap = h20 from e20]; exact ⟨rfl, N20, K20, V20⟩) (by decide) (by decide)
theorem rm5_6 (l : Launch) (Z : State) (a0 : Array Value) (hw : HW a0 Z) (ws : List Jvm.Cond) (o0 : Addr) (k_o0 : ClassId) (u1 u2 u3 u4 u5 u6 u7 : Int32) (h0 : Heap) (n0 : Nat) (O0 : Old Z n0 h0) (V_o0 : Arv Z h0 o0 k_o0 .char (7 : Int32) [(.int u1), (.int u2), (.int u3), (.int u4), (.int u5), (.int u6), (.int u7)] (.int (0 : Int32))) (bnd_u1 : ¬ u1 < (0 : Int32) ∧ ¬ (255 : Int32) < u1) (bnd_u2 : ¬ u2 < (0 : Int32) ∧ ¬ (255 : Int32) < u2) (bnd_u3 : ¬ u3 < (0 : Int32) ∧ ¬ (255 : Int32) < u3) (bnd_u4 : ¬ u4 < (0 : Int32) ∧ ¬ (255 : Int32) < u4) (bnd_u5 : ¬ u5 < (0 : Int32) ∧ ¬ (255 : Int32) < u5) (bnd_u6 : ¬ u6 < (0 : Int32) ∧ ¬ (255 : Int32) < u6) (bnd_u7 : ¬ u7 < (0 : Int32) ∧ ¬ (255 : Int32) < u7) :
    Con l Z (⟨"java/lang/StringUTF16", "compress", "([CII)[B"⟩ : MethodName) jdk_52_method_16_code 6 (some (.array .byte)) ws ({ frames := 1, cells := 1, slots := 7, locals := 18 } : Room) #[(.ref o0), (.int (0 : Int32)), (.int (7 : Int32))] h0 (fun v h L => ∃ (b1 : Addr), ∃ (k1 : ClassId), v = some (.ref b1) ∧ Fr n0 L ∧ h0.size ≤ b1 ∧ Keep h0 h [] ∧ Arv Z h b1 k1 .byte (7 : Int32) [(.int (u1.toInt8.toInt32)), (.int (u2.toInt8.toInt32)), (.int (u3.toInt8.toInt32)), (.int (u4.toInt8.toInt32)), (.int (u5.toInt8.toInt32)), (.int (u6.toInt8.toInt32)), (.int (u7.toInt8.toInt32))] (.int (0 : Int32))) := by
 refine own_body (plainFor_of_name own_pn0) (fun m => ef_rm5_6 m o0 (0 : Int32) (7 : Int32)) ?_
 intro p e s m below meth c s₁ hx hby hlk hml hret hZ hown hnm X0 e0
 have N0 := Fr.nil n0
 refine Home.run X0 hx hby sg5_0_1 (pc' := 1) (L' := #[.val (.ref o0), .val (.int (0 : Int32)), .val (.int (7 : Int32)), .unset, .unset, .unset]) (S' := [(.int (7 : Int32))]) rfl ?_
 refine Home.na (own_newP (aty := .byte) X0 hx hZ (own_w23 hw) e0 (g := (mkF m 1 #[.val (.ref o0), .val (.int (0 : Int32)), .val (.int (7 : Int32)), .unset, .unset, .unset] [(.int (7 : Int32))])) rfl (hb hby d5_1) rfl (by decide) (cap := 7) (by decide) (by decide) (by decide) (by decide)) fun T1 h1 k1 b1 g1 X1 e1 E1 A1 => ?_
 have g_b1 : n0 ≤ b1 := Nat.le_trans (Old.le O0) (Nat.le_of_eq g1.symm)
 have V1 : Arv Z h1 b1 k1 .byte (7 : Int32) [(.int (0 : Int32)), (.int (0 : Int32)), (.int (0 : Int32)), (.int (0 : Int32)), (.int (0 : Int32)), (.int (0 : Int32)), (.int (0 : Int32))] (.int (0 : Int32)) := (Arv.new A1 (by decide)).pad (pad_rep [] (.int (0 : Int32)) 7)
 have O1 := O0.ext E1
 have K1 : Keep h0 h1 ([] : List Addr) := Keep.ext (Keep.refl h0 ([] : List Addr)) E1
 refine Home.run X1 hx hby sg5_3_6 (pc' := 9) (L' := #[.val (.ref o0), .val (.int (0 : Int32)), .val (.int (7 : Int32)), .val (.ref b1), .unset, .unset]) (S' := [(.int (7 : Int32)), (.int (0 : Int32)), (.ref b1), (.int (0 : Int32)), (.ref o0)]) rfl ?_
 have ne2 : o0 ≠ b1 := (Nat.ne_of_lt (Nat.lt_of_lt_of_le V_o0.lt (Nat.le_trans (Nat.le_refl _) (Nat.le_of_eq g1.symm))))
 refine Home.call (own_static X1 hx hZ hown (own_w24 hw) (own_w25 hw) (own_w21 hw) (own_w26 hw) (by decide) (rm6_6 l Z a0 hw [] o0 b1 k_o0 u1 u2 u3 u4 u5 u6 u7 k1 h1 n0 O1 (V_o0.keep K1 nin0) bnd_u1 V1 g_b1 ne2 bnd_u2 bnd_u3 bnd_u4 bnd_u5 bnd_u6 bnd_u7) e1 rfl (by rw [hml]; rfl) (argsL := [(.ref o0), (.int (0 : Int32)), (.ref b1), (.int (0 : Int32)), (.int (7 : Int32))]) (rest := []) (lenOf own_pd0 rfl) rfl rfl (W := 0) (by exact hW0) (by decide) (by decide) (hb hby d5_9) (by decide) (by decide)) ?_
 rintro _ T3 L3 X3 ⟨rfl, N3q, K3q, P3_0⟩
 have O3 := Old.keep O1 K3q (allS g_b1 all0)
 have K3 : Keep h0 T3.heap ([] : List Addr) := Keep.trans K1 K3q (allS (Or.inr (Nat.le_trans (Nat.le_refl _) (Nat.le_of_eq g1.symm))) all0)
 have N3 := Fr.app N0 N3q
 show Home T3 (mkF m 12 #[.val (.ref o0), .val (.int (0 : Int32)), .val (.int (7 : Int32)), .val (.ref b1), .unset, .unset] [(.int (7 : Int32))])
 refine Home.run X3 hx hby sg5_12_3 (pc' := 17) (L' := #[.val (.ref o0), .val (.int (0 : Int32)), .val (.int (7 : Int32)), .val (.ref b1), .val (.int (7 : Int32)), .unset]) (S' := [(.int (7 : Int32)), (.int (7 : Int32))]) rfl ?_
 refine Home.go (fun _ => XS.icmpYes X3.here hx rfl (pc0 := 17) (pc' := 57) rfl (hb hby d5_17) rfl (teq (by decide)).1 (by decide) (by decide)) ?_
 refine Home.run X3 hx hby sg5_57_1 (pc' := 58) (L' := #[.val (.ref o0), .val (.int (0 : Int32)), .val (.int (7 : Int32)), .val (.ref b1), .val (.int (7 : Int32)), .unset]) (S' := [(.ref b1)]) rfl ?_
 exact Home.retR X3 hx hlk hret rfl rfl (hb hby d5_58) ⟨b1, k1, rfl, N3, (Nat.le_trans (Nat.le_refl _) (Nat.le_of_eq g1.symm)), K3, P3_0⟩ (by decide) (by decide)
theorem rm7_6 (l : Launch) (Z : State) (a0 : Array Value) (hw : HW a0 Z) (ws : List Jvm.Cond) (o0 : Addr) (k_o0 : ClassId) (u1 u2 u3 u4 u5 u6 u7 : Int32) (h0 : Heap) (n0 : Nat) (O0 : Old Z n0 h0) (V_o0 : Arv Z h0 o0 k_o0 .byte (7 : Int32) [(.int u1), (.int u2), (.int u3), (.int u4), (.int u5), (.int u6), (.int u7)] (.int (0 : Int32))) :
    Con l Z (⟨"java/lang/StringUTF16", "coderFromArrayLen", "([BI)B"⟩ : MethodName) jdk_52_method_15_code 2 (some .byte) ws ({ frames := 0, cells := 0, slots := 0, locals := 0 } : Room) #[(.ref o0), (.int (7 : Int32))] h0 (Pur (some (.int (0 : Int32))) h0) := by
 refine own_body (plainFor_of_name own_pn0) (fun m => ef_rm7_6 m o0 (7 : Int32)) ?_
 intro p e s m below meth c s₁ hx hby hlk hml hret hZ hown hnm X0 e0
 have N0 := Fr.nil n0
 refine Home.run X0 hx hby sg7_0_2 (pc' := 2) (L' := #[.val (.ref o0), .val (.int (7 : Int32))]) (S' := [(.ref o0), (.int (7 : Int32))]) rfl ?_
 obtain ⟨cl1, Ar1, q1, S1, M1, H1, G1⟩ := id V_o0
 refine Home.go (own_alen X0 hx hZ e0 Ar1 S1 M1 rfl rfl (hb hby d7_2)) ?_
 refine Home.run X0 hx hby sg7_3_4 (pc' := 8) (L' := #[.val (.ref o0), .val (.int (7 : Int32))]) (S' := [(.int (0 : Int32))]) rfl ?_
 exact Home.retN X0 hx hlk (t := .byte) hret (by simp) (hb hby d7_8) ⟨congrArg some (congrArg Value.int (by first | rfl | exact nar_i2c _ | exact nar_i2b _)), rfl, e0⟩ (by decide) (by decide)
theorem rm3_6 (l : Launch) (Z : State) (a0 : Array Value) (hw : HW a0 Z) (ws : List Jvm.Cond) (o0 o1 : Addr) (sv_COMPACT_STRINGS : Int32) (k_o1 : ClassId) (u1 u2 u3 u4 u5 u6 u7 : Int32) (h0 : Heap) (n0 : Nat) (O0 : Old Z n0 h0) (S_COMPACT_STRINGS : Sta Z Z.heap "java/lang/String" "COMPACT_STRINGS" "Z" (.int sv_COMPACT_STRINGS)) (hCS : ¬ (sv_COMPACT_STRINGS = (0 : Int32))) (V_o1 : Arv Z h0 o1 k_o1 .char (7 : Int32) [(.int u1), (.int u2), (.int u3), (.int u4), (.int u5), (.int u6), (.int u7)] (.int (0 : Int32))) (bnd_u1 : ¬ u1 < (0 : Int32) ∧ ¬ (255 : Int32) < u1) (bnd_u2 : ¬ u2 < (0 : Int32) ∧ ¬ (255 : Int32) < u2) (bnd_u3 : ¬ u3 < (0 : Int32) ∧ ¬ (255 : Int32) < u3) (bnd_u4 : ¬ u4 < (0 : Int32) ∧ ¬ (255 : Int32) < u4) (bnd_u5 : ¬ u5 < (0 : Int32) ∧ ¬ (255 : Int32) < u5) (bnd_u6 : ¬ u6 < (0 : Int32) ∧ ¬ (255 : Int32) < u6) (bnd_u7 : ¬ u7 < (0 : Int32) ∧ ¬ (255 : Int32) < u7) (E_o0 : Exa Z h0 o0 "java/lang/String") (F_coder_o0 : Fld Z h0 o0 "java/lang/String" "coder" "B" (.int (0 : Int32))) (g_o0 : n0 ≤ o0) (F_value_o0 : Fld Z h0 o0 "java/lang/String" "value" "[B" .null) :
    Con l Z (⟨"java/lang/String", "<init>", "([CIILjava/lang/Void;)V"⟩ : MethodName) jdk_42_method_149_code 6 none ws ({ frames := 2, cells := 1, slots := 7, locals := 35 } : Room) #[(.ref o0), (.ref o1), (.int (0 : Int32)), (.int (7 : Int32)), .null] h0 (fun v h L => ∃ (b1_3 : Addr), ∃ (k1_3 : ClassId), v = none ∧ Fr n0 L ∧ h0.size ≤ b1_3 ∧ Keep h0 h [o0] ∧ Exa Z h o0 "java/lang/String" ∧ Fld Z h o0 "java/lang/String" "coder" "B" (.int (0 : Int32)) ∧ Fld Z h o0 "java/lang/String" "value" "[B" (.ref b1_3) ∧ Arv Z h b1_3 k1_3 .byte (7 : Int32) [(.int (u1.toInt8.toInt32)), (.int (u2.toInt8.toInt32)), (.int (u3.toInt8.toInt32)), (.int (u4.toInt8.toInt32)), (.int (u5.toInt8.toInt32)), (.int (u6.toInt8.toInt32)), (.int (u7.toInt8.toInt32))] (.int (0 : Int32))) := by
 refine own_body (plainFor_of_name own_pn1) (fun m => ef_rm3_6 m o0 o1 (0 : Int32) (7 : Int32)) ?_
 intro p e s m below meth c s₁ hx hby hlk hml hret hZ hown hnm X0 e0
 have N0 := Fr.nil n0
 refine Home.run X0 hx hby sg3_0_1 (pc' := 1) (L' := #[.val (.ref o0), .val (.ref o1), .val (.int (0 : Int32)), .val (.int (7 : Int32)), .val .null, .unset]) (S' := [(.ref o0)]) rfl ?_
 refine Home.st (initO X0 hx hZ hown (own_w15 hw) (own_w16 hw) (own_w17 hw) e0 rfl (by rw [hml]; rfl) rfl (hb hby d3_1) (by decide) (W := 0) (by exact hW0) (by decide)) fun T1 X1 e1 => ?_
 refine Home.run X1 hx hby sg3_4_1 (pc' := 5) (L' := #[.val (.ref o0), .val (.ref o1), .val (.int (0 : Int32)), .val (.int (7 : Int32)), .val .null, .unset]) (S' := [(.int (7 : Int32))]) rfl ?_
 refine Home.go (fun _ => XS.ifYes X1.here hx rfl (pc0 := 5) (pc' := 27) rfl (hb hby d3_5) rfl ((if0 _ _).trans (feq (by decide)).2) (by decide) (by decide)) ?_
 refine Home.st (getS2 X1 hx hZ hown (host := "") (Or.inl (own_w18 hw)) Via.refl e1 (S_COMPACT_STRINGS.ext O0.2) rfl (hb hby d3_27)) fun T2 X2 e2 => ?_
 refine Home.go (fun _ => XS.ifNo X2.here hx rfl (hb hby d3_30) rfl ((if0 _ _).trans (feq hCS).1)) ?_
 refine Home.run X2 hx hby sg3_33_3 (pc' := 36) (L' := #[.val (.ref o0), .val (.ref o1), .val (.int (0 : Int32)), .val (.int (7 : Int32)), .val .null, .unset]) (S' := [(.int (7 : Int32)), (.int (0 : Int32)), (.ref o1)]) rfl ?_
 refine Home.call (own_static X2 hx hZ hown (own_w19 hw) (own_w20 hw) (own_w21 hw) (own_w22 hw) (by decide) (rm5_6 l Z a0 hw [] o1 k_o1 u1 u2 u3 u4 u5 u6 u7 h0 n0 O0 V_o1 bnd_u1 bnd_u2 bnd_u3 bnd_u4 bnd_u5 bnd_u6 bnd_u7) e2 rfl (by rw [hml]; rfl) (argsL := [(.ref o1), (.int (0 : Int32)), (.int (7 : Int32))]) (rest := []) (lenOf own_pd1 rfl) rfl rfl (W := 0) (by exact hW0) (by decide) (by decide) (hb hby d3_36) (by decide) (by decide)) ?_
 rintro _ T3 L3 X3 ⟨b1_3, k1_3, rfl, N3q, sz_b1_3, K3q, P3_0⟩
 have g_b1_3 : n0 ≤ b1_3 := Nat.le_trans (Old.le O0) sz_b1_3
 have O3 := Old.keep O0 K3q all0
 have K3 : Keep h0 T3.heap ([o0] : List Addr) := Keep.trans (Keep.refl h0 ([o0] : List Addr)) K3q all0
 have N3 := Fr.app N0 N3q
 show Home T3 (mkF m 39 #[.val (.ref o0), .val (.ref o1), .val (.int (0 : Int32)), .val (.int (7 : Int32)), .val .null, .unset] [(.ref b1_3)])
 refine Home.run X3 hx hby sg3_39_4 (pc' := 45) (L' := #[.val (.ref o0), .val (.ref o1), .val (.int (0 : Int32)), .val (.int (7 : Int32)), .val .null, .val (.ref b1_3)]) (S' := [(.int (7 : Int32)), (.ref b1_3), (.ref o0)]) rfl ?_
 refine Home.st (own_pure (own_static X3 hx hZ hown (own_w27 hw) (own_w28 hw) (own_w21 hw) (own_w29 hw) (by decide) (rm7_6 l Z a0 hw [] b1_3 k1_3 (u1.toInt8.toInt32) (u2.toInt8.toInt32) (u3.toInt8.toInt32) (u4.toInt8.toInt32) (u5.toInt8.toInt32) (u6.toInt8.toInt32) (u7.toInt8.toInt32) T3.heap n0 O3 P3_0) rfl rfl (by rw [hml]; rfl) (argsL := [(.ref b1_3), (.int (7 : Int32))]) (rest := [(.ref o0)]) (lenOf own_pd2 rfl) rfl rfl (W := 1) (by exact hW0) (by decide) (by decide) (hb hby d3_45) (by decide) (by decide))) fun T4 X4 e4 => ?_
 have q5 := (F_coder_o0.keep K3q nin0)
 refine Home.wr (putFN X4 hx hZ hown (own_w30 hw) Via.refl e4 q5 (E_o0.keep K3) (Or.inr ⟨(own_w31 hw), rfl, hnm⟩) (own_w6 hw) (ty := .byte) (v := (.int (0 : Int32))) (v' := (.int (0 : Int32))) (by decide) rfl rfl rfl rfl (hb hby d3_48)) fun T6 h6 X6 e6 W6 => ?_
 have Fw6 := q5.same W6
 have O6 := O3.wr W6 g_o0
 have K6 : Keep h0 h6 ([o0] : List Addr) := Keep.wr K3 W6 (Or.inl (List.mem_of_getElem? (i := 0) rfl))
 have N6 := Fr.snoc X6 N3 g_o0
 show Home T6 (mkF m 51 #[.val (.ref o0), .val (.ref o1), .val (.int (0 : Int32)), .val (.int (7 : Int32)), .val .null, .val (.ref b1_3)] [])
 refine Home.run X6 hx hby sg3_51_2 (pc' := 54) (L' := #[.val (.ref o0), .val (.ref o1), .val (.int (0 : Int32)), .val (.int (7 : Int32)), .val .null, .val (.ref b1_3)]) (S' := [(.ref b1_3), (.ref o0)]) rfl ?_
 have q7 := ((F_value_o0.keep K3q nin0).other W6 (Or.inr (slot_ne (Or.inr (own_w33 hw)) (Or.inr (own_w31 hw)) (by decide) (t := (.array .byte)) (t' := .byte) (by decide) (by decide))))
 refine Home.wr (putF X6 hx hZ hown (host := "") (Or.inl (own_w32 hw)) Via.refl e6 q7 (E_o0.keep K6) (Or.inr ⟨(own_w33 hw), rfl, hnm⟩) (own_w6 hw) (ty := (.array .byte)) (by decide) rfl rfl rfl rfl (hb hby d3_54)) fun T8 h8 X8 e8 W8 => ?_
 have Fw8 := q7.same W8
 have O8 := O6.wr W8 g_o0
 have K8 : Keep h0 h8 ([o0] : List Addr) := Keep.wr K6 W8 (Or.inl (List.mem_of_getElem? (i := 0) rfl))
 have N8 := Fr.snoc X8 N6 g_o0
 have q9 := (Fw6.other W8 (Or.inr (slot_ne (Or.inr (own_w31 hw)) (Or.inr (own_w33 hw)) (by decide) (t := .byte) (t' := (.array .byte)) (by decide) (by decide))))
 have ne10 : b1_3 ≠ o0 := (Ne.symm (Nat.ne_of_lt (Nat.lt_of_lt_of_le E_o0.lt (Nat.le_trans (Nat.le_refl _) sz_b1_3))))
 have q11 := ((P3_0.other W6 ne10).other W8 ne10)
 exact Home.ret0 X8 hx hlk hret (hb hby d3_57) (by rw [show T8.heap = h8 from e8]; exact ⟨b1_3, k1_3, rfl, N8, (Nat.le_trans (Nat.le_refl _) sz_b1_3), K8, (E_o0.keep K8), q9, Fw8, q11⟩) (by decide) (by decide)
theorem rm2_6 (l : Launch) (Z : State) (a0 : Array Value) (hw : HW a0 Z) (ws : List Jvm.Cond) (o0 o1 : Addr) (k_o1 : ClassId) (u1 u2 u3 u4 u5 u6 u7 sv_COMPACT_STRINGS : Int32) (h0 : Heap) (n0 : Nat) (O0 : Old Z n0 h0) (V_o1 : Arv Z h0 o1 k_o1 .char (7 : Int32) [(.int u1), (.int u2), (.int u3), (.int u4), (.int u5), (.int u6), (.int u7)] (.int (0 : Int32))) (S_COMPACT_STRINGS : Sta Z Z.heap "java/lang/String" "COMPACT_STRINGS" "Z" (.int sv_COMPACT_STRINGS)) (E_o0 : Exa Z h0 o0 "java/lang/String") (F_coder_o0 : Fld Z h0 o0 "java/lang/String" "coder" "B" (.int (0 : Int32))) (F_value_o0 : Fld Z h0 o0 "java/lang/String" "value" "[B" .null) (bnd_u1 : ¬ u1 < (0 : Int32) ∧ ¬ (255 : Int32) < u1) (bnd_u2 : ¬ u2 < (0 : Int32) ∧ ¬ (255 : Int32) < u2) (bnd_u3 : ¬ u3 < (0 : Int32) ∧ ¬ (255 : Int32) < u3) (bnd_u4 : ¬ u4 < (0 : Int32) ∧ ¬ (255 : Int32) < u4) (bnd_u5 : ¬ u5 < (0 : Int32) ∧ ¬ (255 : Int32) < u5) (bnd_u6 : ¬ u6 < (0 : Int32) ∧ ¬ (255 : Int32) < u6) (bnd_u7 : ¬ u7 < (0 : Int32) ∧ ¬ (255 : Int32) < u7) (g_o0 : n0 ≤ o0) (hCS : ¬ (sv_COMPACT_STRINGS = (0 : Int32))) :
    Con l Z (⟨"java/lang/String", "<init>", "([C)V"⟩ : MethodName) jdk_42_method_3_code 2 none ws ({ frames := 3, cells := 1, slots := 7, locals := 52 } : Room) #[(.ref o0), (.ref o1)] h0 (fun v h L => ∃ (b1_3_2 : Addr), ∃ (k1_3_2 : ClassId), v = none ∧ Fr n0 L ∧ h0.size ≤ b1_3_2 ∧ Keep h0 h [o0] ∧ Exa Z h o0 "java/lang/String" ∧ Fld Z h o0 "java/lang/String" "coder" "B" (.int (0 : Int32)) ∧ Fld Z h o0 "java/lang/String" "value" "[B" (.ref b1_3_2) ∧ Arv Z h b1_3_2 k1_3_2 .byte (7 : Int32) [(.int (u1.toInt8.toInt32)), (.int (u2.toInt8.toInt32)), (.int (u3.toInt8.toInt32)), (.int (u4.toInt8.toInt32)), (.int (u5.toInt8.toInt32)), (.int (u6.toInt8.toInt32)), (.int (u7.toInt8.toInt32))] (.int (0 : Int32))) := by
 refine own_body (plainFor_of_name own_pn1) (fun m => ef_rm2_6 m o0 o1) ?_
 intro p e s m below meth c s₁ hx hby hlk hml hret hZ hown hnm X0 e0
 have N0 := Fr.nil n0
 refine Home.run X0 hx hby sg2_0_4 (pc' := 4) (L' := #[.val (.ref o0), .val (.ref o1)]) (S' := [(.ref o1), (.int (0 : Int32)), (.ref o1), (.ref o0)]) rfl ?_
 obtain ⟨cl1, Ar1, q1, S1, M1, H1, G1⟩ := id V_o1
 refine Home.go (own_alen X0 hx hZ e0 Ar1 S1 M1 rfl rfl (hb hby d2_4)) ?_
 refine Home.run X0 hx hby sg2_5_1 (pc' := 6) (L' := #[.val (.ref o0), .val (.ref o1)]) (S' := [.null, (.int (7 : Int32)), (.int (0 : Int32)), (.ref o1), (.ref o0)]) rfl ?_
 refine Home.call (own_special X0 hx hZ hown rfl (own_w11 hw) (own_w12 hw) (own_w7 hw) (own_w14 hw) (by decide) (rm3_6 l Z a0 hw [] o0 o1 sv_COMPACT_STRINGS k_o1 u1 u2 u3 u4 u5 u6 u7 h0 n0 O0 S_COMPACT_STRINGS hCS V_o1 bnd_u1 bnd_u2 bnd_u3 bnd_u4 bnd_u5 bnd_u6 bnd_u7 E_o0 F_coder_o0 g_o0 F_value_o0) e0 rfl (by rw [hml]; rfl) (a := o0) (argsL := [(.ref o1), (.int (0 : Int32)), (.int (7 : Int32)), .null]) (rest := []) (lenOf own_pd3 rfl) rfl rfl (W := 0) (by exact hW0) (by decide) (by decide) (hb hby d2_6) (by decide) (by decide)) ?_
 rintro _ T2 L2 X2 ⟨b1_3_2, k1_3_2, rfl, N2q, sz_b1_3_2, K2q, P2_0, P2_1, P2_2, P2_3⟩
 have g_b1_3_2 : n0 ≤ b1_3_2 := Nat.le_trans (Old.le O0) sz_b1_3_2
 have O2 := Old.keep O0 K2q (allS g_o0 all0)
 have K2 : Keep h0 T2.heap ([o0] : List Addr) := Keep.trans (Keep.refl h0 ([o0] : List Addr)) K2q (allS (Or.inl (List.mem_of_getElem? (i := 0) rfl)) all0)
 have N2 := Fr.app N0 N2q
 show Home T2 (mkF m 9 #[.val (.ref o0), .val (.ref o1)] [])
 exact Home.ret0 X2 hx hlk hret (hb hby d2_9) ⟨b1_3_2, k1_3_2, rfl, N2, (Nat.le_trans (Nat.le_refl _) sz_b1_3_2), K2, P2_0, P2_1, P2_2, P2_3⟩ (by decide) (by decide)
theorem rm6_7 (l : Launch) (Z : State) (a0 : Array Value) (hw : HW a0 Z) (ws : List Jvm.Cond) (o0 o2 : Addr) (k_o0 : ClassId) (u1 u2 u3 u4 u5 u6 u7 u8 : Int32) (k_o2 : ClassId) (h0 : Heap) (n0 : Nat) (O0 : Old Z n0 h0) (V_o0 : Arv Z h0 o0 k_o0 .char (8 : Int32) [(.int u1), (.int u2), (.int u3), (.int u4), (.int u5), (.int u6), (.int u7), (.int u8)] (.int (0 : Int32))) (bnd_u1 : ¬ u1 < (0 : Int32) ∧ ¬ (255 : Int32) < u1) (V_o2 : Arv Z h0 o2 k_o2 .byte (8 : Int32) [(.int (0 : Int32)), (.int (0 : Int32)), (.int (0 : Int32)), (.int (0 : Int32)), (.int (0 : Int32)), (.int (0 : Int32)), (.int (0 : Int32)), (.int (0 : Int32))] (.int (0 : Int32))) (g_o2 : n0 ≤ o2) (ne_o0_o2 : o0 ≠ o2) (bnd_u2 : ¬ u2 < (0 : Int32) ∧ ¬ (255 : Int32) < u2) (bnd_u3 : ¬ u3 < (0 : Int32) ∧ ¬ (255 : Int32) < u3) (bnd_u4 : ¬ u4 < (0 : Int32) ∧ ¬ (255 : Int32) < u4) (bnd_u5 : ¬ u5 < (0 : Int32) ∧ ¬ (255 : Int32) < u5) (bnd_u6 : ¬ u6 < (0 : Int32) ∧ ¬ (255 : Int32) < u6) (bnd_u7 : ¬ u7 < (0 : Int32) ∧ ¬ (255 : Int32) < u7) (bnd_u8 : ¬ u8 < (0 : Int32) ∧ ¬ (255 : Int32) < u8) :
    Con l Z (⟨"java/lang/StringUTF16", "compress", "([CI[BII)I"⟩ : MethodName) jdk_52_method_21_code 7 (some .int) ws ({ frames := 0, cells := 0, slots := 0, locals := 0 } : Room) #[(.ref o0), (.int (0 : Int32)), (.ref o2), (.int (0 : Int32)), (.int (8 : Int32))] h0 (fun v h L => v = some (.int (8 : Int32)) ∧ Fr n0 L ∧ Keep h0 h [o2] ∧ Arv Z h o2 k_o2 .byte (8 : Int32) [(.int (u1.toInt8.toInt32)), (.int (u2.toInt8.toInt32)), (.int (u3.toInt8.toInt32)), (.int (u4.toInt8.toInt32)), (.int (u5.toInt8.toInt32)), (.int (u6.toInt8.toInt32)), (.int (u7.toInt8.toInt32)), (.int (u8.toInt8.toInt32))] (.int (0 : Int32))) := by
 refine own_body (plainFor_of_name own_pn0) (fun m => ef_rm6_7 m o0 (0 : Int32) o2 (8 : Int32)) ?_
 intro p e s m below meth c s₁ hx hby hlk hml hret hZ hown hnm X0 e0
 have N0 := Fr.nil n0
 refine Home.run X0 hx hby sg6_0_4 (pc' := 7) (L' := #[.val (.ref o0), .val (.int (0 : Int32)), .val (.ref o2), .val (.int (0 : Int32)), .val (.int (8 : Int32)), .val (.int (0 : Int32)), .unset]) (S' := [(.int (8 : Int32)), (.int (0 : Int32))]) rfl ?_
 refine Home.go (fun _ => XS.icmpNo X0.here hx rfl (hb hby d6_7) rfl (tlt (by decide)).2.1) ?_
 refine Home.run X0 hx hby sg6_10_2 (pc' := 12) (L' := #[.val (.ref o0), .val (.int (0 : Int32)), .val (.ref o2), .val (.int (0 : Int32)), .val (.int (8 : Int32)), .val (.int (0 : Int32)), .unset]) (S' := [(.int (0 : Int32)), (.ref o0)]) rfl ?_
 obtain ⟨cl1, Ar1, q1, S1, M1, H1, G1⟩ := id V_o0
 have ib1 : ¬ ((0 : Int32) < 0 ∨ cl1.slots.size ≤ ((0 : Int32)).toNatClampNeg) := inb_of S1 ⟨by decide, by decide⟩
 refine Home.go (X0.caload hx (j := (0 : Int32)) (v := (.int u1)) (by rw [e0]; exact Ar1.1) (State.isArrayOf_alike hZ.alike Ar1.2.1) Ar1.2.2 ib1 (Has.at H1 ib1 rfl) rfl rfl (hb hby d6_12)) ?_
 refine Home.run X0 hx hby sg6_13_3 (pc' := 20) (L' := #[.val (.ref o0), .val (.int (0 : Int32)), .val (.ref o2), .val (.int (0 : Int32)), .val (.int (8 : Int32)), .val (.int (0 : Int32)), .val (.int u1)]) (S' := [(.int (255 : Int32)), (.int u1)]) rfl ?_
 refine Home.go (fun _ => XS.icmpYes X0.here hx rfl (pc0 := 20) (pc' := 26) rfl (hb hby d6_20) rfl (flt (bnd_nlt (bnd_lit (255 : Int32)) bnd_u1 (by decide +kernel))).2.2.2 (by decide) (by decide)) ?_
 refine Home.run X0 hx hby sg6_26_4 (pc' := 31) (L' := #[.val (.ref o0), .val (.int (0 : Int32)), .val (.ref o2), .val (.int (0 : Int32)), .val (.int (8 : Int32)), .val (.int (0 : Int32)), .val (.int u1)]) (S' := [(.int (u1.toInt8.toInt32)), (.int (0 : Int32)), (.ref o2)]) rfl ?_
 obtain ⟨cl2, Ar2, q2, S2, M2, H2, G2⟩ := id V_o2
 refine Home.wr (stB X0 hx hZ e0 Ar2 (j := (0 : Int32)) (inb_of S2 ⟨by decide, by decide⟩) rfl rfl (hb hby d6_31)) fun T2 h2 X2 e2 W2 => ?_
 have W2' := Wr.to W2 (congrArg Value.int (nar_byte_id (bnd_i2b u1) (by decide +kernel) (by decide +kernel)))
 have V2 : Arv Z h2 o2 k_o2 .byte (8 : Int32) [(.int (u1.toInt8.toInt32)), (.int (0 : Int32)), (.int (0 : Int32)), (.int (0 : Int32)), (.int (0 : Int32)), (.int (0 : Int32)), (.int (0 : Int32)), (.int (0 : Int32))] (.int (0 : Int32)) := Arv.set Ar2 q2 S2 M2 H2 G2 (fits_byte_b (bnd_i2b u1) (by decide +kernel) (by decide +kernel)) W2' 0 rfl (Nat.le_of_ble_eq_true rfl)
 have O2 := O0.wr W2 g_o2
 have K2 : Keep h0 h2 ([o2] : List Addr) := Keep.wr (Keep.refl h0 ([o2] : List Addr)) W2 (Or.inl (List.mem_of_getElem? (i := 0) rfl))
 have N2 := Fr.snoc X2 N0 g_o2
 show Home T2 (mkF m 32 #[.val (.ref o0), .val (.int (0 : Int32)), .val (.ref o2), .val (.int (0 : Int32)), .val (.int (8 : Int32)), .val (.int (0 : Int32)), .val (.int u1)] [])
 refine Home.run X2 hx hby sg6_32_6 (pc' := 7) (L' := #[.val (.ref o0), .val (.int (1 : Int32)), .val (.ref o2), .val (.int (1 : Int32)), .val (.int (8 : Int32)), .val (.int (1 : Int32)), .val (.int u1)]) (S' := [(.int (8 : Int32)), (.int (1 : Int32))]) rfl ?_
 refine Home.go (fun _ => XS.icmpNo X2.here hx rfl (hb hby d6_7) rfl (tlt (by decide)).2.1) ?_
 refine Home.run X2 hx hby sg6_10_2 (pc' := 12) (L' := #[.val (.ref o0), .val (.int (1 : Int32)), .val (.ref o2), .val (.int (1 : Int32)), .val (.int (8 : Int32)), .val (.int (1 : Int32)), .val (.int u1)]) (S' := [(.int (1 : Int32)), (.ref o0)]) rfl ?_
 have q3 := (V_o0.other W2 ne_o0_o2)
 obtain ⟨cl4, Ar4, q4, S4, M4, H4, G4⟩ := id q3
 have ib4 : ¬ ((1 : Int32) < 0 ∨ cl4.slots.size ≤ ((1 : Int32)).toNatClampNeg) := inb_of S4 ⟨by decide, by decide⟩
 refine Home.go (X2.caload hx (j := (1 : Int32)) (v := (.int u2)) (by rw [e2]; exact Ar4.1) (State.isArrayOf_alike hZ.alike Ar4.2.1) Ar4.2.2 ib4 (Has.at H4 ib4 rfl) rfl rfl (hb hby d6_12)) ?_
 refine Home.run X2 hx hby sg6_13_3 (pc' := 20) (L' := #[.val (.ref o0), .val (.int (1 : Int32)), .val (.ref o2), .val (.int (1 : Int32)), .val (.int (8 : Int32)), .val (.int (1 : Int32)), .val (.int u2)]) (S' := [(.int (255 : Int32)), (.int u2)]) rfl ?_
 refine Home.go (fun _ => XS.icmpYes X2.here hx rfl (pc0 := 20) (pc' := 26) rfl (hb hby d6_20) rfl (flt (bnd_nlt (bnd_lit (255 : Int32)) bnd_u2 (by decide +kernel))).2.2.2 (by decide) (by decide)) ?_
 refine Home.run X2 hx hby sg6_26_4 (pc' := 31) (L' := #[.val (.ref o0), .val (.int (1 : Int32)), .val (.ref o2), .val (.int (1 : Int32)), .val (.int (8 : Int32)), .val (.int (1 : Int32)), .val (.int u2)]) (S' := [(.int (u2.toInt8.toInt32)), (.int (1 : Int32)), (.ref o2)]) rfl ?_
 obtain ⟨cl5, Ar5, q5, S5, M5, H5, G5⟩ := id V2
 refine Home.wr (stB X2 hx hZ e2 Ar5 (j := (1 : Int32)) (inb_of S5 ⟨by decide, by decide⟩) rfl rfl (hb hby d6_31)) fun T5 h5 X5 e5 W5 => ?_
 have W5' := Wr.to W5 (congrArg Value.int (nar_byte_id (bnd_i2b u2) (by decide +kernel) (by decide +kernel)))
 have V5 : Arv Z h5 o2 k_o2 .byte (8 : Int32) [(.int (u1.toInt8.toInt32)), (.int (u2.toInt8.toInt32)), (.int (0 : Int32)), (.int (0 : Int32)), (.int (0 : Int32)), (.int (0 : Int32)), (.int (0 : Int32)), (.int (0 : Int32))] (.int (0 : Int32)) := Arv.set Ar5 q5 S5 M5 H5 G5 (fits_byte_b (bnd_i2b u2) (by decide +kernel) (by decide +kernel)) W5' 1 rfl (Nat.le_of_ble_eq_true rfl)
 have O5 := O2.wr W5 g_o2
 have K5 : Keep h0 h5 ([o2] : List Addr) := Keep.wr K2 W5 (Or.inl (List.mem_of_getElem? (i := 0) rfl))
 have N5 := Fr.snoc X5 N2 g_o2
 show Home T5 (mkF m 32 #[.val (.ref o0), .val (.int (1 : Int32)), .val (.ref o2), .val (.int (1 : Int32)), .val (.int (8 : Int32)), .val (.int (1 : Int32)), .val (.int u2)] [])
 refine Home.run X5 hx hby sg6_32_6 (pc' := 7) (L' := #[.val (.ref o0), .val (.int (2 : Int32)), .val (.ref o2), .val (.int (2 : Int32)), .val (.int (8 : Int32)), .val (.int (2 : Int32)), .val (.int u2)]) (S' := [(.int (8 : Int32)), (.int (2 : Int32))]) rfl ?_
 refine Home.go (fun _ => XS.icmpNo X5.here hx rfl (hb hby d6_7) rfl (tlt (by decide)).2.1) ?_
 refine Home.run X5 hx hby sg6_10_2 (pc' := 12) (L' := #[.val (.ref o0), .val (.int (2 : Int32)), .val (.ref o2), .val (.int (2 : Int32)), .val (.int (8 : Int32)), .val (.int (2 : Int32)), .val (.int u2)]) (S' := [(.int (2 : Int32)), (.ref o0)]) rfl ?_
 have q6 := (q3.other W5 ne_o0_o2)
 obtain ⟨cl7, Ar7, q7, S7, M7, H7, G7⟩ := id q6
 have ib7 : ¬ ((2 : Int32) < 0 ∨ cl7.slots.size ≤ ((2 : Int32)).toNatClampNeg) := inb_of S7 ⟨by decide, by decide⟩
 refine Home.go (X5.caload hx (j := (2 : Int32)) (v := (.int u3)) (by rw [e5]; exact Ar7.1) (State.isArrayOf_alike hZ.alike Ar7.2.1) Ar7.2.2 ib7 (Has.at H7 ib7 rfl) rfl rfl (hb hby d6_12)) ?_
 refine Home.run X5 hx hby sg6_13_3 (pc' := 20) (L' := #[.val (.ref o0), .val (.int (2 : Int32)), .val (.ref o2), .val (.int (2 : Int32)), .val (.int (8 : Int32)), .val (.int (2 : Int32)), .val (.int u3)]) (S' := [(.int (255 : Int32)), (.int u3)]) rfl ?_
 refine Home.go (fun _ => XS.icmpYes X5.here hx rfl (pc0 := 20) (pc' := 26) rfl (hb hby d6_20) rfl (flt (bnd_nlt (bnd_lit (255 : Int32)) bnd_u3 (by decide +kernel))).2.2.2 (by decide) (by decide)) ?_
 refine Home.run X5 hx hby sg6_26_4 (pc' := 31) (L' := #[.val (.ref o0), .val (.int (2 : Int32)), .val (.ref o2), .val (.int (2 : Int32)), .val (.int (8 : Int32)), .val (.int (2 : Int32)), .val (.int u3)]) (S' := [(.int (u3.toInt8.toInt32)), (.int (2 : Int32)), (.ref o2)]) rfl ?_
 obtain ⟨cl8, Ar8, q8, S8, M8, H8, G8⟩ := id V5
 refine Home.wr (stB X5 hx hZ e5 Ar8 (j := (2 : Int32)) (inb_of S8 ⟨by decide, by decide⟩) rfl rfl (hb hby d6_31)) fun T8 h8 X8 e8 W8 => ?_
 have W8' := Wr.to W8 (congrArg Value.int (nar_byte_id (bnd_i2b u3) (by decide +kernel) (by decide +kernel)))
 have V8 : Arv Z h8 o2 k_o2 .byte (8 : Int32) [(.int (u1.toInt8.toInt32)), (.int (u2.toInt8.toInt32)), (.int (u3.toInt8.toInt32)), (.int (0 : Int32)), (.int (0 : Int32)), (.int (0 : Int32)), (.int (0 : Int32)), (.int (0 : Int32))] (.int (0 : Int32)) := Arv.set Ar8 q8 S8 M8 H8 G8 (fits_byte_b (bnd_i2b u3) (by decide +kernel) (by decide +kernel)) W8' 2 rfl (Nat.le_of_ble_eq_true rfl)
 have O8 := O5.wr W8 g_o2
 have K8 : Keep h0 h8 ([o2] : List Addr) := Keep.wr K5 W8 (Or.inl (List.mem_of_getElem? (i := 0) rfl))
 have N8 := Fr.snoc X8 N5 g_o2
 show Home T8 (mkF m 32 #[.val (.ref o0), .val (.int (2 : Int32)), .val (.ref o2), .val (.int (2 : Int32)), .val (.int (8 : Int32)), .val (.int (2 : Int32)), .val (.int u3)] [])
 refine Home.run X8 hx hby sg6_32_6 (pc' := 7) (L' := #[.val (.ref o0), .val (.int (3 : Int32)), .val (.ref o2), .val (.int (3 : Int32)), .val (.int (8 : Int32)), .val (.int (3 : Int32)), .val (.int u3)]) (S' := [(.int (8 : Int32)), (.int (3 : Int32))]) rfl ?_
 refine Home.go (fun _ => XS.icmpNo X8.here hx rfl (hb hby d6_7) rfl (tlt (by decide)).2.1) ?_
 refine Home.run X8 hx hby sg6_10_2 (pc' := 12) (L' := #[.val (.ref o0), .val (.int (3 : Int32)), .val (.ref o2), .val (.int (3 : Int32)), .val (.int (8 : Int32)), .val (.int (3 : Int32)), .val (.int u3)]) (S' := [(.int (3 : Int32)), (.ref o0)]) rfl ?_
 have q9 := (q6.other W8 ne_o0_o2)
 obtain ⟨cl10, Ar10, q10, S10, M10, H10, G10⟩ := id q9
 have ib10 : ¬ ((3 : Int32) < 0 ∨ cl10.slots.size ≤ ((3 : Int32)).toNatClampNeg) := inb_of S10 ⟨by decide, by decide⟩
 refine Home.go (X8.caload hx (j := (3 : Int32)) (v := (.int u4)) (by rw [e8]; exact Ar10.1) (State.isArrayOf_alike hZ.alike Ar10.2.1) Ar10.2.2 ib10 (Has.at H10 ib10 rfl) rfl rfl (hb hby d6_12)) ?_
 refine Home.run X8 hx hby sg6_13_3 (pc' := 20) (L' := #[.val (.ref o0), .val (.int (3 : Int32)), .val (.ref o2), .val (.int (3 : Int32)), .val (.int (8 : Int32)), .val (.int (3 : Int32)), .val (.int u4)]) (S' := [(.int (255 : Int32)), (.int u4)]) rfl ?_
 refine Home.go (fun _ => XS.icmpYes X8.here hx rfl (pc0 := 20) (pc' := 26) rfl (hb hby d6_20) rfl (flt (bnd_nlt (bnd_lit (255 : Int32)) bnd_u4 (by decide +kernel))).2.2.2 (by decide) (by decide)) ?_
 refine Home.run X8 hx hby sg6_26_4 (pc' := 31) (L' := #[.val (.ref o0), .val (.int (3 : Int32)), .val (.ref o2), .val (.int (3 : Int32)), .val (.int (8 : Int32)), .val (.int (3 : Int32)), .val (.int u4)]) (S' := [(.int (u4.toInt8.toInt32)), (.int (3 : Int32)), (.ref o2)]) rfl ?_
 obtain ⟨cl11, Ar11, q11, S11, M11, H11, G11⟩ := id V8
 refine Home.wr (stB X8 hx hZ e8 Ar11 (j := (3 : Int32)) (inb_of S11 ⟨by decide, by decide⟩) rfl rfl (hb hby d6_31)) fun T11 h11 X11 e11 W11 => ?_
 have W11' := Wr.to W11 (congrArg Value.int (nar_byte_id (bnd_i2b u4) (by decide +kernel) (by decide +kernel)))
 have V11 : Arv Z h11 o2 k_o2 .byte (8 : Int32) [(.int (u1.toInt8.toInt32)), (.int (u2.toInt8.toInt32)), (.int (u3.toInt8.toInt32)), (.int (u4.toInt8.toInt32)), (.int (0 : Int32)), (.int (0 : Int32)), (.int (0 : Int32)), (.int (0 : Int32))] (.int (0 : Int32)) := Arv.set Ar11 q11 S11 M11 H11 G11 (fits_byte_b (bnd_i2b u4) (by decide +kernel) (by decide +kernel)) W11' 3 rfl (Nat.le_of_ble_eq_true rfl)
 have O11 := O8.wr W11 g_o2
 have K11 : Keep h0 h11 ([o2] : List Addr) := Keep.wr K8 W11 (Or.inl (List.mem_of_getElem? (i := 0) rfl))
 have N11 := Fr.snoc X11 N8 g_o2
 show Home T11 (mkF m 32 #[.val (.ref o0), .val (.int (3 : Int32)), .val (.ref o2), .val (.int (3 : Int32)), .val (.int (8 : Int32)), .val (.int (3 : Int32)), .val (.int u4)] [])
 refine Home.run X11 hx hby sg6_32_6 (pc' := 7) (L' := #[.val (.ref o0), .val (.int (4 : Int32)), .val (.ref o2), .val (.int (4 : Int32)), .val (.int (8 : Int32)), .val (.int (4 : Int32)), .val (.int u4)]) (S' := [(.int (8 : Int32)), (.int (4 : Int32))]) rfl ?_
 refine Home.go (fun _ => XS.icmpNo X11.here hx rfl (hb hby d6_7) rfl (tlt (by decide)).2.1) ?_
 refine Home.run X11 hx hby sg6_10_2 (pc' := 12) (L' := #[.val (.ref o0), .val (.int (4 : Int32)), .val (.ref o2), .val (.int (4 : Int32)), .val (.int (8 : Int32)), .val (.int (4 : Int32)), .val (.int u4)]) (S' := [(.int (4 : Int32)), (.ref o0)]) rfl ?_
 have q12 := (q9.other W11 ne_o0_o2)
 obtain ⟨cl13, Ar13, q13, S13, M13, H13, G13⟩ := id q12
 have ib13 : ¬ ((4 : Int32) < 0 ∨ cl13.slots.size ≤ ((4 : Int32)).toNatClampNeg) := inb_of S13 ⟨by decide, by decide⟩
 refine Home.go (X11.caload hx (j := (4 : Int32)) (v := (.int u5)) (by rw [e11]; exact Ar13.1) (State.isArrayOf_alike hZ.alike Ar13.2.1) Ar13.2.2 ib13 (Has.at H13 ib13 rfl) rfl rfl (hb hby d6_12)) ?_
 refine Home.run X11 hx hby sg6_13_3 (pc' := 20) (L' := #[.val (.ref o0), .val (.int (4 : Int32)), .val (.ref o2), .val (.int (4 : Int32)), .val (.int (8 : Int32)), .val (.int (4 : Int32)), .val (.int u5)]) (S' := [(.int (255 : Int32)), (.int u5)]) rfl ?_
 refine Home.go (fun _ => XS.icmpYes X11.here hx rfl (pc0 := 20) (pc' := 26) rfl (hb hby d6_20) rfl (flt (bnd_nlt (bnd_lit (255 : Int32)) bnd_u5 (by decide +kernel))).2.2.2 (by decide) (by decide)) ?_
 refine Home.run X11 hx hby sg6_26_4 (pc' := 31) (L' := #[.val (.ref o0), .val (.int (4 : Int32)), .val (.ref o2), .val (.int (4 : Int32)), .val (.int (8 : Int32)), .val (.int (4 : Int32)), .val (.int u5)]) (S' := [(.int (u5.toInt8.toInt32)), (.int (4 : Int32)), (.ref o2)]) rfl ?_
 obtain ⟨cl14, Ar14, q14, S14, M14, H14, G14⟩ := id V11
 refine Home.wr (stB X11 hx hZ e11 Ar14 (j := (4 : Int32)) (inb_of S14 ⟨by decide, by decide⟩) rfl rfl (hb hby d6_31)) fun T14 h14 X14 e14 W14 => ?_
 have W14' := Wr.to W14 (congrArg Value.int (nar_byte_id (bnd_i2b u5) (by decide +kernel) (by decide +kernel)))
 have V14 : Arv Z h14 o2 k_o2 .byte (8 : Int32) [(.int (u1.toInt8.toInt32)), (.int (u2.toInt8.toInt32)), (.int (u3.toInt8.toInt32)), (.int (u4.toInt8.toInt32)), (.int (u5.toInt8.toInt32)), (.int (0 : Int32)), (.int (0 : Int32)), (.int (0 : Int32))] (.int (0 : Int32)) := Arv.set Ar14 q14 S14 M14 H14 G14 (fits_byte_b (bnd_i2b u5) (by decide +kernel) (by decide +kernel)) W14' 4 rfl (Nat.le_of_ble_eq_true rfl)
 have O14 := O11.wr W14 g_o2
 have K14 : Keep h0 h14 ([o2] : List Addr) := Keep.wr K11 W14 (Or.inl (List.mem_of_getElem? (i := 0) rfl))
 have N14 := Fr.snoc X14 N11 g_o2
 show Home T14 (mkF m 32 #[.val (.ref o0), .val (.int (4 : Int32)), .val (.ref o2), .val (.int (4 : Int32)), .val (.int (8 : Int32)), .val (.int (4 : Int32)), .val (.int u5)] [])
 refine Home.run X14 hx hby sg6_32_6 (pc' := 7) (L' := #[.val (.ref o0), .val (.int (5 : Int32)), .val (.ref o2), .val (.int (5 : Int32)), .val (.int (8 : Int32)), .val (.int (5 : Int32)), .val (.int u5)]) (S' := [(.int (8 : Int32)), (.int (5 : Int32))]) rfl ?_
 refine Home.go (fun _ => XS.icmpNo X14.here hx rfl (hb hby d6_7) rfl (tlt (by decide)).2.1) ?_
 refine Home.run X14 hx hby sg6_10_2 (pc' := 12) (L' := #[.val (.ref o0), .val (.int (5 : Int32)), .val (.ref o2), .val (.int (5 : Int32)), .val (.int (8 : Int32)), .val (.int (5 : Int32)), .val (.int u5)]) (S' := [(.int (5 : Int32)), (.ref o0)]) rfl ?_
 have q15 := (q12.other W14 ne_o0_o2)
 obtain ⟨cl16, Ar16, q16, S16, M16, H16, G16⟩ := id q15
 have ib16 : ¬ ((5 : Int32) < 0 ∨ cl16.slots.size ≤ ((5 : Int32)).toNatClampNeg) := inb_of S16 ⟨by decide, by decide⟩
 refine Home.go (X14.caload hx (j := (5 : Int32)) (v := (.int u6)) (by rw [e14]; exact Ar16.1) (State.isArrayOf_alike hZ.alike Ar16.2.1) Ar16.2.2 ib16 (Has.at H16 ib16 rfl) rfl rfl (hb hby d6_12)) ?_
 refine Home.run X14 hx hby sg6_13_3 (pc' := 20) (L' := #[.val (.ref o0), .val (.int (5 : Int32)), .val (.ref o2), .val (.int (5 : Int32)), .val (.int (8 : Int32)), .val (.int (5 : Int32)), .val (.int u6)]) (S' := [(.int (255 : Int32)), (.int u6)]) rfl ?_
 refine Home.go (fun _ => XS.icmpYes X14.here hx rfl (pc0 := 20) (pc' := 26) rfl (hb hby d6_20) rfl (flt (bnd_nlt (bnd_lit (255 : Int32)) bnd_u6 (by decide +kernel))).2.2.2 (by decide) (by decide)) ?_
 refine Home.run X14 hx hby sg6_26_4 (pc' := 31) (L' := #[.val (.ref o0), .val (.int (5 : Int32)), .val (.ref o2), .val (.int (5 : Int32)), .val (.int (8 : Int32)), .val (.int (5 : Int32)), .val (.int u6)]) (S' := [(.int (u6.toInt8.toInt32)), (.int (5 : Int32)), (.ref o2)]) rfl ?_
 obtain ⟨cl17, Ar17, q17, S17, M17, H17, G17⟩ := id V14
 refine Home.wr (stB X14 hx hZ e14 Ar17 (j := (5 : Int32)) (inb_of S17 ⟨by decide, by decide⟩) rfl rfl (hb hby d6_31)) fun T17 h17 X17 e17 W17 => ?_
 have W17' := Wr.to W17 (congrArg Value.int (nar_byte_id (bnd_i2b u6) (by decide +kernel) (by decide +kernel)))
 have V17 : Arv Z h17 o2 k_o2 .byte (8 : Int32) [(.int (u1.toInt8.toInt32)), (.int (u2.toInt8.toInt32)), (.int (u3.toInt8.toInt32)), (.int (u4.toInt8.toInt32)), (.int (u5.toInt8.toInt32)), (.int (u6.toInt8.toInt32)), (.int (0 : Int32)), (.int (0 : Int32))] (.int (0 : Int32)) := Arv.set Ar17 q17 S17 M17 H17 G17 (fits_byte_b (bnd_i2b u6) (by decide +kernel) (by decide +kernel)) W17' 5 rfl (Nat.le_of_ble_eq_true rfl)
 have O17 := O14.wr W17 g_o2
 have K17 : Keep h0 h17 ([o2] : List Addr) := Keep.wr K14 W17 (Or.inl (List.mem_of_getElem? (i := 0) rfl))
 have N17 := Fr.snoc X17 N14 g_o2
 show Home T17 (mkF m 32 #[.val (.ref o0), .val (.int (5 : Int32)), .val (.ref o2), .val (.int (5 : Int32)), .val (.int (8 : Int32)), .val (.int (5 : Int32)), .val (.int u6)] [])
 refine Home.run X17 hx hby sg6_32_6 (pc' := 7) (L' := #[.val (.ref o0), .val (.int (6 : Int32)), .val (.ref o2), .val (.int (6 : Int32)), .val (.int (8 : Int32)), .val (.int (6 : Int32)), .val (.int u6)]) (S' := [(.int (8 : Int32)), (.int (6 : Int32))]) rfl ?_
 refine Home.go (fun _ => XS.icmpNo X17.here hx rfl (hb hby d6_7) rfl (tlt (by decide)).2.1) ?_
 refine Home.run X17 hx hby sg6_10_2 (pc' := 12) (L' := #[.val (.ref o0), .val (.int (6 : Int32)), .val (.ref o2), .val (.int (6 : Int32)), .val (.int (8 : Int32)), .val (.int (6 : Int32)), .val (.int u6)]) (S' := [(.int (6 : Int32)), (.ref o0)]) rfl ?_
 have q18 := (q15.other W17 ne_o0_o2)
 obtain ⟨cl19, Ar19, q19, S19, M19, H19, G19⟩ := id q18
 have ib19 : ¬ ((6 : Int32) < 0 ∨ cl19.slots.size ≤ ((6 : Int32)).toNatClampNeg) := inb_of S19 ⟨by decide, by decide⟩
 refine Home.go (X17.caload hx (j := (6 : Int32)) (v := (.int u7)) (by rw [e17]; exact Ar19.1) (State.isArrayOf_alike hZ.alike Ar19.2.1) Ar19.2.2 ib19 (Has.at H19 ib19 rfl) rfl rfl (hb hby d6_12)) ?_
 refine Home.run X17 hx hby sg6_13_3 (pc' := 20) (L' := #[.val (.ref o0), .val (.int (6 : Int32)), .val (.ref o2), .val (.int (6 : Int32)), .val (.int (8 : Int32)), .val (.int (6 : Int32)), .val (.int u7)]) (S' := [(.int (255 : Int32)), (.int u7)]) rfl ?_
 refine Home.go (fun _ => XS.icmpYes X17.here hx rfl (pc0 := 20) (pc' := 26) rfl (hb hby d6_20) rfl (flt (bnd_nlt (bnd_lit (255 : Int32)) bnd_u7 (by decide +kernel))).2.2.2 (by decide) (by decide)) ?_
 refine Home.run X17 hx hby sg6_26_4 (pc' := 31) (L' := #[.val (.ref o0), .val (.int (6 : Int32)), .val (.ref o2), .val (.int (6 : Int32)), .val (.int (8 : Int32)), .val (.int (6 : Int32)), .val (.int u7)]) (S' := [(.int (u7.toInt8.toInt32)), (.int (6 : Int32)), (.ref o2)]) rfl ?_
 obtain ⟨cl20, Ar20, q20, S20, M20, H20, G20⟩ := id V17
 refine Home.wr (stB X17 hx hZ e17 Ar20 (j := (6 : Int32)) (inb_of S20 ⟨by decide, by decide⟩) rfl rfl (hb hby d6_31)) fun T20 h20 X20 e20 W20 => ?_
 have W20' := Wr.to W20 (congrArg Value.int (nar_byte_id (bnd_i2b u7) (by decide +kernel) (by decide +kernel)))
 have V20 : Arv Z h20 o2 k_o2 .byte (8 : Int32) [(.int (u1.toInt8.toInt32)), (.int (u2.toInt8.toInt32)), (.int (u3.toInt8.toInt32)), (.int (u4.toInt8.toInt32)), (.int (u5.toInt8.toInt32)), (.int (u6.toInt8.toInt32)), (.int (u7.toInt8.toInt32)), (.int (0 : Int32))] (.int (0 : Int32)) := Arv.set Ar20 q20 S20 M20 H20 G20 (fits_byte_b (bnd_i2b u7) (by decide +kernel) (by decide +kernel)) W20' 6 rfl (Nat.le_of_ble_eq_true rfl)
 have O20 := O17.wr W20 g_o2
 have K20 : Keep h0 h20 ([o2] : List Addr) := Keep.wr K17 W20 (Or.inl (List.mem_of_getElem? (i := 0) rfl))
 have N20 := Fr.snoc X20 N17 g_o2
 show Home T20 (mkF m 32 #[.val (.ref o0), .val (.int (6 : Int32)), .val (.ref o2), .val (.int (6 : Int32)), .val (.int (8 : Int32)), .val (.int (6 : Int32)), .val (.int u7)] [])
 refine Home.run X20 hx hby sg6_32_6 (pc' := 7) (L' := #[.val (.ref o0), .val (.int (7 : Int32)), .val (.ref o2), .val (.int (7 : Int32)), .val (.int (8 : Int32)), .val (.int (7 : Int32)), .val (.int u7)]) (S' := [(.int (8 : Int32)), (.int (7 : Int32))]) rfl ?_
 refine Home.go (fun _ => XS.icmpNo X20.here hx rfl (hb hby d6_7) rfl (tlt (by decide)).2.1) ?_
 refine Home.run X20 hx hby sg6_10_2 (pc' := 12) (L' := #[.val (.ref o0), .val (.int (7 : Int32)), .val (.ref o2), .val (.int (7 : Int32)), .val (.int (8 : Int32)), .val (.int (7 : Int32)), .val (.int u7)]) (S' := [(.int (7 : Int32)), (.ref o0)]) rfl ?_
 have q21 := (q18.other W20 ne_o0_o2)
 obtain ⟨cl22, Ar22, q22, S22, M22, H22, G22⟩ := id q21
 have ib22 : ¬ ((7 : Int32) < 0 ∨ cl22.slots.size ≤ ((7 : Int32)).toNatClampNeg) := inb_of S22 ⟨by decide, by decide⟩
 refine Home.go (X20.caload hx (j := (7 : Int32)) (v := (.int u8)) (by rw [e20]; exact Ar22.1) (State.isArrayOf_alike hZ.alike Ar22.2.1) Ar22.2.2 ib22 (Has.at H22 ib22 rfl) rfl rfl (hb hby d6_12)) ?_
 refine Home.run X20 hx hby sg6_13_3 (pc' := 20) (L' := #[.val (.ref o0), .val (.int (7 : Int32)), .val (.ref o2), .val (.int (7 : Int32)), .val (.int (8 : Int32)), .val (.int (7 : Int32)), .val (.int u8)]) (S' := [(.int (255 : Int32)), (.int u8)]) rfl ?_
 refine Home.go (fun _ => XS.icmpYes X20.here hx rfl (pc0 := 20) (pc' := 26) rfl (hb hby d6_20) rfl (flt (bnd_nlt (bnd_lit (255 : Int32)) bnd_u8 (by decide +kernel))).2.2.2 (by decide) (by decide)) ?_
 refine Home.run X20 hx hby sg6_26_4 (pc' := 31) (L' := #[.val (.ref o0), .val (.int (7 : Int32)), .val (.ref o2), .val (.int (7 : Int32)), .val (.int (8 : Int32)), .val (.int (7 : Int32)), .val (.int u8)]) (S' := [(.int (u8.toInt8.toInt32)), (.int (7 : Int32)), (.ref o2)]) rfl ?_
 obtain ⟨cl23, Ar23, q23, S23, M23, H23, G23⟩ := id V20
 refine Home.wr (stB X20 hx hZ e20 Ar23 (j := (7 : Int32)) (inb_of S23 ⟨by decide, by decide⟩) rfl rfl (hb hby d6_31)) fun T23 h23 X23 e23 W23 => ?_
 have W23' := Wr.to W23 (congrArg Value.int (nar_byte_id (bnd_i2b u8) (by decide +kernel) (by decide +kernel)))
 have V23 : Arv Z h23 o2 k_o2 .byte (8 : Int32) [(.int (u1.toInt8.toInt32)), (.int (u2.toInt8.toInt32)), (.int (u3.toInt8.toInt32)), (.int (u4.toInt8.toInt32)), (.int (u5.toInt8.toInt32)), (.int (u6.toInt8.toInt32)), (.int (u7.toInt8.toInt32)), (.int (u8.toInt8.toInt32))] (.int (0 : Int32)) := Arv.set Ar23 q23 S23 M23 H23 G23 (fits_byte_b (bnd_i2b u8) (by decide +kernel) (by decide +kernel)) W23' 7 rfl (Nat.le_of_ble_eq_true rfl)
 have O23 := O20.wr W23 g_o2
 have K23 : Keep h0 h23 ([o2] : List Addr) := Keep.wr K20 W23 (Or.inl (List.mem_of_getElem? (i := 0) rfl))
 have N23 := Fr.snoc X23 N20 g_o2
 show Home T23 (mkF m 32 #[.val (.ref o0), .val (.int (7 : Int32)), .val (.ref o2), .val (.int (7 : Int32)), .val (.int (8 : Int32)), .val (.int (7 : Int32)), .val (.int u8)] [])
 refine Home.run X23 hx hby sg6_32_6 (pc' := 7) (L' := #[.val (.ref o0), .val (.int (8 : Int32)), .val (.ref o2), .val (.int (8 : Int32)), .val (.int (8 : Int32)), .val (.int (8 : Int32)), .val (.int u8)]) (S' := [(.int (8 : Int32)), (.int (8 : Int32))]) rfl ?_
 refine Home.go (fun _ => XS.icmpYes X23.here hx rfl (pc0 := 7) (pc' := 44) rfl (hb hby d6_7) rfl (flt (by decide)).2.1 (by decide) (by decide)) ?_
 refine Home.run X23 hx hby sg6_44_1 (pc' := 46) (L' := #[.val (.ref o0), .val (.int (8 : Int32)), .val (.ref o2), .val (.int (8 : Int32)), .val (.int (8 : Int32)), .val (.int (8 : Int32)), .val (.int u8)]) (S' := [(.int (8 : Int32))]) rfl ?_
 exact Home.retI X23 hx hlk hret (hb hby d6_46) (by rw [show T23.heap = h23 from e23]; exact ⟨rfl, N23, K23, V23⟩) (by decide) (by decide)
theorem rm5_7 (l : Launch) (Z : State) (a0 : Array Value) (hw : HW a0 Z) (ws : List Jvm.Cond) (o0 : Addr) (k_o0 : ClassId) (u1 u2 u3 u4 u5 u6 u7 u8 : Int32) (h0 : Heap) (n0 : Nat) (O0 : Old Z n0 h0) (V_o0 : Arv Z h0 o0 k_o0 .char (8 : Int32) [(.int u1), (.int u2), (.int u3), (.int u4), (.int u5), (.int u6), (.int u7), (.int u8)] (.int (0 : Int32))) (bnd_u1 : ¬ u1 < (0 : Int32) ∧ ¬ (255 : Int32) < u1) (bnd_u2 : ¬ u2 < (0 : Int32) ∧ ¬ (255 : Int32) < u2) (bnd_u3 : ¬ u3 < (0 : Int32) ∧ ¬ (255 : Int32) < u3) (bnd_u4 : ¬ u4 < (0 : Int32) ∧ ¬ (255 : Int32) < u4) (bnd_u5 : ¬ u5 < (0 : Int32) ∧ ¬ (255 : Int32) < u5) (bnd_u6 : ¬ u6 < (0 : Int32) ∧ ¬ (255 : Int32) < u6) (bnd_u7 : ¬ u7 < (0 : Int32) ∧ ¬ (255 : Int32) < u7) (bnd_u8 : ¬ u8 < (0 : Int32) ∧ ¬ (255 : Int32) < u8) :
    Con l Z (⟨"java/lang/StringUTF16", "compress", "([CII)[B"⟩ : MethodName) jdk_52_method_16_code 6 (some (.array .byte)) ws ({ frames := 1, cells := 1, slots := 8, locals := 18 } : Room) #[(.ref o0), (.int (0 : Int32)), (.int (8 : Int32))] h0 (fun v h L => ∃ (b1 : Addr), ∃ (k1 : ClassId), v = some (.ref b1) ∧ Fr n0 L ∧ h0.size ≤ b1 ∧ Keep h0 h [] ∧ Arv Z h b1 k1 .byte (8 : Int32) [(.int (u1.toInt8.toInt32)), (.int (u2.toInt8.toInt32)), (.int (u3.toInt8.toInt32)), (.int (u4.toInt8.toInt32)), (.int (u5.toInt8.toInt32)), (.int (u6.toInt8.toInt32)), (.int (u7.toInt8.toInt32)), (.int (u8.toInt8.toInt32))] (.int (0 : Int32))) := by
 refine own_body (plainFor_of_name own_pn0) (fun m => ef_rm5_7 m o0 (0 : Int32) (8 : Int32)) ?_
 intro p e s m below meth c s₁ hx hby hlk hml hret hZ hown hnm X0 e0
 have N0 := Fr.nil n0
 refine Home.run X0 hx hby sg5_0_1 (pc' := 1) (L' := #[.val (.ref o0), .val (.int (0 : Int32)), .val (.int (8 : Int32)), .unset, .unset, .unset]) (S' := [(.int (8 : Int32))]) rfl ?_
 refine Home.na (own_newP (aty := .byte) X0 hx hZ (own_w23 hw) e0 (g := (mkF m 1 #[.val (.ref o0), .val (.int (0 : Int32)), .val (.int (8 : Int32)), .unset, .unset, .unset] [(.int (8 : Int32))])) rfl (hb hby d5_1) rfl (by decide) (cap := 8) (by decide) (by decide) (by decide) (by decide)) fun T1 h1 k1 b1 g1 X1 e1 E1 A1 => ?_
 have g_b1 : n0 ≤ b1 := Nat.le_trans (Old.le O0) (Nat.le_of_eq g1.symm)
 have V1 : Arv Z h1 b1 k1 .byte (8 : Int32) [(.int (0 : Int32)), (.int (0 : Int32)), (.int (0 : Int32)), (.int (0 : Int32)), (.int (0 : Int32)), (.int (0 : Int32)), (.int (0 : Int32)), (.int (0 : Int32))] (.int (0 : Int32)) := (Arv.new A1 (by decide)).pad (pad_rep [] (.int (0 : Int32)) 8)
 have O1 := O0.ext E1
 have K1 : Keep h0 h1 ([] : List Addr) := Keep.ext (Keep.refl h0 ([] : List Addr)) E1
 refine Home.run X1 hx hby sg5_3_6 (pc' := 9) (L' := #[.val (.ref o0), .val (.int (0 : Int32)), .val (.int (8 : Int32)), .val (.ref b1), .unset, .unset]) (S' := [(.int (8 : Int32)), (.int (0 : Int32)), (.ref b1), (.int (0 : Int32)), (.ref o0)]) rfl ?_
 have ne2 : o0 ≠ b1 := (Nat.ne_of_lt (Nat.lt_of_lt_of_le V_o0.lt (Nat.le_trans (Nat.le_refl _) (Nat.le_of_eq g1.symm))))
 refine Home.call (own_static X1 hx hZ hown (own_w24 hw) (own_w25 hw) (own_w21 hw) (own_w26 hw) (by decide) (rm6_7 l Z a0 hw [] o0 b1 k_o0 u1 u2 u3 u4 u5 u6 u7 u8 k1 h1 n0 O1 (V_o0.keep K1 nin0) bnd_u1 V1 g_b1 ne2 bnd_u2 bnd_u3 bnd_u4 bnd_u5 bnd_u6 bnd_u7 bnd_u8) e1 rfl (by rw [hml]; rfl) (argsL := [(.ref o0), (.int (0 : Int32)), (.ref b1), (.int (0 : Int32)), (.int (8 : Int32))]) (rest := []) (lenOf own_pd0 rfl) rfl rfl (W := 0) (by exact hW0) (by decide) (by decide) (hb hby d5_9) (by decide) (by decide)) ?_
 rintro _ T3 L3 X3 ⟨rfl, N3q, K3q, P3_0⟩
 have O3 := Old.keep O1 K3q (allS g_b1 all0)
 have K3 : Keep h0 T3.heap ([] : List Addr) := Keep.trans K1 K3q (allS (Or.inr (Nat.le_trans (Nat.le_refl _) (Nat.le_of_eq g1.symm))) all0)
 have N3 := Fr.app N0 N3q
 show Home T3 (mkF m 12 #[.val (.ref o0), .val (.int (0 : Int32)), .val (.int (8 : Int32)), .val (.ref b1), .unset, .unset] [(.int (8 : Int32))])
 refine Home.run X3 hx hby sg5_12_3 (pc' := 17) (L' := #[.val (.ref o0), .val (.int (0 : Int32)), .val (.int (8 : Int32)), .val (.ref b1), .val (.int (8 : Int32)), .unset]) (S' := [(.int (8 : Int32)), (.int (8 : Int32))]) rfl ?_
 refine Home.go (fun _ => XS.icmpYes X3.here hx rfl (pc0 := 17) (pc' := 57) rfl (hb hby d5_17) rfl (teq (by decide)).1 (by decide) (by decide)) ?_
 refine Home.run X3 hx hby sg5_57_1 (pc' := 58) (L' := #[.val (.ref o0), .val (.int (0 : Int32)), .val (.int (8 : Int32)), .val (.ref b1), .val (.int (8 : Int32)), .unset]) (S' := [(.ref b1)]) rfl ?_
 exact Home.retR X3 hx hlk hret rfl rfl (hb hby d5_58) ⟨b1, k1, rfl, N3, (Nat.le_trans (Nat.le_refl _) (Nat.le_of_eq g1.symm)), K3, P3_0⟩ (by decide) (by decide)
theorem rm7_7 (l : Launch) (Z : State) (a0 : Array Value) (hw : HW a0 Z) (ws : List Jvm.Cond) (o0 : Addr) (k_o0 : ClassId) (u1 u2 u3 u4 u5 u6 u7 u8 : Int32) (h0 : Heap) (n0 : Nat) (O0 : Old Z n0 h0) (V_o0 : Arv Z h0 o0 k_o0 .byte (8 : Int32) [(.int u1), (.int u2), (.int u3), (.int u4), (.int u5), (.int u6), (.int u7), (.int u8)] (.int (0 : Int32))) :
    Con l Z (⟨"java/lang/StringUTF16", "coderFromArrayLen", "([BI)B"⟩ : MethodName) jdk_52_method_15_code 2 (some .byte) ws ({ frames := 0, cells := 0, slots := 0, locals := 0 } : Room) #[(.ref o0), (.int (8 : Int32))] h0 (Pur (some (.int (0 : Int32))) h0) := by
 refine own_body (plainFor_of_name own_pn0) (fun m => ef_rm7_7 m o0 (8 : Int32)) ?_
 intro p e s m below meth c s₁ hx hby hlk hml hret hZ hown hnm X0 e0
 have N0 := Fr.nil n0
 refine Home.run X0 hx hby sg7_0_2 (pc' := 2) (L' := #[.val (.ref o0), .val (.int (8 : Int32))]) (S' := [(.ref o0), (.int (8 : Int32))]) rfl ?_
 obtain ⟨cl1, Ar1, q1, S1, M1, H1, G1⟩ := id V_o0
 refine Home.go (own_alen X0 hx hZ e0 Ar1 S1 M1 rfl rfl (hb hby d7_2)) ?_
 refine Home.run X0 hx hby sg7_3_4 (pc' := 8) (L' := #[.val (.ref o0), .val (.int (8 : Int32))]) (S' := [(.int (0 : Int32))]) rfl ?_
 exact Home.retN X0 hx hlk (t := .byte) hret (by simp) (hb hby d7_8) ⟨congrArg some (congrArg Value.int (by first | rfl | exact nar_i2c _ | exact nar_i2b _)), rfl, e0⟩ (by decide) (by decide)
theorem rm3_7 (l : Launch) (Z : State) (a0 : Array Value) (hw : HW a0 Z) (ws : List Jvm.Cond) (o0 o1 : Addr) (sv_COMPACT_STRINGS : Int32) (k_o1 : ClassId) (u1 u2 u3 u4 u5 u6 u7 u8 : Int32) (h0 : Heap) (n0 : Nat) (O0 : Old Z n0 h0) (S_COMPACT_STRINGS : Sta Z Z.heap "java/lang/String" "COMPACT_STRINGS" "Z" (.int sv_COMPACT_STRINGS)) (hCS : ¬ (sv_COMPACT_STRINGS = (0 : Int32))) (V_o1 : Arv Z h0 o1 k_o1 .char (8 : Int32) [(.int u1), (.int u2), (.int u3), (.int u4), (.int u5), (.int u6), (.int u7), (.int u8)] (.int (0 : Int32))) (bnd_u1 : ¬ u1 < (0 : Int32) ∧ ¬ (255 : Int32) < u1) (bnd_u2 : ¬ u2 < (0 : Int32) ∧ ¬ (255 : Int32) < u2) (bnd_u3 : ¬ u3 < (0 : Int32) ∧ ¬ (255 : Int32) < u3) (bnd_u4 : ¬ u4 < (0 : Int32) ∧ ¬ (255 : Int32) < u4) (bnd_u5 : ¬ u5 < (0 : Int32) ∧ ¬ (255 : Int32) < u5) (bnd_u6 : ¬ u6 < (0 : Int32) ∧ ¬ (255 : Int32) < u6) (bnd_u7 : ¬ u7 < (0 : Int32) ∧ ¬ (255 : Int32) < u7) (bnd_u8 : ¬ u8 < (0 : Int32) ∧ ¬ (255 : Int32) < u8) (E_o0 : Exa Z h0 o0 "java/lang/String") (F_coder_o0 : Fld Z h0 o0 "java/lang/String" "coder" "B" (.int (0 : Int32))) (g_o0 : n0 ≤ o0) (F_value_o0 : Fld Z h0 o0 "java/lang/String" "value" "[B" .null) :
    Con l Z (⟨"java/lang/String", "<init>", "([CIILjava/lang/Void;)V"⟩ : MethodName) jdk_42_method_149_code 6 none ws ({ frames := 2, cells := 1, slots := 8, locals := 35 } : Room) #[(.ref o0), (.ref o1), (.int (0 : Int32)), (.int (8 : Int32)), .null] h0 (fun v h L => ∃ (b1_3 : Addr), ∃ (k1_3 : ClassId), v = none ∧ Fr n0 L ∧ h0.size ≤ b1_3 ∧ Keep h0 h [o0] ∧ Exa Z h o0 "java/lang/String" ∧ Fld Z h o0 "java/lang/String" "coder" "B" (.int (0 : Int32)) ∧ Fld Z h o0 "java/lang/String" "value" "[B" (.ref b1_3) ∧ Arv Z h b1_3 k1_3 .byte (8 : Int32) [(.int (u1.toInt8.toInt32)), (.int (u2.toInt8.toInt32)), (.int (u3.toInt8.toInt32)), (.int (u4.toInt8.toInt32)), (.int (u5.toInt8.toInt32)), (.int (u6.toInt8.toInt32)), (.int (u7.toInt8.toInt32)), (.int (u8.toInt8.toInt32))] (.int (0 : Int32))) := by
 refine own_body (plainFor_of_name own_pn1) (fun m => ef_rm3_7 m o0 o1 (0 : Int32) (8 : Int32)) ?_
 intro p e s m below meth c s₁ hx hby hlk hml hret hZ hown hnm X0 e0
 have N0 := Fr.nil n0
 refine Home.run X0 hx hby sg3_0_1 (pc' := 1) (L' := #[.val (.ref o0), .val (.ref o1), .val (.int (0 : Int32)), .val (.int (8 : Int32)), .val .null, .unset]) (S' := [(.ref o0)]) rfl ?_
 refine Home.st (initO X0 hx hZ hown (own_w15 hw) (own_w16 hw) (own_w17 hw) e0 rfl (by rw [hml]; rfl) rfl (hb hby d3_1) (by decide) (W := 0) (by exact hW0) (by decide)) fun T1 X1 e1 => ?_
 refine Home.run X1 hx hby sg3_4_1 (pc' := 5) (L' := #[.val (.ref o0), .val (.ref o1), .val (.int (0 : Int32)), .val (.int (8 : Int32)), .val .null, .unset]) (S' := [(.int (8 : Int32))]) rfl ?_
 refine Home.go (fun _ => XS.ifYes X1.here hx rfl (pc0 := 5) (pc' := 27) rfl (hb hby d3_5) rfl ((if0 _ _).trans (feq (by decide)).2) (by decide) (by decide)) ?_
 refine Home.st (getS2 X1 hx hZ hown (host := "") (Or.inl (own_w18 hw)) Via.refl e1 (S_COMPACT_STRINGS.ext O0.2) rfl (hb hby d3_27)) fun T2 X2 e2 => ?_
 refine Home.go (fun _ => XS.ifNo X2.here hx rfl (hb hby d3_30) rfl ((if0 _ _).trans (feq hCS).1)) ?_
 refine Home.run X2 hx hby sg3_33_3 (pc' := 36) (L' := #[.val (.ref o0), .val (.ref o1), .val (.int (0 : Int32)), .val (.int (8 : Int32)), .val .null, .unset]) (S' := [(.int (8 : Int32)), (.int (0 : Int32)), (.ref o1)]) rfl ?_
 refine Home.call (own_static X2 hx hZ hown (own_w19 hw) (own_w20 hw) (own_w21 hw) (own_w22 hw) (by decide) (rm5_7 l Z a0 hw [] o1 k_o1 u1 u2 u3 u4 u5 u6 u7 u8 h0 n0 O0 V_o1 bnd_u1 bnd_u2 bnd_u3 bnd_u4 bnd_u5 bnd_u6 bnd_u7 bnd_u8) e2 rfl (by rw [hml]; rfl) (argsL := [(.ref o1), (.int (0 : Int32)), (.int (8 : Int32))]) (rest := []) (lenOf own_pd1 rfl) rfl rfl (W := 0) (by exact hW0) (by decide) (by decide) (hb hby d3_36) (by decide) (by decide)) ?_
 rintro _ T3 L3 X3 ⟨b1_3, k1_3, rfl, N3q, sz_b1_3, K3q, P3_0⟩
 have g_b1_3 : n0 ≤ b1_3 := Nat.le_trans (Old.le O0) sz_b1_3
 have O3 := Old.keep O0 K3q all0
 have K3 : Keep h0 T3.heap ([o0] : List Addr) := Keep.trans (Keep.refl h0 ([o0] : List Addr)) K3q all0
 have N3 := Fr.app N0 N3q
 show Home T3 (mkF m 39 #[.val (.ref o0), .val (.ref o1), .val (.int (0 : Int32)), .val (.int (8 : Int32)), .val .null, .unset] [(.ref b1_3)])
 refine Home.run X3 hx hby sg3_39_4 (pc' := 45) (L' := #[.val (.ref o0), .val (.ref o1), .val (.int (0 : Int32)), .val (.int (8 : Int32)), .val .null, .val (.ref b1_3)]) (S' := [(.int (8 : Int32)), (.ref b1_3), (.ref o0)]) rfl ?_
 refine Home.st (own_pure (own_static X3 hx hZ hown (own_w27 hw) (own_w28 hw) (own_w21 hw) (own_w29 hw) (by decide) (rm7_7 l Z a0 hw [] b1_3 k1_3 (u1.toInt8.toInt32) (u2.toInt8.toInt32) (u3.toInt8.toInt32) (u4.toInt8.toInt32) (u5.toInt8.toInt32) (u6.toInt8.toInt32) (u7.toInt8.toInt32) (u8.toInt8.toInt32) T3.heap n0 O3 P3_0) rfl rfl (by rw [hml]; rfl) (argsL := [(.ref b1_3), (.int (8 : Int32))]) (rest := [(.ref o0)]) (lenOf own_pd2 rfl) rfl rfl (W := 1) (by exact hW0) (by decide) (by decide) (hb hby d3_45) (by decide) (by decide))) fun T4 X4 e4 => ?_
 have q5 := (F_coder_o0.keep K3q nin0)
 refine Home.wr (putFN X4 hx hZ hown (own_w30 hw) Via.refl e4 q5 (E_o0.keep K3) (Or.inr ⟨(own_w31 hw), rfl, hnm⟩) (own_w6 hw) (ty := .byte) (v := (.int (0 : Int32))) (v' := (.int (0 : Int32))) (by decide) rfl rfl rfl rfl (hb hby d3_48)) fun T6 h6 X6 e6 W6 => ?_
 have Fw6 := q5.same W6
 have O6 := O3.wr W6 g_o0
 have K6 : Keep h0 h6 ([o0] : List Addr) := Keep.wr K3 W6 (Or.inl (List.mem_of_getElem? (i := 0) rfl))
 have N6 := Fr.snoc X6 N3 g_o0
 show Home T6 (mkF m 51 #[.val (.ref o0), .val (.ref o1), .val (.int (0 : Int32)), .val (.int (8 : Int32)), .val .null, .val (.ref b1_3)] [])
 refine Home.run X6 hx hby sg3_51_2 (pc' := 54) (L' := #[.val (.ref o0), .val (.ref o1), .val (.int (0 : Int32)), .val (.int (8 : Int32)), .val .null, .val (.ref b1_3)]) (S' := [(.ref b1_3), (.ref o0)]) rfl ?_
 have q7 := ((F_value_o0.keep K3q nin0).other W6 (Or.inr (slot_ne (Or.inr (own_w33 hw)) (Or.inr (own_w31 hw)) (by decide) (t := (.array .byte)) (t' := .byte) (by decide) (by decide))))
 refine Home.wr (putF X6 hx hZ hown (host := "") (Or.inl (own_w32 hw)) Via.refl e6 q7 (E_o0.keep K6) (Or.inr ⟨(own_w33 hw), rfl, hnm⟩) (own_w6 hw) (ty := (.array .byte)) (by decide) rfl rfl rfl rfl (hb hby d3_54)) fun T8 h8 X8 e8 W8 => ?_
 have Fw8 := q7.same W8
 have O8 := O6.wr W8 g_o0
 have K8 : Keep h0 h8 ([o0] : List Addr) := Keep.wr K6 W8 (Or.inl (List.mem_of_getElem? (i := 0) rfl))
 have N8 := Fr.snoc X8 N6 g_o0
 have q9 := (Fw6.other W8 (Or.inr (slot_ne (Or.inr (own_w31 hw)) (Or.inr (own_w33 hw)) (by decide) (t := .byte) (t' := (.array .byte)) (by decide) (by decide))))
 have ne10 : b1_3 ≠ o0 := (Ne.symm (Nat.ne_of_lt (Nat.lt_of_lt_of_le E_o0.lt (Nat.le_trans (Nat.le_refl _) sz_b1_3))))
 have q11 := ((P3_0.other W6 ne10).other W8 ne10)
 exact Home.ret0 X8 hx hlk hret (hb hby d3_57) (by rw [show T8.heap = h8 from e8]; exact ⟨b1_3, k1_3, rfl, N8, (Nat.le_trans (Nat.le_refl _) sz_b1_3), K8, (E_o0.keep K8), q9, Fw8, q11⟩) (by decide) (by decide)
theorem rm2_7 (l : Launch) (Z : State) (a0 : Array Value) (hw : HW a0 Z) (ws : List Jvm.Cond) (o0 o1 : Addr) (k_o1 : ClassId) (u1 u2 u3 u4 u5 u6 u7 u8 sv_COMPACT_STRINGS : Int32) (h0 : Heap) (n0 : Nat) (O0 : Old Z n0 h0) (V_o1 : Arv Z h0 o1 k_o1 .char (8 : Int32) [(.int u1), (.int u2), (.int u3), (.int u4), (.int u5), (.int u6), (.int u7), (.int u8)] (.int (0 : Int32))) (S_COMPACT_STRINGS : Sta Z Z.heap "java/lang/String" "COMPACT_STRINGS" "Z" (.int sv_COMPACT_STRINGS)) (E_o0 : Exa Z h0 o0 "java/lang/String") (F_coder_o0 : Fld Z h0 o0 "java/lang/String" "coder" "B" (.int (0 : Int32))) (F_value_o0 : Fld Z h0 o0 "java/lang/String" "value" "[B" .null) (bnd_u1 : ¬ u1 < (0 : Int32) ∧ ¬ (255 : Int32) < u1) (bnd_u2 : ¬ u2 < (0 : Int32) ∧ ¬ (255 : Int32) < u2) (bnd_u3 : ¬ u3 < (0 : Int32) ∧ ¬ (255 : Int32) < u3) (bnd_u4 : ¬ u4 < (0 : Int32) ∧ ¬ (255 : Int32) < u4) (bnd_u5 : ¬ u5 < (0 : Int32) ∧ ¬ (255 : Int32) < u5) (bnd_u6 : ¬ u6 < (0 : Int32) ∧ ¬ (255 : Int32) < u6) (bnd_u7 : ¬ u7 < (0 : Int32) ∧ ¬ (255 : Int32) < u7) (bnd_u8 : ¬ u8 < (0 : Int32) ∧ ¬ (255 : Int32) < u8) (g_o0 : n0 ≤ o0) (hCS : ¬ (sv_COMPACT_STRINGS = (0 : Int32))) :
    Con l Z (⟨"java/lang/String", "<init>", "([C)V"⟩ : MethodName) jdk_42_method_3_code 2 none ws ({ frames := 3, cells := 1, slots := 8, locals := 52 } : Room) #[(.ref o0), (.ref o1)] h0 (fun v h L => ∃ (b1_3_2 : Addr), ∃ (k1_3_2 : ClassId), v = none ∧ Fr n0 L ∧ h0.size ≤ b1_3_2 ∧ Keep h0 h [o0] ∧ Exa Z h o0 "java/lang/String" ∧ Fld Z h o0 "java/lang/String" "coder" "B" (.int (0 : Int32)) ∧ Fld Z h o0 "java/lang/String" "value" "[B" (.ref b1_3_2) ∧ Arv Z h b1_3_2 k1_3_2 .byte (8 : Int32) [(.int (u1.toInt8.toInt32)), (.int (u2.toInt8.toInt32)), (.int (u3.toInt8.toInt32)), (.int (u4.toInt8.toInt32)), (.int (u5.toInt8.toInt32)), (.int (u6.toInt8.toInt32)), (.int (u7.toInt8.toInt32)), (.int (u8.toInt8.toInt32))] (.int (0 : Int32))) := by
 refine own_body (plainFor_of_name own_pn1) (fun m => ef_rm2_7 m o0 o1) ?_
 intro p e s m below meth c s₁ hx hby hlk hml hret hZ hown hnm X0 e0
 have N0 := Fr.nil n0
 refine Home.run X0 hx hby sg2_0_4 (pc' := 4) (L' := #[.val (.ref o0), .val (.ref o1)]) (S' := [(.ref o1), (.int (0 : Int32)), (.ref o1), (.ref o0)]) rfl ?_
 obtain ⟨cl1, Ar1, q1, S1, M1, H1, G1⟩ := id V_o1
 refine Home.go (own_alen X0 hx hZ e0 Ar1 S1 M1 rfl rfl (hb hby d2_4)) ?_
 refine Home.run X0 hx hby sg2_5_1 (pc' := 6) (L' := #[.val (.ref o0), .val (.ref o1)]) (S' := [.null, (.int (8 : Int32)), (.int (0 : Int32)), (.ref o1), (.ref o0)]) rfl ?_
 refine Home.call (own_special X0 hx hZ hown rfl (own_w11 hw) (own_w12 hw) (own_w7 hw) (own_w14 hw) (by decide) (rm3_7 l Z a0 hw [] o0 o1 sv_COMPACT_STRINGS k_o1 u1 u2 u3 u4 u5 u6 u7 u8 h0 n0 O0 S_COMPACT_STRINGS hCS V_o1 bnd_u1 bnd_u2 bnd_u3 bnd_u4 bnd_u5 bnd_u6 bnd_u7 bnd_u8 E_o0 F_coder_o0 g_o0 F_value_o0) e0 rfl (by rw [hml]; rfl) (a := o0) (argsL := [(.ref o1), (.int (0 : Int32)), (.int (8 : Int32)), .null]) (rest := []) (lenOf own_pd3 rfl) rfl rfl (W := 0) (by exact hW0) (by decide) (by decide) (hb hby d2_6) (by decide) (by decide)) ?_
 rintro _ T2 L2 X2 ⟨b1_3_2, k1_3_2, rfl, N2q, sz_b1_3_2, K2q, P2_0, P2_1, P2_2, P2_3⟩
 have g_b1_3_2 : n0 ≤ b1_3_2 := Nat.le_trans (Old.le O0) sz_b1_3_2
 have O2 := Old.keep O0 K2q (allS g_o0 all0)
 have K2 : Keep h0 T2.heap ([o0] : List Addr) := Keep.trans (Keep.refl h0 ([o0] : List Addr)) K2q (allS (Or.inl (List.mem_of_getElem? (i := 0) rfl)) all0)
 have N2 := Fr.app N0 N2q
 show Home T2 (mkF m 9 #[.val (.ref o0), .val (.ref o1)] [])
 exact Home.ret0 X2 hx hlk hret (hb hby d2_9) ⟨b1_3_2, k1_3_2, rfl, N2, (Nat.le_trans (Nat.le_refl _) sz_b1_3_2), K2, P2_0, P2_1, P2_2, P2_3⟩ (by decide) (by decide)
theorem rm3_8 (l : Launch) (Z : State) (a0 : Array Value) (hw : HW a0 Z) (ws : List Jvm.Cond) (o0 o1 : Addr) (h0 : Heap) (n0 : Nat) (O0 : Old Z n0 h0) (E_o0 : Exa Z h0 o0 "java/lang/String") (F_value_o0 : Fld Z h0 o0 "java/lang/String" "value" "[B" .null) (g_o0 : n0 ≤ o0) (F_coder_o0 : Fld Z h0 o0 "java/lang/String" "coder" "B" (.int (0 : Int32))) :
    ConW l Z own_EL ([o0] : List Addr) false (⟨"java/lang/String", "<init>", "([CIILjava/lang/Void;)V"⟩ : MethodName) jdk_42_method_149_code 6 none ws ({ frames := 1, cells := 4, slots := 8, locals := 12 } : Room) #[(.ref o0), (.ref o1), (.int (0 : Int32)), (.int (0 : Int32)), .null] h0 (fun v h L => ∃ (b2 : Jvm.Addr), ∃ (k2 : ClassId), v = none ∧ Fr n0 L ∧ Keep h0 h [o0] ∧ Exa Z h o0 "java/lang/String" ∧ Fld Z h o0 "java/lang/String" "value" "[B" (.ref b2) ∧ Fld Z h o0 "java/lang/String" "coder" "B" (.int (0 : Int32)) ∧ Arv Z h b2 k2 .byte (0 : Int32) [] (.int (0 : Int32))) := by
 refine own_bodyW (plainFor_of_name own_pn1) (fun m => ef_rm3_8 m o0 o1 (0 : Int32)) ?_
 intro p e s m below meth c s₁ hx hby hlk hml hret hZ hown hnm X0 e0 Cd0
 have N0 := Fr.nil n0
 refine Home.run X0 hx hby sg3_0_1 (pc' := 1) (L' := #[.val (.ref o0), .val (.ref o1), .val (.int (0 : Int32)), .val (.int (0 : Int32)), .val .null, .unset]) (S' := [(.ref o0)]) rfl ?_
 refine Home.st (initO X0 hx hZ hown (own_w15 hw) (own_w16 hw) (own_w17 hw) e0 rfl (by rw [hml]; rfl) rfl (hb hby d3_1) (by decide) (W := 0) (by exact hW0) (by decide)) fun T1 X1 e1 => ?_
 refine Home.run X1 hx hby sg3_4_1 (pc' := 5) (L' := #[.val (.ref o0), .val (.ref o1), .val (.int (0 : Int32)), .val (.int (0 : Int32)), .val .null, .unset]) (S' := [(.int (0 : Int32))]) rfl ?_
 refine Home.go (fun _ => XS.ifNo X1.here hx rfl (hb hby d3_5) rfl ((if0 _ _).trans (teq (by decide)).2)) ?_
 refine Home.run X1 hx hby sg3_8_1 (pc' := 9) (L' := #[.val (.ref o0), .val (.ref o1), .val (.int (0 : Int32)), .val (.int (0 : Int32)), .val .null, .unset]) (S' := [(.ref o0)]) rfl ?_
 obtain ⟨ad2, b2, k2, T2, h2, X2, e2, E2, hZ, hown, Cd2, Ea2, Fc2, Fv2, V2, la2, lb2, hne2, st2⟩ := own_ldcW X1 hx hZ hown (own_hEL hw) Cd0 (own_w74 hw) (own_wS hw) e1 (List.mem_of_getElem? (i := 2) rfl) (vs := []) (z := (0 : Int32)) ⟨by decide, by rfl⟩ (by decide) (by decide) (g := (mkF m 9 #[.val (.ref o0), .val (.ref o1), .val (.int (0 : Int32)), .val (.int (0 : Int32)), .val .null, .unset] [(.ref o0)])) rfl (hb hby d3_9) (n := 0) (by decide) (by decide) (by decide) (by decide)
 refine Home.go st2 ?_
 have O2 := O0.ext E2
 have K2 : Keep h0 h2 ([o0] : List Addr) := Keep.ext (Keep.refl h0 ([o0] : List Addr)) E2
 show Home T2 (mkF m 11 #[.val (.ref o0), .val (.ref o1), .val (.int (0 : Int32)), .val (.int (0 : Int32)), .val .null, .unset] [(.ref ad2), (.ref o0)])
 refine Home.st (getF X2 hx hZ hown (host := "") (Or.inl (own_w32 hw)) Via.refl e2 Fv2 rfl rfl (hb hby d3_11)) fun T3 X3 e3 => ?_
 have q4 := (F_value_o0.ext E2)
 refine Home.wr (putF X3 hx hZ hown (host := "") (Or.inl (own_w32 hw)) Via.refl e3 q4 (E_o0.keep K2) (Or.inr ⟨(own_w33 hw), rfl, hnm⟩) (own_w6 hw) (ty := (.array .byte)) (by decide) rfl rfl rfl rfl (hb hby d3_14)) fun T5 h5 X5 e5 W5 => ?_
 have Fw5 := q4.same W5
 have O5 := O2.wr W5 g_o0
 have K5 : Keep h0 h5 ([o0] : List Addr) := Keep.wr K2 W5 (Or.inl (List.mem_of_getElem? (i := 0) rfl))
 have Cd5 := Cold.wr Cd2 W5 (Cold.safe Cd2 (List.mem_of_getElem? (i := 0) rfl))
 have N5 := Fr.snoc X5 N0 g_o0
 show Home T5 (mkF m 17 #[.val (.ref o0), .val (.ref o1), .val (.int (0 : Int32)), .val (.int (0 : Int32)), .val .null, .unset] [])
 refine Home.run X5 hx hby sg3_17_1 (pc' := 18) (L' := #[.val (.ref o0), .val (.ref o1), .val (.int (0 : Int32)), .val (.int (0 : Int32)), .val .null, .unset]) (S' := [(.ref o0)]) rfl ?_
 obtain ⟨ad6, b6, k6, T6, h6, X6, e6, E6, hZ, hown, Cd6, Ea6, Fc6, Fv6, V6, la6, lb6, hne6, st6⟩ := own_ldcW X5 hx hZ hown (own_hEL hw) Cd5 (own_w74 hw) (own_wS hw) e5 (List.mem_of_getElem? (i := 2) rfl) (vs := []) (z := (0 : Int32)) ⟨by decide, by rfl⟩ (by decide) (by decide) (g := (mkF m 18 #[.val (.ref o0), .val (.ref o1), .val (.int (0 : Int32)), .val (.int (0 : Int32)), .val .null, .unset] [(.ref o0)])) rfl (hb hby d3_18) (n := 0) (by decide) (by decide) (by decide) (by decide)
 refine Home.go st6 ?_
 have O6 := O5.ext E6
 have K6 : Keep h0 h6 ([o0] : List Addr) := Keep.ext K5 E6
 refine Home.st (getF X6 hx hZ hown (host := "") (Or.inl (own_w30 hw)) Via.refl e6 Fc6 rfl rfl (hb hby d3_20)) fun T7 X7 e7 => ?_
 have q8 := (((F_coder_o0.ext E2).other W5 (Or.inr (slot_ne (Or.inr (own_w31 hw)) (Or.inr (own_w33 hw)) (by decide) (t := .byte) (t' := (.array .byte)) (by decide) (by decide)))).ext E6)
 refine Home.wr (putFN X7 hx hZ hown (own_w30 hw) Via.refl e7 q8 (E_o0.keep K6) (Or.inr ⟨(own_w31 hw), rfl, hnm⟩) (own_w6 hw) (ty := .byte) (v := (.int (0 : Int32))) (v' := (.int (0 : Int32))) (by decide) rfl rfl rfl rfl (hb hby d3_23)) fun T9 h9 X9 e9 W9 => ?_
 have Fw9 := q8.same W9
 have O9 := O6.wr W9 g_o0
 have K9 : Keep h0 h9 ([o0] : List Addr) := Keep.wr K6 W9 (Or.inl (List.mem_of_getElem? (i := 0) rfl))
 have Cd9 := Cold.wr Cd6 W9 (Cold.safe Cd6 (List.mem_of_getElem? (i := 0) rfl))
 have N9 := Fr.snoc X9 N5 g_o0
 show Home T9 (mkF m 26 #[.val (.ref o0), .val (.ref o1), .val (.int (0 : Int32)), .val (.int (0 : Int32)), .val .null, .unset] [])
 have q10 := ((Fw5.ext E6).other W9 (Or.inr (slot_ne (Or.inr (own_w33 hw)) (Or.inr (own_w31 hw)) (by decide) (t := (.array .byte)) (t' := .byte) (by decide) (by decide))))
 have ne11 : b2 ≠ o0 := (Ne.symm (hne2 _ (List.mem_of_getElem? (i := 0) rfl)).2)
 have q12 := (((V2.other W5 ne11).ext E6).other W9 ne11)
 exact HomeW.ret0 X9 hx hlk hZ (own_hEL hw) e9 Cd9 hret (hb hby d3_26) (by rw [show T9.heap = h9 from e9]; exact ⟨b2, k2, rfl, N9, K9, (E_o0.keep K9), q10, Fw9, q12⟩) (by decide) (by decide)
theorem rm2_8 (l : Launch) (Z : State) (a0 : Array Value) (hw : HW a0 Z) (ws : List Jvm.Cond) (o0 o1 : Addr) (k_o1 : ClassId) (h0 : Heap) (n0 : Nat) (O0 : Old Z n0 h0) (V_o1 : Arv Z h0 o1 k_o1 .char (0 : Int32) [] (.int (0 : Int32))) (E_o0 : Exa Z h0 o0 "java/lang/String") (F_value_o0 : Fld Z h0 o0 "java/lang/String" "value" "[B" .null) (F_coder_o0 : Fld Z h0 o0 "java/lang/String" "coder" "B" (.int (0 : Int32))) (g_o0 : n0 ≤ o0) :
    ConW l Z own_EL ([o0] : List Addr) false (⟨"java/lang/String", "<init>", "([C)V"⟩ : MethodName) jdk_42_method_3_code 2 none ws ({ frames := 2, cells := 4, slots := 8, locals := 29 } : Room) #[(.ref o0), (.ref o1)] h0 (fun v h L => ∃ (b2_2 : Jvm.Addr), ∃ (k2_2 : ClassId), v = none ∧ Fr n0 L ∧ Keep h0 h [o0] ∧ Exa Z h o0 "java/lang/String" ∧ Fld Z h o0 "java/lang/String" "value" "[B" (.ref b2_2) ∧ Fld Z h o0 "java/lang/String" "coder" "B" (.int (0 : Int32)) ∧ Arv Z h b2_2 k2_2 .byte (0 : Int32) [] (.int (0 : Int32))) := by
 refine own_bodyW (plainFor_of_name own_pn1) (fun m => ef_rm2_8 m o0 o1) ?_
 intro p e s m below meth c s₁ hx hby hlk hml hret hZ hown hnm X0 e0 Cd0
 have N0 := Fr.nil n0
 refine Home.run X0 hx hby sg2_0_4 (pc' := 4) (L' := #[.val (.ref o0), .val (.ref o1)]) (S' := [(.ref o1), (.int (0 : Int32)), (.ref o1), (.ref o0)]) rfl ?_
 obtain ⟨cl1, Ar1, q1, S1, M1, H1, G1⟩ := id V_o1
 refine Home.go (own_alen X0 hx hZ e0 Ar1 S1 M1 rfl rfl (hb hby d2_4)) ?_
 refine Home.run X0 hx hby sg2_5_1 (pc' := 6) (L' := #[.val (.ref o0), .val (.ref o1)]) (S' := [.null, (.int (0 : Int32)), (.int (0 : Int32)), (.ref o1), (.ref o0)]) rfl ?_
 refine Home.call (own_specialW X0 hx hZ hown (own_hEL hw) Cd0 (allS (List.mem_of_getElem? (i := 0) rfl) all0) rfl (own_w11 hw) (own_w12 hw) (own_w7 hw) (own_w14 hw) (by decide) (rm3_8 l Z a0 hw [] o0 o1 h0 n0 O0 E_o0 F_value_o0 g_o0 F_coder_o0) e0 rfl (by rw [hml]; rfl) (a := o0) (argsL := [(.ref o1), (.int (0 : Int32)), (.int (0 : Int32)), .null]) (rest := []) (lenOf own_pd3 rfl) rfl rfl (W := 0) (by exact hW0) (by decide) (by decide) (hb hby d2_6) (by decide) (by decide)) ?_
 rintro _ T2 L2 X2 ⟨⟨b2_2, k2_2, rfl, N2q, K2q, P2_0, P2_1, P2_2, P2_3⟩, hZ, hown, Cd2, sR2⟩
 have O2 := Old.keep O0 K2q (allS g_o0 all0)
 have K2 : Keep h0 T2.heap ([o0] : List Addr) := Keep.trans (Keep.refl h0 ([o0] : List Addr)) K2q (allS (Or.inl (List.mem_of_getElem? (i := 0) rfl)) all0)
 have N2 := Fr.app N0 N2q
 show Home T2 (mkF m 9 #[.val (.ref o0), .val (.ref o1)] [])
 exact HomeW.ret0 X2 hx hlk hZ (own_hEL hw) rfl Cd2 hret (hb hby d2_9) ⟨b2_2, k2_2, rfl, N2, K2, P2_0, P2_1, P2_2, P2_3⟩ (by decide) (by decide)
theorem rm1_0 (l : Launch) (Z : State) (a0 : Array Value) (hw : HW a0 Z) (ws : List Jvm.Cond) (o0 : Addr) (k_o0 : ClassId) (u1 u2 u3 u4 u5 u6 u7 u8 sv_COMPACT_STRINGS : Int32) (h0 : Heap) (n0 : Nat) (O0 : Old Z n0 h0) (V_o0 : Arv Z h0 o0 k_o0 .char (8 : Int32) [(.int u1), (.int u2), (.int u3), (.int u4), (.int u5), (.int u6), (.int u7), (.int u8)] (.int (0 : Int32))) (bnd_u1 : ¬ u1 < (0 : Int32) ∧ ¬ (255 : Int32) < u1) (S_COMPACT_STRINGS : Sta Z Z.heap "java/lang/String" "COMPACT_STRINGS" "Z" (.int sv_COMPACT_STRINGS)) (hCS : ¬ (sv_COMPACT_STRINGS = (0 : Int32))) :
    Con l Z (⟨"com/example/tapline/tapline/rules/ReturnPeriodByIdPinLaw", "str", "([CI)Ljava/lang/String;"⟩ : MethodName) method_2_code 2 (some (.object "java/lang/String")) ws ({ frames := 4, cells := 3, slots := 6, locals := 66 } : Room) #[(.ref o0), (.int (1 : Int32))] h0 (fun v h L => ∃ (b1 : Addr), ∃ (b1_3_2_9 : Addr), ∃ (k1_3_2_9 : ClassId), v = some (.ref b1) ∧ Fr n0 L ∧ h0.size ≤ b1 ∧ h0.size ≤ b1_3_2_9 ∧ Keep h0 h [] ∧ Exa Z h b1 "java/lang/String" ∧ Fld Z h b1 "java/lang/String" "coder" "B" (.int (0 : Int32)) ∧ Fld Z h b1 "java/lang/String" "value" "[B" (.ref b1_3_2_9) ∧ Arv Z h b1_3_2_9 k1_3_2_9 .byte (1 : Int32) [(.int (u1.toInt8.toInt32))] (.int (0 : Int32))) := by
 refine own_body (plainFor_of_name own_pn2) (fun m => ef_rm1_0 m o0 (1 : Int32)) ?_
 intro p e s m below meth c s₁ hx hby hlk hml hret hZ hown hnm X0 e0
 have N0 := Fr.nil n0
 refine Home.run X0 hx hby sg1_0_1 (pc' := 1) (L' := #[.val (.ref o0), .val (.int (1 : Int32))]) (S' := [(.int (1 : Int32))]) rfl ?_
 refine Home.go (fun _ => XS.ifYes X0.here hx rfl (pc0 := 1) (pc' := 15) rfl (hb hby d1_1) rfl ((if0 _ _).trans (tlt (by decide)).2.2.1) (by decide) (by decide)) ?_
 refine Home.run X0 hx hby sg1_15_2 (pc' := 17) (L' := #[.val (.ref o0), .val (.int (1 : Int32))]) (S' := [(.int (1 : Int32)), (.int (1 : Int32))]) rfl ?_
 refine Home.go (fun _ => XS.icmpNo X0.here hx rfl (hb hby d1_17) rfl (teq (by decide)).2) ?_
 refine Home.nw (own_newO X0 hx hZ hown (own_w5 hw) (own_w6 hw) (own_w7 hw) e0 rfl (hb hby d1_20) (by decide) (by decide)) fun T1 h1 b1 g1 X1 e1 E1 A1 D1 => ?_
 have g_b1 : n0 ≤ b1 := Nat.le_trans (Old.le O0) (Nat.le_of_eq g1.symm)
 have F_coder_b1 : Fld Z h1 b1 "java/lang/String" "coder" "B" (.int (0 : Int32)) := D1 (Or.inr (own_w31 hw)) (ty := .byte) (by decide)
 have F_value_b1 : Fld Z h1 b1 "java/lang/String" "value" "[B" .null := D1 (Or.inr (own_w33 hw)) (ty := (.array .byte)) (by decide)
 have O1 := O0.ext E1
 have K1 : Keep h0 h1 ([] : List Addr) := Keep.ext (Keep.refl h0 ([] : List Addr)) E1
 show Home T1 (mkF m 23 #[.val (.ref o0), .val (.int (1 : Int32))] [(.ref b1)])
 refine Home.run X1 hx hby sg1_23_2 (pc' := 25) (L' := #[.val (.ref o0), .val (.int (1 : Int32))]) (S' := [(.int (1 : Int32)), (.ref b1), (.ref b1)]) rfl ?_
 refine Home.na (own_newP (aty := .char) X1 hx hZ (own_w0 hw) e1 (g := (mkF m 25 #[.val (.ref o0), .val (.int (1 : Int32))] [(.int (1 : Int32)), (.ref b1), (.ref b1)])) rfl (hb hby d1_25) rfl (by decide) (cap := 1) (by decide) (by decide) (by decide) (by decide)) fun T2 h2 k2 b2 g2 X2 e2 E2 A2 => ?_
 have g_b2 : n0 ≤ b2 := Nat.le_trans (Old.le O1) (Nat.le_of_eq g2.symm)
 have V2 : Arv Z h2 b2 k2 .char (1 : Int32) [(.int (0 : Int32))] (.int (0 : Int32)) := (Arv.new A2 (by decide)).pad (pad_rep [] (.int (0 : Int32)) 1)
 have O2 := O1.ext E2
 have K2 : Keep h0 h2 ([] : List Addr) := Keep.ext K1 E2
 refine Home.run X2 hx hby sg1_27_4 (pc' := 31) (L' := #[.val (.ref o0), .val (.int (1 : Int32))]) (S' := [(.int (0 : Int32)), (.ref o0), (.int (0 : Int32)), (.ref b2), (.ref b2), (.ref b1), (.ref b1)]) rfl ?_
 obtain ⟨cl3, Ar3, q3, S3, M3, H3, G3⟩ := id (V_o0.keep K2 nin0)
 have ib3 : ¬ ((0 : Int32) < 0 ∨ cl3.slots.size ≤ ((0 : Int32)).toNatClampNeg) := inb_of S3 ⟨by decide, by decide⟩
 refine Home.go (X2.caload hx (j := (0 : Int32)) (v := (.int u1)) (by rw [e2]; exact Ar3.1) (State.isArrayOf_alike hZ.alike Ar3.2.1) Ar3.2.2 ib3 (Has.at H3 ib3 rfl) rfl rfl (hb hby d1_31)) ?_
 show Home T2 (mkF m 32 #[.val (.ref o0), .val (.int (1 : Int32))] [(.int u1), (.int (0 : Int32)), (.ref b2), (.ref b2), (.ref b1), (.ref b1)])
 obtain ⟨cl4, Ar4, q4, S4, M4, H4, G4⟩ := id V2
 refine Home.wr (stC X2 hx hZ e2 Ar4 (j := (0 : Int32)) (inb_of S4 ⟨by decide, by decide⟩) rfl rfl (hb hby d1_32)) fun T4 h4 X4 e4 W4 => ?_
 have W4' := Wr.to W4 (congrArg Value.int (nar_char_id bnd_u1 (by decide +kernel) (by decide +kernel)))
 have V4 : Arv Z h4 b2 k2 .char (1 : Int32) [(.int u1)] (.int (0 : Int32)) := Arv.set Ar4 q4 S4 M4 H4 G4 (fits_char_b bnd_u1 (by decide +kernel) (by decide +kernel)) W4' 0 rfl (Nat.le_of_ble_eq_true rfl)
 have O4 := O2.wr W4 g_b2
 have K4 : Keep h0 h4 ([] : List Addr) := Keep.wr K2 W4 (Or.inr (Nat.le_trans E1.1 (Nat.le_of_eq g2.symm)))
 have N4 := Fr.snoc X4 N0 g_b2
 have q5 := ((A1.ext E2).wr W4)
 have ne6 : b1 ≠ b2 := (Nat.ne_of_lt (Nat.lt_of_lt_of_le A1.lt (Nat.le_trans (Nat.le_refl _) (Nat.le_of_eq g2.symm))))
 have q7 := ((F_coder_b1.ext E2).other W4 (Or.inl ne6))
 have q8 := ((F_value_b1.ext E2).other W4 (Or.inl ne6))
 refine Home.call (own_special X4 hx hZ hown rfl (own_w8 hw) (own_w9 hw) (own_w7 hw) (own_w10 hw) (by decide) (rm2_0 l Z a0 hw [] b1 b2 k2 u1 sv_COMPACT_STRINGS h4 n0 O4 V4 S_COMPACT_STRINGS q5 q7 q8 bnd_u1 g_b1 hCS) e4 rfl (by rw [hml]; rfl) (a := b1) (argsL := [(.ref b2)]) (rest := [(.ref b1)]) (lenOf own_pd4 rfl) rfl rfl (W := 1) (by exact hW0) (by decide) (by decide) (hb hby d1_33) (by decide) (by decide)) ?_
 rintro _ T9 L9 X9 ⟨b1_3_2_9, k1_3_2_9, rfl, N9q, sz_b1_3_2_9, K9q, P9_0, P9_1, P9_2, P9_3⟩
 have g_b1_3_2_9 : n0 ≤ b1_3_2_9 := Nat.le_trans (Old.le O4) sz_b1_3_2_9
 have O9 := Old.keep O4 K9q (allS g_b1 all0)
 have K9 : Keep h0 T9.heap ([] : List Addr) := Keep.trans K4 K9q (allS (Or.inr (Nat.le_trans (Nat.le_refl _) (Nat.le_of_eq g1.symm))) all0)
 have N9 := Fr.app N4 N9q
 show Home T9 (mkF m 36 #[.val (.ref o0), .val (.int (1 : Int32))] [(.ref b1)])
 have le10 : h0.size ≤ h2.size := Nat.le_trans E1.1 E2.1
 have le11 : h0.size ≤ h4.size := Nat.le_trans le10 (Nat.le_of_eq W4.size.symm)
 exact Home.retR X9 hx hlk hret rfl rfl (hb hby d1_36) ⟨b1, b1_3_2_9, k1_3_2_9, rfl, N9, (Nat.le_trans (Nat.le_refl _) (Nat.le_of_eq g1.symm)), (Nat.le_trans le11 sz_b1_3_2_9), K9, P9_0, P9_1, P9_2, P9_3⟩ (by decide) (by decide)
theorem rm9_0 (l : Launch) (Z : State) (a0 : Array Value) (hw : HW a0 Z) (ws : List Jvm.Cond) (o0 o1 : Addr) (k_o0 : ClassId) (n_o0 : Int32) (l_o0 : List Value) (k_o1 : ClassId) (n_o1 : Int32) (l_o1 : List Value) (h0 : Heap) (n0 : Nat) (O0 : Old Z n0 h0) (V_o0 : Arv Z h0 o0 k_o0 .byte n_o0 l_o0 (.int (0 : Int32))) (V_o1 : Arv Z h0 o1 k_o1 .byte n_o1 l_o1 (.int (0 : Int32))) (pn0 : ¬ (n_o0 = n_o1)) :
    Con l Z (⟨"java/lang/StringLatin1", "equals", "([B[B)Z"⟩ : MethodName) jdk_43_method_13_code 3 (some .boolean) ws ({ frames := 0, cells := 0, slots := 0, locals := 0 } : Room) #[(.ref o0), (.ref o1)] h0 (Pur (some (.int (0 : Int32))) h0) := by
 refine own_body (plainFor_of_name own_pn3) (fun m => ef_rm9_0 m o0 o1) ?_
 intro p e s m below meth c s₁ hx hby hlk hml hret hZ hown hnm X0 e0
 have N0 := Fr.nil n0
 refine Home.run X0 hx hby sg9_0_1 (pc' := 1) (L' := #[.val (.ref o0), .val (.ref o1), .unset]) (S' := [(.ref o0)]) rfl ?_
 obtain ⟨cl1, Ar1, q1, S1, M1, H1, G1⟩ := id V_o0
 refine Home.go (own_alen X0 hx hZ e0 Ar1 S1 M1 rfl rfl (hb hby d9_1)) ?_
 refine Home.run X0 hx hby sg9_2_1 (pc' := 3) (L' := #[.val (.ref o0), .val (.ref o1), .unset]) (S' := [(.ref o1), (.int n_o0)]) rfl ?_
 obtain ⟨cl2, Ar2, q2, S2, M2, H2, G2⟩ := id V_o1
 refine Home.go (own_alen X0 hx hZ e0 Ar2 S2 M2 rfl rfl (hb hby d9_3)) ?_
 refine Home.go (fun _ => XS.icmpYes X0.here hx rfl (pc0 := 4) (pc' := 34) rfl (hb hby d9_4) rfl (feq pn0).2 (by decide) (by decide)) ?_
 refine Home.run X0 hx hby sg9_34_1 (pc' := 35) (L' := #[.val (.ref o0), .val (.ref o1), .unset]) (S' := [(.int (0 : Int32))]) rfl ?_
 exact Home.retN X0 hx hlk (t := .boolean) hret (by simp) (hb hby d9_35) ⟨congrArg some (congrArg Value.int (by first | rfl | exact nar_i2c _ | exact nar_i2b _)), rfl, e0⟩ (by decide) (by decide)
theorem rm8_0 (l : Launch) (Z : State) (a0 : Array Value) (hw : HW a0 Z) (ws : List Jvm.Cond) (o0 o1 p3 : Addr) (k_p3 : ClassId) (n_p3 : Int32) (l_p3 : List Value) (p4 : Addr) (k_p4 : ClassId) (n_p4 : Int32) (l_p4 : List Value) (sv_COMPACT_STRINGS : Int32) (h0 : Heap) (n0 : Nat) (O0 : Old Z n0 h0) (V_p3 : Arv Z h0 p3 k_p3 .byte n_p3 l_p3 (.int (0 : Int32))) (V_p4 : Arv Z h0 p4 k_p4 .byte n_p4 l_p4 (.int (0 : Int32))) (pn0 : ¬ (n_p3 = n_p4)) (E_o0 : Exa Z h0 o0 "java/lang/String") (E_o1 : Exa Z h0 o1 "java/lang/String") (ne_o0_o1 : o0 ≠ o1) (S_COMPACT_STRINGS : Sta Z Z.heap "java/lang/String" "COMPACT_STRINGS" "Z" (.int sv_COMPACT_STRINGS)) (hCS : ¬ (sv_COMPACT_STRINGS = (0 : Int32))) (F_coder_o0 : Fld Z h0 o0 "java/lang/String" "coder" "B" (.int (0 : Int32))) (F_coder_o1 : Fld Z h0 o1 "java/lang/String" "coder" "B" (.int (0 : Int32))) (F_value_o0 : Fld Z h0 o0 "java/lang/String" "value" "[B" (.ref p3)) (F_value_o1 : Fld Z h0 o1 "java/lang/String" "value" "[B" (.ref p4)) :
    Con l Z (⟨"java/lang/String", "equals", "(Ljava/lang/Object;)Z"⟩ : MethodName) jdk_42_method_66_code 3 (some .boolean) ws ({ frames := 1, cells := 0, slots := 0, locals := 14 } : Room) #[(.ref o0), (.ref o1)] h0 (Pur (some (.int (0 : Int32))) h0) := by
 refine own_body (plainFor_of_name own_pn1) (fun m => ef_rm8_0 m o0 o1) ?_
 intro p e s m below meth c s₁ hx hby hlk hml hret hZ hown hnm X0 e0
 have N0 := Fr.nil n0
 refine Home.run X0 hx hby sg8_0_2 (pc' := 2) (L' := #[.val (.ref o0), .val (.ref o1), .unset]) (S' := [(.ref o1), (.ref o0)]) rfl ?_
 refine Home.go (fun _ => Jvm.RoadKit.acmp X0 hx rfl rfl rfl (pc0 := 2) (pc' := 7) (same := false) rfl (hb hby d8_2) rfl (decide_eq_false fun q => ne_o0_o1 (Value.ref.inj q)) (by decide) (by decide)) ?_
 show Home s₁ (mkF m 7 #[.val (.ref o0), .val (.ref o1), .unset] [])
 refine Home.run X0 hx hby sg8_7_1 (pc' := 8) (L' := #[.val (.ref o0), .val (.ref o1), .unset]) (S' := [(.ref o1)]) rfl ?_
 refine Home.st (instY X0 hx hZ hown (own_w42 hw) e0 (Ins.self E_o1) rfl rfl (hb hby d8_8)) fun T1 X1 e1 => ?_
 refine Home.go (fun _ => XS.ifNo X1.here hx rfl (hb hby d8_11) rfl ((if0 _ _).trans (feq (by decide)).1)) ?_
 refine Home.run X1 hx hby sg8_14_1 (pc' := 15) (L' := #[.val (.ref o0), .val (.ref o1), .unset]) (S' := [(.ref o1)]) rfl ?_
 refine Home.st (castY X1 hx hZ hown (own_w42 hw) e1 (Ins.self E_o1) rfl rfl (hb hby d8_15)) fun T2 X2 e2 => ?_
 refine Home.run X2 hx hby sg8_18_1 (pc' := 19) (L' := #[.val (.ref o0), .val (.ref o1), .val (.ref o1)]) (S' := []) rfl ?_
 refine Home.st (getS2 X2 hx hZ hown (host := "") (Or.inl (own_w18 hw)) Via.refl e2 (S_COMPACT_STRINGS.ext O0.2) rfl (hb hby d8_19)) fun T3 X3 e3 => ?_
 refine Home.go (fun _ => XS.ifNo X3.here hx rfl (hb hby d8_22) rfl ((if0 _ _).trans (feq hCS).1)) ?_
 refine Home.run X3 hx hby sg8_25_1 (pc' := 26) (L' := #[.val (.ref o0), .val (.ref o1), .val (.ref o1)]) (S' := [(.ref o0)]) rfl ?_
 refine Home.st (getF X3 hx hZ hown (host := "") (Or.inl (own_w30 hw)) Via.refl e3 F_coder_o0 rfl rfl (hb hby d8_26)) fun T4 X4 e4 => ?_
 show Home T4 (mkF m 29 #[.val (.ref o0), .val (.ref o1), .val (.ref o1)] [(.int (0 : Int32))])
 refine Home.run X4 hx hby sg8_29_1 (pc' := 30) (L' := #[.val (.ref o0), .val (.ref o1), .val (.ref o1)]) (S' := [(.ref o1), (.int (0 : Int32))]) rfl ?_
 refine Home.st (getF X4 hx hZ hown (host := "") (Or.inl (own_w30 hw)) Via.refl e4 F_coder_o1 rfl rfl (hb hby d8_30)) fun T5 X5 e5 => ?_
 refine Home.go (fun _ => XS.icmpNo X5.here hx rfl (hb hby d8_33) rfl (teq (by decide)).2) ?_
 refine Home.run X5 hx hby sg8_36_1 (pc' := 37) (L' := #[.val (.ref o0), .val (.ref o1), .val (.ref o1)]) (S' := [(.ref o0)]) rfl ?_
 refine Home.st (getF X5 hx hZ hown (host := "") (Or.inl (own_w32 hw)) Via.refl e5 F_value_o0 rfl rfl (hb hby d8_37)) fun T6 X6 e6 => ?_
 refine Home.run X6 hx hby sg8_40_1 (pc' := 41) (L' := #[.val (.ref o0), .val (.ref o1), .val (.ref o1)]) (S' := [(.ref o1), (.ref p3)]) rfl ?_
 refine Home.st (getF X6 hx hZ hown (host := "") (Or.inl (own_w32 hw)) Via.refl e6 F_value_o1 rfl rfl (hb hby d8_41)) fun T7 X7 e7 => ?_
 refine Home.st (own_pure (own_static X7 hx hZ hown (own_w43 hw) (own_w44 hw) (own_w45 hw) (own_w46 hw) (by decide) (rm9_0 l Z a0 hw [] p3 p4 k_p3 n_p3 l_p3 k_p4 n_p4 l_p4 h0 n0 O0 V_p3 V_p4 pn0) e7 rfl (by rw [hml]; rfl) (argsL := [(.ref p3), (.ref p4)]) (rest := []) (lenOf own_pd6 rfl) rfl rfl (W := 0) (by exact hW0) (by decide) (by decide) (hb hby d8_44) (by decide) (by decide))) fun T8 X8 e8 => ?_
 show Home T8 (mkF m 47 #[.val (.ref o0), .val (.ref o1), .val (.ref o1)] [(.int (0 : Int32))])
 refine Home.go (fun _ => XS.ifYes X8.here hx rfl (pc0 := 47) (pc' := 54) rfl (hb hby d8_47) rfl ((if0 _ _).trans (teq (by decide)).1) (by decide) (by decide)) ?_
 refine Home.run X8 hx hby sg8_54_1 (pc' := 55) (L' := #[.val (.ref o0), .val (.ref o1), .val (.ref o1)]) (S' := [(.int (0 : Int32))]) rfl ?_
 exact Home.retN X8 hx hlk (t := .boolean) hret (by simp) (hb hby d8_55) ⟨congrArg some (congrArg Value.int (by first | rfl | exact nar_i2c _ | exact nar_i2b _)), rfl, e8⟩ (by decide) (by decide)
theorem rm11_0 (l : Launch) (Z : State) (a0 : Array Value) (hw : HW a0 Z) (ws : List Jvm.Cond) (sv__VALUES : Addr) (k_sv__VALUES : ClassId) (sv_MONTH sv_QUARTER : Addr) (h0 : Heap) (n0 : Nat) (O0 : Old Z n0 h0) (S__VALUES : Sta Z Z.heap "com/example/tapline/tapline/rules/ReturnPeriod" "$VALUES" "[Lcom/example/tapline/tapline/rules/ReturnPeriod;" (.ref sv__VALUES)) (V_sv__VALUES : Arv Z Z.heap sv__VALUES k_sv__VALUES (.object "com/example/tapline/tapline/rules/ReturnPeriod") (2 : Int32) [(.ref sv_MONTH), (.ref sv_QUARTER)] .null) (E_sv__VALUES : Exa Z Z.heap sv__VALUES "[Lcom/example/tapline/tapline/rules/ReturnPeriod;") :
    Con l Z (⟨"com/example/tapline/tapline/rules/ReturnPeriod", "values", "()[Lcom/example/tapline/tapline/rules/ReturnPeriod;"⟩ : MethodName) prog_74_method_1_code 0 (some (.array (.object "com/example/tapline/tapline/rules/ReturnPeriod"))) ws ({ frames := 1, cells := 1, slots := 2, locals := 14 } : Room) #[] h0 (fun v h L => ∃ (b2 : Addr), v = some (.ref b2) ∧ Fr n0 L ∧ h0.size ≤ b2 ∧ Keep h0 h [] ∧ Arv Z h b2 k_sv__VALUES (.object "com/example/tapline/tapline/rules/ReturnPeriod") (2 : Int32) [(.ref sv_MONTH), (.ref sv_QUARTER)] .null ∧ Exa Z h b2 "[Lcom/example/tapline/tapline/rules/ReturnPeriod;") := by
 refine own_body (plainFor_of_name own_pn4) (fun m => ef_rm11_0 m ) ?_
 intro p e s m below meth c s₁ hx hby hlk hml hret hZ hown hnm X0 e0
 have N0 := Fr.nil n0
 refine Home.st (getS2 X0 hx hZ hown (host := "") (Or.inl (own_w56 hw)) Via.refl e0 (S__VALUES.ext O0.2) rfl (hb hby d11_0)) fun T1 X1 e1 => ?_
 refine Home.nw (own_clone X1 hx hZ hown (own_w58 hw) (own_w59 hw) (own_w63 hw) (own_w61 hw) (own_w62 hw) (own_w64 hw) e1 (V_sv__VALUES.ext O0.2) (E_sv__VALUES.ext O0.2) (g := (mkF m 3 #[] [(.ref sv__VALUES)])) rfl (by rw [hml]; rfl) rfl (hb hby d11_3) (by decide) (W := 0) (by exact hW0) (by decide) (cap := 2) (by decide) (by decide) (by decide)) fun T2 h2 b2 g2 X2 e2 E2 V2 A2 => ?_
 have g_b2 : n0 ≤ b2 := Nat.le_trans (Old.le O0) (Nat.le_of_eq g2.symm)
 have O2 := O0.ext E2
 have K2 : Keep h0 h2 ([] : List Addr) := Keep.ext (Keep.refl h0 ([] : List Addr)) E2
 refine Home.st (castY X2 hx hZ hown (own_w67 hw) e2 (Ins.self A2) rfl rfl (hb hby d11_6)) fun T3 X3 e3 => ?_
 exact Home.retR X3 hx hlk hret rfl rfl (hb hby d11_9) (by rw [show T3.heap = h2 from e3]; exact ⟨b2, rfl, N0, (Nat.le_trans (Nat.le_refl _) (Nat.le_of_eq g2.symm)), K2, V2, A2⟩) (by decide) (by decide)
theorem rm10_0 (l : Launch) (Z : State) (a0 : Array Value) (hw : HW a0 Z) (ws : List Jvm.Cond) (o0 p2 : Addr) (k_p2 : ClassId) (n_p2 : Int32) (l_p2 : List Value) (sv__VALUES : Addr) (k_sv__VALUES : ClassId) (sv_MONTH sv_QUARTER sv_MONTH_id : Addr) (sv_COMPACT_STRINGS : Int32) (sv_MONTH_id_value : Addr) (k_sv_MONTH_id_value : ClassId) (sv_QUARTER_id sv_QUARTER_id_value : Addr) (k_sv_QUARTER_id_value : ClassId) (h0 : Heap) (n0 : Nat) (O0 : Old Z n0 h0) (V_p2 : Arv Z h0 p2 k_p2 .byte n_p2 l_p2 (.int (0 : Int32))) (pn0 : ¬ (n_p2 = (5 : Int32))) (pn1 : ¬ (n_p2 = (7 : Int32))) (S__VALUES : Sta Z Z.heap "com/example/tapline/tapline/rules/ReturnPeriod" "$VALUES" "[Lcom/example/tapline/tapline/rules/ReturnPeriod;" (.ref sv__VALUES)) (V_sv__VALUES : Arv Z Z.heap sv__VALUES k_sv__VALUES (.object "com/example/tapline/tapline/rules/ReturnPeriod") (2 : Int32) [(.ref sv_MONTH), (.ref sv_QUARTER)] .null) (E_sv__VALUES : Exa Z Z.heap sv__VALUES "[Lcom/example/tapline/tapline/rules/ReturnPeriod;") (F_id_sv_MONTH : Fld Z Z.heap sv_MONTH "com/example/tapline/tapline/rules/ReturnPeriod" "id" "Ljava/lang/String;" (.ref sv_MONTH_id)) (E_sv_MONTH_id : Exa Z Z.heap sv_MONTH_id "java/lang/String") (E_o0 : Exa Z h0 o0 "java/lang/String") (S_COMPACT_STRINGS : Sta Z Z.heap "java/lang/String" "COMPACT_STRINGS" "Z" (.int sv_COMPACT_STRINGS)) (F_coder_sv_MONTH_id : Fld Z Z.heap sv_MONTH_id "java/lang/String" "coder" "B" (.int (0 : Int32))) (F_coder_o0 : Fld Z h0 o0 "java/lang/String" "coder" "B" (.int (0 : Int32))) (F_value_sv_MONTH_id : Fld Z Z.heap sv_MONTH_id "java/lang/String" "value" "[B" (.ref sv_MONTH_id_value)) (V_sv_MONTH_id_value : Arv Z Z.heap sv_MONTH_id_value k_sv_MONTH_id_value .byte (5 : Int32) [(.int (109 : Int32)), (.int (111 : Int32)), (.int (110 : Int32)), (.int (116 : Int32)), (.int (104 : Int32))] (.int (0 : Int32))) (F_value_o0 : Fld Z h0 o0 "java/lang/String" "value" "[B" (.ref p2)) (g_o0 : n0 ≤ o0) (hCS : ¬ (sv_COMPACT_STRINGS = (0 : Int32))) (F_id_sv_QUARTER : Fld Z Z.heap sv_QUARTER "com/example/tapline/tapline/rules/ReturnPeriod" "id" "Ljava/lang/String;" (.ref sv_QUARTER_id)) (E_sv_QUARTER_id : Exa Z Z.heap sv_QUARTER_id "java/lang/String") (F_coder_sv_QUARTER_id : Fld Z Z.heap sv_QUARTER_id "java/lang/String" "coder" "B" (.int (0 : Int32))) (F_value_sv_QUARTER_id : Fld Z Z.heap sv_QUARTER_id "java/lang/String" "value" "[B" (.ref sv_QUARTER_id_value)) (V_sv_QUARTER_id_value : Arv Z Z.heap sv_QUARTER_id_value k_sv_QUARTER_id_value .byte (7 : Int32) [(.int (113 : Int32)), (.int (117 : Int32)), (.int (97 : Int32)), (.int (114 : Int32)), (.int (116 : Int32)), (.int (101 : Int32)), (.int (114 : Int32))] (.int (0 : Int32))) :
    Con l Z (⟨"com/example/tapline/tapline/rules/ReturnPeriod", "byId", "(Ljava/lang/String;)Lcom/example/tapline/tapline/rules/ReturnPeriod;"⟩ : MethodName) prog_74_method_7_code 6 (some (.object "com/example/tapline/tapline/rules/ReturnPeriod")) ws ({ frames := 2, cells := 1, slots := 2, locals := 28 } : Room) #[(.ref o0)] h0 (fun v h L => v = some .null ∧ Fr n0 L ∧ Keep h0 h []) := by
 refine own_body (plainFor_of_name own_pn4) (fun m => ef_rm10_0 m o0) ?_
 intro p e s m below meth c s₁ hx hby hlk hml hret hZ hown hnm X0 e0
 have N0 := Fr.nil n0
 refine Home.run X0 hx hby sg10_0_2 (pc' := 2) (L' := #[.val (.ref o0), .val .null, .unset, .unset, .unset, .unset]) (S' := []) rfl ?_
 refine Home.call (own_static X0 hx hZ hown (own_w53 hw) (own_w54 hw) (own_w48 hw) (own_w55 hw) (by decide) (rm11_0 l Z a0 hw [] sv__VALUES k_sv__VALUES sv_MONTH sv_QUARTER h0 n0 O0 S__VALUES V_sv__VALUES E_sv__VALUES) e0 rfl (by rw [hml]; rfl) (argsL := []) (rest := []) (lenOf own_pd8 rfl) rfl rfl (W := 0) (by exact hW0) (by decide) (by decide) (hb hby d10_2) (by decide) (by decide)) ?_
 rintro _ T1 L1 X1 ⟨b2_1, rfl, N1q, sz_b2_1, K1q, P1_0, P1_1⟩
 have g_b2_1 : n0 ≤ b2_1 := Nat.le_trans (Old.le O0) sz_b2_1
 have O1 := Old.keep O0 K1q all0
 have K1 : Keep h0 T1.heap ([] : List Addr) := Keep.trans (Keep.refl h0 ([] : List Addr)) K1q all0
 have N1 := Fr.app N0 N1q
 refine Home.run X1 hx hby sg10_5_2 (pc' := 7) (L' := #[.val (.ref o0), .val .null, .val (.ref b2_1), .unset, .unset, .unset]) (S' := [(.ref b2_1)]) rfl ?_
 obtain ⟨cl2, Ar2, q2, S2, M2, H2, G2⟩ := id P1_0
 refine Home.go (own_alen X1 hx hZ rfl Ar2 S2 M2 rfl rfl (hb hby d10_7)) ?_
 show Home T1 (mkF m 8 #[.val (.ref o0), .val .null, .val (.ref b2_1), .unset, .unset, .unset] [(.int (2 : Int32))])
 refine Home.run X1 hx hby sg10_8_5 (pc' := 15) (L' := #[.val (.ref o0), .val .null, .val (.ref b2_1), .val (.int (2 : Int32)), .val (.int (0 : Int32)), .unset]) (S' := [(.int (2 : Int32)), (.int (0 : Int32))]) rfl ?_
 refine Home.go (fun _ => XS.icmpNo X1.here hx rfl (hb hby d10_15) rfl (tlt (by decide)).2.1) ?_
 refine Home.run X1 hx hby sg10_18_2 (pc' := 21) (L' := #[.val (.ref o0), .val .null, .val (.ref b2_1), .val (.int (2 : Int32)), .val (.int (0 : Int32)), .unset]) (S' := [(.int (0 : Int32)), (.ref b2_1)]) rfl ?_
 obtain ⟨cl3, Ar3, q3, S3, M3, H3, G3⟩ := id P1_0
 have ib3 : ¬ ((0 : Int32) < 0 ∨ cl3.slots.size ≤ ((0 : Int32)).toNatClampNeg) := inb_of S3 ⟨by decide, by decide⟩
 refine Home.go (X1.aaload hx (j := (0 : Int32)) (v := (.ref sv_MONTH)) Ar3.1 (State.isArrayOf_alike hZ.alike Ar3.2.1) rfl Ar3.2.2 ib3 (Has.at H3 ib3 rfl) rfl rfl (hb hby d10_21)) ?_
 refine Home.run X1 hx hby sg10_22_2 (pc' := 26) (L' := #[.val (.ref o0), .val .null, .val (.ref b2_1), .val (.int (2 : Int32)), .val (.int (0 : Int32)), .val (.ref sv_MONTH)]) (S' := [(.ref sv_MONTH)]) rfl ?_
 refine Home.st (getF X1 hx hZ hown (host := "") (Or.inl (own_w69 hw)) Via.refl rfl (F_id_sv_MONTH.ext O1.2) rfl rfl (hb hby d10_26)) fun T4 X4 e4 => ?_
 show Home T4 (mkF m 29 #[.val (.ref o0), .val .null, .val (.ref b2_1), .val (.int (2 : Int32)), .val (.int (0 : Int32)), .val (.ref sv_MONTH)] [(.ref sv_MONTH_id)])
 refine Home.run X4 hx hby sg10_29_1 (pc' := 30) (L' := #[.val (.ref o0), .val .null, .val (.ref b2_1), .val (.int (2 : Int32)), .val (.int (0 : Int32)), .val (.ref sv_MONTH)]) (S' := [(.ref o0), (.ref sv_MONTH_id)]) rfl ?_
 have ne5 : sv_MONTH_id ≠ o0 := (Old.ne O0 E_sv_MONTH_id.lt g_o0)
 refine Home.st (own_pure (own_virtual X4 hx hZ hown (own_w71 hw) (own_w38 hw) (notFace_of_selects (args := #[]) (mvT hZ (own_w40 hw))) (own_w40 hw) (own_w39 hw) (own_w7 hw) (own_w41 hw) (by decide) (rm8_0 l Z a0 hw [] sv_MONTH_id o0 sv_MONTH_id_value k_sv_MONTH_id_value (5 : Int32) [(.int (109 : Int32)), (.int (111 : Int32)), (.int (110 : Int32)), (.int (116 : Int32)), (.int (104 : Int32))] p2 k_p2 n_p2 l_p2 sv_COMPACT_STRINGS T1.heap n0 O1 (V_sv_MONTH_id_value.ext O1.2) (V_p2.keep K1 nin0) (Ne.symm pn0) (E_sv_MONTH_id.ext O1.2) (E_o0.keep K1) ne5 S_COMPACT_STRINGS hCS (F_coder_sv_MONTH_id.ext O1.2) (F_coder_o0.keep K1 nin0) (F_value_sv_MONTH_id.ext O1.2) (F_value_o0.keep K1 nin0)) e4 (E_sv_MONTH_id.ext O1.2) rfl (by rw [hml]; rfl) (argsL := [(.ref o0)]) (rest := []) (lenOf own_pd7 rfl) rfl rfl (W := 0) (by exact hW0) (by decide) (by decide) (hb hby d10_30) (by decide) (by decide))) fun T6 X6 e6 => ?_
 refine Home.go (fun _ => XS.ifYes X6.here hx rfl (pc0 := 33) (pc' := 39) rfl (hb hby d10_33) rfl ((if0 _ _).trans (teq (by decide)).1) (by decide) (by decide)) ?_
 refine Home.run X6 hx hby sg10_39_4 (pc' := 15) (L' := #[.val (.ref o0), .val .null, .val (.ref b2_1), .val (.int (2 : Int32)), .val (.int (1 : Int32)), .val (.ref sv_MONTH)]) (S' := [(.int (2 : Int32)), (.int (1 : Int32))]) rfl ?_
 refine Home.go (fun _ => XS.icmpNo X6.here hx rfl (hb hby d10_15) rfl (tlt (by decide)).2.1) ?_
 refine Home.run X6 hx hby sg10_18_2 (pc' := 21) (L' := #[.val (.ref o0), .val .null, .val (.ref b2_1), .val (.int (2 : Int32)), .val (.int (1 : Int32)), .val (.ref sv_MONTH)]) (S' := [(.int (1 : Int32)), (.ref b2_1)]) rfl ?_
 obtain ⟨cl7, Ar7, q7, S7, M7, H7, G7⟩ := id P1_0
 have ib7 : ¬ ((1 : Int32) < 0 ∨ cl7.slots.size ≤ ((1 : Int32)).toNatClampNeg) := inb_of S7 ⟨by decide, by decide⟩
 refine Home.go (X6.aaload hx (j := (1 : Int32)) (v := (.ref sv_QUARTER)) (by rw [e6]; exact Ar7.1) (State.isArrayOf_alike hZ.alike Ar7.2.1) rfl Ar7.2.2 ib7 (Has.at H7 ib7 rfl) rfl rfl (hb hby d10_21)) ?_
 show Home T6 (mkF m 22 #[.val (.ref o0), .val .null, .val (.ref b2_1), .val (.int (2 : Int32)), .val (.int (1 : Int32)), .val (.ref sv_MONTH)] [(.ref sv_QUARTER)])
 refine Home.run X6 hx hby sg10_22_2 (pc' := 26) (L' := #[.val (.ref o0), .val .null, .val (.ref b2_1), .val (.int (2 : Int32)), .val (.int (1 : Int32)), .val (.ref sv_QUARTER)]) (S' := [(.ref sv_QUARTER)]) rfl ?_
 refine Home.st (getF X6 hx hZ hown (host := "") (Or.inl (own_w69 hw)) Via.refl e6 (F_id_sv_QUARTER.ext O1.2) rfl rfl (hb hby d10_26)) fun T8 X8 e8 => ?_
 refine Home.run X8 hx hby sg10_29_1 (pc' := 30) (L' := #[.val (.ref o0), .val .null, .val (.ref b2_1), .val (.int (2 : Int32)), .val (.int (1 : Int32)), .val (.ref sv_QUARTER)]) (S' := [(.ref o0), (.ref sv_QUARTER_id)]) rfl ?_
 have ne9 : sv_QUARTER_id ≠ o0 := (Old.ne O0 E_sv_QUARTER_id.lt g_o0)
 refine Home.st (own_pure (own_virtual X8 hx hZ hown (own_w71 hw) (own_w38 hw) (notFace_of_selects (args := #[]) (mvT hZ (own_w40 hw))) (own_w40 hw) (own_w39 hw) (own_w7 hw) (own_w41 hw) (by decide) (rm8_0 l Z a0 hw [] sv_QUARTER_id o0 sv_QUARTER_id_value k_sv_QUARTER_id_value (7 : Int32) [(.int (113 : Int32)), (.int (117 : Int32)), (.int (97 : Int32)), (.int (114 : Int32)), (.int (116 : Int32)), (.int (101 : Int32)), (.int (114 : Int32))] p2 k_p2 n_p2 l_p2 sv_COMPACT_STRINGS T1.heap n0 O1 (V_sv_QUARTER_id_value.ext O1.2) (V_p2.keep K1 nin0) (Ne.symm pn1) (E_sv_QUARTER_id.ext O1.2) (E_o0.keep K1) ne9 S_COMPACT_STRINGS hCS (F_coder_sv_QUARTER_id.ext O1.2) (F_coder_o0.keep K1 nin0) (F_value_sv_QUARTER_id.ext O1.2) (F_value_o0.keep K1 nin0)) e8 (E_sv_QUARTER_id.ext O1.2) rfl (by rw [hml]; rfl) (argsL := [(.ref o0)]) (rest := []) (lenOf own_pd7 rfl) rfl rfl (W := 0) (by exact hW0) (by decide) (by decide) (hb hby d10_30) (by decide) (by decide))) fun T10 X10 e10 => ?_
 refine Home.go (fun _ => XS.ifYes X10.here hx rfl (pc0 := 33) (pc' := 39) rfl (hb hby d10_33) rfl ((if0 _ _).trans (teq (by decide)).1) (by decide) (by decide)) ?_
 refine Home.run X10 hx hby sg10_39_4 (pc' := 15) (L' := #[.val (.ref o0), .val .null, .val (.ref b2_1), .val (.int (2 : Int32)), .val (.int (2 : Int32)), .val (.ref sv_QUARTER)]) (S' := [(.int (2 : Int32)), (.int (2 : Int32))]) rfl ?_
 refine Home.go (fun _ => XS.icmpYes X10.here hx rfl (pc0 := 15) (pc' := 45) rfl (hb hby d10_15) rfl (flt (by decide)).2.1 (by decide) (by decide)) ?_
 refine Home.run X10 hx hby sg10_45_1 (pc' := 46) (L' := #[.val (.ref o0), .val .null, .val (.ref b2_1), .val (.int (2 : Int32)), .val (.int (2 : Int32)), .val (.ref sv_QUARTER)]) (S' := [.null]) rfl ?_
 exact Home.retR X10 hx hlk hret rfl rfl (hb hby d10_46) (by rw [show T10.heap = T1.heap from e10]; exact ⟨rfl, N1, K1⟩) (by decide) (by decide)
theorem rm1_1 (l : Launch) (Z : State) (a0 : Array Value) (hw : HW a0 Z) (ws : List Jvm.Cond) (o0 : Addr) (k_o0 : ClassId) (u1 u2 u3 u4 u5 u6 u7 u8 sv_COMPACT_STRINGS : Int32) (h0 : Heap) (n0 : Nat) (O0 : Old Z n0 h0) (V_o0 : Arv Z h0 o0 k_o0 .char (8 : Int32) [(.int u1), (.int u2), (.int u3), (.int u4), (.int u5), (.int u6), (.int u7), (.int u8)] (.int (0 : Int32))) (bnd_u1 : ¬ u1 < (0 : Int32) ∧ ¬ (255 : Int32) < u1) (bnd_u2 : ¬ u2 < (0 : Int32) ∧ ¬ (255 : Int32) < u2) (S_COMPACT_STRINGS : Sta Z Z.heap "java/lang/String" "COMPACT_STRINGS" "Z" (.int sv_COMPACT_STRINGS)) (hCS : ¬ (sv_COMPACT_STRINGS = (0 : Int32))) :
    Con l Z (⟨"com/example/tapline/tapline/rules/ReturnPeriodByIdPinLaw", "str", "([CI)Ljava/lang/String;"⟩ : MethodName) method_2_code 2 (some (.object "java/lang/String")) ws ({ frames := 4, cells := 3, slots := 8, locals := 66 } : Room) #[(.ref o0), (.int (2 : Int32))] h0 (fun v h L => ∃ (b1 : Addr), ∃ (b1_3_2_11 : Addr), ∃ (k1_3_2_11 : ClassId), v = some (.ref b1) ∧ Fr n0 L ∧ h0.size ≤ b1 ∧ h0.size ≤ b1_3_2_11 ∧ Keep h0 h [] ∧ Exa Z h b1 "java/lang/String" ∧ Fld Z h b1 "java/lang/String" "coder" "B" (.int (0 : Int32)) ∧ Fld Z h b1 "java/lang/String" "value" "[B" (.ref b1_3_2_11) ∧ Arv Z h b1_3_2_11 k1_3_2_11 .byte (2 : Int32) [(.int (u1.toInt8.toInt32)), (.int (u2.toInt8.toInt32))] (.int (0 : Int32))) := by
 refine own_body (plainFor_of_name own_pn2) (fun m => ef_rm1_1 m o0 (2 : Int32)) ?_
 intro p e s m below meth c s₁ hx hby hlk hml hret hZ hown hnm X0 e0
 have N0 := Fr.nil n0
 refine Home.run X0 hx hby sg1_0_1 (pc' := 1) (L' := #[.val (.ref o0), .val (.int (2 : Int32))]) (S' := [(.int (2 : Int32))]) rfl ?_
 refine Home.go (fun _ => XS.ifYes X0.here hx rfl (pc0 := 1) (pc' := 15) rfl (hb hby d1_1) rfl ((if0 _ _).trans (tlt (by decide)).2.2.1) (by decide) (by decide)) ?_
 refine Home.run X0 hx hby sg1_15_2 (pc' := 17) (L' := #[.val (.ref o0), .val (.int (2 : Int32))]) (S' := [(.int (1 : Int32)), (.int (2 : Int32))]) rfl ?_
 refine Home.go (fun _ => XS.icmpYes X0.here hx rfl (pc0 := 17) (pc' := 37) rfl (hb hby d1_17) rfl (feq (by decide)).2 (by decide) (by decide)) ?_
 refine Home.run X0 hx hby sg1_37_2 (pc' := 39) (L' := #[.val (.ref o0), .val (.int (2 : Int32))]) (S' := [(.int (2 : Int32)), (.int (2 : Int32))]) rfl ?_
 refine Home.go (fun _ => XS.icmpNo X0.here hx rfl (hb hby d1_39) rfl (teq (by decide)).2) ?_
 refine Home.nw (own_newO X0 hx hZ hown (own_w5 hw) (own_w6 hw) (own_w7 hw) e0 rfl (hb hby d1_42) (by decide) (by decide)) fun T1 h1 b1 g1 X1 e1 E1 A1 D1 => ?_
 have g_b1 : n0 ≤ b1 := Nat.le_trans (Old.le O0) (Nat.le_of_eq g1.symm)
 have F_coder_b1 : Fld Z h1 b1 "java/lang/String" "coder" "B" (.int (0 : Int32)) := D1 (Or.inr (own_w31 hw)) (ty := .byte) (by decide)
 have F_value_b1 : Fld Z h1 b1 "java/lang/String" "value" "[B" .null := D1 (Or.inr (own_w33 hw)) (ty := (.array .byte)) (by decide)
 have O1 := O0.ext E1
 have K1 : Keep h0 h1 ([] : List Addr) := Keep.ext (Keep.refl h0 ([] : List Addr)) E1
 show Home T1 (mkF m 45 #[.val (.ref o0), .val (.int (2 : Int32))] [(.ref b1)])
 refine Home.run X1 hx hby sg1_45_2 (pc' := 47) (L' := #[.val (.ref o0), .val (.int (2 : Int32))]) (S' := [(.int (2 : Int32)), (.ref b1), (.ref b1)]) rfl ?_
 refine Home.na (own_newP (aty := .char) X1 hx hZ (own_w0 hw) e1 (g := (mkF m 47 #[.val (.ref o0), .val (.int (2 : Int32))] [(.int (2 : Int32)), (.ref b1), (.ref b1)])) rfl (hb hby d1_47) rfl (by decide) (cap := 2) (by decide) (by decide) (by decide) (by decide)) fun T2 h2 k2 b2 g2 X2 e2 E2 A2 => ?_
 have g_b2 : n0 ≤ b2 := Nat.le_trans (Old.le O1) (Nat.le_of_eq g2.symm)
 have V2 : Arv Z h2 b2 k2 .char (2 : Int32) [(.int (0 : Int32)), (.int (0 : Int32))] (.int (0 : Int32)) := (Arv.new A2 (by decide)).pad (pad_rep [] (.int (0 : Int32)) 2)
 have O2 := O1.ext E2
 have K2 : Keep h0 h2 ([] : List Addr) := Keep.ext K1 E2
 refine Home.run X2 hx hby sg1_49_4 (pc' := 53) (L' := #[.val (.ref o0), .val (.int (2 : Int32))]) (S' := [(.int (0 : Int32)), (.ref o0), (.int (0 : Int32)), (.ref b2), (.ref b2), (.ref b1), (.ref b1)]) rfl ?_
 obtain ⟨cl3, Ar3, q3, S3, M3, H3, G3⟩ := id (V_o0.keep K2 nin0)
 have ib3 : ¬ ((0 : Int32) < 0 ∨ cl3.slots.size ≤ ((0 : Int32)).toNatClampNeg) := inb_of S3 ⟨by decide, by decide⟩
 refine Home.go (X2.caload hx (j := (0 : Int32)) (v := (.int u1)) (by rw [e2]; exact Ar3.1) (State.isArrayOf_alike hZ.alike Ar3.2.1) Ar3.2.2 ib3 (Has.at H3 ib3 rfl) rfl rfl (hb hby d1_53)) ?_
 show Home T2 (mkF m 54 #[.val (.ref o0), .val (.int (2 : Int32))] [(.int u1), (.int (0 : Int32)), (.ref b2), (.ref b2), (.ref b1), (.ref b1)])
 obtain ⟨cl4, Ar4, q4, S4, M4, H4, G4⟩ := id V2
 refine Home.wr (stC X2 hx hZ e2 Ar4 (j := (0 : Int32)) (inb_of S4 ⟨by decide, by decide⟩) rfl rfl (hb hby d1_54)) fun T4 h4 X4 e4 W4 => ?_
 have W4' := Wr.to W4 (congrArg Value.int (nar_char_id bnd_u1 (by decide +kernel) (by decide +kernel)))
 have V4 : Arv Z h4 b2 k2 .char (2 : Int32) [(.int u1), (.int (0 : Int32))] (.int (0 : Int32)) := Arv.set Ar4 q4 S4 M4 H4 G4 (fits_char_b bnd_u1 (by decide +kernel) (by decide +kernel)) W4' 0 rfl (Nat.le_of_ble_eq_true rfl)
 have O4 := O2.wr W4 g_b2
 have K4 : Keep h0 h4 ([] : List Addr) := Keep.wr K2 W4 (Or.inr (Nat.le_trans E1.1 (Nat.le_of_eq g2.symm)))
 have N4 := Fr.snoc X4 N0 g_b2
 refine Home.run X4 hx hby sg1_55_4 (pc' := 59) (L' := #[.val (.ref o0), .val (.int (2 : Int32))]) (S' := [(.int (1 : Int32)), (.ref o0), (.int (1 : Int32)), (.ref b2), (.ref b2), (.ref b1), (.ref b1)]) rfl ?_
 obtain ⟨cl5, Ar5, q5, S5, M5, H5, G5⟩ := id (V_o0.keep K4 nin0)
 have ib5 : ¬ ((1 : Int32) < 0 ∨ cl5.slots.size ≤ ((1 : Int32)).toNatClampNeg) := inb_of S5 ⟨by decide, by decide⟩
 refine Home.go (X4.caload hx (j := (1 : Int32)) (v := (.int u2)) (by rw [e4]; exact Ar5.1) (State.isArrayOf_alike hZ.alike Ar5.2.1) Ar5.2.2 ib5 (Has.at H5 ib5 rfl) rfl rfl (hb hby d1_59)) ?_
 show Home T4 (mkF m 60 #[.val (.ref o0), .val (.int (2 : Int32))] [(.int u2), (.int (1 : Int32)), (.ref b2), (.ref b2), (.ref b1), (.ref b1)])
 obtain ⟨cl6, Ar6, q6, S6, M6, H6, G6⟩ := id V4
 refine Home.wr (stC X4 hx hZ e4 Ar6 (j := (1 : Int32)) (inb_of S6 ⟨by decide, by decide⟩) rfl rfl (hb hby d1_60)) fun T6 h6 X6 e6 W6 => ?_
 have W6' := Wr.to W6 (congrArg Value.int (nar_char_id bnd_u2 (by decide +kernel) (by decide +kernel)))
 have V6 : Arv Z h6 b2 k2 .char (2 : Int32) [(.int u1), (.int u2)] (.int (0 : Int32)) := Arv.set Ar6 q6 S6 M6 H6 G6 (fits_char_b bnd_u2 (by decide +kernel) (by decide +kernel)) W6' 1 rfl (Nat.le_of_ble_eq_true rfl)
 have O6 := O4.wr W6 g_b2
 have K6 : Keep h0 h6 ([] : List Addr) := Keep.wr K4 W6 (Or.inr (Nat.le_trans E1.1 (Nat.le_of_eq g2.symm)))
 have N6 := Fr.snoc X6 N4 g_b2
 have q7 := (((A1.ext E2).wr W4).wr W6)
 have ne8 : b1 ≠ b2 := (Nat.ne_of_lt (Nat.lt_of_lt_of_le A1.lt (Nat.le_trans (Nat.le_refl _) (Nat.le_of_eq g2.symm))))
 have q9 := (((F_coder_b1.ext E2).other W4 (Or.inl ne8)).other W6 (Or.inl ne8))
 have q10 := (((F_value_b1.ext E2).other W4 (Or.inl ne8)).other W6 (Or.inl ne8))
 refine Home.call (own_special X6 hx hZ hown rfl (own_w8 hw) (own_w9 hw) (own_w7 hw) (own_w10 hw) (by decide) (rm2_1 l Z a0 hw [] b1 b2 k2 u1 u2 sv_COMPACT_STRINGS h6 n0 O6 V6 S_COMPACT_STRINGS q7 q9 q10 bnd_u1 bnd_u2 g_b1 hCS) e6 rfl (by rw [hml]; rfl) (a := b1) (argsL := [(.ref b2)]) (rest := [(.ref b1)]) (lenOf own_pd4 rfl) rfl rfl (W := 1) (by exact hW0) (by decide) (by decide) (hb hby d1_61) (by decide) (by decide)) ?_
 rintro _ T11 L11 X11 ⟨b1_3_2_11, k1_3_2_11, rfl, N11q, sz_b1_3_2_11, K11q, P11_0, P11_1, P11_2, P11_3⟩
 have g_b1_3_2_11 : n0 ≤ b1_3_2_11 := Nat.le_trans (Old.le O6) sz_b1_3_2_11
 have O11 := Old.keep O6 K11q (allS g_b1 all0)
 have K11 : Keep h0 T11.heap ([] : List Addr) := Keep.trans K6 K11q (allS (Or.inr (Nat.le_trans (Nat.le_refl _) (Nat.le_of_eq g1.symm))) all0)
 have N11 := Fr.app N6 N11q
 show Home T11 (mkF m 64 #[.val (.ref o0), .val (.int (2 : Int32))] [(.ref b1)])
 have le12 : h0.size ≤ h2.size := Nat.le_trans E1.1 E2.1
 have le13 : h0.size ≤ h4.size := Nat.le_trans le12 (Nat.le_of_eq W4.size.symm)
 have le14 : h0.size ≤ h6.size := Nat.le_trans le13 (Nat.le_of_eq W6.size.symm)
 exact Home.retR X11 hx hlk hret rfl rfl (hb hby d1_64) ⟨b1, b1_3_2_11, k1_3_2_11, rfl, N11, (Nat.le_trans (Nat.le_refl _) (Nat.le_of_eq g1.symm)), (Nat.le_trans le14 sz_b1_3_2_11), K11, P11_0, P11_1, P11_2, P11_3⟩ (by decide) (by decide)
theorem rm1_2 (l : Launch) (Z : State) (a0 : Array Value) (hw : HW a0 Z) (ws : List Jvm.Cond) (o0 : Addr) (k_o0 : ClassId) (u1 u2 u3 u4 u5 u6 u7 u8 sv_COMPACT_STRINGS : Int32) (h0 : Heap) (n0 : Nat) (O0 : Old Z n0 h0) (V_o0 : Arv Z h0 o0 k_o0 .char (8 : Int32) [(.int u1), (.int u2), (.int u3), (.int u4), (.int u5), (.int u6), (.int u7), (.int u8)] (.int (0 : Int32))) (bnd_u1 : ¬ u1 < (0 : Int32) ∧ ¬ (255 : Int32) < u1) (bnd_u2 : ¬ u2 < (0 : Int32) ∧ ¬ (255 : Int32) < u2) (bnd_u3 : ¬ u3 < (0 : Int32) ∧ ¬ (255 : Int32) < u3) (S_COMPACT_STRINGS : Sta Z Z.heap "java/lang/String" "COMPACT_STRINGS" "Z" (.int sv_COMPACT_STRINGS)) (hCS : ¬ (sv_COMPACT_STRINGS = (0 : Int32))) :
    Con l Z (⟨"com/example/tapline/tapline/rules/ReturnPeriodByIdPinLaw", "str", "([CI)Ljava/lang/String;"⟩ : MethodName) method_2_code 2 (some (.object "java/lang/String")) ws ({ frames := 4, cells := 3, slots := 10, locals := 66 } : Room) #[(.ref o0), (.int (3 : Int32))] h0 (fun v h L => ∃ (b1 : Addr), ∃ (b1_3_2_13 : Addr), ∃ (k1_3_2_13 : ClassId), v = some (.ref b1) ∧ Fr n0 L ∧ h0.size ≤ b1 ∧ h0.size ≤ b1_3_2_13 ∧ Keep h0 h [] ∧ Exa Z h b1 "java/lang/String" ∧ Fld Z h b1 "java/lang/String" "coder" "B" (.int (0 : Int32)) ∧ Fld Z h b1 "java/lang/String" "value" "[B" (.ref b1_3_2_13) ∧ Arv Z h b1_3_2_13 k1_3_2_13 .byte (3 : Int32) [(.int (u1.toInt8.toInt32)), (.int (u2.toInt8.toInt32)), (.int (u3.toInt8.toInt32))] (.int (0 : Int32))) := by
 refine own_body (plainFor_of_name own_pn2) (fun m => ef_rm1_2 m o0 (3 : Int32)) ?_
 intro p e s m below meth c s₁ hx hby hlk hml hret hZ hown hnm X0 e0
 have N0 := Fr.nil n0
 refine Home.run X0 hx hby sg1_0_1 (pc' := 1) (L' := #[.val (.ref o0), .val (.int (3 : Int32))]) (S' := [(.int (3 : Int32))]) rfl ?_
 refine Home.go (fun _ => XS.ifYes X0.here hx rfl (pc0 := 1) (pc' := 15) rfl (hb hby d1_1) rfl ((if0 _ _).trans (tlt (by decide)).2.2.1) (by decide) (by decide)) ?_
 refine Home.run X0 hx hby sg1_15_2 (pc' := 17) (L' := #[.val (.ref o0), .val (.int (3 : Int32))]) (S' := [(.int (1 : Int32)), (.int (3 : Int32))]) rfl ?_
 refine Home.go (fun _ => XS.icmpYes X0.here hx rfl (pc0 := 17) (pc' := 37) rfl (hb hby d1_17) rfl (feq (by decide)).2 (by decide) (by decide)) ?_
 refine Home.run X0 hx hby sg1_37_2 (pc' := 39) (L' := #[.val (.ref o0), .val (.int (3 : Int32))]) (S' := [(.int (2 : Int32)), (.int (3 : Int32))]) rfl ?_
 refine Home.go (fun _ => XS.icmpYes X0.here hx rfl (pc0 := 39) (pc' := 65) rfl (hb hby d1_39) rfl (feq (by decide)).2 (by decide) (by decide)) ?_
 refine Home.run X0 hx hby sg1_65_2 (pc' := 67) (L' := #[.val (.ref o0), .val (.int (3 : Int32))]) (S' := [(.int (3 : Int32)), (.int (3 : Int32))]) rfl ?_
 refine Home.go (fun _ => XS.icmpNo X0.here hx rfl (hb hby d1_67) rfl (teq (by decide)).2) ?_
 refine Home.nw (own_newO X0 hx hZ hown (own_w5 hw) (own_w6 hw) (own_w7 hw) e0 rfl (hb hby d1_70) (by decide) (by decide)) fun T1 h1 b1 g1 X1 e1 E1 A1 D1 => ?_
 have g_b1 : n0 ≤ b1 := Nat.le_trans (Old.le O0) (Nat.le_of_eq g1.symm)
 have F_coder_b1 : Fld Z h1 b1 "java/lang/String" "coder" "B" (.int (0 : Int32)) := D1 (Or.inr (own_w31 hw)) (ty := .byte) (by decide)
 have F_value_b1 : Fld Z h1 b1 "java/lang/String" "value" "[B" .null := D1 (Or.inr (own_w33 hw)) (ty := (.array .byte)) (by decide)
 have O1 := O0.ext E1
 have K1 : Keep h0 h1 ([] : List Addr) := Keep.ext (Keep.refl h0 ([] : List Addr)) E1
 show Home T1 (mkF m 73 #[.val (.ref o0), .val (.int (3 : Int32))] [(.ref b1)])
 refine Home.run X1 hx hby sg1_73_2 (pc' := 75) (L' := #[.val (.ref o0), .val (.int (3 : Int32))]) (S' := [(.int (3 : Int32)), (.ref b1), (.ref b1)]) rfl ?_
 refine Home.na (own_newP (aty := .char) X1 hx hZ (own_w0 hw) e1 (g := (mkF m 75 #[.val (.ref o0), .val (.int (3 : Int32))] [(.int (3 : Int32)), (.ref b1), (.ref b1)])) rfl (hb hby d1_75) rfl (by decide) (cap := 3) (by decide) (by decide) (by decide) (by decide)) fun T2 h2 k2 b2 g2 X2 e2 E2 A2 => ?_
 have g_b2 : n0 ≤ b2 := Nat.le_trans (Old.le O1) (Nat.le_of_eq g2.symm)
 have V2 : Arv Z h2 b2 k2 .char (3 : Int32) [(.int (0 : Int32)), (.int (0 : Int32)), (.int (0 : Int32))] (.int (0 : Int32)) := (Arv.new A2 (by decide)).pad (pad_rep [] (.int (0 : Int32)) 3)
 have O2 := O1.ext E2
 have K2 : Keep h0 h2 ([] : List Addr) := Keep.ext K1 E2
 refine Home.run X2 hx hby sg1_77_4 (pc' := 81) (L' := #[.val (.ref o0), .val (.int (3 : Int32))]) (S' := [(.int (0 : Int32)), (.ref o0), (.int (0 : Int32)), (.ref b2), (.ref b2), (.ref b1), (.ref b1)]) rfl ?_
 obtain ⟨cl3, Ar3, q3, S3, M3, H3, G3⟩ := id (V_o0.keep K2 nin0)
 have ib3 : ¬ ((0 : Int32) < 0 ∨ cl3.slots.size ≤ ((0 : Int32)).toNatClampNeg) := inb_of S3 ⟨by decide, by decide⟩
 refine Home.go (X2.caload hx (j := (0 : Int32)) (v := (.int u1)) (by rw [e2]; exact Ar3.1) (State.isArrayOf_alike hZ.alike Ar3.2.1) Ar3.2.2 ib3 (Has.at H3 ib3 rfl) rfl rfl (hb hby d1_81)) ?_
 show Home T2 (mkF m 82 #[.val (.ref o0), .val (.int (3 : Int32))] [(.int u1), (.int (0 : Int32)), (.ref b2), (.ref b2), (.ref b1), (.ref b1)])
 obtain ⟨cl4, Ar4, q4, S4, M4, H4, G4⟩ := id V2
 refine Home.wr (stC X2 hx hZ e2 Ar4 (j := (0 : Int32)) (inb_of S4 ⟨by decide, by decide⟩) rfl rfl (hb hby d1_82)) fun T4 h4 X4 e4 W4 => ?_
 have W4' := Wr.to W4 (congrArg Value.int (nar_char_id bnd_u1 (by decide +kernel) (by decide +kernel)))
 have V4 : Arv Z h4 b2 k2 .char (3 : Int32) [(.int u1), (.int (0 : Int32)), (.int (0 : Int32))] (.int (0 : Int32)) := Arv.set Ar4 q4 S4 M4 H4 G4 (fits_char_b bnd_u1 (by decide +kernel) (by decide +kernel)) W4' 0 rfl (Nat.le_of_ble_eq_true rfl)
 have O4 := O2.wr W4 g_b2
 have K4 : Keep h0 h4 ([] : List Addr) := Keep.wr K2 W4 (Or.inr (Nat.le_trans E1.1 (Nat.le_of_eq g2.symm)))
 have N4 := Fr.snoc X4 N0 g_b2
 refine Home.run X4 hx hby sg1_83_4 (pc' := 87) (L' := #[.val (.ref o0), .val (.int (3 : Int32))]) (S' := [(.int (1 : Int32)), (.ref o0), (.int (1 : Int32)), (.ref b2), (.ref b2), (.ref b1), (.ref b1)]) rfl ?_
 obtain ⟨cl5, Ar5, q5, S5, M5, H5, G5⟩ := id (V_o0.keep K4 nin0)
 have ib5 : ¬ ((1 : Int32) < 0 ∨ cl5.slots.size ≤ ((1 : Int32)).toNatClampNeg) := inb_of S5 ⟨by decide, by decide⟩
 refine Home.go (X4.caload hx (j := (1 : Int32)) (v := (.int u2)) (by rw [e4]; exact Ar5.1) (State.isArrayOf_alike hZ.alike Ar5.2.1) Ar5.2.2 ib5 (Has.at H5 ib5 rfl) rfl rfl (hb hby d1_87)) ?_
 show Home T4 (mkF m 88 #[.val (.ref o0), .val (.int (3 : Int32))] [(.int u2), (.int (1 : Int32)), (.ref b2), (.ref b2), (.ref b1), (.ref b1)])
 obtain ⟨cl6, Ar6, q6, S6, M6, H6, G6⟩ := id V4
 refine Home.wr (stC X4 hx hZ e4 Ar6 (j := (1 : Int32)) (inb_of S6 ⟨by decide, by decide⟩) rfl rfl (hb hby d1_88)) fun T6 h6 X6 e6 W6 => ?_
 have W6' := Wr.to W6 (congrArg Value.int (nar_char_id bnd_u2 (by decide +kernel) (by decide +kernel)))
 have V6 : Arv Z h6 b2 k2 .char (3 : Int32) [(.int u1), (.int u2), (.int (0 : Int32))] (.int (0 : Int32)) := Arv.set Ar6 q6 S6 M6 H6 G6 (fits_char_b bnd_u2 (by decide +kernel) (by decide +kernel)) W6' 1 rfl (Nat.le_of_ble_eq_true rfl)
 have O6 := O4.wr W6 g_b2
 have K6 : Keep h0 h6 ([] : List Addr) := Keep.wr K4 W6 (Or.inr (Nat.le_trans E1.1 (Nat.le_of_eq g2.symm)))
 have N6 := Fr.snoc X6 N4 g_b2
 refine Home.run X6 hx hby sg1_89_4 (pc' := 93) (L' := #[.val (.ref o0), .val (.int (3 : Int32))]) (S' := [(.int (2 : Int32)), (.ref o0), (.int (2 : Int32)), (.ref b2), (.ref b2), (.ref b1), (.ref b1)]) rfl ?_
 obtain ⟨cl7, Ar7, q7, S7, M7, H7, G7⟩ := id (V_o0.keep K6 nin0)
 have ib7 : ¬ ((2 : Int32) < 0 ∨ cl7.slots.size ≤ ((2 : Int32)).toNatClampNeg) := inb_of S7 ⟨by decide, by decide⟩
 refine Home.go (X6.caload hx (j := (2 : Int32)) (v := (.int u3)) (by rw [e6]; exact Ar7.1) (State.isArrayOf_alike hZ.alike Ar7.2.1) Ar7.2.2 ib7 (Has.at H7 ib7 rfl) rfl rfl (hb hby d1_93)) ?_
 show Home T6 (mkF m 94 #[.val (.ref o0), .val (.int (3 : Int32))] [(.int u3), (.int (2 : Int32)), (.ref b2), (.ref b2), (.ref b1), (.ref b1)])
 obtain ⟨cl8, Ar8, q8, S8, M8, H8, G8⟩ := id V6
 refine Home.wr (stC X6 hx hZ e6 Ar8 (j := (2 : Int32)) (inb_of S8 ⟨by decide, by decide⟩) rfl rfl (hb hby d1_94)) fun T8 h8 X8 e8 W8 => ?_
 have W8' := Wr.to W8 (congrArg Value.int (nar_char_id bnd_u3 (by decide +kernel) (by decide +kernel)))
 have V8 : Arv Z h8 b2 k2 .char (3 : Int32) [(.int u1), (.int u2), (.int u3)] (.int (0 : Int32)) := Arv.set Ar8 q8 S8 M8 H8 G8 (fits_char_b bnd_u3 (by decide +kernel) (by decide +kernel)) W8' 2 rfl (Nat.le_of_ble_eq_true rfl)
 have O8 := O6.wr W8 g_b2
 have K8 : Keep h0 h8 ([] : List Addr) := Keep.wr K6 W8 (Or.inr (Nat.le_trans E1.1 (Nat.le_of_eq g2.symm)))
 have N8 := Fr.snoc X8 N6 g_b2
 have q9 := ((((A1.ext E2).wr W4).wr W6).wr W8)
 have ne10 : b1 ≠ b2 := (Nat.ne_of_lt (Nat.lt_of_lt_of_le A1.lt (Nat.le_trans (Nat.le_refl _) (Nat.le_of_eq g2.symm))))
 have q11 := ((((F_coder_b1.ext E2).other W4 (Or.inl ne10)).other W6 (Or.inl ne10)).other W8 (Or.inl ne10))
 have q12 := ((((F_value_b1.ext E2).other W4 (Or.inl ne10)).other W6 (Or.inl ne10)).other W8 (Or.inl ne10))
 refine Home.call (own_special X8 hx hZ hown rfl (own_w8 hw) (own_w9 hw) (own_w7 hw) (own_w10 hw) (by decide) (rm2_2 l Z a0 hw [] b1 b2 k2 u1 u2 u3 sv_COMPACT_STRINGS h8 n0 O8 V8 S_COMPACT_STRINGS q9 q11 q12 bnd_u1 bnd_u2 bnd_u3 g_b1 hCS) e8 rfl (by rw [hml]; rfl) (a := b1) (argsL := [(.ref b2)]) (rest := [(.ref b1)]) (lenOf own_pd4 rfl) rfl rfl (W := 1) (by exact hW0) (by decide) (by decide) (hb hby d1_95) (by decide) (by decide)) ?_
 rintro _ T13 L13 X13 ⟨b1_3_2_13, k1_3_2_13, rfl, N13q, sz_b1_3_2_13, K13q, P13_0, P13_1, P13_2, P13_3⟩
 have g_b1_3_2_13 : n0 ≤ b1_3_2_13 := Nat.le_trans (Old.le O8) sz_b1_3_2_13
 have O13 := Old.keep O8 K13q (allS g_b1 all0)
 have K13 : Keep h0 T13.heap ([] : List Addr) := Keep.trans K8 K13q (allS (Or.inr (Nat.le_trans (Nat.le_refl _) (Nat.le_of_eq g1.symm))) all0)
 have N13 := Fr.app N8 N13q
 show Home T13 (mkF m 98 #[.val (.ref o0), .val (.int (3 : Int32))] [(.ref b1)])
 have le14 : h0.size ≤ h2.size := Nat.le_trans E1.1 E2.1
 have le15 : h0.size ≤ h4.size := Nat.le_trans le14 (Nat.le_of_eq W4.size.symm)
 have le16 : h0.size ≤ h6.size := Nat.le_trans le15 (Nat.le_of_eq W6.size.symm)
 have le17 : h0.size ≤ h8.size := Nat.le_trans le16 (Nat.le_of_eq W8.size.symm)
 exact Home.retR X13 hx hlk hret rfl rfl (hb hby d1_98) ⟨b1, b1_3_2_13, k1_3_2_13, rfl, N13, (Nat.le_trans (Nat.le_refl _) (Nat.le_of_eq g1.symm)), (Nat.le_trans le17 sz_b1_3_2_13), K13, P13_0, P13_1, P13_2, P13_3⟩ (by decide) (by decide)
theorem rm1_3 (l : Launch) (Z : State) (a0 : Array Value) (hw : HW a0 Z) (ws : List Jvm.Cond) (o0 : Addr) (k_o0 : ClassId) (u1 u2 u3 u4 u5 u6 u7 u8 sv_COMPACT_STRINGS : Int32) (h0 : Heap) (n0 : Nat) (O0 : Old Z n0 h0) (V_o0 : Arv Z h0 o0 k_o0 .char (8 : Int32) [(.int u1), (.int u2), (.int u3), (.int u4), (.int u5), (.int u6), (.int u7), (.int u8)] (.int (0 : Int32))) (bnd_u1 : ¬ u1 < (0 : Int32) ∧ ¬ (255 : Int32) < u1) (bnd_u2 : ¬ u2 < (0 : Int32) ∧ ¬ (255 : Int32) < u2) (bnd_u3 : ¬ u3 < (0 : Int32) ∧ ¬ (255 : Int32) < u3) (bnd_u4 : ¬ u4 < (0 : Int32) ∧ ¬ (255 : Int32) < u4) (S_COMPACT_STRINGS : Sta Z Z.heap "java/lang/String" "COMPACT_STRINGS" "Z" (.int sv_COMPACT_STRINGS)) (hCS : ¬ (sv_COMPACT_STRINGS = (0 : Int32))) :
    Con l Z (⟨"com/example/tapline/tapline/rules/ReturnPeriodByIdPinLaw", "str", "([CI)Ljava/lang/String;"⟩ : MethodName) method_2_code 2 (some (.object "java/lang/String")) ws ({ frames := 4, cells := 3, slots := 12, locals := 66 } : Room) #[(.ref o0), (.int (4 : Int32))] h0 (fun v h L => ∃ (b1 : Addr), ∃ (b1_3_2_15 : Addr), ∃ (k1_3_2_15 : ClassId), v = some (.ref b1) ∧ Fr n0 L ∧ h0.size ≤ b1 ∧ h0.size ≤ b1_3_2_15 ∧ Keep h0 h [] ∧ Exa Z h b1 "java/lang/String" ∧ Fld Z h b1 "java/lang/String" "coder" "B" (.int (0 : Int32)) ∧ Fld Z h b1 "java/lang/String" "value" "[B" (.ref b1_3_2_15) ∧ Arv Z h b1_3_2_15 k1_3_2_15 .byte (4 : Int32) [(.int (u1.toInt8.toInt32)), (.int (u2.toInt8.toInt32)), (.int (u3.toInt8.toInt32)), (.int (u4.toInt8.toInt32))] (.int (0 : Int32))) := by
 refine own_body (plainFor_of_name own_pn2) (fun m => ef_rm1_3 m o0 (4 : Int32)) ?_
 intro p e s m below meth c s₁ hx hby hlk hml hret hZ hown hnm X0 e0
 have N0 := Fr.nil n0
 refine Home.run X0 hx hby sg1_0_1 (pc' := 1) (L' := #[.val (.ref o0), .val (.int (4 : Int32))]) (S' := [(.int (4 : Int32))]) rfl ?_
 refine Home.go (fun _ => XS.ifYes X0.here hx rfl (pc0 := 1) (pc' := 15) rfl (hb hby d1_1) rfl ((if0 _ _).trans (tlt (by decide)).2.2.1) (by decide) (by decide)) ?_
 refine Home.run X0 hx hby sg1_15_2 (pc' := 17) (L' := #[.val (.ref o0), .val (.int (4 : Int32))]) (S' := [(.int (1 : Int32)), (.int (4 : Int32))]) rfl ?_
 refine Home.go (fun _ => XS.icmpYes X0.here hx rfl (pc0 := 17) (pc' := 37) rfl (hb hby d1_17) rfl (feq (by decide)).2 (by decide) (by decide)) ?_
 refine Home.run X0 hx hby sg1_37_2 (pc' := 39) (L' := #[.val (.ref o0), .val (.int (4 : Int32))]) (S' := [(.int (2 : Int32)), (.int (4 : Int32))]) rfl ?_
 refine Home.go (fun _ => XS.icmpYes X0.here hx rfl (pc0 := 39) (pc' := 65) rfl (hb hby d1_39) rfl (feq (by decide)).2 (by decide) (by decide)) ?_
 refine Home.run X0 hx hby sg1_65_2 (pc' := 67) (L' := #[.val (.ref o0), .val (.int (4 : Int32))]) (S' := [(.int (3 : Int32)), (.int (4 : Int32))]) rfl ?_
 refine Home.go (fun _ => XS.icmpYes X0.here hx rfl (pc0 := 67) (pc' := 99) rfl (hb hby d1_67) rfl (feq (by decide)).2 (by decide) (by decide)) ?_
 refine Home.run X0 hx hby sg1_99_2 (pc' := 101) (L' := #[.val (.ref o0), .val (.int (4 : Int32))]) (S' := [(.int (4 : Int32)), (.int (4 : Int32))]) rfl ?_
 refine Home.go (fun _ => XS.icmpNo X0.here hx rfl (hb hby d1_101) rfl (teq (by decide)).2) ?_
 refine Home.nw (own_newO X0 hx hZ hown (own_w5 hw) (own_w6 hw) (own_w7 hw) e0 rfl (hb hby d1_104) (by decide) (by decide)) fun T1 h1 b1 g1 X1 e1 E1 A1 D1 => ?_
 have g_b1 : n0 ≤ b1 := Nat.le_trans (Old.le O0) (Nat.le_of_eq g1.symm)
 have F_coder_b1 : Fld Z h1 b1 "java/lang/String" "coder" "B" (.int (0 : Int32)) := D1 (Or.inr (own_w31 hw)) (ty := .byte) (by decide)
 have F_value_b1 : Fld Z h1 b1 "java/lang/String" "value" "[B" .null := D1 (Or.inr (own_w33 hw)) (ty := (.array .byte)) (by decide)
 have O1 := O0.ext E1
 have K1 : Keep h0 h1 ([] : List Addr) := Keep.ext (Keep.refl h0 ([] : List Addr)) E1
 show Home T1 (mkF m 107 #[.val (.ref o0), .val (.int (4 : Int32))] [(.ref b1)])
 refine Home.run X1 hx hby sg1_107_2 (pc' := 109) (L' := #[.val (.ref o0), .val (.int (4 : Int32))]) (S' := [(.int (4 : Int32)), (.ref b1), (.ref b1)]) rfl ?_
 refine Home.na (own_newP (aty := .char) X1 hx hZ (own_w0 hw) e1 (g := (mkF m 109 #[.val (.ref o0), .val (.int (4 : Int32))] [(.int (4 : Int32)), (.ref b1), (.ref b1)])) rfl (hb hby d1_109) rfl (by decide) (cap := 4) (by decide) (by decide) (by decide) (by decide)) fun T2 h2 k2 b2 g2 X2 e2 E2 A2 => ?_
 have g_b2 : n0 ≤ b2 := Nat.le_trans (Old.le O1) (Nat.le_of_eq g2.symm)
 have V2 : Arv Z h2 b2 k2 .char (4 : Int32) [(.int (0 : Int32)), (.int (0 : Int32)), (.int (0 : Int32)), (.int (0 : Int32))] (.int (0 : Int32)) := (Arv.new A2 (by decide)).pad (pad_rep [] (.int (0 : Int32)) 4)
 have O2 := O1.ext E2
 have K2 : Keep h0 h2 ([] : List Addr) := Keep.ext K1 E2
 refine Home.run X2 hx hby sg1_111_4 (pc' := 115) (L' := #[.val (.ref o0), .val (.int (4 : Int32))]) (S' := [(.int (0 : Int32)), (.ref o0), (.int (0 : Int32)), (.ref b2), (.ref b2), (.ref b1), (.ref b1)]) rfl ?_
 obtain ⟨cl3, Ar3, q3, S3, M3, H3, G3⟩ := id (V_o0.keep K2 nin0)
 have ib3 : ¬ ((0 : Int32) < 0 ∨ cl3.slots.size ≤ ((0 : Int32)).toNatClampNeg) := inb_of S3 ⟨by decide, by decide⟩
 refine Home.go (X2.caload hx (j := (0 : Int32)) (v := (.int u1)) (by rw [e2]; exact Ar3.1) (State.isArrayOf_alike hZ.alike Ar3.2.1) Ar3.2.2 ib3 (Has.at H3 ib3 rfl) rfl rfl (hb hby d1_115)) ?_
 show Home T2 (mkF m 116 #[.val (.ref o0), .val (.int (4 : Int32))] [(.int u1), (.int (0 : Int32)), (.ref b2), (.ref b2), (.ref b1), (.ref b1)])
 obtain ⟨cl4, Ar4, q4, S4, M4, H4, G4⟩ := id V2
 refine Home.wr (stC X2 hx hZ e2 Ar4 (j := (0 : Int32)) (inb_of S4 ⟨by decide, by decide⟩) rfl rfl (hb hby d1_116)) fun T4 h4 X4 e4 W4 => ?_
 have W4' := Wr.to W4 (congrArg Value.int (nar_char_id bnd_u1 (by decide +kernel) (by decide +kernel)))
 have V4 : Arv Z h4 b2 k2 .char (4 : Int32) [(.int u1), (.int (0 : Int32)), (.int (0 : Int32)), (.int (0 : Int32))] (.int (0 : Int32)) := Arv.set Ar4 q4 S4 M4 H4 G4 (fits_char_b bnd_u1 (by decide +kernel) (by decide +kernel)) W4' 0 rfl (Nat.le_of_ble_eq_true rfl)
 have O4 := O2.wr W4 g_b2
 have K4 : Keep h0 h4 ([] : List Addr) := Keep.wr K2 W4 (Or.inr (Nat.le_trans E1.1 (Nat.le_of_eq g2.symm)))
 have N4 := Fr.snoc X4 N0 g_b2
 refine Home.run X4 hx hby sg1_117_4 (pc' := 121) (L' := #[.val (.ref o0), .val (.int (4 : Int32))]) (S' := [(.int (1 : Int32)), (.ref o0), (.int (1 : Int32)), (.ref b2), (.ref b2), (.ref b1), (.ref b1)]) rfl ?_
 obtain ⟨cl5, Ar5, q5, S5, M5, H5, G5⟩ := id (V_o0.keep K4 nin0)
 have ib5 : ¬ ((1 : Int32) < 0 ∨ cl5.slots.size ≤ ((1 : Int32)).toNatClampNeg) := inb_of S5 ⟨by decide, by decide⟩
 refine Home.go (X4.caload hx (j := (1 : Int32)) (v := (.int u2)) (by rw [e4]; exact Ar5.1) (State.isArrayOf_alike hZ.alike Ar5.2.1) Ar5.2.2 ib5 (Has.at H5 ib5 rfl) rfl rfl (hb hby d1_121)) ?_
 show Home T4 (mkF m 122 #[.val (.ref o0), .val (.int (4 : Int32))] [(.int u2), (.int (1 : Int32)), (.ref b2), (.ref b2), (.ref b1), (.ref b1)])
 obtain ⟨cl6, Ar6, q6, S6, M6, H6, G6⟩ := id V4
 refine Home.wr (stC X4 hx hZ e4 Ar6 (j := (1 : Int32)) (inb_of S6 ⟨by decide, by decide⟩) rfl rfl (hb hby d1_122)) fun T6 h6 X6 e6 W6 => ?_
 have W6' := Wr.to W6 (congrArg Value.int (nar_char_id bnd_u2 (by decide +kernel) (by decide +kernel)))
 have V6 : Arv Z h6 b2 k2 .char (4 : Int32) [(.int u1), (.int u2), (.int (0 : Int32)), (.int (0 : Int32))] (.int (0 : Int32)) := Arv.set Ar6 q6 S6 M6 H6 G6 (fits_char_b bnd_u2 (by decide +kernel) (by decide +kernel)) W6' 1 rfl (Nat.le_of_ble_eq_true rfl)
 have O6 := O4.wr W6 g_b2
 have K6 : Keep h0 h6 ([] : List Addr) := Keep.wr K4 W6 (Or.inr (Nat.le_trans E1.1 (Nat.le_of_eq g2.symm)))
 have N6 := Fr.snoc X6 N4 g_b2
 refine Home.run X6 hx hby sg1_123_4 (pc' := 127) (L' := #[.val (.ref o0), .val (.int (4 : Int32))]) (S' := [(.int (2 : Int32)), (.ref o0), (.int (2 : Int32)), (.ref b2), (.ref b2), (.ref b1), (.ref b1)]) rfl ?_
 obtain ⟨cl7, Ar7, q7, S7, M7, H7, G7⟩ := id (V_o0.keep K6 nin0)
 have ib7 : ¬ ((2 : Int32) < 0 ∨ cl7.slots.size ≤ ((2 : Int32)).toNatClampNeg) := inb_of S7 ⟨by decide, by decide⟩
 refine Home.go (X6.caload hx (j := (2 : Int32)) (v := (.int u3)) (by rw [e6]; exact Ar7.1) (State.isArrayOf_alike hZ.alike Ar7.2.1) Ar7.2.2 ib7 (Has.at H7 ib7 rfl) rfl rfl (hb hby d1_127)) ?_
 show Home T6 (mkF m 128 #[.val (.ref o0), .val (.int (4 : Int32))] [(.int u3), (.int (2 : Int32)), (.ref b2), (.ref b2), (.ref b1), (.ref b1)])
 obtain ⟨cl8, Ar8, q8, S8, M8, H8, G8⟩ := id V6
 refine Home.wr (stC X6 hx hZ e6 Ar8 (j := (2 : Int32)) (inb_of S8 ⟨by decide, by decide⟩) rfl rfl (hb hby d1_128)) fun T8 h8 X8 e8 W8 => ?_
 have W8' := Wr.to W8 (congrArg Value.int (nar_char_id bnd_u3 (by decide +kernel) (by decide +kernel)))
 have V8 : Arv Z h8 b2 k2 .char (4 : Int32) [(.int u1), (.int u2), (.int u3), (.int (0 : Int32))] (.int (0 : Int32)) := Arv.set Ar8 q8 S8 M8 H8 G8 (fits_char_b bnd_u3 (by decide +kernel) (by decide +kernel)) W8' 2 rfl (Nat.le_of_ble_eq_true rfl)
 have O8 := O6.wr W8 g_b2
 have K8 : Keep h0 h8 ([] : List Addr) := Keep.wr K6 W8 (Or.inr (Nat.le_trans E1.1 (Nat.le_of_eq g2.symm)))
 have N8 := Fr.snoc X8 N6 g_b2
 refine Home.run X8 hx hby sg1_129_4 (pc' := 133) (L' := #[.val (.ref o0), .val (.int (4 : Int32))]) (S' := [(.int (3 : Int32)), (.ref o0), (.int (3 : Int32)), (.ref b2), (.ref b2), (.ref b1), (.ref b1)]) rfl ?_
 obtain ⟨cl9, Ar9, q9, S9, M9, H9, G9⟩ := id (V_o0.keep K8 nin0)
 have ib9 : ¬ ((3 : Int32) < 0 ∨ cl9.slots.size ≤ ((3 : Int32)).toNatClampNeg) := inb_of S9 ⟨by decide, by decide⟩
 refine Home.go (X8.caload hx (j := (3 : Int32)) (v := (.int u4)) (by rw [e8]; exact Ar9.1) (State.isArrayOf_alike hZ.alike Ar9.2.1) Ar9.2.2 ib9 (Has.at H9 ib9 rfl) rfl rfl (hb hby d1_133)) ?_
 show Home T8 (mkF m 134 #[.val (.ref o0), .val (.int (4 : Int32))] [(.int u4), (.int (3 : Int32)), (.ref b2), (.ref b2), (.ref b1), (.ref b1)])
 obtain ⟨cl10, Ar10, q10, S10, M10, H10, G10⟩ := id V8
 refine Home.wr (stC X8 hx hZ e8 Ar10 (j := (3 : Int32)) (inb_of S10 ⟨by decide, by decide⟩) rfl rfl (hb hby d1_134)) fun T10 h10 X10 e10 W10 => ?_
 have W10' := Wr.to W10 (congrArg Value.int (nar_char_id bnd_u4 (by decide +kernel) (by decide +kernel)))
 have V10 : Arv Z h10 b2 k2 .char (4 : Int32) [(.int u1), (.int u2), (.int u3), (.int u4)] (.int (0 : Int32)) := Arv.set Ar10 q10 S10 M10 H10 G10 (fits_char_b bnd_u4 (by decide +kernel) (by decide +kernel)) W10' 3 rfl (Nat.le_of_ble_eq_true rfl)
 have O10 := O8.wr W10 g_b2
 have K10 : Keep h0 h10 ([] : List Addr) := Keep.wr K8 W10 (Or.inr (Nat.le_trans E1.1 (Nat.le_of_eq g2.symm)))
 have N10 := Fr.snoc X10 N8 g_b2
 have q11 := (((((A1.ext E2).wr W4).wr W6).wr W8).wr W10)
 have ne12 : b1 ≠ b2 := (Nat.ne_of_lt (Nat.lt_of_lt_of_le A1.lt (Nat.le_trans (Nat.le_refl _) (Nat.le_of_eq g2.symm))))
 have q13 := (((((F_coder_b1.ext E2).other W4 (Or.inl ne12)).other W6 (Or.inl ne12)).other W8 (Or.inl ne12)).other W10 (Or.inl ne12))
 have q14 := (((((F_value_b1.ext E2).other W4 (Or.inl ne12)).other W6 (Or.inl ne12)).other W8 (Or.inl ne12)).other W10 (Or.inl ne12))
 refine Home.call (own_special X10 hx hZ hown rfl (own_w8 hw) (own_w9 hw) (own_w7 hw) (own_w10 hw) (by decide) (rm2_3 l Z a0 hw [] b1 b2 k2 u1 u2 u3 u4 sv_COMPACT_STRINGS h10 n0 O10 V10 S_COMPACT_STRINGS q11 q13 q14 bnd_u1 bnd_u2 bnd_u3 bnd_u4 g_b1 hCS) e10 rfl (by rw [hml]; rfl) (a := b1) (argsL := [(.ref b2)]) (rest := [(.ref b1)]) (lenOf own_pd4 rfl) rfl rfl (W := 1) (by exact hW0) (by decide) (by decide) (hb hby d1_135) (by decide) (by decide)) ?_
 rintro _ T15 L15 X15 ⟨b1_3_2_15, k1_3_2_15, rfl, N15q, sz_b1_3_2_15, K15q, P15_0, P15_1, P15_2, P15_3⟩
 have g_b1_3_2_15 : n0 ≤ b1_3_2_15 := Nat.le_trans (Old.le O10) sz_b1_3_2_15
 have O15 := Old.keep O10 K15q (allS g_b1 all0)
 have K15 : Keep h0 T15.heap ([] : List Addr) := Keep.trans K10 K15q (allS (Or.inr (Nat.le_trans (Nat.le_refl _) (Nat.le_of_eq g1.symm))) all0)
 have N15 := Fr.app N10 N15q
 show Home T15 (mkF m 138 #[.val (.ref o0), .val (.int (4 : Int32))] [(.ref b1)])
 have le16 : h0.size ≤ h2.size := Nat.le_trans E1.1 E2.1
 have le17 : h0.size ≤ h4.size := Nat.le_trans le16 (Nat.le_of_eq W4.size.symm)
 have le18 : h0.size ≤ h6.size := Nat.le_trans le17 (Nat.le_of_eq W6.size.symm)
 have le19 : h0.size ≤ h8.size := Nat.le_trans le18 (Nat.le_of_eq W8.size.symm)
 have le20 : h0.size ≤ h10.size := Nat.le_trans le19 (Nat.le_of_eq W10.size.symm)
 exact Home.retR X15 hx hlk hret rfl rfl (hb hby d1_138) ⟨b1, b1_3_2_15, k1_3_2_15, rfl, N15, (Nat.le_trans (Nat.le_refl _) (Nat.le_of_eq g1.symm)), (Nat.le_trans le20 sz_b1_3_2_15), K15, P15_0, P15_1, P15_2, P15_3⟩ (by decide) (by decide)
theorem rm1_4 (l : Launch) (Z : State) (a0 : Array Value) (hw : HW a0 Z) (ws : List Jvm.Cond) (o0 : Addr) (k_o0 : ClassId) (u1 u2 u3 u4 u5 u6 u7 u8 sv_COMPACT_STRINGS : Int32) (h0 : Heap) (n0 : Nat) (O0 : Old Z n0 h0) (V_o0 : Arv Z h0 o0 k_o0 .char (8 : Int32) [(.int u1), (.int u2), (.int u3), (.int u4), (.int u5), (.int u6), (.int u7), (.int u8)] (.int (0 : Int32))) (bnd_u1 : ¬ u1 < (0 : Int32) ∧ ¬ (255 : Int32) < u1) (bnd_u2 : ¬ u2 < (0 : Int32) ∧ ¬ (255 : Int32) < u2) (bnd_u3 : ¬ u3 < (0 : Int32) ∧ ¬ (255 : Int32) < u3) (bnd_u4 : ¬ u4 < (0 : Int32) ∧ ¬ (255 : Int32) < u4) (bnd_u5 : ¬ u5 < (0 : Int32) ∧ ¬ (255 : Int32) < u5) (S_COMPACT_STRINGS : Sta Z Z.heap "java/lang/String" "COMPACT_STRINGS" "Z" (.int sv_COMPACT_STRINGS)) (hCS : ¬ (sv_COMPACT_STRINGS = (0 : Int32))) :
    Con l Z (⟨"com/example/tapline/tapline/rules/ReturnPeriodByIdPinLaw", "str", "([CI)Ljava/lang/String;"⟩ : MethodName) method_2_code 2 (some (.object "java/lang/String")) ws ({ frames := 4, cells := 3, slots := 14, locals := 66 } : Room) #[(.ref o0), (.int (5 : Int32))] h0 (fun v h L => ∃ (b1 : Addr), ∃ (b1_3_2_17 : Addr), ∃ (k1_3_2_17 : ClassId), v = some (.ref b1) ∧ Fr n0 L ∧ h0.size ≤ b1 ∧ h0.size ≤ b1_3_2_17 ∧ Keep h0 h [] ∧ Exa Z h b1 "java/lang/String" ∧ Fld Z h b1 "java/lang/String" "coder" "B" (.int (0 : Int32)) ∧ Fld Z h b1 "java/lang/String" "value" "[B" (.ref b1_3_2_17) ∧ Arv Z h b1_3_2_17 k1_3_2_17 .byte (5 : Int32) [(.int (u1.toInt8.toInt32)), (.int (u2.toInt8.toInt32)), (.int (u3.toInt8.toInt32)), (.int (u4.toInt8.toInt32)), (.int (u5.toInt8.toInt32))] (.int (0 : Int32))) := by
 refine own_body (plainFor_of_name own_pn2) (fun m => ef_rm1_4 m o0 (5 : Int32)) ?_
 intro p e s m below meth c s₁ hx hby hlk hml hret hZ hown hnm X0 e0
 have N0 := Fr.nil n0
 refine Home.run X0 hx hby sg1_0_1 (pc' := 1) (L' := #[.val (.ref o0), .val (.int (5 : Int32))]) (S' := [(.int (5 : Int32))]) rfl ?_
 refine Home.go (fun _ => XS.ifYes X0.here hx rfl (pc0 := 1) (pc' := 15) rfl (hb hby d1_1) rfl ((if0 _ _).trans (tlt (by decide)).2.2.1) (by decide) (by decide)) ?_
 refine Home.run X0 hx hby sg1_15_2 (pc' := 17) (L' := #[.val (.ref o0), .val (.int (5 : Int32))]) (S' := [(.int (1 : Int32)), (.int (5 : Int32))]) rfl ?_
 refine Home.go (fun _ => XS.icmpYes X0.here hx rfl (pc0 := 17) (pc' := 37) rfl (hb hby d1_17) rfl (feq (by decide)).2 (by decide) (by decide)) ?_
 refine Home.run X0 hx hby sg1_37_2 (pc' := 39) (L' := #[.val (.ref o0), .val (.int (5 : Int32))]) (S' := [(.int (2 : Int32)), (.int (5 : Int32))]) rfl ?_
 refine Home.go (fun _ => XS.icmpYes X0.here hx rfl (pc0 := 39) (pc' := 65) rfl (hb hby d1_39) rfl (feq (by decide)).2 (by decide) (by decide)) ?_
 refine Home.run X0 hx hby sg1_65_2 (pc' := 67) (L' := #[.val (.ref o0), .val (.int (5 : Int32))]) (S' := [(.int (3 : Int32)), (.int (5 : Int32))]) rfl ?_
 refine Home.go (fun _ => XS.icmpYes X0.here hx rfl (pc0 := 67) (pc' := 99) rfl (hb hby d1_67) rfl (feq (by decide)).2 (by decide) (by decide)) ?_
 refine Home.run X0 hx hby sg1_99_2 (pc' := 101) (L' := #[.val (.ref o0), .val (.int (5 : Int32))]) (S' := [(.int (4 : Int32)), (.int (5 : Int32))]) rfl ?_
 refine Home.go (fun _ => XS.icmpYes X0.here hx rfl (pc0 := 101) (pc' := 139) rfl (hb hby d1_101) rfl (feq (by decide)).2 (by decide) (by decide)) ?_
 refine Home.run X0 hx hby sg1_139_2 (pc' := 141) (L' := #[.val (.ref o0), .val (.int (5 : Int32))]) (S' := [(.int (5 : Int32)), (.int (5 : Int32))]) rfl ?_
 refine Home.go (fun _ => XS.icmpNo X0.here hx rfl (hb hby d1_141) rfl (teq (by decide)).2) ?_
 refine Home.nw (own_newO X0 hx hZ hown (own_w5 hw) (own_w6 hw) (own_w7 hw) e0 rfl (hb hby d1_144) (by decide) (by decide)) fun T1 h1 b1 g1 X1 e1 E1 A1 D1 => ?_
 have g_b1 : n0 ≤ b1 := Nat.le_trans (Old.le O0) (Nat.le_of_eq g1.symm)
 have F_coder_b1 : Fld Z h1 b1 "java/lang/String" "coder" "B" (.int (0 : Int32)) := D1 (Or.inr (own_w31 hw)) (ty := .byte) (by decide)
 have F_value_b1 : Fld Z h1 b1 "java/lang/String" "value" "[B" .null := D1 (Or.inr (own_w33 hw)) (ty := (.array .byte)) (by decide)
 have O1 := O0.ext E1
 have K1 : Keep h0 h1 ([] : List Addr) := Keep.ext (Keep.refl h0 ([] : List Addr)) E1
 show Home T1 (mkF m 147 #[.val (.ref o0), .val (.int (5 : Int32))] [(.ref b1)])
 refine Home.run X1 hx hby sg1_147_2 (pc' := 149) (L' := #[.val (.ref o0), .val (.int (5 : Int32))]) (S' := [(.int (5 : Int32)), (.ref b1), (.ref b1)]) rfl ?_
 refine Home.na (own_newP (aty := .char) X1 hx hZ (own_w0 hw) e1 (g := (mkF m 149 #[.val (.ref o0), .val (.int (5 : Int32))] [(.int (5 : Int32)), (.ref b1), (.ref b1)])) rfl (hb hby d1_149) rfl (by decide) (cap := 5) (by decide) (by decide) (by decide) (by decide)) fun T2 h2 k2 b2 g2 X2 e2 E2 A2 => ?_
 have g_b2 : n0 ≤ b2 := Nat.le_trans (Old.le O1) (Nat.le_of_eq g2.symm)
 have V2 : Arv Z h2 b2 k2 .char (5 : Int32) [(.int (0 : Int32)), (.int (0 : Int32)), (.int (0 : Int32)), (.int (0 : Int32)), (.int (0 : Int32))] (.int (0 : Int32)) := (Arv.new A2 (by decide)).pad (pad_rep [] (.int (0 : Int32)) 5)
 have O2 := O1.ext E2
 have K2 : Keep h0 h2 ([] : List Addr) := Keep.ext K1 E2
 refine Home.run X2 hx hby sg1_151_4 (pc' := 155) (L' := #[.val (.ref o0), .val (.int (5 : Int32))]) (S' := [(.int (0 : Int32)), (.ref o0), (.int (0 : Int32)), (.ref b2), (.ref b2), (.ref b1), (.ref b1)]) rfl ?_
 obtain ⟨cl3, Ar3, q3, S3, M3, H3, G3⟩ := id (V_o0.keep K2 nin0)
 have ib3 : ¬ ((0 : Int32) < 0 ∨ cl3.slots.size ≤ ((0 : Int32)).toNatClampNeg) := inb_of S3 ⟨by decide, by decide⟩
 refine Home.go (X2.caload hx (j := (0 : Int32)) (v := (.int u1)) (by rw [e2]; exact Ar3.1) (State.isArrayOf_alike hZ.alike Ar3.2.1) Ar3.2.2 ib3 (Has.at H3 ib3 rfl) rfl rfl (hb hby d1_155)) ?_
 show Home T2 (mkF m 156 #[.val (.ref o0), .val (.int (5 : Int32))] [(.int u1), (.int (0 : Int32)), (.ref b2), (.ref b2), (.ref b1), (.ref b1)])
 obtain ⟨cl4, Ar4, q4, S4, M4, H4, G4⟩ := id V2
 refine Home.wr (stC X2 hx hZ e2 Ar4 (j := (0 : Int32)) (inb_of S4 ⟨by decide, by decide⟩) rfl rfl (hb hby d1_156)) fun T4 h4 X4 e4 W4 => ?_
 have W4' := Wr.to W4 (congrArg Value.int (nar_char_id bnd_u1 (by decide +kernel) (by decide +kernel)))
 have V4 : Arv Z h4 b2 k2 .char (5 : Int32) [(.int u1), (.int (0 : Int32)), (.int (0 : Int32)), (.int (0 : Int32)), (.int (0 : Int32))] (.int (0 : Int32)) := Arv.set Ar4 q4 S4 M4 H4 G4 (fits_char_b bnd_u1 (by decide +kernel) (by decide +kernel)) W4' 0 rfl (Nat.le_of_ble_eq_true rfl)
 have O4 := O2.wr W4 g_b2
 have K4 : Keep h0 h4 ([] : List Addr) := Keep.wr K2 W4 (Or.inr (Nat.le_trans E1.1 (Nat.le_of_eq g2.symm)))
 have N4 := Fr.snoc X4 N0 g_b2
 refine Home.run X4 hx hby sg1_157_4 (pc' := 161) (L' := #[.val (.ref o0), .val (.int (5 : Int32))]) (S' := [(.int (1 : Int32)), (.ref o0), (.int (1 : Int32)), (.ref b2), (.ref b2), (.ref b1), (.ref b1)]) rfl ?_
 obtain ⟨cl5, Ar5, q5, S5, M5, H5, G5⟩ := id (V_o0.keep K4 nin0)
 have ib5 : ¬ ((1 : Int32) < 0 ∨ cl5.slots.size ≤ ((1 : Int32)).toNatClampNeg) := inb_of S5 ⟨by decide, by decide⟩
 refine Home.go (X4.caload hx (j := (1 : Int32)) (v := (.int u2)) (by rw [e4]; exact Ar5.1) (State.isArrayOf_alike hZ.alike Ar5.2.1) Ar5.2.2 ib5 (Has.at H5 ib5 rfl) rfl rfl (hb hby d1_161)) ?_
 show Home T4 (mkF m 162 #[.val (.ref o0), .val (.int (5 : Int32))] [(.int u2), (.int (1 : Int32)), (.ref b2), (.ref b2), (.ref b1), (.ref b1)])
 obtain ⟨cl6, Ar6, q6, S6, M6, H6, G6⟩ := id V4
 refine Home.wr (stC X4 hx hZ e4 Ar6 (j := (1 : Int32)) (inb_of S6 ⟨by decide, by decide⟩) rfl rfl (hb hby d1_162)) fun T6 h6 X6 e6 W6 => ?_
 have W6' := Wr.to W6 (congrArg Value.int (nar_char_id bnd_u2 (by decide +kernel) (by decide +kernel)))
 have V6 : Arv Z h6 b2 k2 .char (5 : Int32) [(.int u1), (.int u2), (.int (0 : Int32)), (.int (0 : Int32)), (.int (0 : Int32))] (.int (0 : Int32)) := Arv.set Ar6 q6 S6 M6 H6 G6 (fits_char_b bnd_u2 (by decide +kernel) (by decide +kernel)) W6' 1 rfl (Nat.le_of_ble_eq_true rfl)
 have O6 := O4.wr W6 g_b2
 have K6 : Keep h0 h6 ([] : List Addr) := Keep.wr K4 W6 (Or.inr (Nat.le_trans E1.1 (Nat.le_of_eq g2.symm)))
 have N6 := Fr.snoc X6 N4 g_b2
 refine Home.run X6 hx hby sg1_163_4 (pc' := 167) (L' := #[.val (.ref o0), .val (.int (5 : Int32))]) (S' := [(.int (2 : Int32)), (.ref o0), (.int (2 : Int32)), (.ref b2), (.ref b2), (.ref b1), (.ref b1)]) rfl ?_
 obtain ⟨cl7, Ar7, q7, S7, M7, H7, G7⟩ := id (V_o0.keep K6 nin0)
 have ib7 : ¬ ((2 : Int32) < 0 ∨ cl7.slots.size ≤ ((2 : Int32)).toNatClampNeg) := inb_of S7 ⟨by decide, by decide⟩
 refine Home.go (X6.caload hx (j := (2 : Int32)) (v := (.int u3)) (by rw [e6]; exact Ar7.1) (State.isArrayOf_alike hZ.alike Ar7.2.1) Ar7.2.2 ib7 (Has.at H7 ib7 rfl) rfl rfl (hb hby d1_167)) ?_
 show Home T6 (mkF m 168 #[.val (.ref o0), .val (.int (5 : Int32))] [(.int u3), (.int (2 : Int32)), (.ref b2), (.ref b2), (.ref b1), (.ref b1)])
 obtain ⟨cl8, Ar8, q8, S8, M8, H8, G8⟩ := id V6
 refine Home.wr (stC X6 hx hZ e6 Ar8 (j := (2 : Int32)) (inb_of S8 ⟨by decide, by decide⟩) rfl rfl (hb hby d1_168)) fun T8 h8 X8 e8 W8 => ?_
 have W8' := Wr.to W8 (congrArg Value.int (nar_char_id bnd_u3 (by decide +kernel) (by decide +kernel)))
 have V8 : Arv Z h8 b2 k2 .char (5 : Int32) [(.int u1), (.int u2), (.int u3), (.int (0 : Int32)), (.int (0 : Int32))] (.int (0 : Int32)) := Arv.set Ar8 q8 S8 M8 H8 G8 (fits_char_b bnd_u3 (by decide +kernel) (by decide +kernel)) W8' 2 rfl (Nat.le_of_ble_eq_true rfl)
 have O8 := O6.wr W8 g_b2
 have K8 : Keep h0 h8 ([] : List Addr) := Keep.wr K6 W8 (Or.inr (Nat.le_trans E1.1 (Nat.le_of_eq g2.symm)))
 have N8 := Fr.snoc X8 N6 g_b2
 refine Home.run X8 hx hby sg1_169_4 (pc' := 173) (L' := #[.val (.ref o0), .val (.int (5 : Int32))]) (S' := [(.int (3 : Int32)), (.ref o0), (.int (3 : Int32)), (.ref b2), (.ref b2), (.ref b1), (.ref b1)]) rfl ?_
 obtain ⟨cl9, Ar9, q9, S9, M9, H9, G9⟩ := id (V_o0.keep K8 nin0)
 have ib9 : ¬ ((3 : Int32) < 0 ∨ cl9.slots.size ≤ ((3 : Int32)).toNatClampNeg) := inb_of S9 ⟨by decide, by decide⟩
 refine Home.go (X8.caload hx (j := (3 : Int32)) (v := (.int u4)) (by rw [e8]; exact Ar9.1) (State.isArrayOf_alike hZ.alike Ar9.2.1) Ar9.2.2 ib9 (Has.at H9 ib9 rfl) rfl rfl (hb hby d1_173)) ?_
 show Home T8 (mkF m 174 #[.val (.ref o0), .val (.int (5 : Int32))] [(.int u4), (.int (3 : Int32)), (.ref b2), (.ref b2), (.ref b1), (.ref b1)])
 obtain ⟨cl10, Ar10, q10, S10, M10, H10, G10⟩ := id V8
 refine Home.wr (stC X8 hx hZ e8 Ar10 (j := (3 : Int32)) (inb_of S10 ⟨by decide, by decide⟩) rfl rfl (hb hby d1_174)) fun T10 h10 X10 e10 W10 => ?_
 have W10' := Wr.to W10 (congrArg Value.int (nar_char_id bnd_u4 (by decide +kernel) (by decide +kernel)))
 have V10 : Arv Z h10 b2 k2 .char (5 : Int32) [(.int u1), (.int u2), (.int u3), (.int u4), (.int (0 : Int32))] (.int (0 : Int32)) := Arv.set Ar10 q10 S10 M10 H10 G10 (fits_char_b bnd_u4 (by decide +kernel) (by decide +kernel)) W10' 3 rfl (Nat.le_of_ble_eq_true rfl)
 have O10 := O8.wr W10 g_b2
 have K10 : Keep h0 h10 ([] : List Addr) := Keep.wr K8 W10 (Or.inr (Nat.le_trans E1.1 (Nat.le_of_eq g2.symm)))
 have N10 := Fr.snoc X10 N8 g_b2
 refine Home.run X10 hx hby sg1_175_4 (pc' := 179) (L' := #[.val (.ref o0), .val (.int (5 : Int32))]) (S' := [(.int (4 : Int32)), (.ref o0), (.int (4 : Int32)), (.ref b2), (.ref b2), (.ref b1), (.ref b1)]) rfl ?_
 obtain ⟨cl11, Ar11, q11, S11, M11, H11, G11⟩ := id (V_o0.keep K10 nin0)
 have ib11 : ¬ ((4 : Int32) < 0 ∨ cl11.slots.size ≤ ((4 : Int32)).toNatClampNeg) := inb_of S11 ⟨by decide, by decide⟩
 refine Home.go (X10.caload hx (j := (4 : Int32)) (v := (.int u5)) (by rw [e10]; exact Ar11.1) (State.isArrayOf_alike hZ.alike Ar11.2.1) Ar11.2.2 ib11 (Has.at H11 ib11 rfl) rfl rfl (hb hby d1_179)) ?_
 show Home T10 (mkF m 180 #[.val (.ref o0), .val (.int (5 : Int32))] [(.int u5), (.int (4 : Int32)), (.ref b2), (.ref b2), (.ref b1), (.ref b1)])
 obtain ⟨cl12, Ar12, q12, S12, M12, H12, G12⟩ := id V10
 refine Home.wr (stC X10 hx hZ e10 Ar12 (j := (4 : Int32)) (inb_of S12 ⟨by decide, by decide⟩) rfl rfl (hb hby d1_180)) fun T12 h12 X12 e12 W12 => ?_
 have W12' := Wr.to W12 (congrArg Value.int (nar_char_id bnd_u5 (by decide +kernel) (by decide +kernel)))
 have V12 : Arv Z h12 b2 k2 .char (5 : Int32) [(.int u1), (.int u2), (.int u3), (.int u4), (.int u5)] (.int (0 : Int32)) := Arv.set Ar12 q12 S12 M12 H12 G12 (fits_char_b bnd_u5 (by decide +kernel) (by decide +kernel)) W12' 4 rfl (Nat.le_of_ble_eq_true rfl)
 have O12 := O10.wr W12 g_b2
 have K12 : Keep h0 h12 ([] : List Addr) := Keep.wr K10 W12 (Or.inr (Nat.le_trans E1.1 (Nat.le_of_eq g2.symm)))
 have N12 := Fr.snoc X12 N10 g_b2
 have q13 := ((((((A1.ext E2).wr W4).wr W6).wr W8).wr W10).wr W12)
 have ne14 : b1 ≠ b2 := (Nat.ne_of_lt (Nat.lt_of_lt_of_le A1.lt (Nat.le_trans (Nat.le_refl _) (Nat.le_of_eq g2.symm))))
 have q15 := ((((((F_coder_b1.ext E2).other W4 (Or.inl ne14)).other W6 (Or.inl ne14)).other W8 (Or.inl ne14)).other W10 (Or.inl ne14)).other W12 (Or.inl ne14))
 have q16 := ((((((F_value_b1.ext E2).other W4 (Or.inl ne14)).other W6 (Or.inl ne14)).other W8 (Or.inl ne14)).other W10 (Or.inl ne14)).other W12 (Or.inl ne14))
 refine Home.call (own_special X12 hx hZ hown rfl (own_w8 hw) (own_w9 hw) (own_w7 hw) (own_w10 hw) (by decide) (rm2_4 l Z a0 hw [] b1 b2 k2 u1 u2 u3 u4 u5 sv_COMPACT_STRINGS h12 n0 O12 V12 S_COMPACT_STRINGS q13 q15 q16 bnd_u1 bnd_u2 bnd_u3 bnd_u4 bnd_u5 g_b1 hCS) e12 rfl (by rw [hml]; rfl) (a := b1) (argsL := [(.ref b2)]) (rest := [(.ref b1)]) (lenOf own_pd4 rfl) rfl rfl (W := 1) (by exact hW0) (by decide) (by decide) (hb hby d1_181) (by decide) (by decide)) ?_
 rintro _ T17 L17 X17 ⟨b1_3_2_17, k1_3_2_17, rfl, N17q, sz_b1_3_2_17, K17q, P17_0, P17_1, P17_2, P17_3⟩
 have g_b1_3_2_17 : n0 ≤ b1_3_2_17 := Nat.le_trans (Old.le O12) sz_b1_3_2_17
 have O17 := Old.keep O12 K17q (allS g_b1 all0)
 have K17 : Keep h0 T17.heap ([] : List Addr) := Keep.trans K12 K17q (allS (Or.inr (Nat.le_trans (Nat.le_refl _) (Nat.le_of_eq g1.symm))) all0)
 have N17 := Fr.app N12 N17q
 show Home T17 (mkF m 184 #[.val (.ref o0), .val (.int (5 : Int32))] [(.ref b1)])
 have le18 : h0.size ≤ h2.size := Nat.le_trans E1.1 E2.1
 have le19 : h0.size ≤ h4.size := Nat.le_trans le18 (Nat.le_of_eq W4.size.symm)
 have le20 : h0.size ≤ h6.size := Nat.le_trans le19 (Nat.le_of_eq W6.size.symm)
 have le21 : h0.size ≤ h8.size := Nat.le_trans le20 (Nat.le_of_eq W8.size.symm)
 have le22 : h0.size ≤ h10.size := Nat.le_trans le21 (Nat.le_of_eq W10.size.symm)
 have le23 : h0.size ≤ h12.size := Nat.le_trans le22 (Nat.le_of_eq W12.size.symm)
 exact Home.retR X17 hx hlk hret rfl rfl (hb hby d1_184) ⟨b1, b1_3_2_17, k1_3_2_17, rfl, N17, (Nat.le_trans (Nat.le_refl _) (Nat.le_of_eq g1.symm)), (Nat.le_trans le23 sz_b1_3_2_17), K17, P17_0, P17_1, P17_2, P17_3⟩ (by decide) (by decide)
theorem rm9_1 (l : Launch) (Z : State) (a0 : Array Value) (hw : HW a0 Z) (ws : List Jvm.Cond) (o0 o1 : Addr) (k_o0 : ClassId) (u1 u2 u3 u4 u5 : Int32) (k_o1 : ClassId) (u6 u7 u8 u9 u10 : Int32) (h0 : Heap) (n0 : Nat) (O0 : Old Z n0 h0) (V_o0 : Arv Z h0 o0 k_o0 .byte (5 : Int32) [(.int u1), (.int u2), (.int u3), (.int u4), (.int u5)] (.int (0 : Int32))) (V_o1 : Arv Z h0 o1 k_o1 .byte (5 : Int32) [(.int u6), (.int u7), (.int u8), (.int u9), (.int u10)] (.int (0 : Int32))) :
    Con l Z (⟨"java/lang/StringLatin1", "equals", "([B[B)Z"⟩ : MethodName) jdk_43_method_13_code 3 (some .boolean) ws ({ frames := 0, cells := 0, slots := 0, locals := 0 } : Room) #[(.ref o0), (.ref o1)] h0 (Pur (some (.int (f_rm9_1 u1 u2 u3 u4 u5 u6 u7 u8 u9 u10))) h0) := by
 refine own_body (plainFor_of_name own_pn3) (fun m => ef_rm9_1 m o0 o1) ?_
 intro p e s m below meth c s₁ hx hby hlk hml hret hZ hown hnm X0 e0
 have N0 := Fr.nil n0
 refine Home.run X0 hx hby sg9_0_1 (pc' := 1) (L' := #[.val (.ref o0), .val (.ref o1), .unset]) (S' := [(.ref o0)]) rfl ?_
 obtain ⟨cl1, Ar1, q1, S1, M1, H1, G1⟩ := id V_o0
 refine Home.go (own_alen X0 hx hZ e0 Ar1 S1 M1 rfl rfl (hb hby d9_1)) ?_
 refine Home.run X0 hx hby sg9_2_1 (pc' := 3) (L' := #[.val (.ref o0), .val (.ref o1), .unset]) (S' := [(.ref o1), (.int (5 : Int32))]) rfl ?_
 obtain ⟨cl2, Ar2, q2, S2, M2, H2, G2⟩ := id V_o1
 refine Home.go (own_alen X0 hx hZ e0 Ar2 S2 M2 rfl rfl (hb hby d9_3)) ?_
 refine Home.go (fun _ => XS.icmpNo X0.here hx rfl (hb hby d9_4) rfl (teq (by decide)).2) ?_
 refine Home.run X0 hx hby sg9_7_4 (pc' := 11) (L' := #[.val (.ref o0), .val (.ref o1), .val (.int (0 : Int32))]) (S' := [(.ref o0), (.int (0 : Int32))]) rfl ?_
 obtain ⟨cl3, Ar3, q3, S3, M3, H3, G3⟩ := id V_o0
 refine Home.go (own_alen X0 hx hZ e0 Ar3 S3 M3 rfl rfl (hb hby d9_11)) ?_
 show Home s₁ (mkF m 12 #[.val (.ref o0), .val (.ref o1), .val (.int (0 : Int32))] [(.int (5 : Int32)), (.int (0 : Int32))])
 refine Home.go (fun _ => XS.icmpNo X0.here hx rfl (hb hby d9_12) rfl (tlt (by decide)).2.1) ?_
 refine Home.run X0 hx hby sg9_15_2 (pc' := 17) (L' := #[.val (.ref o0), .val (.ref o1), .val (.int (0 : Int32))]) (S' := [(.int (0 : Int32)), (.ref o0)]) rfl ?_
 obtain ⟨cl4, Ar4, q4, S4, M4, H4, G4⟩ := id V_o0
 have ib4 : ¬ ((0 : Int32) < 0 ∨ cl4.slots.size ≤ ((0 : Int32)).toNatClampNeg) := inb_of S4 ⟨by decide, by decide⟩
 refine Home.go (X0.baloadBytes hx (j := (0 : Int32)) (v := (.int u1)) (by rw [e0]; exact Ar4.1) (State.isArrayOf_alike hZ.alike Ar4.2.1) Ar4.2.2 ib4 (Has.at H4 ib4 rfl) rfl rfl (hb hby d9_17)) ?_
 refine Home.run X0 hx hby sg9_18_2 (pc' := 20) (L' := #[.val (.ref o0), .val (.ref o1), .val (.int (0 : Int32))]) (S' := [(.int (0 : Int32)), (.ref o1), (.int u1)]) rfl ?_
 obtain ⟨cl5, Ar5, q5, S5, M5, H5, G5⟩ := id V_o1
 have ib5 : ¬ ((0 : Int32) < 0 ∨ cl5.slots.size ≤ ((0 : Int32)).toNatClampNeg) := inb_of S5 ⟨by decide, by decide⟩
 refine Home.go (X0.baloadBytes hx (j := (0 : Int32)) (v := (.int u6)) (by rw [e0]; exact Ar5.1) (State.isArrayOf_alike hZ.alike Ar5.2.1) Ar5.2.2 ib5 (Has.at H5 ib5 rfl) rfl rfl (hb hby d9_20)) ?_
 show Home s₁ (mkF m 21 #[.val (.ref o0), .val (.ref o1), .val (.int (0 : Int32))] [(.int u6), (.int u1)])
 by_cases c6 : u1 = u6
 ·
  refine Home.go (fun _ => XS.icmpYes X0.here hx rfl (pc0 := 21) (pc' := 26) rfl (hb hby d9_21) rfl (teq c6).1 (by decide) (by decide)) ?_
  refine Home.run X0 hx hby sg9_26_4 (pc' := 11) (L' := #[.val (.ref o0), .val (.ref o1), .val (.int (1 : Int32))]) (S' := [(.ref o0), (.int (1 : Int32))]) rfl ?_
  obtain ⟨cl7, Ar7, q7, S7, M7, H7, G7⟩ := id V_o0
  refine Home.go (own_alen X0 hx hZ e0 Ar7 S7 M7 rfl rfl (hb hby d9_11)) ?_
  refine Home.go (fun _ => XS.icmpNo X0.here hx rfl (hb hby d9_12) rfl (tlt (by decide)).2.1) ?_
  refine Home.run X0 hx hby sg9_15_2 (pc' := 17) (L' := #[.val (.ref o0), .val (.ref o1), .val (.int (1 : Int32))]) (S' := [(.int (1 : Int32)), (.ref o0)]) rfl ?_
  obtain ⟨cl8, Ar8, q8, S8, M8, H8, G8⟩ := id V_o0
  have ib8 : ¬ ((1 : Int32) < 0 ∨ cl8.slots.size ≤ ((1 : Int32)).toNatClampNeg) := inb_of S8 ⟨by decide, by decide⟩
  refine Home.go (X0.baloadBytes hx (j := (1 : Int32)) (v := (.int u2)) (by rw [e0]; exact Ar8.1) (State.isArrayOf_alike hZ.alike Ar8.2.1) Ar8.2.2 ib8 (Has.at H8 ib8 rfl) rfl rfl (hb hby d9_17)) ?_
  show Home s₁ (mkF m 18 #[.val (.ref o0), .val (.ref o1), .val (.int (1 : Int32))] [(.int u2)])
  refine Home.run X0 hx hby sg9_18_2 (pc' := 20) (L' := #[.val (.ref o0), .val (.ref o1), .val (.int (1 : Int32))]) (S' := [(.int (1 : Int32)), (.ref o1), (.int u2)]) rfl ?_
  obtain ⟨cl9, Ar9, q9, S9, M9, H9, G9⟩ := id V_o1
  have ib9 : ¬ ((1 : Int32) < 0 ∨ cl9.slots.size ≤ ((1 : Int32)).toNatClampNeg) := inb_of S9 ⟨by decide, by decide⟩
  refine Home.go (X0.baloadBytes hx (j := (1 : Int32)) (v := (.int u7)) (by rw [e0]; exact Ar9.1) (State.isArrayOf_alike hZ.alike Ar9.2.1) Ar9.2.2 ib9 (Has.at H9 ib9 rfl) rfl rfl (hb hby d9_20)) ?_
  by_cases c10 : u2 = u7
  ·
   refine Home.go (fun _ => XS.icmpYes X0.here hx rfl (pc0 := 21) (pc' := 26) rfl (hb hby d9_21) rfl (teq c10).1 (by decide) (by decide)) ?_
   refine Home.run X0 hx hby sg9_26_4 (pc' := 11) (L' := #[.val (.ref o0), .val (.ref o1), .val (.int (2 : Int32))]) (S' := [(.ref o0), (.int (2 : Int32))]) rfl ?_
   obtain ⟨cl11, Ar11, q11, S11, M11, H11, G11⟩ := id V_o0
   refine Home.go (own_alen X0 hx hZ e0 Ar11 S11 M11 rfl rfl (hb hby d9_11)) ?_
   refine Home.go (fun _ => XS.icmpNo X0.here hx rfl (hb hby d9_12) rfl (tlt (by decide)).2.1) ?_
   refine Home.run X0 hx hby sg9_15_2 (pc' := 17) (L' := #[.val (.ref o0), .val (.ref o1), .val (.int (2 : Int32))]) (S' := [(.int (2 : Int32)), (.ref o0)]) rfl ?_
   obtain ⟨cl12, Ar12, q12, S12, M12, H12, G12⟩ := id V_o0
   have ib12 : ¬ ((2 : Int32) < 0 ∨ cl12.slots.size ≤ ((2 : Int32)).toNatClampNeg) := inb_of S12 ⟨by decide, by decide⟩
   refine Home.go (X0.baloadBytes hx (j := (2 : Int32)) (v := (.int u3)) (by rw [e0]; exact Ar12.1) (State.isArrayOf_alike hZ.alike Ar12.2.1) Ar12.2.2 ib12 (Has.at H12 ib12 rfl) rfl rfl (hb hby d9_17)) ?_
   show Home s₁ (mkF m 18 #[.val (.ref o0), .val (.ref o1), .val (.int (2 : Int32))] [(.int u3)])
   refine Home.run X0 hx hby sg9_18_2 (pc' := 20) (L' := #[.val (.ref o0), .val (.ref o1), .val (.int (2 : Int32))]) (S' := [(.int (2 : Int32)), (.ref o1), (.int u3)]) rfl ?_
   obtain ⟨cl13, Ar13, q13, S13, M13, H13, G13⟩ := id V_o1
   have ib13 : ¬ ((2 : Int32) < 0 ∨ cl13.slots.size ≤ ((2 : Int32)).toNatClampNeg) := inb_of S13 ⟨by decide, by decide⟩
   refine Home.go (X0.baloadBytes hx (j := (2 : Int32)) (v := (.int u8)) (by rw [e0]; exact Ar13.1) (State.isArrayOf_alike hZ.alike Ar13.2.1) Ar13.2.2 ib13 (Has.at H13 ib13 rfl) rfl rfl (hb hby d9_20)) ?_
   by_cases c14 : u3 = u8
   ·
    refine Home.go (fun _ => XS.icmpYes X0.here hx rfl (pc0 := 21) (pc' := 26) rfl (hb hby d9_21) rfl (teq c14).1 (by decide) (by decide)) ?_
    refine Home.run X0 hx hby sg9_26_4 (pc' := 11) (L' := #[.val (.ref o0), .val (.ref o1), .val (.int (3 : Int32))]) (S' := [(.ref o0), (.int (3 : Int32))]) rfl ?_
    obtain ⟨cl15, Ar15, q15, S15, M15, H15, G15⟩ := id V_o0
    refine Home.go (own_alen X0 hx hZ e0 Ar15 S15 M15 rfl rfl (hb hby d9_11)) ?_
    refine Home.go (fun _ => XS.icmpNo X0.here hx rfl (hb hby d9_12) rfl (tlt (by decide)).2.1) ?_
    refine Home.run X0 hx hby sg9_15_2 (pc' := 17) (L' := #[.val (.ref o0), .val (.ref o1), .val (.int (3 : Int32))]) (S' := [(.int (3 : Int32)), (.ref o0)]) rfl ?_
    obtain ⟨cl16, Ar16, q16, S16, M16, H16, G16⟩ := id V_o0
    have ib16 : ¬ ((3 : Int32) < 0 ∨ cl16.slots.size ≤ ((3 : Int32)).toNatClampNeg) := inb_of S16 ⟨by decide, by decide⟩
    refine Home.go (X0.baloadBytes hx (j := (3 : Int32)) (v := (.int u4)) (by rw [e0]; exact Ar16.1) (State.isArrayOf_alike hZ.alike Ar16.2.1) Ar16.2.2 ib16 (Has.at H16 ib16 rfl) rfl rfl (hb hby d9_17)) ?_
    show Home s₁ (mkF m 18 #[.val (.ref o0), .val (.ref o1), .val (.int (3 : Int32))] [(.int u4)])
    refine Home.run X0 hx hby sg9_18_2 (pc' := 20) (L' := #[.val (.ref o0), .val (.ref o1), .val (.int (3 : Int32))]) (S' := [(.int (3 : Int32)), (.ref o1), (.int u4)]) rfl ?_
    obtain ⟨cl17, Ar17, q17, S17, M17, H17, G17⟩ := id V_o1
    have ib17 : ¬ ((3 : Int32) < 0 ∨ cl17.slots.size ≤ ((3 : Int32)).toNatClampNeg) := inb_of S17 ⟨by decide, by decide⟩
    refine Home.go (X0.baloadBytes hx (j := (3 : Int32)) (v := (.int u9)) (by rw [e0]; exact Ar17.1) (State.isArrayOf_alike hZ.alike Ar17.2.1) Ar17.2.2 ib17 (Has.at H17 ib17 rfl) rfl rfl (hb hby d9_20)) ?_
    by_cases c18 : u4 = u9
    ·
     refine Home.go (fun _ => XS.icmpYes X0.here hx rfl (pc0 := 21) (pc' := 26) rfl (hb hby d9_21) rfl (teq c18).1 (by decide) (by decide)) ?_
     refine Home.run X0 hx hby sg9_26_4 (pc' := 11) (L' := #[.val (.ref o0), .val (.ref o1), .val (.int (4 : Int32))]) (S' := [(.ref o0), (.int (4 : Int32))]) rfl ?_
     obtain ⟨cl19, Ar19, q19, S19, M19, H19, G19⟩ := id V_o0
     refine Home.go (own_alen X0 hx hZ e0 Ar19 S19 M19 rfl rfl (hb hby d9_11)) ?_
     refine Home.go (fun _ => XS.icmpNo X0.here hx rfl (hb hby d9_12) rfl (tlt (by decide)).2.1) ?_
     refine Home.run X0 hx hby sg9_15_2 (pc' := 17) (L' := #[.val (.ref o0), .val (.ref o1), .val (.int (4 : Int32))]) (S' := [(.int (4 : Int32)), (.ref o0)]) rfl ?_
     obtain ⟨cl20, Ar20, q20, S20, M20, H20, G20⟩ := id V_o0
     have ib20 : ¬ ((4 : Int32) < 0 ∨ cl20.slots.size ≤ ((4 : Int32)).toNatClampNeg) := inb_of S20 ⟨by decide, by decide⟩
     refine Home.go (X0.baloadBytes hx (j := (4 : Int32)) (v := (.int u5)) (by rw [e0]; exact Ar20.1) (State.isArrayOf_alike hZ.alike Ar20.2.1) Ar20.2.2 ib20 (Has.at H20 ib20 rfl) rfl rfl (hb hby d9_17)) ?_
     show Home s₁ (mkF m 18 #[.val (.ref o0), .val (.ref o1), .val (.int (4 : Int32))] [(.int u5)])
     refine Home.run X0 hx hby sg9_18_2 (pc' := 20) (L' := #[.val (.ref o0), .val (.ref o1), .val (.int (4 : Int32))]) (S' := [(.int (4 : Int32)), (.ref o1), (.int u5)]) rfl ?_
     obtain ⟨cl21, Ar21, q21, S21, M21, H21, G21⟩ := id V_o1
     have ib21 : ¬ ((4 : Int32) < 0 ∨ cl21.slots.size ≤ ((4 : Int32)).toNatClampNeg) := inb_of S21 ⟨by decide, by decide⟩
     refine Home.go (X0.baloadBytes hx (j := (4 : Int32)) (v := (.int u10)) (by rw [e0]; exact Ar21.1) (State.isArrayOf_alike hZ.alike Ar21.2.1) Ar21.2.2 ib21 (Has.at H21 ib21 rfl) rfl rfl (hb hby d9_20)) ?_
     by_cases c22 : u5 = u10
     ·
      refine Home.go (fun _ => XS.icmpYes X0.here hx rfl (pc0 := 21) (pc' := 26) rfl (hb hby d9_21) rfl (teq c22).1 (by decide) (by decide)) ?_
      refine Home.run X0 hx hby sg9_26_4 (pc' := 11) (L' := #[.val (.ref o0), .val (.ref o1), .val (.int (5 : Int32))]) (S' := [(.ref o0), (.int (5 : Int32))]) rfl ?_
      obtain ⟨cl23, Ar23, q23, S23, M23, H23, G23⟩ := id V_o0
      refine Home.go (own_alen X0 hx hZ e0 Ar23 S23 M23 rfl rfl (hb hby d9_11)) ?_
      refine Home.go (fun _ => XS.icmpYes X0.here hx rfl (pc0 := 12) (pc' := 32) rfl (hb hby d9_12) rfl (flt (by decide)).2.1 (by decide) (by decide)) ?_
      refine Home.run X0 hx hby sg9_32_1 (pc' := 33) (L' := #[.val (.ref o0), .val (.ref o1), .val (.int (5 : Int32))]) (S' := [(.int (1 : Int32))]) rfl ?_
      exact Home.retN X0 hx hlk (t := .boolean) hret (by simp) (hb hby d9_33) ⟨congrArg some (congrArg Value.int (by first | rfl | (simp only [f_rm9_1, if_pos c6, if_pos c10, if_pos c14, if_pos c18, if_pos c22, nar_i2c, nar_i2b] <;> rfl) | (simp [f_rm9_1, if_pos c6, if_pos c10, if_pos c14, if_pos c18, if_pos c22]; done))), rfl, e0⟩ (by decide) (by decide)
     ·
      refine Home.go (fun _ => XS.icmpNo X0.here hx rfl (hb hby d9_21) rfl (feq c22).1) ?_
      refine Home.run X0 hx hby sg9_24_1 (pc' := 25) (L' := #[.val (.ref o0), .val (.ref o1), .val (.int (4 : Int32))]) (S' := [(.int (0 : Int32))]) rfl ?_
      exact Home.retN X0 hx hlk (t := .boolean) hret (by simp) (hb hby d9_25) ⟨congrArg some (congrArg Value.int (by first | rfl | (simp only [f_rm9_1, if_pos c6, if_pos c10, if_pos c14, if_pos c18, if_neg c22, nar_i2c, nar_i2b] <;> rfl) | (simp [f_rm9_1, if_pos c6, if_pos c10, if_pos c14, if_pos c18, if_neg c22]; done))), rfl, e0⟩ (by decide) (by decide)
    ·
     refine Home.go (fun _ => XS.icmpNo X0.here hx rfl (hb hby d9_21) rfl (feq c18).1) ?_
     refine Home.run X0 hx hby sg9_24_1 (pc' := 25) (L' := #[.val (.ref o0), .val (.ref o1), .val (.int (3 : Int32))]) (S' := [(.int (0 : Int32))]) rfl ?_
     exact Home.retN X0 hx hlk (t := .boolean) hret (by simp) (hb hby d9_25) ⟨congrArg some (congrArg Value.int (by first | rfl | (simp only [f_rm9_1, if_pos c6, if_pos c10, if_pos c14, if_neg c18, nar_i2c, nar_i2b] <;> rfl) | (simp [f_rm9_1, if_pos c6, if_pos c10, if_pos c14, if_neg c18]; done))), rfl, e0⟩ (by decide) (by decide)
   ·
    refine Home.go (fun _ => XS.icmpNo X0.here hx rfl (hb hby d9_21) rfl (feq c14).1) ?_
    refine Home.run X0 hx hby sg9_24_1 (pc' := 25) (L' := #[.val (.ref o0), .val (.ref o1), .val (.int (2 : Int32))]) (S' := [(.int (0 : Int32))]) rfl ?_
    exact Home.retN X0 hx hlk (t := .boolean) hret (by simp) (hb hby d9_25) ⟨congrArg some (congrArg Value.int (by first | rfl | (simp only [f_rm9_1, if_pos c6, if_pos c10, if_neg c14, nar_i2c, nar_i2b] <;> rfl) | (simp [f_rm9_1, if_pos c6, if_pos c10, if_neg c14]; done))), rfl, e0⟩ (by decide) (by decide)
  ·
   refine Home.go (fun _ => XS.icmpNo X0.here hx rfl (hb hby d9_21) rfl (feq c10).1) ?_
   refine Home.run X0 hx hby sg9_24_1 (pc' := 25) (L' := #[.val (.ref o0), .val (.ref o1), .val (.int (1 : Int32))]) (S' := [(.int (0 : Int32))]) rfl ?_
   exact Home.retN X0 hx hlk (t := .boolean) hret (by simp) (hb hby d9_25) ⟨congrArg some (congrArg Value.int (by first | rfl | (simp only [f_rm9_1, if_pos c6, if_neg c10, nar_i2c, nar_i2b] <;> rfl) | (simp [f_rm9_1, if_pos c6, if_neg c10]; done))), rfl, e0⟩ (by decide) (by decide)
 ·
  refine Home.go (fun _ => XS.icmpNo X0.here hx rfl (hb hby d9_21) rfl (feq c6).1) ?_
  refine Home.run X0 hx hby sg9_24_1 (pc' := 25) (L' := #[.val (.ref o0), .val (.ref o1), .val (.int (0 : Int32))]) (S' := [(.int (0 : Int32))]) rfl ?_
  exact Home.retN X0 hx hlk (t := .boolean) hret (by simp) (hb hby d9_25) ⟨congrArg some (congrArg Value.int (by first | rfl | (simp only [f_rm9_1, if_neg c6, nar_i2c, nar_i2b] <;> rfl) | (simp [f_rm9_1, if_neg c6]; done))), rfl, e0⟩ (by decide) (by decide)
theorem f_rm9_1_bnd (u1 : Int32) (u2 : Int32) (u3 : Int32) (u4 : Int32) (u5 : Int32) (u6 : Int32) (u7 : Int32) (u8 : Int32) (u9 : Int32) (u10 : Int32) : ¬ (f_rm9_1 u1 u2 u3 u4 u5 u6 u7 u8 u9 u10) < (0 : Int32) ∧ ¬ (1 : Int32) < (f_rm9_1 u1 u2 u3 u4 u5 u6 u7 u8 u9 u10) := by unfold f_rm9_1; (repeat' split) <;> first | exact bnd_mono (bnd_lit (1 : Int32)) (by decide +kernel) (by decide +kernel) | exact bnd_mono (bnd_lit (0 : Int32)) (by decide +kernel) (by decide +kernel)
theorem rm8_1 (l : Launch) (Z : State) (a0 : Array Value) (hw : HW a0 Z) (ws : List Jvm.Cond) (o0 o1 : Addr) (sv_COMPACT_STRINGS : Int32) (p3 p4 : Addr) (k_p3 : ClassId) (u1 u2 u3 u4 u5 : Int32) (k_p4 : ClassId) (u6 u7 u8 u9 u10 : Int32) (h0 : Heap) (n0 : Nat) (O0 : Old Z n0 h0) (E_o0 : Exa Z h0 o0 "java/lang/String") (E_o1 : Exa Z h0 o1 "java/lang/String") (ne_o0_o1 : o0 ≠ o1) (S_COMPACT_STRINGS : Sta Z Z.heap "java/lang/String" "COMPACT_STRINGS" "Z" (.int sv_COMPACT_STRINGS)) (hCS : ¬ (sv_COMPACT_STRINGS = (0 : Int32))) (F_coder_o0 : Fld Z h0 o0 "java/lang/String" "coder" "B" (.int (0 : Int32))) (F_coder_o1 : Fld Z h0 o1 "java/lang/String" "coder" "B" (.int (0 : Int32))) (F_value_o0 : Fld Z h0 o0 "java/lang/String" "value" "[B" (.ref p3)) (F_value_o1 : Fld Z h0 o1 "java/lang/String" "value" "[B" (.ref p4)) (V_p3 : Arv Z h0 p3 k_p3 .byte (5 : Int32) [(.int u1), (.int u2), (.int u3), (.int u4), (.int u5)] (.int (0 : Int32))) (V_p4 : Arv Z h0 p4 k_p4 .byte (5 : Int32) [(.int u6), (.int u7), (.int u8), (.int u9), (.int u10)] (.int (0 : Int32))) :
    Con l Z (⟨"java/lang/String", "equals", "(Ljava/lang/Object;)Z"⟩ : MethodName) jdk_42_method_66_code 3 (some .boolean) ws ({ frames := 1, cells := 0, slots := 0, locals := 14 } : Room) #[(.ref o0), (.ref o1)] h0 (Pur (some (.int (f_rm8_1 u1 u2 u3 u4 u5 u6 u7 u8 u9 u10))) h0) := by
 refine own_body (plainFor_of_name own_pn1) (fun m => ef_rm8_1 m o0 o1) ?_
 intro p e s m below meth c s₁ hx hby hlk hml hret hZ hown hnm X0 e0
 have N0 := Fr.nil n0
 refine Home.run X0 hx hby sg8_0_2 (pc' := 2) (L' := #[.val (.ref o0), .val (.ref o1), .unset]) (S' := [(.ref o1), (.ref o0)]) rfl ?_
 refine Home.go (fun _ => Jvm.RoadKit.acmp X0 hx rfl rfl rfl (pc0 := 2) (pc' := 7) (same := false) rfl (hb hby d8_2) rfl (decide_eq_false fun q => ne_o0_o1 (Value.ref.inj q)) (by decide) (by decide)) ?_
 show Home s₁ (mkF m 7 #[.val (.ref o0), .val (.ref o1), .unset] [])
 refine Home.run X0 hx hby sg8_7_1 (pc' := 8) (L' := #[.val (.ref o0), .val (.ref o1), .unset]) (S' := [(.ref o1)]) rfl ?_
 refine Home.st (instY X0 hx hZ hown (own_w42 hw) e0 (Ins.self E_o1) rfl rfl (hb hby d8_8)) fun T1 X1 e1 => ?_
 refine Home.go (fun _ => XS.ifNo X1.here hx rfl (hb hby d8_11) rfl ((if0 _ _).trans (feq (by decide)).1)) ?_
 refine Home.run X1 hx hby sg8_14_1 (pc' := 15) (L' := #[.val (.ref o0), .val (.ref o1), .unset]) (S' := [(.ref o1)]) rfl ?_
 refine Home.st (castY X1 hx hZ hown (own_w42 hw) e1 (Ins.self E_o1) rfl rfl (hb hby d8_15)) fun T2 X2 e2 => ?_
 refine Home.run X2 hx hby sg8_18_1 (pc' := 19) (L' := #[.val (.ref o0), .val (.ref o1), .val (.ref o1)]) (S' := []) rfl ?_
 refine Home.st (getS2 X2 hx hZ hown (host := "") (Or.inl (own_w18 hw)) Via.refl e2 (S_COMPACT_STRINGS.ext O0.2) rfl (hb hby d8_19)) fun T3 X3 e3 => ?_
 refine Home.go (fun _ => XS.ifNo X3.here hx rfl (hb hby d8_22) rfl ((if0 _ _).trans (feq hCS).1)) ?_
 refine Home.run X3 hx hby sg8_25_1 (pc' := 26) (L' := #[.val (.ref o0), .val (.ref o1), .val (.ref o1)]) (S' := [(.ref o0)]) rfl ?_
 refine Home.st (getF X3 hx hZ hown (host := "") (Or.inl (own_w30 hw)) Via.refl e3 F_coder_o0 rfl rfl (hb hby d8_26)) fun T4 X4 e4 => ?_
 show Home T4 (mkF m 29 #[.val (.ref o0), .val (.ref o1), .val (.ref o1)] [(.int (0 : Int32))])
 refine Home.run X4 hx hby sg8_29_1 (pc' := 30) (L' := #[.val (.ref o0), .val (.ref o1), .val (.ref o1)]) (S' := [(.ref o1), (.int (0 : Int32))]) rfl ?_
 refine Home.st (getF X4 hx hZ hown (host := "") (Or.inl (own_w30 hw)) Via.refl e4 F_coder_o1 rfl rfl (hb hby d8_30)) fun T5 X5 e5 => ?_
 refine Home.go (fun _ => XS.icmpNo X5.here hx rfl (hb hby d8_33) rfl (teq (by decide)).2) ?_
 refine Home.run X5 hx hby sg8_36_1 (pc' := 37) (L' := #[.val (.ref o0), .val (.ref o1), .val (.ref o1)]) (S' := [(.ref o0)]) rfl ?_
 refine Home.st (getF X5 hx hZ hown (host := "") (Or.inl (own_w32 hw)) Via.refl e5 F_value_o0 rfl rfl (hb hby d8_37)) fun T6 X6 e6 => ?_
 refine Home.run X6 hx hby sg8_40_1 (pc' := 41) (L' := #[.val (.ref o0), .val (.ref o1), .val (.ref o1)]) (S' := [(.ref o1), (.ref p3)]) rfl ?_
 refine Home.st (getF X6 hx hZ hown (host := "") (Or.inl (own_w32 hw)) Via.refl e6 F_value_o1 rfl rfl (hb hby d8_41)) fun T7 X7 e7 => ?_
 refine Home.st (own_pure (own_static X7 hx hZ hown (own_w43 hw) (own_w44 hw) (own_w45 hw) (own_w46 hw) (by decide) (rm9_1 l Z a0 hw [] p3 p4 k_p3 u1 u2 u3 u4 u5 k_p4 u6 u7 u8 u9 u10 h0 n0 O0 V_p3 V_p4) e7 rfl (by rw [hml]; rfl) (argsL := [(.ref p3), (.ref p4)]) (rest := []) (lenOf own_pd6 rfl) rfl rfl (W := 0) (by exact hW0) (by decide) (by decide) (hb hby d8_44) (by decide) (by decide))) fun T8 X8 e8 => ?_
 show Home T8 (mkF m 47 #[.val (.ref o0), .val (.ref o1), .val (.ref o1)] [(.int (f_rm9_1 u1 u2 u3 u4 u5 u6 u7 u8 u9 u10))])
 obtain ⟨r9, hr9⟩ : ∃ z, z = (f_rm9_1 u1 u2 u3 u4 u5 u6 u7 u8 u9 u10) := ⟨_, rfl⟩
 rw [← hr9]
 have br9 : ¬ r9 < (0 : Int32) ∧ ¬ (1 : Int32) < r9 := by rw [hr9]; exact f_rm9_1_bnd u1 u2 u3 u4 u5 u6 u7 u8 u9 u10
 suffices J13 : ∀ {T : State} (X : Stand p l e ({ frames := 1, cells := 0, slots := 0, locals := 14 } : Room) s m #[(.ref o0), (.ref o1)] below meth c T [] 0 0) (eT : T.heap = h0) (v14 : Int32) (hv14 : v14 = (if r9 = (0 : Int32) then (0 : Int32) else (1 : Int32))), @Home p e below _ T (mkF m 55 #[.val (.ref o0), .val (.ref o1), .val (.ref o1)] [(.int v14)]) by
  by_cases c10 : r9 = (0 : Int32)
  ·
   refine Home.go (fun _ => XS.ifYes X8.here hx rfl (pc0 := 47) (pc' := 54) rfl (hb hby d8_47) rfl ((if0 _ _).trans (teq c10).1) (by decide) (by decide)) ?_
   have bd11 : ¬ r9 < (0 : Int32) ∧ ¬ (0 : Int32) < r9 := ⟨(bnd_eql c10), (bnd_eqr c10)⟩
   refine Home.run X8 hx hby sg8_54_1 (pc' := 55) (L' := #[.val (.ref o0), .val (.ref o1), .val (.ref o1)]) (S' := [(.int (0 : Int32))]) rfl ?_
   exact J13 X8 e8 _ (by simp only [if_pos c10])
  ·
   refine Home.go (fun _ => XS.ifNo X8.here hx rfl (hb hby d8_47) rfl ((if0 _ _).trans (feq c10).1)) ?_
   have bd12 : ¬ r9 < (1 : Int32) ∧ ¬ (1 : Int32) < r9 := ⟨(bnd_nel br9.1 c10 (by decide +kernel)), br9.2⟩
   refine Home.run X8 hx hby sg8_50_2 (pc' := 55) (L' := #[.val (.ref o0), .val (.ref o1), .val (.ref o1)]) (S' := [(.int (1 : Int32))]) rfl ?_
   exact J13 X8 e8 _ (by simp only [if_neg c10])
 intro TJ13 XJ13 eJ13 v14 hv14
 have bv14 : ¬ v14 < (0 : Int32) ∧ ¬ (1 : Int32) < v14 := by rw [hv14]; exact (bnd_ite (bnd_mono (bnd_lit (0 : Int32)) (by decide +kernel) (by decide +kernel)) (bnd_mono (bnd_lit (1 : Int32)) (by decide +kernel) (by decide +kernel)))
 show Home TJ13 (mkF m 55 #[.val (.ref o0), .val (.ref o1), .val (.ref o1)] [(.int v14)])
 exact Home.retN XJ13 hx hlk (t := .boolean) hret (by simp) (hb hby d8_55) ⟨congrArg some (congrArg Value.int (by subst hv14; subst hr9; first | rfl | (simp only [f_rm8_1, nar_bool_id bv14 (by decide +kernel) (by decide +kernel), nar_i2c, nar_i2b] <;> rfl) | (simp [f_rm8_1, nar_bool_id bv14 (by decide +kernel) (by decide +kernel)]; done))), rfl, eJ13⟩ (by decide) (by decide)
theorem f_rm8_1_bnd (u1 : Int32) (u2 : Int32) (u3 : Int32) (u4 : Int32) (u5 : Int32) (u6 : Int32) (u7 : Int32) (u8 : Int32) (u9 : Int32) (u10 : Int32) : ¬ (f_rm8_1 u1 u2 u3 u4 u5 u6 u7 u8 u9 u10) < (0 : Int32) ∧ ¬ (1 : Int32) < (f_rm8_1 u1 u2 u3 u4 u5 u6 u7 u8 u9 u10) := by unfold f_rm8_1; (repeat' split) <;> first | exact bnd_mono (bnd_lit (0 : Int32)) (by decide +kernel) (by decide +kernel) | exact bnd_mono (bnd_lit (1 : Int32)) (by decide +kernel) (by decide +kernel)
theorem rm10_1 (l : Launch) (Z : State) (a0 : Array Value) (hw : HW a0 Z) (ws : List Jvm.Cond) (o0 sv__VALUES : Addr) (k_sv__VALUES : ClassId) (sv_MONTH sv_QUARTER sv_MONTH_id : Addr) (sv_COMPACT_STRINGS : Int32) (sv_MONTH_id_value p2 : Addr) (k_sv_MONTH_id_value k_p2 : ClassId) (u1 u2 u3 u4 u5 : Int32) (sv_QUARTER_id sv_QUARTER_id_value : Addr) (k_sv_QUARTER_id_value : ClassId) (h0 : Heap) (n0 : Nat) (O0 : Old Z n0 h0) (pt0 : (f_rm8_1 (109 : Int32) (111 : Int32) (110 : Int32) (116 : Int32) (104 : Int32) u1 u2 u3 u4 u5) = (0 : Int32)) (S__VALUES : Sta Z Z.heap "com/example/tapline/tapline/rules/ReturnPeriod" "$VALUES" "[Lcom/example/tapline/tapline/rules/ReturnPeriod;" (.ref sv__VALUES)) (V_sv__VALUES : Arv Z Z.heap sv__VALUES k_sv__VALUES (.object "com/example/tapline/tapline/rules/ReturnPeriod") (2 : Int32) [(.ref sv_MONTH), (.ref sv_QUARTER)] .null) (E_sv__VALUES : Exa Z Z.heap sv__VALUES "[Lcom/example/tapline/tapline/rules/ReturnPeriod;") (F_id_sv_MONTH : Fld Z Z.heap sv_MONTH "com/example/tapline/tapline/rules/ReturnPeriod" "id" "Ljava/lang/String;" (.ref sv_MONTH_id)) (E_sv_MONTH_id : Exa Z Z.heap sv_MONTH_id "java/lang/String") (E_o0 : Exa Z h0 o0 "java/lang/String") (S_COMPACT_STRINGS : Sta Z Z.heap "java/lang/String" "COMPACT_STRINGS" "Z" (.int sv_COMPACT_STRINGS)) (F_coder_sv_MONTH_id : Fld Z Z.heap sv_MONTH_id "java/lang/String" "coder" "B" (.int (0 : Int32))) (F_coder_o0 : Fld Z h0 o0 "java/lang/String" "coder" "B" (.int (0 : Int32))) (F_value_sv_MONTH_id : Fld Z Z.heap sv_MONTH_id "java/lang/String" "value" "[B" (.ref sv_MONTH_id_value)) (F_value_o0 : Fld Z h0 o0 "java/lang/String" "value" "[B" (.ref p2)) (V_sv_MONTH_id_value : Arv Z Z.heap sv_MONTH_id_value k_sv_MONTH_id_value .byte (5 : Int32) [(.int (109 : Int32)), (.int (111 : Int32)), (.int (110 : Int32)), (.int (116 : Int32)), (.int (104 : Int32))] (.int (0 : Int32))) (V_p2 : Arv Z h0 p2 k_p2 .byte (5 : Int32) [(.int u1), (.int u2), (.int u3), (.int u4), (.int u5)] (.int (0 : Int32))) (g_o0 : n0 ≤ o0) (hCS : ¬ (sv_COMPACT_STRINGS = (0 : Int32))) (F_id_sv_QUARTER : Fld Z Z.heap sv_QUARTER "com/example/tapline/tapline/rules/ReturnPeriod" "id" "Ljava/lang/String;" (.ref sv_QUARTER_id)) (E_sv_QUARTER_id : Exa Z Z.heap sv_QUARTER_id "java/lang/String") (F_coder_sv_QUARTER_id : Fld Z Z.heap sv_QUARTER_id "java/lang/String" "coder" "B" (.int (0 : Int32))) (F_value_sv_QUARTER_id : Fld Z Z.heap sv_QUARTER_id "java/lang/String" "value" "[B" (.ref sv_QUARTER_id_value)) (V_sv_QUARTER_id_value : Arv Z Z.heap sv_QUARTER_id_value k_sv_QUARTER_id_value .byte (7 : Int32) [(.int (113 : Int32)), (.int (117 : Int32)), (.int (97 : Int32)), (.int (114 : Int32)), (.int (116 : Int32)), (.int (101 : Int32)), (.int (114 : Int32))] (.int (0 : Int32))) :
    Con l Z (⟨"com/example/tapline/tapline/rules/ReturnPeriod", "byId", "(Ljava/lang/String;)Lcom/example/tapline/tapline/rules/ReturnPeriod;"⟩ : MethodName) prog_74_method_7_code 6 (some (.object "com/example/tapline/tapline/rules/ReturnPeriod")) ws ({ frames := 2, cells := 1, slots := 2, locals := 28 } : Room) #[(.ref o0)] h0 (fun v h L => v = some .null ∧ Fr n0 L ∧ Keep h0 h []) := by
 refine own_body (plainFor_of_name own_pn4) (fun m => ef_rm10_1 m o0) ?_
 intro p e s m below meth c s₁ hx hby hlk hml hret hZ hown hnm X0 e0
 have N0 := Fr.nil n0
 have bd901 : ¬ (f_rm8_1 (109 : Int32) (111 : Int32) (110 : Int32) (116 : Int32) (104 : Int32) u1 u2 u3 u4 u5) < (0 : Int32) ∧ ¬ (0 : Int32) < (f_rm8_1 (109 : Int32) (111 : Int32) (110 : Int32) (116 : Int32) (104 : Int32) u1 u2 u3 u4 u5) := ⟨(bnd_eql pt0), (bnd_eqr pt0)⟩
 refine Home.run X0 hx hby sg10_0_2 (pc' := 2) (L' := #[.val (.ref o0), .val .null, .unset, .unset, .unset, .unset]) (S' := []) rfl ?_
 refine Home.call (own_static X0 hx hZ hown (own_w53 hw) (own_w54 hw) (own_w48 hw) (own_w55 hw) (by decide) (rm11_0 l Z a0 hw [] sv__VALUES k_sv__VALUES sv_MONTH sv_QUARTER h0 n0 O0 S__VALUES V_sv__VALUES E_sv__VALUES) e0 rfl (by rw [hml]; rfl) (argsL := []) (rest := []) (lenOf own_pd8 rfl) rfl rfl (W := 0) (by exact hW0) (by decide) (by decide) (hb hby d10_2) (by decide) (by decide)) ?_
 rintro _ T1 L1 X1 ⟨b2_1, rfl, N1q, sz_b2_1, K1q, P1_0, P1_1⟩
 have g_b2_1 : n0 ≤ b2_1 := Nat.le_trans (Old.le O0) sz_b2_1
 have O1 := Old.keep O0 K1q all0
 have K1 : Keep h0 T1.heap ([] : List Addr) := Keep.trans (Keep.refl h0 ([] : List Addr)) K1q all0
 have N1 := Fr.app N0 N1q
 refine Home.run X1 hx hby sg10_5_2 (pc' := 7) (L' := #[.val (.ref o0), .val .null, .val (.ref b2_1), .unset, .unset, .unset]) (S' := [(.ref b2_1)]) rfl ?_
 obtain ⟨cl2, Ar2, q2, S2, M2, H2, G2⟩ := id P1_0
 refine Home.go (own_alen X1 hx hZ rfl Ar2 S2 M2 rfl rfl (hb hby d10_7)) ?_
 show Home T1 (mkF m 8 #[.val (.ref o0), .val .null, .val (.ref b2_1), .unset, .unset, .unset] [(.int (2 : Int32))])
 refine Home.run X1 hx hby sg10_8_5 (pc' := 15) (L' := #[.val (.ref o0), .val .null, .val (.ref b2_1), .val (.int (2 : Int32)), .val (.int (0 : Int32)), .unset]) (S' := [(.int (2 : Int32)), (.int (0 : Int32))]) rfl ?_
 refine Home.go (fun _ => XS.icmpNo X1.here hx rfl (hb hby d10_15) rfl (tlt (by decide)).2.1) ?_
 refine Home.run X1 hx hby sg10_18_2 (pc' := 21) (L' := #[.val (.ref o0), .val .null, .val (.ref b2_1), .val (.int (2 : Int32)), .val (.int (0 : Int32)), .unset]) (S' := [(.int (0 : Int32)), (.ref b2_1)]) rfl ?_
 obtain ⟨cl3, Ar3, q3, S3, M3, H3, G3⟩ := id P1_0
 have ib3 : ¬ ((0 : Int32) < 0 ∨ cl3.slots.size ≤ ((0 : Int32)).toNatClampNeg) := inb_of S3 ⟨by decide, by decide⟩
 refine Home.go (X1.aaload hx (j := (0 : Int32)) (v := (.ref sv_MONTH)) Ar3.1 (State.isArrayOf_alike hZ.alike Ar3.2.1) rfl Ar3.2.2 ib3 (Has.at H3 ib3 rfl) rfl rfl (hb hby d10_21)) ?_
 refine Home.run X1 hx hby sg10_22_2 (pc' := 26) (L' := #[.val (.ref o0), .val .null, .val (.ref b2_1), .val (.int (2 : Int32)), .val (.int (0 : Int32)), .val (.ref sv_MONTH)]) (S' := [(.ref sv_MONTH)]) rfl ?_
 refine Home.st (getF X1 hx hZ hown (host := "") (Or.inl (own_w69 hw)) Via.refl rfl (F_id_sv_MONTH.ext O1.2) rfl rfl (hb hby d10_26)) fun T4 X4 e4 => ?_
 show Home T4 (mkF m 29 #[.val (.ref o0), .val .null, .val (.ref b2_1), .val (.int (2 : Int32)), .val (.int (0 : Int32)), .val (.ref sv_MONTH)] [(.ref sv_MONTH_id)])
 refine Home.run X4 hx hby sg10_29_1 (pc' := 30) (L' := #[.val (.ref o0), .val .null, .val (.ref b2_1), .val (.int (2 : Int32)), .val (.int (0 : Int32)), .val (.ref sv_MONTH)]) (S' := [(.ref o0), (.ref sv_MONTH_id)]) rfl ?_
 have ne5 : sv_MONTH_id ≠ o0 := (Old.ne O0 E_sv_MONTH_id.lt g_o0)
 refine Home.st (own_pure (own_virtual X4 hx hZ hown (own_w71 hw) (own_w38 hw) (notFace_of_selects (args := #[]) (mvT hZ (own_w40 hw))) (own_w40 hw) (own_w39 hw) (own_w7 hw) (own_w41 hw) (by decide) (rm8_1 l Z a0 hw [] sv_MONTH_id o0 sv_COMPACT_STRINGS sv_MONTH_id_value p2 k_sv_MONTH_id_value (109 : Int32) (111 : Int32) (110 : Int32) (116 : Int32) (104 : Int32) k_p2 u1 u2 u3 u4 u5 T1.heap n0 O1 (E_sv_MONTH_id.ext O1.2) (E_o0.keep K1) ne5 S_COMPACT_STRINGS hCS (F_coder_sv_MONTH_id.ext O1.2) (F_coder_o0.keep K1 nin0) (F_value_sv_MONTH_id.ext O1.2) (F_value_o0.keep K1 nin0) (V_sv_MONTH_id_value.ext O1.2) (V_p2.keep K1 nin0)) e4 (E_sv_MONTH_id.ext O1.2) rfl (by rw [hml]; rfl) (argsL := [(.ref o0)]) (rest := []) (lenOf own_pd7 rfl) rfl rfl (W := 0) (by exact hW0) (by decide) (by decide) (hb hby d10_30) (by decide) (by decide))) fun T6 X6 e6 => ?_
 show Home T6 (mkF m 33 #[.val (.ref o0), .val .null, .val (.ref b2_1), .val (.int (2 : Int32)), .val (.int (0 : Int32)), .val (.ref sv_MONTH)] [(.int (f_rm8_1 (109 : Int32) (111 : Int32) (110 : Int32) (116 : Int32) (104 : Int32) u1 u2 u3 u4 u5))])
 obtain ⟨r7, hr7⟩ : ∃ z, z = (f_rm8_1 (109 : Int32) (111 : Int32) (110 : Int32) (116 : Int32) (104 : Int32) u1 u2 u3 u4 u5) := ⟨_, rfl⟩
 rw [← hr7]
 have br7 : ¬ r7 < (0 : Int32) ∧ ¬ (1 : Int32) < r7 := by rw [hr7]; exact f_rm8_1_bnd (109 : Int32) (111 : Int32) (110 : Int32) (116 : Int32) (104 : Int32) u1 u2 u3 u4 u5
 refine Home.go (fun _ => XS.ifYes X6.here hx rfl (pc0 := 33) (pc' := 39) rfl (hb hby d10_33) rfl ((if0 _ _).trans (teq (by rw [hr7]; exact pt0)).1) (by decide) (by decide)) ?_
 refine Home.run X6 hx hby sg10_39_4 (pc' := 15) (L' := #[.val (.ref o0), .val .null, .val (.ref b2_1), .val (.int (2 : Int32)), .val (.int (1 : Int32)), .val (.ref sv_MONTH)]) (S' := [(.int (2 : Int32)), (.int (1 : Int32))]) rfl ?_
 refine Home.go (fun _ => XS.icmpNo X6.here hx rfl (hb hby d10_15) rfl (tlt (by decide)).2.1) ?_
 refine Home.run X6 hx hby sg10_18_2 (pc' := 21) (L' := #[.val (.ref o0), .val .null, .val (.ref b2_1), .val (.int (2 : Int32)), .val (.int (1 : Int32)), .val (.ref sv_MONTH)]) (S' := [(.int (1 : Int32)), (.ref b2_1)]) rfl ?_
 obtain ⟨cl8, Ar8, q8, S8, M8, H8, G8⟩ := id P1_0
 have ib8 : ¬ ((1 : Int32) < 0 ∨ cl8.slots.size ≤ ((1 : Int32)).toNatClampNeg) := inb_of S8 ⟨by decide, by decide⟩
 refine Home.go (X6.aaload hx (j := (1 : Int32)) (v := (.ref sv_QUARTER)) (by rw [e6]; exact Ar8.1) (State.isArrayOf_alike hZ.alike Ar8.2.1) rfl Ar8.2.2 ib8 (Has.at H8 ib8 rfl) rfl rfl (hb hby d10_21)) ?_
 show Home T6 (mkF m 22 #[.val (.ref o0), .val .null, .val (.ref b2_1), .val (.int (2 : Int32)), .val (.int (1 : Int32)), .val (.ref sv_MONTH)] [(.ref sv_QUARTER)])
 refine Home.run X6 hx hby sg10_22_2 (pc' := 26) (L' := #[.val (.ref o0), .val .null, .val (.ref b2_1), .val (.int (2 : Int32)), .val (.int (1 : Int32)), .val (.ref sv_QUARTER)]) (S' := [(.ref sv_QUARTER)]) rfl ?_
 refine Home.st (getF X6 hx hZ hown (host := "") (Or.inl (own_w69 hw)) Via.refl e6 (F_id_sv_QUARTER.ext O1.2) rfl rfl (hb hby d10_26)) fun T9 X9 e9 => ?_
 refine Home.run X9 hx hby sg10_29_1 (pc' := 30) (L' := #[.val (.ref o0), .val .null, .val (.ref b2_1), .val (.int (2 : Int32)), .val (.int (1 : Int32)), .val (.ref sv_QUARTER)]) (S' := [(.ref o0), (.ref sv_QUARTER_id)]) rfl ?_
 have ne10 : sv_QUARTER_id ≠ o0 := (Old.ne O0 E_sv_QUARTER_id.lt g_o0)
 refine Home.st (own_pure (own_virtual X9 hx hZ hown (own_w71 hw) (own_w38 hw) (notFace_of_selects (args := #[]) (mvT hZ (own_w40 hw))) (own_w40 hw) (own_w39 hw) (own_w7 hw) (own_w41 hw) (by decide) (rm8_0 l Z a0 hw [] sv_QUARTER_id o0 sv_QUARTER_id_value k_sv_QUARTER_id_value (7 : Int32) [(.int (113 : Int32)), (.int (117 : Int32)), (.int (97 : Int32)), (.int (114 : Int32)), (.int (116 : Int32)), (.int (101 : Int32)), (.int (114 : Int32))] p2 k_p2 (5 : Int32) [(.int u1), (.int u2), (.int u3), (.int u4), (.int u5)] sv_COMPACT_STRINGS T1.heap n0 O1 (V_sv_QUARTER_id_value.ext O1.2) (V_p2.keep K1 nin0) (by decide) (E_sv_QUARTER_id.ext O1.2) (E_o0.keep K1) ne10 S_COMPACT_STRINGS hCS (F_coder_sv_QUARTER_id.ext O1.2) (F_coder_o0.keep K1 nin0) (F_value_sv_QUARTER_id.ext O1.2) (F_value_o0.keep K1 nin0)) e9 (E_sv_QUARTER_id.ext O1.2) rfl (by rw [hml]; rfl) (argsL := [(.ref o0)]) (rest := []) (lenOf own_pd7 rfl) rfl rfl (W := 0) (by exact hW0) (by decide) (by decide) (hb hby d10_30) (by decide) (by decide))) fun T11 X11 e11 => ?_
 refine Home.go (fun _ => XS.ifYes X11.here hx rfl (pc0 := 33) (pc' := 39) rfl (hb hby d10_33) rfl ((if0 _ _).trans (teq (by decide)).1) (by decide) (by decide)) ?_
 refine Home.run X11 hx hby sg10_39_4 (pc' := 15) (L' := #[.val (.ref o0), .val .null, .val (.ref b2_1), .val (.int (2 : Int32)), .val (.int (2 : Int32)), .val (.ref sv_QUARTER)]) (S' := [(.int (2 : Int32)), (.int (2 : Int32))]) rfl ?_
 refine Home.go (fun _ => XS.icmpYes X11.here hx rfl (pc0 := 15) (pc' := 45) rfl (hb hby d10_15) rfl (flt (by decide)).2.1 (by decide) (by decide)) ?_
 refine Home.run X11 hx hby sg10_45_1 (pc' := 46) (L' := #[.val (.ref o0), .val .null, .val (.ref b2_1), .val (.int (2 : Int32)), .val (.int (2 : Int32)), .val (.ref sv_QUARTER)]) (S' := [.null]) rfl ?_
 subst hr7
 exact Home.retR X11 hx hlk hret rfl rfl (hb hby d10_46) (by rw [show T11.heap = T1.heap from e11]; exact ⟨rfl, N1, K1⟩) (by decide) (by decide)
theorem rm10_2 (l : Launch) (Z : State) (a0 : Array Value) (hw : HW a0 Z) (ws : List Jvm.Cond) (o0 sv__VALUES : Addr) (k_sv__VALUES : ClassId) (sv_MONTH sv_QUARTER sv_MONTH_id : Addr) (sv_COMPACT_STRINGS : Int32) (sv_MONTH_id_value p2 : Addr) (k_sv_MONTH_id_value k_p2 : ClassId) (u1 u2 u3 u4 u5 : Int32) (sv_QUARTER_id sv_QUARTER_id_value : Addr) (k_sv_QUARTER_id_value : ClassId) (h0 : Heap) (n0 : Nat) (O0 : Old Z n0 h0) (pt0 : ¬ ((f_rm8_1 (109 : Int32) (111 : Int32) (110 : Int32) (116 : Int32) (104 : Int32) u1 u2 u3 u4 u5) = (0 : Int32))) (S__VALUES : Sta Z Z.heap "com/example/tapline/tapline/rules/ReturnPeriod" "$VALUES" "[Lcom/example/tapline/tapline/rules/ReturnPeriod;" (.ref sv__VALUES)) (V_sv__VALUES : Arv Z Z.heap sv__VALUES k_sv__VALUES (.object "com/example/tapline/tapline/rules/ReturnPeriod") (2 : Int32) [(.ref sv_MONTH), (.ref sv_QUARTER)] .null) (E_sv__VALUES : Exa Z Z.heap sv__VALUES "[Lcom/example/tapline/tapline/rules/ReturnPeriod;") (F_id_sv_MONTH : Fld Z Z.heap sv_MONTH "com/example/tapline/tapline/rules/ReturnPeriod" "id" "Ljava/lang/String;" (.ref sv_MONTH_id)) (E_sv_MONTH_id : Exa Z Z.heap sv_MONTH_id "java/lang/String") (E_o0 : Exa Z h0 o0 "java/lang/String") (S_COMPACT_STRINGS : Sta Z Z.heap "java/lang/String" "COMPACT_STRINGS" "Z" (.int sv_COMPACT_STRINGS)) (F_coder_sv_MONTH_id : Fld Z Z.heap sv_MONTH_id "java/lang/String" "coder" "B" (.int (0 : Int32))) (F_coder_o0 : Fld Z h0 o0 "java/lang/String" "coder" "B" (.int (0 : Int32))) (F_value_sv_MONTH_id : Fld Z Z.heap sv_MONTH_id "java/lang/String" "value" "[B" (.ref sv_MONTH_id_value)) (F_value_o0 : Fld Z h0 o0 "java/lang/String" "value" "[B" (.ref p2)) (V_sv_MONTH_id_value : Arv Z Z.heap sv_MONTH_id_value k_sv_MONTH_id_value .byte (5 : Int32) [(.int (109 : Int32)), (.int (111 : Int32)), (.int (110 : Int32)), (.int (116 : Int32)), (.int (104 : Int32))] (.int (0 : Int32))) (V_p2 : Arv Z h0 p2 k_p2 .byte (5 : Int32) [(.int u1), (.int u2), (.int u3), (.int u4), (.int u5)] (.int (0 : Int32))) (g_o0 : n0 ≤ o0) (hCS : ¬ (sv_COMPACT_STRINGS = (0 : Int32))) (F_id_sv_QUARTER : Fld Z Z.heap sv_QUARTER "com/example/tapline/tapline/rules/ReturnPeriod" "id" "Ljava/lang/String;" (.ref sv_QUARTER_id)) (E_sv_QUARTER_id : Exa Z Z.heap sv_QUARTER_id "java/lang/String") (F_coder_sv_QUARTER_id : Fld Z Z.heap sv_QUARTER_id "java/lang/String" "coder" "B" (.int (0 : Int32))) (F_value_sv_QUARTER_id : Fld Z Z.heap sv_QUARTER_id "java/lang/String" "value" "[B" (.ref sv_QUARTER_id_value)) (V_sv_QUARTER_id_value : Arv Z Z.heap sv_QUARTER_id_value k_sv_QUARTER_id_value .byte (7 : Int32) [(.int (113 : Int32)), (.int (117 : Int32)), (.int (97 : Int32)), (.int (114 : Int32)), (.int (116 : Int32)), (.int (101 : Int32)), (.int (114 : Int32))] (.int (0 : Int32))) :
    Con l Z (⟨"com/example/tapline/tapline/rules/ReturnPeriod", "byId", "(Ljava/lang/String;)Lcom/example/tapline/tapline/rules/ReturnPeriod;"⟩ : MethodName) prog_74_method_7_code 6 (some (.object "com/example/tapline/tapline/rules/ReturnPeriod")) ws ({ frames := 2, cells := 1, slots := 2, locals := 28 } : Room) #[(.ref o0)] h0 (fun v h L => v = some (.ref sv_MONTH) ∧ Fr n0 L ∧ Keep h0 h []) := by
 refine own_body (plainFor_of_name own_pn4) (fun m => ef_rm10_2 m o0) ?_
 intro p e s m below meth c s₁ hx hby hlk hml hret hZ hown hnm X0 e0
 have N0 := Fr.nil n0
 refine Home.run X0 hx hby sg10_0_2 (pc' := 2) (L' := #[.val (.ref o0), .val .null, .unset, .unset, .unset, .unset]) (S' := []) rfl ?_
 refine Home.call (own_static X0 hx hZ hown (own_w53 hw) (own_w54 hw) (own_w48 hw) (own_w55 hw) (by decide) (rm11_0 l Z a0 hw [] sv__VALUES k_sv__VALUES sv_MONTH sv_QUARTER h0 n0 O0 S__VALUES V_sv__VALUES E_sv__VALUES) e0 rfl (by rw [hml]; rfl) (argsL := []) (rest := []) (lenOf own_pd8 rfl) rfl rfl (W := 0) (by exact hW0) (by decide) (by decide) (hb hby d10_2) (by decide) (by decide)) ?_
 rintro _ T1 L1 X1 ⟨b2_1, rfl, N1q, sz_b2_1, K1q, P1_0, P1_1⟩
 have g_b2_1 : n0 ≤ b2_1 := Nat.le_trans (Old.le O0) sz_b2_1
 have O1 := Old.keep O0 K1q all0
 have K1 : Keep h0 T1.heap ([] : List Addr) := Keep.trans (Keep.refl h0 ([] : List Addr)) K1q all0
 have N1 := Fr.app N0 N1q
 refine Home.run X1 hx hby sg10_5_2 (pc' := 7) (L' := #[.val (.ref o0), .val .null, .val (.ref b2_1), .unset, .unset, .unset]) (S' := [(.ref b2_1)]) rfl ?_
 obtain ⟨cl2, Ar2, q2, S2, M2, H2, G2⟩ := id P1_0
 refine Home.go (own_alen X1 hx hZ rfl Ar2 S2 M2 rfl rfl (hb hby d10_7)) ?_
 show Home T1 (mkF m 8 #[.val (.ref o0), .val .null, .val (.ref b2_1), .unset, .unset, .unset] [(.int (2 : Int32))])
 refine Home.run X1 hx hby sg10_8_5 (pc' := 15) (L' := #[.val (.ref o0), .val .null, .val (.ref b2_1), .val (.int (2 : Int32)), .val (.int (0 : Int32)), .unset]) (S' := [(.int (2 : Int32)), (.int (0 : Int32))]) rfl ?_
 refine Home.go (fun _ => XS.icmpNo X1.here hx rfl (hb hby d10_15) rfl (tlt (by decide)).2.1) ?_
 refine Home.run X1 hx hby sg10_18_2 (pc' := 21) (L' := #[.val (.ref o0), .val .null, .val (.ref b2_1), .val (.int (2 : Int32)), .val (.int (0 : Int32)), .unset]) (S' := [(.int (0 : Int32)), (.ref b2_1)]) rfl ?_
 obtain ⟨cl3, Ar3, q3, S3, M3, H3, G3⟩ := id P1_0
 have ib3 : ¬ ((0 : Int32) < 0 ∨ cl3.slots.size ≤ ((0 : Int32)).toNatClampNeg) := inb_of S3 ⟨by decide, by decide⟩
 refine Home.go (X1.aaload hx (j := (0 : Int32)) (v := (.ref sv_MONTH)) Ar3.1 (State.isArrayOf_alike hZ.alike Ar3.2.1) rfl Ar3.2.2 ib3 (Has.at H3 ib3 rfl) rfl rfl (hb hby d10_21)) ?_
 refine Home.run X1 hx hby sg10_22_2 (pc' := 26) (L' := #[.val (.ref o0), .val .null, .val (.ref b2_1), .val (.int (2 : Int32)), .val (.int (0 : Int32)), .val (.ref sv_MONTH)]) (S' := [(.ref sv_MONTH)]) rfl ?_
 refine Home.st (getF X1 hx hZ hown (host := "") (Or.inl (own_w69 hw)) Via.refl rfl (F_id_sv_MONTH.ext O1.2) rfl rfl (hb hby d10_26)) fun T4 X4 e4 => ?_
 show Home T4 (mkF m 29 #[.val (.ref o0), .val .null, .val (.ref b2_1), .val (.int (2 : Int32)), .val (.int (0 : Int32)), .val (.ref sv_MONTH)] [(.ref sv_MONTH_id)])
 refine Home.run X4 hx hby sg10_29_1 (pc' := 30) (L' := #[.val (.ref o0), .val .null, .val (.ref b2_1), .val (.int (2 : Int32)), .val (.int (0 : Int32)), .val (.ref sv_MONTH)]) (S' := [(.ref o0), (.ref sv_MONTH_id)]) rfl ?_
 have ne5 : sv_MONTH_id ≠ o0 := (Old.ne O0 E_sv_MONTH_id.lt g_o0)
 refine Home.st (own_pure (own_virtual X4 hx hZ hown (own_w71 hw) (own_w38 hw) (notFace_of_selects (args := #[]) (mvT hZ (own_w40 hw))) (own_w40 hw) (own_w39 hw) (own_w7 hw) (own_w41 hw) (by decide) (rm8_1 l Z a0 hw [] sv_MONTH_id o0 sv_COMPACT_STRINGS sv_MONTH_id_value p2 k_sv_MONTH_id_value (109 : Int32) (111 : Int32) (110 : Int32) (116 : Int32) (104 : Int32) k_p2 u1 u2 u3 u4 u5 T1.heap n0 O1 (E_sv_MONTH_id.ext O1.2) (E_o0.keep K1) ne5 S_COMPACT_STRINGS hCS (F_coder_sv_MONTH_id.ext O1.2) (F_coder_o0.keep K1 nin0) (F_value_sv_MONTH_id.ext O1.2) (F_value_o0.keep K1 nin0) (V_sv_MONTH_id_value.ext O1.2) (V_p2.keep K1 nin0)) e4 (E_sv_MONTH_id.ext O1.2) rfl (by rw [hml]; rfl) (argsL := [(.ref o0)]) (rest := []) (lenOf own_pd7 rfl) rfl rfl (W := 0) (by exact hW0) (by decide) (by decide) (hb hby d10_30) (by decide) (by decide))) fun T6 X6 e6 => ?_
 show Home T6 (mkF m 33 #[.val (.ref o0), .val .null, .val (.ref b2_1), .val (.int (2 : Int32)), .val (.int (0 : Int32)), .val (.ref sv_MONTH)] [(.int (f_rm8_1 (109 : Int32) (111 : Int32) (110 : Int32) (116 : Int32) (104 : Int32) u1 u2 u3 u4 u5))])
 obtain ⟨r7, hr7⟩ : ∃ z, z = (f_rm8_1 (109 : Int32) (111 : Int32) (110 : Int32) (116 : Int32) (104 : Int32) u1 u2 u3 u4 u5) := ⟨_, rfl⟩
 rw [← hr7]
 have br7 : ¬ r7 < (0 : Int32) ∧ ¬ (1 : Int32) < r7 := by rw [hr7]; exact f_rm8_1_bnd (109 : Int32) (111 : Int32) (110 : Int32) (116 : Int32) (104 : Int32) u1 u2 u3 u4 u5
 refine Home.go (fun _ => XS.ifNo X6.here hx rfl (hb hby d10_33) rfl ((if0 _ _).trans (feq (by rw [hr7]; exact pt0)).1)) ?_
 refine Home.run X6 hx hby sg10_36_6 (pc' := 15) (L' := #[.val (.ref o0), .val (.ref sv_MONTH), .val (.ref b2_1), .val (.int (2 : Int32)), .val (.int (1 : Int32)), .val (.ref sv_MONTH)]) (S' := [(.int (2 : Int32)), (.int (1 : Int32))]) rfl ?_
 refine Home.go (fun _ => XS.icmpNo X6.here hx rfl (hb hby d10_15) rfl (tlt (by decide)).2.1) ?_
 refine Home.run X6 hx hby sg10_18_2 (pc' := 21) (L' := #[.val (.ref o0), .val (.ref sv_MONTH), .val (.ref b2_1), .val (.int (2 : Int32)), .val (.int (1 : Int32)), .val (.ref sv_MONTH)]) (S' := [(.int (1 : Int32)), (.ref b2_1)]) rfl ?_
 obtain ⟨cl8, Ar8, q8, S8, M8, H8, G8⟩ := id P1_0
 have ib8 : ¬ ((1 : Int32) < 0 ∨ cl8.slots.size ≤ ((1 : Int32)).toNatClampNeg) := inb_of S8 ⟨by decide, by decide⟩
 refine Home.go (X6.aaload hx (j := (1 : Int32)) (v := (.ref sv_QUARTER)) (by rw [e6]; exact Ar8.1) (State.isArrayOf_alike hZ.alike Ar8.2.1) rfl Ar8.2.2 ib8 (Has.at H8 ib8 rfl) rfl rfl (hb hby d10_21)) ?_
 show Home T6 (mkF m 22 #[.val (.ref o0), .val (.ref sv_MONTH), .val (.ref b2_1), .val (.int (2 : Int32)), .val (.int (1 : Int32)), .val (.ref sv_MONTH)] [(.ref sv_QUARTER)])
 refine Home.run X6 hx hby sg10_22_2 (pc' := 26) (L' := #[.val (.ref o0), .val (.ref sv_MONTH), .val (.ref b2_1), .val (.int (2 : Int32)), .val (.int (1 : Int32)), .val (.ref sv_QUARTER)]) (S' := [(.ref sv_QUARTER)]) rfl ?_
 refine Home.st (getF X6 hx hZ hown (host := "") (Or.inl (own_w69 hw)) Via.refl e6 (F_id_sv_QUARTER.ext O1.2) rfl rfl (hb hby d10_26)) fun T9 X9 e9 => ?_
 refine Home.run X9 hx hby sg10_29_1 (pc' := 30) (L' := #[.val (.ref o0), .val (.ref sv_MONTH), .val (.ref b2_1), .val (.int (2 : Int32)), .val (.int (1 : Int32)), .val (.ref sv_QUARTER)]) (S' := [(.ref o0), (.ref sv_QUARTER_id)]) rfl ?_
 have ne10 : sv_QUARTER_id ≠ o0 := (Old.ne O0 E_sv_QUARTER_id.lt g_o0)
 refine Home.st (own_pure (own_virtual X9 hx hZ hown (own_w71 hw) (own_w38 hw) (notFace_of_selects (args := #[]) (mvT hZ (own_w40 hw))) (own_w40 hw) (own_w39 hw) (own_w7 hw) (own_w41 hw) (by decide) (rm8_0 l Z a0 hw [] sv_QUARTER_id o0 sv_QUARTER_id_value k_sv_QUARTER_id_value (7 : Int32) [(.int (113 : Int32)), (.int (117 : Int32)), (.int (97 : Int32)), (.int (114 : Int32)), (.int (116 : Int32)), (.int (101 : Int32)), (.int (114 : Int32))] p2 k_p2 (5 : Int32) [(.int u1), (.int u2), (.int u3), (.int u4), (.int u5)] sv_COMPACT_STRINGS T1.heap n0 O1 (V_sv_QUARTER_id_value.ext O1.2) (V_p2.keep K1 nin0) (by decide) (E_sv_QUARTER_id.ext O1.2) (E_o0.keep K1) ne10 S_COMPACT_STRINGS hCS (F_coder_sv_QUARTER_id.ext O1.2) (F_coder_o0.keep K1 nin0) (F_value_sv_QUARTER_id.ext O1.2) (F_value_o0.keep K1 nin0)) e9 (E_sv_QUARTER_id.ext O1.2) rfl (by rw [hml]; rfl) (argsL := [(.ref o0)]) (rest := []) (lenOf own_pd7 rfl) rfl rfl (W := 0) (by exact hW0) (by decide) (by decide) (hb hby d10_30) (by decide) (by decide))) fun T11 X11 e11 => ?_
 refine Home.go (fun _ => XS.ifYes X11.here hx rfl (pc0 := 33) (pc' := 39) rfl (hb hby d10_33) rfl ((if0 _ _).trans (teq (by decide)).1) (by decide) (by decide)) ?_
 refine Home.run X11 hx hby sg10_39_4 (pc' := 15) (L' := #[.val (.ref o0), .val (.ref sv_MONTH), .val (.ref b2_1), .val (.int (2 : Int32)), .val (.int (2 : Int32)), .val (.ref sv_QUARTER)]) (S' := [(.int (2 : Int32)), (.int (2 : Int32))]) rfl ?_
 refine Home.go (fun _ => XS.icmpYes X11.here hx rfl (pc0 := 15) (pc' := 45) rfl (hb hby d10_15) rfl (flt (by decide)).2.1 (by decide) (by decide)) ?_
 refine Home.run X11 hx hby sg10_45_1 (pc' := 46) (L' := #[.val (.ref o0), .val (.ref sv_MONTH), .val (.ref b2_1), .val (.int (2 : Int32)), .val (.int (2 : Int32)), .val (.ref sv_QUARTER)]) (S' := [(.ref sv_MONTH)]) rfl ?_
 subst hr7
 exact Home.retR X11 hx hlk hret rfl rfl (hb hby d10_46) (by rw [show T11.heap = T1.heap from e11]; exact ⟨rfl, N1, K1⟩) (by decide) (by decide)
theorem rm1_5 (l : Launch) (Z : State) (a0 : Array Value) (hw : HW a0 Z) (ws : List Jvm.Cond) (o0 : Addr) (k_o0 : ClassId) (u1 u2 u3 u4 u5 u6 u7 u8 sv_COMPACT_STRINGS : Int32) (h0 : Heap) (n0 : Nat) (O0 : Old Z n0 h0) (V_o0 : Arv Z h0 o0 k_o0 .char (8 : Int32) [(.int u1), (.int u2), (.int u3), (.int u4), (.int u5), (.int u6), (.int u7), (.int u8)] (.int (0 : Int32))) (bnd_u1 : ¬ u1 < (0 : Int32) ∧ ¬ (255 : Int32) < u1) (bnd_u2 : ¬ u2 < (0 : Int32) ∧ ¬ (255 : Int32) < u2) (bnd_u3 : ¬ u3 < (0 : Int32) ∧ ¬ (255 : Int32) < u3) (bnd_u4 : ¬ u4 < (0 : Int32) ∧ ¬ (255 : Int32) < u4) (bnd_u5 : ¬ u5 < (0 : Int32) ∧ ¬ (255 : Int32) < u5) (bnd_u6 : ¬ u6 < (0 : Int32) ∧ ¬ (255 : Int32) < u6) (S_COMPACT_STRINGS : Sta Z Z.heap "java/lang/String" "COMPACT_STRINGS" "Z" (.int sv_COMPACT_STRINGS)) (hCS : ¬ (sv_COMPACT_STRINGS = (0 : Int32))) :
    Con l Z (⟨"com/example/tapline/tapline/rules/ReturnPeriodByIdPinLaw", "str", "([CI)Ljava/lang/String;"⟩ : MethodName) method_2_code 2 (some (.object "java/lang/String")) ws ({ frames := 4, cells := 3, slots := 16, locals := 66 } : Room) #[(.ref o0), (.int (6 : Int32))] h0 (fun v h L => ∃ (b1 : Addr), ∃ (b1_3_2_19 : Addr), ∃ (k1_3_2_19 : ClassId), v = some (.ref b1) ∧ Fr n0 L ∧ h0.size ≤ b1 ∧ h0.size ≤ b1_3_2_19 ∧ Keep h0 h [] ∧ Exa Z h b1 "java/lang/String" ∧ Fld Z h b1 "java/lang/String" "coder" "B" (.int (0 : Int32)) ∧ Fld Z h b1 "java/lang/String" "value" "[B" (.ref b1_3_2_19) ∧ Arv Z h b1_3_2_19 k1_3_2_19 .byte (6 : Int32) [(.int (u1.toInt8.toInt32)), (.int (u2.toInt8.toInt32)), (.int (u3.toInt8.toInt32)), (.int (u4.toInt8.toInt32)), (.int (u5.toInt8.toInt32)), (.int (u6.toInt8.toInt32))] (.int (0 : Int32))) := by
 refine own_body (plainFor_of_name own_pn2) (fun m => ef_rm1_5 m o0 (6 : Int32)) ?_
 intro p e s m below meth c s₁ hx hby hlk hml hret hZ hown hnm X0 e0
 have N0 := Fr.nil n0
 refine Home.run X0 hx hby sg1_0_1 (pc' := 1) (L' := #[.val (.ref o0), .val (.int (6 : Int32))]) (S' := [(.int (6 : Int32))]) rfl ?_
 refine Home.go (fun _ => XS.ifYes X0.here hx rfl (pc0 := 1) (pc' := 15) rfl (hb hby d1_1) rfl ((if0 _ _).trans (tlt (by decide)).2.2.1) (by decide) (by decide)) ?_
 refine Home.run X0 hx hby sg1_15_2 (pc' := 17) (L' := #[.val (.ref o0), .val (.int (6 : Int32))]) (S' := [(.int (1 : Int32)), (.int (6 : Int32))]) rfl ?_
 refine Home.go (fun _ => XS.icmpYes X0.here hx rfl (pc0 := 17) (pc' := 37) rfl (hb hby d1_17) rfl (feq (by decide)).2 (by decide) (by decide)) ?_
 refine Home.run X0 hx hby sg1_37_2 (pc' := 39) (L' := #[.val (.ref o0), .val (.int (6 : Int32))]) (S' := [(.int (2 : Int32)), (.int (6 : Int32))]) rfl ?_
 refine Home.go (fun _ => XS.icmpYes X0.here hx rfl (pc0 := 39) (pc' := 65) rfl (hb hby d1_39) rfl (feq (by decide)).2 (by decide) (by decide)) ?_
 refine Home.run X0 hx hby sg1_65_2 (pc' := 67) (L' := #[.val (.ref o0), .val (.int (6 : Int32))]) (S' := [(.int (3 : Int32)), (.int (6 : Int32))]) rfl ?_
 refine Home.go (fun _ => XS.icmpYes X0.here hx rfl (pc0 := 67) (pc' := 99) rfl (hb hby d1_67) rfl (feq (by decide)).2 (by decide) (by decide)) ?_
 refine Home.run X0 hx hby sg1_99_2 (pc' := 101) (L' := #[.val (.ref o0), .val (.int (6 : Int32))]) (S' := [(.int (4 : Int32)), (.int (6 : Int32))]) rfl ?_
 refine Home.go (fun _ => XS.icmpYes X0.here hx rfl (pc0 := 101) (pc' := 139) rfl (hb hby d1_101) rfl (feq (by decide)).2 (by decide) (by decide)) ?_
 refine Home.run X0 hx hby sg1_139_2 (pc' := 141) (L' := #[.val (.ref o0), .val (.int (6 : Int32))]) (S' := [(.int (5 : Int32)), (.int (6 : Int32))]) rfl ?_
 refine Home.go (fun _ => XS.icmpYes X0.here hx rfl (pc0 := 141) (pc' := 185) rfl (hb hby d1_141) rfl (feq (by decide)).2 (by decide) (by decide)) ?_
 refine Home.run X0 hx hby sg1_185_2 (pc' := 188) (L' := #[.val (.ref o0), .val (.int (6 : Int32))]) (S' := [(.int (6 : Int32)), (.int (6 : Int32))]) rfl ?_
 refine Home.go (fun _ => XS.icmpNo X0.here hx rfl (hb hby d1_188) rfl (teq (by decide)).2) ?_
 refine Home.nw (own_newO X0 hx hZ hown (own_w5 hw) (own_w6 hw) (own_w7 hw) e0 rfl (hb hby d1_191) (by decide) (by decide)) fun T1 h1 b1 g1 X1 e1 E1 A1 D1 => ?_
 have g_b1 : n0 ≤ b1 := Nat.le_trans (Old.le O0) (Nat.le_of_eq g1.symm)
 have F_coder_b1 : Fld Z h1 b1 "java/lang/String" "coder" "B" (.int (0 : Int32)) := D1 (Or.inr (own_w31 hw)) (ty := .byte) (by decide)
 have F_value_b1 : Fld Z h1 b1 "java/lang/String" "value" "[B" .null := D1 (Or.inr (own_w33 hw)) (ty := (.array .byte)) (by decide)
 have O1 := O0.ext E1
 have K1 : Keep h0 h1 ([] : List Addr) := Keep.ext (Keep.refl h0 ([] : List Addr)) E1
 show Home T1 (mkF m 194 #[.val (.ref o0), .val (.int (6 : Int32))] [(.ref b1)])
 refine Home.run X1 hx hby sg1_194_2 (pc' := 197) (L' := #[.val (.ref o0), .val (.int (6 : Int32))]) (S' := [(.int (6 : Int32)), (.ref b1), (.ref b1)]) rfl ?_
 refine Home.na (own_newP (aty := .char) X1 hx hZ (own_w0 hw) e1 (g := (mkF m 197 #[.val (.ref o0), .val (.int (6 : Int32))] [(.int (6 : Int32)), (.ref b1), (.ref b1)])) rfl (hb hby d1_197) rfl (by decide) (cap := 6) (by decide) (by decide) (by decide) (by decide)) fun T2 h2 k2 b2 g2 X2 e2 E2 A2 => ?_
 have g_b2 : n0 ≤ b2 := Nat.le_trans (Old.le O1) (Nat.le_of_eq g2.symm)
 have V2 : Arv Z h2 b2 k2 .char (6 : Int32) [(.int (0 : Int32)), (.int (0 : Int32)), (.int (0 : Int32)), (.int (0 : Int32)), (.int (0 : Int32)), (.int (0 : Int32))] (.int (0 : Int32)) := (Arv.new A2 (by decide)).pad (pad_rep [] (.int (0 : Int32)) 6)
 have O2 := O1.ext E2
 have K2 : Keep h0 h2 ([] : List Addr) := Keep.ext K1 E2
 refine Home.run X2 hx hby sg1_199_4 (pc' := 203) (L' := #[.val (.ref o0), .val (.int (6 : Int32))]) (S' := [(.int (0 : Int32)), (.ref o0), (.int (0 : Int32)), (.ref b2), (.ref b2), (.ref b1), (.ref b1)]) rfl ?_
 obtain ⟨cl3, Ar3, q3, S3, M3, H3, G3⟩ := id (V_o0.keep K2 nin0)
 have ib3 : ¬ ((0 : Int32) < 0 ∨ cl3.slots.size ≤ ((0 : Int32)).toNatClampNeg) := inb_of S3 ⟨by decide, by decide⟩
 refine Home.go (X2.caload hx (j := (0 : Int32)) (v := (.int u1)) (by rw [e2]; exact Ar3.1) (State.isArrayOf_alike hZ.alike Ar3.2.1) Ar3.2.2 ib3 (Has.at H3 ib3 rfl) rfl rfl (hb hby d1_203)) ?_
 show Home T2 (mkF m 204 #[.val (.ref o0), .val (.int (6 : Int32))] [(.int u1), (.int (0 : Int32)), (.ref b2), (.ref b2), (.ref b1), (.ref b1)])
 obtain ⟨cl4, Ar4, q4, S4, M4, H4, G4⟩ := id V2
 refine Home.wr (stC X2 hx hZ e2 Ar4 (j := (0 : Int32)) (inb_of S4 ⟨by decide, by decide⟩) rfl rfl (hb hby d1_204)) fun T4 h4 X4 e4 W4 => ?_
 have W4' := Wr.to W4 (congrArg Value.int (nar_char_id bnd_u1 (by decide +kernel) (by decide +kernel)))
 have V4 : Arv Z h4 b2 k2 .char (6 : Int32) [(.int u1), (.int (0 : Int32)), (.int (0 : Int32)), (.int (0 : Int32)), (.int (0 : Int32)), (.int (0 : Int32))] (.int (0 : Int32)) := Arv.set Ar4 q4 S4 M4 H4 G4 (fits_char_b bnd_u1 (by decide +kernel) (by decide +kernel)) W4' 0 rfl (Nat.le_of_ble_eq_true rfl)
 have O4 := O2.wr W4 g_b2
 have K4 : Keep h0 h4 ([] : List Addr) := Keep.wr K2 W4 (Or.inr (Nat.le_trans E1.1 (Nat.le_of_eq g2.symm)))
 have N4 := Fr.snoc X4 N0 g_b2
 refine Home.run X4 hx hby sg1_205_4 (pc' := 209) (L' := #[.val (.ref o0), .val (.int (6 : Int32))]) (S' := [(.int (1 : Int32)), (.ref o0), (.int (1 : Int32)), (.ref b2), (.ref b2), (.ref b1), (.ref b1)]) rfl ?_
 obtain ⟨cl5, Ar5, q5, S5, M5, H5, G5⟩ := id (V_o0.keep K4 nin0)
 have ib5 : ¬ ((1 : Int32) < 0 ∨ cl5.slots.size ≤ ((1 : Int32)).toNatClampNeg) := inb_of S5 ⟨by decide, by decide⟩
 refine Home.go (X4.caload hx (j := (1 : Int32)) (v := (.int u2)) (by rw [e4]; exact Ar5.1) (State.isArrayOf_alike hZ.alike Ar5.2.1) Ar5.2.2 ib5 (Has.at H5 ib5 rfl) rfl rfl (hb hby d1_209)) ?_
 show Home T4 (mkF m 210 #[.val (.ref o0), .val (.int (6 : Int32))] [(.int u2), (.int (1 : Int32)), (.ref b2), (.ref b2), (.ref b1), (.ref b1)])
 obtain ⟨cl6, Ar6, q6, S6, M6, H6, G6⟩ := id V4
 refine Home.wr (stC X4 hx hZ e4 Ar6 (j := (1 : Int32)) (inb_of S6 ⟨by decide, by decide⟩) rfl rfl (hb hby d1_210)) fun T6 h6 X6 e6 W6 => ?_
 have W6' := Wr.to W6 (congrArg Value.int (nar_char_id bnd_u2 (by decide +kernel) (by decide +kernel)))
 have V6 : Arv Z h6 b2 k2 .char (6 : Int32) [(.int u1), (.int u2), (.int (0 : Int32)), (.int (0 : Int32)), (.int (0 : Int32)), (.int (0 : Int32))] (.int (0 : Int32)) := Arv.set Ar6 q6 S6 M6 H6 G6 (fits_char_b bnd_u2 (by decide +kernel) (by decide +kernel)) W6' 1 rfl (Nat.le_of_ble_eq_true rfl)
 have O6 := O4.wr W6 g_b2
 have K6 : Keep h0 h6 ([] : List Addr) := Keep.wr K4 W6 (Or.inr (Nat.le_trans E1.1 (Nat.le_of_eq g2.symm)))
 have N6 := Fr.snoc X6 N4 g_b2
 refine Home.run X6 hx hby sg1_211_4 (pc' := 215) (L' := #[.val (.ref o0), .val (.int (6 : Int32))]) (S' := [(.int (2 : Int32)), (.ref o0), (.int (2 : Int32)), (.ref b2), (.ref b2), (.ref b1), (.ref b1)]) rfl ?_
 obtain ⟨cl7, Ar7, q7, S7, M7, H7, G7⟩ := id (V_o0.keep K6 nin0)
 have ib7 : ¬ ((2 : Int32) < 0 ∨ cl7.slots.size ≤ ((2 : Int32)).toNatClampNeg) := inb_of S7 ⟨by decide, by decide⟩
 refine Home.go (X6.caload hx (j := (2 : Int32)) (v := (.int u3)) (by rw [e6]; exact Ar7.1) (State.isArrayOf_alike hZ.alike Ar7.2.1) Ar7.2.2 ib7 (Has.at H7 ib7 rfl) rfl rfl (hb hby d1_215)) ?_
 show Home T6 (mkF m 216 #[.val (.ref o0), .val (.int (6 : Int32))] [(.int u3), (.int (2 : Int32)), (.ref b2), (.ref b2), (.ref b1), (.ref b1)])
 obtain ⟨cl8, Ar8, q8, S8, M8, H8, G8⟩ := id V6
 refine Home.wr (stC X6 hx hZ e6 Ar8 (j := (2 : Int32)) (inb_of S8 ⟨by decide, by decide⟩) rfl rfl (hb hby d1_216)) fun T8 h8 X8 e8 W8 => ?_
 have W8' := Wr.to W8 (congrArg Value.int (nar_char_id bnd_u3 (by decide +kernel) (by decide +kernel)))
 have V8 : Arv Z h8 b2 k2 .char (6 : Int32) [(.int u1), (.int u2), (.int u3), (.int (0 : Int32)), (.int (0 : Int32)), (.int (0 : Int32))] (.int (0 : Int32)) := Arv.set Ar8 q8 S8 M8 H8 G8 (fits_char_b bnd_u3 (by decide +kernel) (by decide +kernel)) W8' 2 rfl (Nat.le_of_ble_eq_true rfl)
 have O8 := O6.wr W8 g_b2
 have K8 : Keep h0 h8 ([] : List Addr) := Keep.wr K6 W8 (Or.inr (Nat.le_trans E1.1 (Nat.le_of_eq g2.symm)))
 have N8 := Fr.snoc X8 N6 g_b2
 refine Home.run X8 hx hby sg1_217_4 (pc' := 221) (L' := #[.val (.ref o0), .val (.int (6 : Int32))]) (S' := [(.int (3 : Int32)), (.ref o0), (.int (3 : Int32)), (.ref b2), (.ref b2), (.ref b1), (.ref b1)]) rfl ?_
 obtain ⟨cl9, Ar9, q9, S9, M9, H9, G9⟩ := id (V_o0.keep K8 nin0)
 have ib9 : ¬ ((3 : Int32) < 0 ∨ cl9.slots.size ≤ ((3 : Int32)).toNatClampNeg) := inb_of S9 ⟨by decide, by decide⟩
 refine Home.go (X8.caload hx (j := (3 : Int32)) (v := (.int u4)) (by rw [e8]; exact Ar9.1) (State.isArrayOf_alike hZ.alike Ar9.2.1) Ar9.2.2 ib9 (Has.at H9 ib9 rfl) rfl rfl (hb hby d1_221)) ?_
 show Home T8 (mkF m 222 #[.val (.ref o0), .val (.int (6 : Int32))] [(.int u4), (.int (3 : Int32)), (.ref b2), (.ref b2), (.ref b1), (.ref b1)])
 obtain ⟨cl10, Ar10, q10, S10, M10, H10, G10⟩ := id V8
 refine Home.wr (stC X8 hx hZ e8 Ar10 (j := (3 : Int32)) (inb_of S10 ⟨by decide, by decide⟩) rfl rfl (hb hby d1_222)) fun T10 h10 X10 e10 W10 => ?_
 have W10' := Wr.to W10 (congrArg Value.int (nar_char_id bnd_u4 (by decide +kernel) (by decide +kernel)))
 have V10 : Arv Z h10 b2 k2 .char (6 : Int32) [(.int u1), (.int u2), (.int u3), (.int u4), (.int (0 : Int32)), (.int (0 : Int32))] (.int (0 : Int32)) := Arv.set Ar10 q10 S10 M10 H10 G10 (fits_char_b bnd_u4 (by decide +kernel) (by decide +kernel)) W10' 3 rfl (Nat.le_of_ble_eq_true rfl)
 have O10 := O8.wr W10 g_b2
 have K10 : Keep h0 h10 ([] : List Addr) := Keep.wr K8 W10 (Or.inr (Nat.le_trans E1.1 (Nat.le_of_eq g2.symm)))
 have N10 := Fr.snoc X10 N8 g_b2
 refine Home.run X10 hx hby sg1_223_4 (pc' := 227) (L' := #[.val (.ref o0), .val (.int (6 : Int32))]) (S' := [(.int (4 : Int32)), (.ref o0), (.int (4 : Int32)), (.ref b2), (.ref b2), (.ref b1), (.ref b1)]) rfl ?_
 obtain ⟨cl11, Ar11, q11, S11, M11, H11, G11⟩ := id (V_o0.keep K10 nin0)
 have ib11 : ¬ ((4 : Int32) < 0 ∨ cl11.slots.size ≤ ((4 : Int32)).toNatClampNeg) := inb_of S11 ⟨by decide, by decide⟩
 refine Home.go (X10.caload hx (j := (4 : Int32)) (v := (.int u5)) (by rw [e10]; exact Ar11.1) (State.isArrayOf_alike hZ.alike Ar11.2.1) Ar11.2.2 ib11 (Has.at H11 ib11 rfl) rfl rfl (hb hby d1_227)) ?_
 show Home T10 (mkF m 228 #[.val (.ref o0), .val (.int (6 : Int32))] [(.int u5), (.int (4 : Int32)), (.ref b2), (.ref b2), (.ref b1), (.ref b1)])
 obtain ⟨cl12, Ar12, q12, S12, M12, H12, G12⟩ := id V10
 refine Home.wr (stC X10 hx hZ e10 Ar12 (j := (4 : Int32)) (inb_of S12 ⟨by decide, by decide⟩) rfl rfl (hb hby d1_228)) fun T12 h12 X12 e12 W12 => ?_
 have W12' := Wr.to W12 (congrArg Value.int (nar_char_id bnd_u5 (by decide +kernel) (by decide +kernel)))
 have V12 : Arv Z h12 b2 k2 .char (6 : Int32) [(.int u1), (.int u2), (.int u3), (.int u4), (.int u5), (.int (0 : Int32))] (.int (0 : Int32)) := Arv.set Ar12 q12 S12 M12 H12 G12 (fits_char_b bnd_u5 (by decide +kernel) (by decide +kernel)) W12' 4 rfl (Nat.le_of_ble_eq_true rfl)
 have O12 := O10.wr W12 g_b2
 have K12 : Keep h0 h12 ([] : List Addr) := Keep.wr K10 W12 (Or.inr (Nat.le_trans E1.1 (Nat.le_of_eq g2.symm)))
 have N12 := Fr.snoc X12 N10 g_b2
 refine Home.run X12 hx hby sg1_229_4 (pc' := 233) (L' := #[.val (.ref o0), .val (.int (6 : Int32))]) (S' := [(.int (5 : Int32)), (.ref o0), (.int (5 : Int32)), (.ref b2), (.ref b2), (.ref b1), (.ref b1)]) rfl ?_
 obtain ⟨cl13, Ar13, q13, S13, M13, H13, G13⟩ := id (V_o0.keep K12 nin0)
 have ib13 : ¬ ((5 : Int32) < 0 ∨ cl13.slots.size ≤ ((5 : Int32)).toNatClampNeg) := inb_of S13 ⟨by decide, by decide⟩
 refine Home.go (X12.caload hx (j := (5 : Int32)) (v := (.int u6)) (by rw [e12]; exact Ar13.1) (State.isArrayOf_alike hZ.alike Ar13.2.1) Ar13.2.2 ib13 (Has.at H13 ib13 rfl) rfl rfl (hb hby d1_233)) ?_
 show Home T12 (mkF m 234 #[.val (.ref o0), .val (.int (6 : Int32))] [(.int u6), (.int (5 : Int32)), (.ref b2), (.ref b2), (.ref b1), (.ref b1)])
 obtain ⟨cl14, Ar14, q14, S14, M14, H14, G14⟩ := id V12
 refine Home.wr (stC X12 hx hZ e12 Ar14 (j := (5 : Int32)) (inb_of S14 ⟨by decide, by decide⟩) rfl rfl (hb hby d1_234)) fun T14 h14 X14 e14 W14 => ?_
 have W14' := Wr.to W14 (congrArg Value.int (nar_char_id bnd_u6 (by decide +kernel) (by decide +kernel)))
 have V14 : Arv Z h14 b2 k2 .char (6 : Int32) [(.int u1), (.int u2), (.int u3), (.int u4), (.int u5), (.int u6)] (.int (0 : Int32)) := Arv.set Ar14 q14 S14 M14 H14 G14 (fits_char_b bnd_u6 (by decide +kernel) (by decide +kernel)) W14' 5 rfl (Nat.le_of_ble_eq_true rfl)
 have O14 := O12.wr W14 g_b2
 have K14 : Keep h0 h14 ([] : List Addr) := Keep.wr K12 W14 (Or.inr (Nat.le_trans E1.1 (Nat.le_of_eq g2.symm)))
 have N14 := Fr.snoc X14 N12 g_b2
 have q15 := (((((((A1.ext E2).wr W4).wr W6).wr W8).wr W10).wr W12).wr W14)
 have ne16 : b1 ≠ b2 := (Nat.ne_of_lt (Nat.lt_of_lt_of_le A1.lt (Nat.le_trans (Nat.le_refl _) (Nat.le_of_eq g2.symm))))
 have q17 := (((((((F_coder_b1.ext E2).other W4 (Or.inl ne16)).other W6 (Or.inl ne16)).other W8 (Or.inl ne16)).other W10 (Or.inl ne16)).other W12 (Or.inl ne16)).other W14 (Or.inl ne16))
 have q18 := (((((((F_value_b1.ext E2).other W4 (Or.inl ne16)).other W6 (Or.inl ne16)).other W8 (Or.inl ne16)).other W10 (Or.inl ne16)).other W12 (Or.inl ne16)).other W14 (Or.inl ne16))
 refine Home.call (own_special X14 hx hZ hown rfl (own_w8 hw) (own_w9 hw) (own_w7 hw) (own_w10 hw) (by decide) (rm2_5 l Z a0 hw [] b1 b2 k2 u1 u2 u3 u4 u5 u6 sv_COMPACT_STRINGS h14 n0 O14 V14 S_COMPACT_STRINGS q15 q17 q18 bnd_u1 bnd_u2 bnd_u3 bnd_u4 bnd_u5 bnd_u6 g_b1 hCS) e14 rfl (by rw [hml]; rfl) (a := b1) (argsL := [(.ref b2)]) (rest := [(.ref b1)]) (lenOf own_pd4 rfl) rfl rfl (W := 1) (by exact hW0) (by decide) (by decide) (hb hby d1_235) (by decide) (by decide)) ?_
 rintro _ T19 L19 X19 ⟨b1_3_2_19, k1_3_2_19, rfl, N19q, sz_b1_3_2_19, K19q, P19_0, P19_1, P19_2, P19_3⟩
 have g_b1_3_2_19 : n0 ≤ b1_3_2_19 := Nat.le_trans (Old.le O14) sz_b1_3_2_19
 have O19 := Old.keep O14 K19q (allS g_b1 all0)
 have K19 : Keep h0 T19.heap ([] : List Addr) := Keep.trans K14 K19q (allS (Or.inr (Nat.le_trans (Nat.le_refl _) (Nat.le_of_eq g1.symm))) all0)
 have N19 := Fr.app N14 N19q
 show Home T19 (mkF m 238 #[.val (.ref o0), .val (.int (6 : Int32))] [(.ref b1)])
 have le20 : h0.size ≤ h2.size := Nat.le_trans E1.1 E2.1
 have le21 : h0.size ≤ h4.size := Nat.le_trans le20 (Nat.le_of_eq W4.size.symm)
 have le22 : h0.size ≤ h6.size := Nat.le_trans le21 (Nat.le_of_eq W6.size.symm)
 have le23 : h0.size ≤ h8.size := Nat.le_trans le22 (Nat.le_of_eq W8.size.symm)
 have le24 : h0.size ≤ h10.size := Nat.le_trans le23 (Nat.le_of_eq W10.size.symm)
 have le25 : h0.size ≤ h12.size := Nat.le_trans le24 (Nat.le_of_eq W12.size.symm)
 have le26 : h0.size ≤ h14.size := Nat.le_trans le25 (Nat.le_of_eq W14.size.symm)
 exact Home.retR X19 hx hlk hret rfl rfl (hb hby d1_238) ⟨b1, b1_3_2_19, k1_3_2_19, rfl, N19, (Nat.le_trans (Nat.le_refl _) (Nat.le_of_eq g1.symm)), (Nat.le_trans le26 sz_b1_3_2_19), K19, P19_0, P19_1, P19_2, P19_3⟩ (by decide) (by decide)
theorem rm1_6 (l : Launch) (Z : State) (a0 : Array Value) (hw : HW a0 Z) (ws : List Jvm.Cond) (o0 : Addr) (k_o0 : ClassId) (u1 u2 u3 u4 u5 u6 u7 u8 sv_COMPACT_STRINGS : Int32) (h0 : Heap) (n0 : Nat) (O0 : Old Z n0 h0) (V_o0 : Arv Z h0 o0 k_o0 .char (8 : Int32) [(.int u1), (.int u2), (.int u3), (.int u4), (.int u5), (.int u6), (.int u7), (.int u8)] (.int (0 : Int32))) (bnd_u1 : ¬ u1 < (0 : Int32) ∧ ¬ (255 : Int32) < u1) (bnd_u2 : ¬ u2 < (0 : Int32) ∧ ¬ (255 : Int32) < u2) (bnd_u3 : ¬ u3 < (0 : Int32) ∧ ¬ (255 : Int32) < u3) (bnd_u4 : ¬ u4 < (0 : Int32) ∧ ¬ (255 : Int32) < u4) (bnd_u5 : ¬ u5 < (0 : Int32) ∧ ¬ (255 : Int32) < u5) (bnd_u6 : ¬ u6 < (0 : Int32) ∧ ¬ (255 : Int32) < u6) (bnd_u7 : ¬ u7 < (0 : Int32) ∧ ¬ (255 : Int32) < u7) (S_COMPACT_STRINGS : Sta Z Z.heap "java/lang/String" "COMPACT_STRINGS" "Z" (.int sv_COMPACT_STRINGS)) (hCS : ¬ (sv_COMPACT_STRINGS = (0 : Int32))) :
    Con l Z (⟨"com/example/tapline/tapline/rules/ReturnPeriodByIdPinLaw", "str", "([CI)Ljava/lang/String;"⟩ : MethodName) method_2_code 2 (some (.object "java/lang/String")) ws ({ frames := 4, cells := 3, slots := 18, locals := 66 } : Room) #[(.ref o0), (.int (7 : Int32))] h0 (fun v h L => ∃ (b1 : Addr), ∃ (b1_3_2_21 : Addr), ∃ (k1_3_2_21 : ClassId), v = some (.ref b1) ∧ Fr n0 L ∧ h0.size ≤ b1 ∧ h0.size ≤ b1_3_2_21 ∧ Keep h0 h [] ∧ Exa Z h b1 "java/lang/String" ∧ Fld Z h b1 "java/lang/String" "coder" "B" (.int (0 : Int32)) ∧ Fld Z h b1 "java/lang/String" "value" "[B" (.ref b1_3_2_21) ∧ Arv Z h b1_3_2_21 k1_3_2_21 .byte (7 : Int32) [(.int (u1.toInt8.toInt32)), (.int (u2.toInt8.toInt32)), (.int (u3.toInt8.toInt32)), (.int (u4.toInt8.toInt32)), (.int (u5.toInt8.toInt32)), (.int (u6.toInt8.toInt32)), (.int (u7.toInt8.toInt32))] (.int (0 : Int32))) := by
 refine own_body (plainFor_of_name own_pn2) (fun m => ef_rm1_6 m o0 (7 : Int32)) ?_
 intro p e s m below meth c s₁ hx hby hlk hml hret hZ hown hnm X0 e0
 have N0 := Fr.nil n0
 refine Home.run X0 hx hby sg1_0_1 (pc' := 1) (L' := #[.val (.ref o0), .val (.int (7 : Int32))]) (S' := [(.int (7 : Int32))]) rfl ?_
 refine Home.go (fun _ => XS.ifYes X0.here hx rfl (pc0 := 1) (pc' := 15) rfl (hb hby d1_1) rfl ((if0 _ _).trans (tlt (by decide)).2.2.1) (by decide) (by decide)) ?_
 refine Home.run X0 hx hby sg1_15_2 (pc' := 17) (L' := #[.val (.ref o0), .val (.int (7 : Int32))]) (S' := [(.int (1 : Int32)), (.int (7 : Int32))]) rfl ?_
 refine Home.go (fun _ => XS.icmpYes X0.here hx rfl (pc0 := 17) (pc' := 37) rfl (hb hby d1_17) rfl (feq (by decide)).2 (by decide) (by decide)) ?_
 refine Home.run X0 hx hby sg1_37_2 (pc' := 39) (L' := #[.val (.ref o0), .val (.int (7 : Int32))]) (S' := [(.int (2 : Int32)), (.int (7 : Int32))]) rfl ?_
 refine Home.go (fun _ => XS.icmpYes X0.here hx rfl (pc0 := 39) (pc' := 65) rfl (hb hby d1_39) rfl (feq (by decide)).2 (by decide) (by decide)) ?_
 refine Home.run X0 hx hby sg1_65_2 (pc' := 67) (L' := #[.val (.ref o0), .val (.int (7 : Int32))]) (S' := [(.int (3 : Int32)), (.int (7 : Int32))]) rfl ?_
 refine Home.go (fun _ => XS.icmpYes X0.here hx rfl (pc0 := 67) (pc' := 99) rfl (hb hby d1_67) rfl (feq (by decide)).2 (by decide) (by decide)) ?_
 refine Home.run X0 hx hby sg1_99_2 (pc' := 101) (L' := #[.val (.ref o0), .val (.int (7 : Int32))]) (S' := [(.int (4 : Int32)), (.int (7 : Int32))]) rfl ?_
 refine Home.go (fun _ => XS.icmpYes X0.here hx rfl (pc0 := 101) (pc' := 139) rfl (hb hby d1_101) rfl (feq (by decide)).2 (by decide) (by decide)) ?_
 refine Home.run X0 hx hby sg1_139_2 (pc' := 141) (L' := #[.val (.ref o0), .val (.int (7 : Int32))]) (S' := [(.int (5 : Int32)), (.int (7 : Int32))]) rfl ?_
 refine Home.go (fun _ => XS.icmpYes X0.here hx rfl (pc0 := 141) (pc' := 185) rfl (hb hby d1_141) rfl (feq (by decide)).2 (by decide) (by decide)) ?_
 refine Home.run X0 hx hby sg1_185_2 (pc' := 188) (L' := #[.val (.ref o0), .val (.int (7 : Int32))]) (S' := [(.int (6 : Int32)), (.int (7 : Int32))]) rfl ?_
 refine Home.go (fun _ => XS.icmpYes X0.here hx rfl (pc0 := 188) (pc' := 239) rfl (hb hby d1_188) rfl (feq (by decide)).2 (by decide) (by decide)) ?_
 refine Home.run X0 hx hby sg1_239_2 (pc' := 242) (L' := #[.val (.ref o0), .val (.int (7 : Int32))]) (S' := [(.int (7 : Int32)), (.int (7 : Int32))]) rfl ?_
 refine Home.go (fun _ => XS.icmpNo X0.here hx rfl (hb hby d1_242) rfl (teq (by decide)).2) ?_
 refine Home.nw (own_newO X0 hx hZ hown (own_w5 hw) (own_w6 hw) (own_w7 hw) e0 rfl (hb hby d1_245) (by decide) (by decide)) fun T1 h1 b1 g1 X1 e1 E1 A1 D1 => ?_
 have g_b1 : n0 ≤ b1 := Nat.le_trans (Old.le O0) (Nat.le_of_eq g1.symm)
 have F_coder_b1 : Fld Z h1 b1 "java/lang/String" "coder" "B" (.int (0 : Int32)) := D1 (Or.inr (own_w31 hw)) (ty := .byte) (by decide)
 have F_value_b1 : Fld Z h1 b1 "java/lang/String" "value" "[B" .null := D1 (Or.inr (own_w33 hw)) (ty := (.array .byte)) (by decide)
 have O1 := O0.ext E1
 have K1 : Keep h0 h1 ([] : List Addr) := Keep.ext (Keep.refl h0 ([] : List Addr)) E1
 show Home T1 (mkF m 248 #[.val (.ref o0), .val (.int (7 : Int32))] [(.ref b1)])
 refine Home.run X1 hx hby sg1_248_2 (pc' := 251) (L' := #[.val (.ref o0), .val (.int (7 : Int32))]) (S' := [(.int (7 : Int32)), (.ref b1), (.ref b1)]) rfl ?_
 refine Home.na (own_newP (aty := .char) X1 hx hZ (own_w0 hw) e1 (g := (mkF m 251 #[.val (.ref o0), .val (.int (7 : Int32))] [(.int (7 : Int32)), (.ref b1), (.ref b1)])) rfl (hb hby d1_251) rfl (by decide) (cap := 7) (by decide) (by decide) (by decide) (by decide)) fun T2 h2 k2 b2 g2 X2 e2 E2 A2 => ?_
 have g_b2 : n0 ≤ b2 := Nat.le_trans (Old.le O1) (Nat.le_of_eq g2.symm)
 have V2 : Arv Z h2 b2 k2 .char (7 : Int32) [(.int (0 : Int32)), (.int (0 : Int32)), (.int (0 : Int32)), (.int (0 : Int32)), (.int (0 : Int32)), (.int (0 : Int32)), (.int (0 : Int32))] (.int (0 : Int32)) := (Arv.new A2 (by decide)).pad (pad_rep [] (.int (0 : Int32)) 7)
 have O2 := O1.ext E2
 have K2 : Keep h0 h2 ([] : List Addr) := Keep.ext K1 E2
 refine Home.run X2 hx hby sg1_253_4 (pc' := 257) (L' := #[.val (.ref o0), .val (.int (7 : Int32))]) (S' := [(.int (0 : Int32)), (.ref o0), (.int (0 : Int32)), (.ref b2), (.ref b2), (.ref b1), (.ref b1)]) rfl ?_
 obtain ⟨cl3, Ar3, q3, S3, M3, H3, G3⟩ := id (V_o0.keep K2 nin0)
 have ib3 : ¬ ((0 : Int32) < 0 ∨ cl3.slots.size ≤ ((0 : Int32)).toNatClampNeg) := inb_of S3 ⟨by decide, by decide⟩
 refine Home.go (X2.caload hx (j := (0 : Int32)) (v := (.int u1)) (by rw [e2]; exact Ar3.1) (State.isArrayOf_alike hZ.alike Ar3.2.1) Ar3.2.2 ib3 (Has.at H3 ib3 rfl) rfl rfl (hb hby d1_257)) ?_
 show Home T2 (mkF m 258 #[.val (.ref o0), .val (.int (7 : Int32))] [(.int u1), (.int (0 : Int32)), (.ref b2), (.ref b2), (.ref b1), (.ref b1)])
 obtain ⟨cl4, Ar4, q4, S4, M4, H4, G4⟩ := id V2
 refine Home.wr (stC X2 hx hZ e2 Ar4 (j := (0 : Int32)) (inb_of S4 ⟨by decide, by decide⟩) rfl rfl (hb hby d1_258)) fun T4 h4 X4 e4 W4 => ?_
 have W4' := Wr.to W4 (congrArg Value.int (nar_char_id bnd_u1 (by decide +kernel) (by decide +kernel)))
 have V4 : Arv Z h4 b2 k2 .char (7 : Int32) [(.int u1), (.int (0 : Int32)), (.int (0 : Int32)), (.int (0 : Int32)), (.int (0 : Int32)), (.int (0 : Int32)), (.int (0 : Int32))] (.int (0 : Int32)) := Arv.set Ar4 q4 S4 M4 H4 G4 (fits_char_b bnd_u1 (by decide +kernel) (by decide +kernel)) W4' 0 rfl (Nat.le_of_ble_eq_true rfl)
 have O4 := O2.wr W4 g_b2
 have K4 : Keep h0 h4 ([] : List Addr) := Keep.wr K2 W4 (Or.inr (Nat.le_trans E1.1 (Nat.le_of_eq g2.symm)))
 have N4 := Fr.snoc X4 N0 g_b2
 refine Home.run X4 hx hby sg1_259_4 (pc' := 263) (L' := #[.val (.ref o0), .val (.int (7 : Int32))]) (S' := [(.int (1 : Int32)), (.ref o0), (.int (1 : Int32)), (.ref b2), (.ref b2), (.ref b1), (.ref b1)]) rfl ?_
 obtain ⟨cl5, Ar5, q5, S5, M5, H5, G5⟩ := id (V_o0.keep K4 nin0)
 have ib5 : ¬ ((1 : Int32) < 0 ∨ cl5.slots.size ≤ ((1 : Int32)).toNatClampNeg) := inb_of S5 ⟨by decide, by decide⟩
 refine Home.go (X4.caload hx (j := (1 : Int32)) (v := (.int u2)) (by rw [e4]; exact Ar5.1) (State.isArrayOf_alike hZ.alike Ar5.2.1) Ar5.2.2 ib5 (Has.at H5 ib5 rfl) rfl rfl (hb hby d1_263)) ?_
 show Home T4 (mkF m 264 #[.val (.ref o0), .val (.int (7 : Int32))] [(.int u2), (.int (1 : Int32)), (.ref b2), (.ref b2), (.ref b1), (.ref b1)])
 obtain ⟨cl6, Ar6, q6, S6, M6, H6, G6⟩ := id V4
 refine Home.wr (stC X4 hx hZ e4 Ar6 (j := (1 : Int32)) (inb_of S6 ⟨by decide, by decide⟩) rfl rfl (hb hby d1_264)) fun T6 h6 X6 e6 W6 => ?_
 have W6' := Wr.to W6 (congrArg Value.int (nar_char_id bnd_u2 (by decide +kernel) (by decide +kernel)))
 have V6 : Arv Z h6 b2 k2 .char (7 : Int32) [(.int u1), (.int u2), (.int (0 : Int32)), (.int (0 : Int32)), (.int (0 : Int32)), (.int (0 : Int32)), (.int (0 : Int32))] (.int (0 : Int32)) := Arv.set Ar6 q6 S6 M6 H6 G6 (fits_char_b bnd_u2 (by decide +kernel) (by decide +kernel)) W6' 1 rfl (Nat.le_of_ble_eq_true rfl)
 have O6 := O4.wr W6 g_b2
 have K6 : Keep h0 h6 ([] : List Addr) := Keep.wr K4 W6 (Or.inr (Nat.le_trans E1.1 (Nat.le_of_eq g2.symm)))
 have N6 := Fr.snoc X6 N4 g_b2
 refine Home.run X6 hx hby sg1_265_4 (pc' := 269) (L' := #[.val (.ref o0), .val (.int (7 : Int32))]) (S' := [(.int (2 : Int32)), (.ref o0), (.int (2 : Int32)), (.ref b2), (.ref b2), (.ref b1), (.ref b1)]) rfl ?_
 obtain ⟨cl7, Ar7, q7, S7, M7, H7, G7⟩ := id (V_o0.keep K6 nin0)
 have ib7 : ¬ ((2 : Int32) < 0 ∨ cl7.slots.size ≤ ((2 : Int32)).toNatClampNeg) := inb_of S7 ⟨by decide, by decide⟩
 refine Home.go (X6.caload hx (j := (2 : Int32)) (v := (.int u3)) (by rw [e6]; exact Ar7.1) (State.isArrayOf_alike hZ.alike Ar7.2.1) Ar7.2.2 ib7 (Has.at H7 ib7 rfl) rfl rfl (hb hby d1_269)) ?_
 show Home T6 (mkF m 270 #[.val (.ref o0), .val (.int (7 : Int32))] [(.int u3), (.int (2 : Int32)), (.ref b2), (.ref b2), (.ref b1), (.ref b1)])
 obtain ⟨cl8, Ar8, q8, S8, M8, H8, G8⟩ := id V6
 refine Home.wr (stC X6 hx hZ e6 Ar8 (j := (2 : Int32)) (inb_of S8 ⟨by decide, by decide⟩) rfl rfl (hb hby d1_270)) fun T8 h8 X8 e8 W8 => ?_
 have W8' := Wr.to W8 (congrArg Value.int (nar_char_id bnd_u3 (by decide +kernel) (by decide +kernel)))
 have V8 : Arv Z h8 b2 k2 .char (7 : Int32) [(.int u1), (.int u2), (.int u3), (.int (0 : Int32)), (.int (0 : Int32)), (.int (0 : Int32)), (.int (0 : Int32))] (.int (0 : Int32)) := Arv.set Ar8 q8 S8 M8 H8 G8 (fits_char_b bnd_u3 (by decide +kernel) (by decide +kernel)) W8' 2 rfl (Nat.le_of_ble_eq_true rfl)
 have O8 := O6.wr W8 g_b2
 have K8 : Keep h0 h8 ([] : List Addr) := Keep.wr K6 W8 (Or.inr (Nat.le_trans E1.1 (Nat.le_of_eq g2.symm)))
 have N8 := Fr.snoc X8 N6 g_b2
 refine Home.run X8 hx hby sg1_271_4 (pc' := 275) (L' := #[.val (.ref o0), .val (.int (7 : Int32))]) (S' := [(.int (3 : Int32)), (.ref o0), (.int (3 : Int32)), (.ref b2), (.ref b2), (.ref b1), (.ref b1)]) rfl ?_
 obtain ⟨cl9, Ar9, q9, S9, M9, H9, G9⟩ := id (V_o0.keep K8 nin0)
 have ib9 : ¬ ((3 : Int32) < 0 ∨ cl9.slots.size ≤ ((3 : Int32)).toNatClampNeg) := inb_of S9 ⟨by decide, by decide⟩
 refine Home.go (X8.caload hx (j := (3 : Int32)) (v := (.int u4)) (by rw [e8]; exact Ar9.1) (State.isArrayOf_alike hZ.alike Ar9.2.1) Ar9.2.2 ib9 (Has.at H9 ib9 rfl) rfl rfl (hb hby d1_275)) ?_
 show Home T8 (mkF m 276 #[.val (.ref o0), .val (.int (7 : Int32))] [(.int u4), (.int (3 : Int32)), (.ref b2), (.ref b2), (.ref b1), (.ref b1)])
 obtain ⟨cl10, Ar10, q10, S10, M10, H10, G10⟩ := id V8
 refine Home.wr (stC X8 hx hZ e8 Ar10 (j := (3 : Int32)) (inb_of S10 ⟨by decide, by decide⟩) rfl rfl (hb hby d1_276)) fun T10 h10 X10 e10 W10 => ?_
 have W10' := Wr.to W10 (congrArg Value.int (nar_char_id bnd_u4 (by decide +kernel) (by decide +kernel)))
 have V10 : Arv Z h10 b2 k2 .char (7 : Int32) [(.int u1), (.int u2), (.int u3), (.int u4), (.int (0 : Int32)), (.int (0 : Int32)), (.int (0 : Int32))] (.int (0 : Int32)) := Arv.set Ar10 q10 S10 M10 H10 G10 (fits_char_b bnd_u4 (by decide +kernel) (by decide +kernel)) W10' 3 rfl (Nat.le_of_ble_eq_true rfl)
 have O10 := O8.wr W10 g_b2
 have K10 : Keep h0 h10 ([] : List Addr) := Keep.wr K8 W10 (Or.inr (Nat.le_trans E1.1 (Nat.le_of_eq g2.symm)))
 have N10 := Fr.snoc X10 N8 g_b2
 refine Home.run X10 hx hby sg1_277_4 (pc' := 281) (L' := #[.val (.ref o0), .val (.int (7 : Int32))]) (S' := [(.int (4 : Int32)), (.ref o0), (.int (4 : Int32)), (.ref b2), (.ref b2), (.ref b1), (.ref b1)]) rfl ?_
 obtain ⟨cl11, Ar11, q11, S11, M11, H11, G11⟩ := id (V_o0.keep K10 nin0)
 have ib11 : ¬ ((4 : Int32) < 0 ∨ cl11.slots.size ≤ ((4 : Int32)).toNatClampNeg) := inb_of S11 ⟨by decide, by decide⟩
 refine Home.go (X10.caload hx (j := (4 : Int32)) (v := (.int u5)) (by rw [e10]; exact Ar11.1) (State.isArrayOf_alike hZ.alike Ar11.2.1) Ar11.2.2 ib11 (Has.at H11 ib11 rfl) rfl rfl (hb hby d1_281)) ?_
 show Home T10 (mkF m 282 #[.val (.ref o0), .val (.int (7 : Int32))] [(.int u5), (.int (4 : Int32)), (.ref b2), (.ref b2), (.ref b1), (.ref b1)])
 obtain ⟨cl12, Ar12, q12, S12, M12, H12, G12⟩ := id V10
 refine Home.wr (stC X10 hx hZ e10 Ar12 (j := (4 : Int32)) (inb_of S12 ⟨by decide, by decide⟩) rfl rfl (hb hby d1_282)) fun T12 h12 X12 e12 W12 => ?_
 have W12' := Wr.to W12 (congrArg Value.int (nar_char_id bnd_u5 (by decide +kernel) (by decide +kernel)))
 have V12 : Arv Z h12 b2 k2 .char (7 : Int32) [(.int u1), (.int u2), (.int u3), (.int u4), (.int u5), (.int (0 : Int32)), (.int (0 : Int32))] (.int (0 : Int32)) := Arv.set Ar12 q12 S12 M12 H12 G12 (fits_char_b bnd_u5 (by decide +kernel) (by decide +kernel)) W12' 4 rfl (Nat.le_of_ble_eq_true rfl)
 have O12 := O10.wr W12 g_b2
 have K12 : Keep h0 h12 ([] : List Addr) := Keep.wr K10 W12 (Or.inr (Nat.le_trans E1.1 (Nat.le_of_eq g2.symm)))
 have N12 := Fr.snoc X12 N10 g_b2
 refine Home.run X12 hx hby sg1_283_4 (pc' := 287) (L' := #[.val (.ref o0), .val (.int (7 : Int32))]) (S' := [(.int (5 : Int32)), (.ref o0), (.int (5 : Int32)), (.ref b2), (.ref b2), (.ref b1), (.ref b1)]) rfl ?_
 obtain ⟨cl13, Ar13, q13, S13, M13, H13, G13⟩ := id (V_o0.keep K12 nin0)
 have ib13 : ¬ ((5 : Int32) < 0 ∨ cl13.slots.size ≤ ((5 : Int32)).toNatClampNeg) := inb_of S13 ⟨by decide, by decide⟩
 refine Home.go (X12.caload hx (j := (5 : Int32)) (v := (.int u6)) (by rw [e12]; exact Ar13.1) (State.isArrayOf_alike hZ.alike Ar13.2.1) Ar13.2.2 ib13 (Has.at H13 ib13 rfl) rfl rfl (hb hby d1_287)) ?_
 show Home T12 (mkF m 288 #[.val (.ref o0), .val (.int (7 : Int32))] [(.int u6), (.int (5 : Int32)), (.ref b2), (.ref b2), (.ref b1), (.ref b1)])
 obtain ⟨cl14, Ar14, q14, S14, M14, H14, G14⟩ := id V12
 refine Home.wr (stC X12 hx hZ e12 Ar14 (j := (5 : Int32)) (inb_of S14 ⟨by decide, by decide⟩) rfl rfl (hb hby d1_288)) fun T14 h14 X14 e14 W14 => ?_
 have W14' := Wr.to W14 (congrArg Value.int (nar_char_id bnd_u6 (by decide +kernel) (by decide +kernel)))
 have V14 : Arv Z h14 b2 k2 .char (7 : Int32) [(.int u1), (.int u2), (.int u3), (.int u4), (.int u5), (.int u6), (.int (0 : Int32))] (.int (0 : Int32)) := Arv.set Ar14 q14 S14 M14 H14 G14 (fits_char_b bnd_u6 (by decide +kernel) (by decide +kernel)) W14' 5 rfl (Nat.le_of_ble_eq_true rfl)
 have O14 := O12.wr W14 g_b2
 have K14 : Keep h0 h14 ([] : List Addr) := Keep.wr K12 W14 (Or.inr (Nat.le_trans E1.1 (Nat.le_of_eq g2.symm)))
 have N14 := Fr.snoc X14 N12 g_b2
 refine Home.run X14 hx hby sg1_289_4 (pc' := 295) (L' := #[.val (.ref o0), .val (.int (7 : Int32))]) (S' := [(.int (6 : Int32)), (.ref o0), (.int (6 : Int32)), (.ref b2), (.ref b2), (.ref b1), (.ref b1)]) rfl ?_
 obtain ⟨cl15, Ar15, q15, S15, M15, H15, G15⟩ := id (V_o0.keep K14 nin0)
 have ib15 : ¬ ((6 : Int32) < 0 ∨ cl15.slots.size ≤ ((6 : Int32)).toNatClampNeg) := inb_of S15 ⟨by decide, by decide⟩
 refine Home.go (X14.caload hx (j := (6 : Int32)) (v := (.int u7)) (by rw [e14]; exact Ar15.1) (State.isArrayOf_alike hZ.alike Ar15.2.1) Ar15.2.2 ib15 (Has.at H15 ib15 rfl) rfl rfl (hb hby d1_295)) ?_
 show Home T14 (mkF m 296 #[.val (.ref o0), .val (.int (7 : Int32))] [(.int u7), (.int (6 : Int32)), (.ref b2), (.ref b2), (.ref b1), (.ref b1)])
 obtain ⟨cl16, Ar16, q16, S16, M16, H16, G16⟩ := id V14
 refine Home.wr (stC X14 hx hZ e14 Ar16 (j := (6 : Int32)) (inb_of S16 ⟨by decide, by decide⟩) rfl rfl (hb hby d1_296)) fun T16 h16 X16 e16 W16 => ?_
 have W16' := Wr.to W16 (congrArg Value.int (nar_char_id bnd_u7 (by decide +kernel) (by decide +kernel)))
 have V16 : Arv Z h16 b2 k2 .char (7 : Int32) [(.int u1), (.int u2), (.int u3), (.int u4), (.int u5), (.int u6), (.int u7)] (.int (0 : Int32)) := Arv.set Ar16 q16 S16 M16 H16 G16 (fits_char_b bnd_u7 (by decide +kernel) (by decide +kernel)) W16' 6 rfl (Nat.le_of_ble_eq_true rfl)
 have O16 := O14.wr W16 g_b2
 have K16 : Keep h0 h16 ([] : List Addr) := Keep.wr K14 W16 (Or.inr (Nat.le_trans E1.1 (Nat.le_of_eq g2.symm)))
 have N16 := Fr.snoc X16 N14 g_b2
 have q17 := ((((((((A1.ext E2).wr W4).wr W6).wr W8).wr W10).wr W12).wr W14).wr W16)
 have ne18 : b1 ≠ b2 := (Nat.ne_of_lt (Nat.lt_of_lt_of_le A1.lt (Nat.le_trans (Nat.le_refl _) (Nat.le_of_eq g2.symm))))
 have q19 := ((((((((F_coder_b1.ext E2).other W4 (Or.inl ne18)).other W6 (Or.inl ne18)).other W8 (Or.inl ne18)).other W10 (Or.inl ne18)).other W12 (Or.inl ne18)).other W14 (Or.inl ne18)).other W16 (Or.inl ne18))
 have q20 := ((((((((F_value_b1.ext E2).other W4 (Or.inl ne18)).other W6 (Or.inl ne18)).other W8 (Or.inl ne18)).other W10 (Or.inl ne18)).other W12 (Or.inl ne18)).other W14 (Or.inl ne18)).other W16 (Or.inl ne18))
 refine Home.call (own_special X16 hx hZ hown rfl (own_w8 hw) (own_w9 hw) (own_w7 hw) (own_w10 hw) (by decide) (rm2_6 l Z a0 hw [] b1 b2 k2 u1 u2 u3 u4 u5 u6 u7 sv_COMPACT_STRINGS h16 n0 O16 V16 S_COMPACT_STRINGS q17 q19 q20 bnd_u1 bnd_u2 bnd_u3 bnd_u4 bnd_u5 bnd_u6 bnd_u7 g_b1 hCS) e16 rfl (by rw [hml]; rfl) (a := b1) (argsL := [(.ref b2)]) (rest := [(.ref b1)]) (lenOf own_pd4 rfl) rfl rfl (W := 1) (by exact hW0) (by decide) (by decide) (hb hby d1_297) (by decide) (by decide)) ?_
 rintro _ T21 L21 X21 ⟨b1_3_2_21, k1_3_2_21, rfl, N21q, sz_b1_3_2_21, K21q, P21_0, P21_1, P21_2, P21_3⟩
 have g_b1_3_2_21 : n0 ≤ b1_3_2_21 := Nat.le_trans (Old.le O16) sz_b1_3_2_21
 have O21 := Old.keep O16 K21q (allS g_b1 all0)
 have K21 : Keep h0 T21.heap ([] : List Addr) := Keep.trans K16 K21q (allS (Or.inr (Nat.le_trans (Nat.le_refl _) (Nat.le_of_eq g1.symm))) all0)
 have N21 := Fr.app N16 N21q
 show Home T21 (mkF m 300 #[.val (.ref o0), .val (.int (7 : Int32))] [(.ref b1)])
 have le22 : h0.size ≤ h2.size := Nat.le_trans E1.1 E2.1
 have le23 : h0.size ≤ h4.size := Nat.le_trans le22 (Nat.le_of_eq W4.size.symm)
 have le24 : h0.size ≤ h6.size := Nat.le_trans le23 (Nat.le_of_eq W6.size.symm)
 have le25 : h0.size ≤ h8.size := Nat.le_trans le24 (Nat.le_of_eq W8.size.symm)
 have le26 : h0.size ≤ h10.size := Nat.le_trans le25 (Nat.le_of_eq W10.size.symm)
 have le27 : h0.size ≤ h12.size := Nat.le_trans le26 (Nat.le_of_eq W12.size.symm)
 have le28 : h0.size ≤ h14.size := Nat.le_trans le27 (Nat.le_of_eq W14.size.symm)
 have le29 : h0.size ≤ h16.size := Nat.le_trans le28 (Nat.le_of_eq W16.size.symm)
 exact Home.retR X21 hx hlk hret rfl rfl (hb hby d1_300) ⟨b1, b1_3_2_21, k1_3_2_21, rfl, N21, (Nat.le_trans (Nat.le_refl _) (Nat.le_of_eq g1.symm)), (Nat.le_trans le29 sz_b1_3_2_21), K21, P21_0, P21_1, P21_2, P21_3⟩ (by decide) (by decide)
theorem rm9_2 (l : Launch) (Z : State) (a0 : Array Value) (hw : HW a0 Z) (ws : List Jvm.Cond) (o0 o1 : Addr) (k_o0 : ClassId) (u1 u2 u3 u4 u5 u6 u7 : Int32) (k_o1 : ClassId) (u8 u9 u10 u11 u12 u13 u14 : Int32) (h0 : Heap) (n0 : Nat) (O0 : Old Z n0 h0) (V_o0 : Arv Z h0 o0 k_o0 .byte (7 : Int32) [(.int u1), (.int u2), (.int u3), (.int u4), (.int u5), (.int u6), (.int u7)] (.int (0 : Int32))) (V_o1 : Arv Z h0 o1 k_o1 .byte (7 : Int32) [(.int u8), (.int u9), (.int u10), (.int u11), (.int u12), (.int u13), (.int u14)] (.int (0 : Int32))) :
    Con l Z (⟨"java/lang/StringLatin1", "equals", "([B[B)Z"⟩ : MethodName) jdk_43_method_13_code 3 (some .boolean) ws ({ frames := 0, cells := 0, slots := 0, locals := 0 } : Room) #[(.ref o0), (.ref o1)] h0 (Pur (some (.int (f_rm9_2 u1 u2 u3 u4 u5 u6 u7 u8 u9 u10 u11 u12 u13 u14))) h0) := by
 refine own_body (plainFor_of_name own_pn3) (fun m => ef_rm9_2 m o0 o1) ?_
 intro p e s m below meth c s₁ hx hby hlk hml hret hZ hown hnm X0 e0
 have N0 := Fr.nil n0
 refine Home.run X0 hx hby sg9_0_1 (pc' := 1) (L' := #[.val (.ref o0), .val (.ref o1), .unset]) (S' := [(.ref o0)]) rfl ?_
 obtain ⟨cl1, Ar1, q1, S1, M1, H1, G1⟩ := id V_o0
 refine Home.go (own_alen X0 hx hZ e0 Ar1 S1 M1 rfl rfl (hb hby d9_1)) ?_
 refine Home.run X0 hx hby sg9_2_1 (pc' := 3) (L' := #[.val (.ref o0), .val (.ref o1), .unset]) (S' := [(.ref o1), (.int (7 : Int32))]) rfl ?_
 obtain ⟨cl2, Ar2, q2, S2, M2, H2, G2⟩ := id V_o1
 refine Home.go (own_alen X0 hx hZ e0 Ar2 S2 M2 rfl rfl (hb hby d9_3)) ?_
 refine Home.go (fun _ => XS.icmpNo X0.here hx rfl (hb hby d9_4) rfl (teq (by decide)).2) ?_
 refine Home.run X0 hx hby sg9_7_4 (pc' := 11) (L' := #[.val (.ref o0), .val (.ref o1), .val (.int (0 : Int32))]) (S' := [(.ref o0), (.int (0 : Int32))]) rfl ?_
 obtain ⟨cl3, Ar3, q3, S3, M3, H3, G3⟩ := id V_o0
 refine Home.go (own_alen X0 hx hZ e0 Ar3 S3 M3 rfl rfl (hb hby d9_11)) ?_
 show Home s₁ (mkF m 12 #[.val (.ref o0), .val (.ref o1), .val (.int (0 : Int32))] [(.int (7 : Int32)), (.int (0 : Int32))])
 refine Home.go (fun _ => XS.icmpNo X0.here hx rfl (hb hby d9_12) rfl (tlt (by decide)).2.1) ?_
 refine Home.run X0 hx hby sg9_15_2 (pc' := 17) (L' := #[.val (.ref o0), .val (.ref o1), .val (.int (0 : Int32))]) (S' := [(.int (0 : Int32)), (.ref o0)]) rfl ?_
 obtain ⟨cl4, Ar4, q4, S4, M4, H4, G4⟩ := id V_o0
 have ib4 : ¬ ((0 : Int32) < 0 ∨ cl4.slots.size ≤ ((0 : Int32)).toNatClampNeg) := inb_of S4 ⟨by decide, by decide⟩
 refine Home.go (X0.baloadBytes hx (j := (0 : Int32)) (v := (.int u1)) (by rw [e0]; exact Ar4.1) (State.isArrayOf_alike hZ.alike Ar4.2.1) Ar4.2.2 ib4 (Has.at H4 ib4 rfl) rfl rfl (hb hby d9_17)) ?_
 refine Home.run X0 hx hby sg9_18_2 (pc' := 20) (L' := #[.val (.ref o0), .val (.ref o1), .val (.int (0 : Int32))]) (S' := [(.int (0 : Int32)), (.ref o1), (.int u1)]) rfl ?_
 obtain ⟨cl5, Ar5, q5, S5, M5, H5, G5⟩ := id V_o1
 have ib5 : ¬ ((0 : Int32) < 0 ∨ cl5.slots.size ≤ ((0 : Int32)).toNatClampNeg) := inb_of S5 ⟨by decide, by decide⟩
 refine Home.go (X0.baloadBytes hx (j := (0 : Int32)) (v := (.int u8)) (by rw [e0]; exact Ar5.1) (State.isArrayOf_alike hZ.alike Ar5.2.1) Ar5.2.2 ib5 (Has.at H5 ib5 rfl) rfl rfl (hb hby d9_20)) ?_
 show Home s₁ (mkF m 21 #[.val (.ref o0), .val (.ref o1), .val (.int (0 : Int32))] [(.int u8), (.int u1)])
 by_cases c6 : u1 = u8
 ·
  refine Home.go (fun _ => XS.icmpYes X0.here hx rfl (pc0 := 21) (pc' := 26) rfl (hb hby d9_21) rfl (teq c6).1 (by decide) (by decide)) ?_
  refine Home.run X0 hx hby sg9_26_4 (pc' := 11) (L' := #[.val (.ref o0), .val (.ref o1), .val (.int (1 : Int32))]) (S' := [(.ref o0), (.int (1 : Int32))]) rfl ?_
  obtain ⟨cl7, Ar7, q7, S7, M7, H7, G7⟩ := id V_o0
  refine Home.go (own_alen X0 hx hZ e0 Ar7 S7 M7 rfl rfl (hb hby d9_11)) ?_
  refine Home.go (fun _ => XS.icmpNo X0.here hx rfl (hb hby d9_12) rfl (tlt (by decide)).2.1) ?_
  refine Home.run X0 hx hby sg9_15_2 (pc' := 17) (L' := #[.val (.ref o0), .val (.ref o1), .val (.int (1 : Int32))]) (S' := [(.int (1 : Int32)), (.ref o0)]) rfl ?_
  obtain ⟨cl8, Ar8, q8, S8, M8, H8, G8⟩ := id V_o0
  have ib8 : ¬ ((1 : Int32) < 0 ∨ cl8.slots.size ≤ ((1 : Int32)).toNatClampNeg) := inb_of S8 ⟨by decide, by decide⟩
  refine Home.go (X0.baloadBytes hx (j := (1 : Int32)) (v := (.int u2)) (by rw [e0]; exact Ar8.1) (State.isArrayOf_alike hZ.alike Ar8.2.1) Ar8.2.2 ib8 (Has.at H8 ib8 rfl) rfl rfl (hb hby d9_17)) ?_
  show Home s₁ (mkF m 18 #[.val (.ref o0), .val (.ref o1), .val (.int (1 : Int32))] [(.int u2)])
  refine Home.run X0 hx hby sg9_18_2 (pc' := 20) (L' := #[.val (.ref o0), .val (.ref o1), .val (.int (1 : Int32))]) (S' := [(.int (1 : Int32)), (.ref o1), (.int u2)]) rfl ?_
  obtain ⟨cl9, Ar9, q9, S9, M9, H9, G9⟩ := id V_o1
  have ib9 : ¬ ((1 : Int32) < 0 ∨ cl9.slots.size ≤ ((1 : Int32)).toNatClampNeg) := inb_of S9 ⟨by decide, by decide⟩
  refine Home.go (X0.baloadBytes hx (j := (1 : Int32)) (v := (.int u9)) (by rw [e0]; exact Ar9.1) (State.isArrayOf_alike hZ.alike Ar9.2.1) Ar9.2.2 ib9 (Has.at H9 ib9 rfl) rfl rfl (hb hby d9_20)) ?_
  by_cases c10 : u2 = u9
  ·
   refine Home.go (fun _ => XS.icmpYes X0.here hx rfl (pc0 := 21) (pc' := 26) rfl (hb hby d9_21) rfl (teq c10).1 (by decide) (by decide)) ?_
   refine Home.run X0 hx hby sg9_26_4 (pc' := 11) (L' := #[.val (.ref o0), .val (.ref o1), .val (.int (2 : Int32))]) (S' := [(.ref o0), (.int (2 : Int32))]) rfl ?_
   obtain ⟨cl11, Ar11, q11, S11, M11, H11, G11⟩ := id V_o0
   refine Home.go (own_alen X0 hx hZ e0 Ar11 S11 M11 rfl rfl (hb hby d9_11)) ?_
   refine Home.go (fun _ => XS.icmpNo X0.here hx rfl (hb hby d9_12) rfl (tlt (by decide)).2.1) ?_
   refine Home.run X0 hx hby sg9_15_2 (pc' := 17) (L' := #[.val (.ref o0), .val (.ref o1), .val (.int (2 : Int32))]) (S' := [(.int (2 : Int32)), (.ref o0)]) rfl ?_
   obtain ⟨cl12, Ar12, q12, S12, M12, H12, G12⟩ := id V_o0
   have ib12 : ¬ ((2 : Int32) < 0 ∨ cl12.slots.size ≤ ((2 : Int32)).toNatClampNeg) := inb_of S12 ⟨by decide, by decide⟩
   refine Home.go (X0.baloadBytes hx (j := (2 : Int32)) (v := (.int u3)) (by rw [e0]; exact Ar12.1) (State.isArrayOf_alike hZ.alike Ar12.2.1) Ar12.2.2 ib12 (Has.at H12 ib12 rfl) rfl rfl (hb hby d9_17)) ?_
   show Home s₁ (mkF m 18 #[.val (.ref o0), .val (.ref o1), .val (.int (2 : Int32))] [(.int u3)])
   refine Home.run X0 hx hby sg9_18_2 (pc' := 20) (L' := #[.val (.ref o0), .val (.ref o1), .val (.int (2 : Int32))]) (S' := [(.int (2 : Int32)), (.ref o1), (.int u3)]) rfl ?_
   obtain ⟨cl13, Ar13, q13, S13, M13, H13, G13⟩ := id V_o1
   have ib13 : ¬ ((2 : Int32) < 0 ∨ cl13.slots.size ≤ ((2 : Int32)).toNatClampNeg) := inb_of S13 ⟨by decide, by decide⟩
   refine Home.go (X0.baloadBytes hx (j := (2 : Int32)) (v := (.int u10)) (by rw [e0]; exact Ar13.1) (State.isArrayOf_alike hZ.alike Ar13.2.1) Ar13.2.2 ib13 (Has.at H13 ib13 rfl) rfl rfl (hb hby d9_20)) ?_
   by_cases c14 : u3 = u10
   ·
    refine Home.go (fun _ => XS.icmpYes X0.here hx rfl (pc0 := 21) (pc' := 26) rfl (hb hby d9_21) rfl (teq c14).1 (by decide) (by decide)) ?_
    refine Home.run X0 hx hby sg9_26_4 (pc' := 11) (L' := #[.val (.ref o0), .val (.ref o1), .val (.int (3 : Int32))]) (S' := [(.ref o0), (.int (3 : Int32))]) rfl ?_
    obtain ⟨cl15, Ar15, q15, S15, M15, H15, G15⟩ := id V_o0
    refine Home.go (own_alen X0 hx hZ e0 Ar15 S15 M15 rfl rfl (hb hby d9_11)) ?_
    refine Home.go (fun _ => XS.icmpNo X0.here hx rfl (hb hby d9_12) rfl (tlt (by decide)).2.1) ?_
    refine Home.run X0 hx hby sg9_15_2 (pc' := 17) (L' := #[.val (.ref o0), .val (.ref o1), .val (.int (3 : Int32))]) (S' := [(.int (3 : Int32)), (.ref o0)]) rfl ?_
    obtain ⟨cl16, Ar16, q16, S16, M16, H16, G16⟩ := id V_o0
    have ib16 : ¬ ((3 : Int32) < 0 ∨ cl16.slots.size ≤ ((3 : Int32)).toNatClampNeg) := inb_of S16 ⟨by decide, by decide⟩
    refine Home.go (X0.baloadBytes hx (j := (3 : Int32)) (v := (.int u4)) (by rw [e0]; exact Ar16.1) (State.isArrayOf_alike hZ.alike Ar16.2.1) Ar16.2.2 ib16 (Has.at H16 ib16 rfl) rfl rfl (hb hby d9_17)) ?_
    show Home s₁ (mkF m 18 #[.val (.ref o0), .val (.ref o1), .val (.int (3 : Int32))] [(.int u4)])
    refine Home.run X0 hx hby sg9_18_2 (pc' := 20) (L' := #[.val (.ref o0), .val (.ref o1), .val (.int (3 : Int32))]) (S' := [(.int (3 : Int32)), (.ref o1), (.int u4)]) rfl ?_
    obtain ⟨cl17, Ar17, q17, S17, M17, H17, G17⟩ := id V_o1
    have ib17 : ¬ ((3 : Int32) < 0 ∨ cl17.slots.size ≤ ((3 : Int32)).toNatClampNeg) := inb_of S17 ⟨by decide, by decide⟩
    refine Home.go (X0.baloadBytes hx (j := (3 : Int32)) (v := (.int u11)) (by rw [e0]; exact Ar17.1) (State.isArrayOf_alike hZ.alike Ar17.2.1) Ar17.2.2 ib17 (Has.at H17 ib17 rfl) rfl rfl (hb hby d9_20)) ?_
    by_cases c18 : u4 = u11
    ·
     refine Home.go (fun _ => XS.icmpYes X0.here hx rfl (pc0 := 21) (pc' := 26) rfl (hb hby d9_21) rfl (teq c18).1 (by decide) (by decide)) ?_
     refine Home.run X0 hx hby sg9_26_4 (pc' := 11) (L' := #[.val (.ref o0), .val (.ref o1), .val (.int (4 : Int32))]) (S' := [(.ref o0), (.int (4 : Int32))]) rfl ?_
     obtain ⟨cl19, Ar19, q19, S19, M19, H19, G19⟩ := id V_o0
     refine Home.go (own_alen X0 hx hZ e0 Ar19 S19 M19 rfl rfl (hb hby d9_11)) ?_
     refine Home.go (fun _ => XS.icmpNo X0.here hx rfl (hb hby d9_12) rfl (tlt (by decide)).2.1) ?_
     refine Home.run X0 hx hby sg9_15_2 (pc' := 17) (L' := #[.val (.ref o0), .val (.ref o1), .val (.int (4 : Int32))]) (S' := [(.int (4 : Int32)), (.ref o0)]) rfl ?_
     obtain ⟨cl20, Ar20, q20, S20, M20, H20, G20⟩ := id V_o0
     have ib20 : ¬ ((4 : Int32) < 0 ∨ cl20.slots.size ≤ ((4 : Int32)).toNatClampNeg) := inb_of S20 ⟨by decide, by decide⟩
     refine Home.go (X0.baloadBytes hx (j := (4 : Int32)) (v := (.int u5)) (by rw [e0]; exact Ar20.1) (State.isArrayOf_alike hZ.alike Ar20.2.1) Ar20.2.2 ib20 (Has.at H20 ib20 rfl) rfl rfl (hb hby d9_17)) ?_
     show Home s₁ (mkF m 18 #[.val (.ref o0), .val (.ref o1), .val (.int (4 : Int32))] [(.int u5)])
     refine Home.run X0 hx hby sg9_18_2 (pc' := 20) (L' := #[.val (.ref o0), .val (.ref o1), .val (.int (4 : Int32))]) (S' := [(.int (4 : Int32)), (.ref o1), (.int u5)]) rfl ?_
     obtain ⟨cl21, Ar21, q21, S21, M21, H21, G21⟩ := id V_o1
     have ib21 : ¬ ((4 : Int32) < 0 ∨ cl21.slots.size ≤ ((4 : Int32)).toNatClampNeg) := inb_of S21 ⟨by decide, by decide⟩
     refine Home.go (X0.baloadBytes hx (j := (4 : Int32)) (v := (.int u12)) (by rw [e0]; exact Ar21.1) (State.isArrayOf_alike hZ.alike Ar21.2.1) Ar21.2.2 ib21 (Has.at H21 ib21 rfl) rfl rfl (hb hby d9_20)) ?_
     by_cases c22 : u5 = u12
     ·
      refine Home.go (fun _ => XS.icmpYes X0.here hx rfl (pc0 := 21) (pc' := 26) rfl (hb hby d9_21) rfl (teq c22).1 (by decide) (by decide)) ?_
      refine Home.run X0 hx hby sg9_26_4 (pc' := 11) (L' := #[.val (.ref o0), .val (.ref o1), .val (.int (5 : Int32))]) (S' := [(.ref o0), (.int (5 : Int32))]) rfl ?_
      obtain ⟨cl23, Ar23, q23, S23, M23, H23, G23⟩ := id V_o0
      refine Home.go (own_alen X0 hx hZ e0 Ar23 S23 M23 rfl rfl (hb hby d9_11)) ?_
      refine Home.go (fun _ => XS.icmpNo X0.here hx rfl (hb hby d9_12) rfl (tlt (by decide)).2.1) ?_
      refine Home.run X0 hx hby sg9_15_2 (pc' := 17) (L' := #[.val (.ref o0), .val (.ref o1), .val (.int (5 : Int32))]) (S' := [(.int (5 : Int32)), (.ref o0)]) rfl ?_
      obtain ⟨cl24, Ar24, q24, S24, M24, H24, G24⟩ := id V_o0
      have ib24 : ¬ ((5 : Int32) < 0 ∨ cl24.slots.size ≤ ((5 : Int32)).toNatClampNeg) := inb_of S24 ⟨by decide, by decide⟩
      refine Home.go (X0.baloadBytes hx (j := (5 : Int32)) (v := (.int u6)) (by rw [e0]; exact Ar24.1) (State.isArrayOf_alike hZ.alike Ar24.2.1) Ar24.2.2 ib24 (Has.at H24 ib24 rfl) rfl rfl (hb hby d9_17)) ?_
      show Home s₁ (mkF m 18 #[.val (.ref o0), .val (.ref o1), .val (.int (5 : Int32))] [(.int u6)])
      refine Home.run X0 hx hby sg9_18_2 (pc' := 20) (L' := #[.val (.ref o0), .val (.ref o1), .val (.int (5 : Int32))]) (S' := [(.int (5 : Int32)), (.ref o1), (.int u6)]) rfl ?_
      obtain ⟨cl25, Ar25, q25, S25, M25, H25, G25⟩ := id V_o1
      have ib25 : ¬ ((5 : Int32) < 0 ∨ cl25.slots.size ≤ ((5 : Int32)).toNatClampNeg) := inb_of S25 ⟨by decide, by decide⟩
      refine Home.go (X0.baloadBytes hx (j := (5 : Int32)) (v := (.int u13)) (by rw [e0]; exact Ar25.1) (State.isArrayOf_alike hZ.alike Ar25.2.1) Ar25.2.2 ib25 (Has.at H25 ib25 rfl) rfl rfl (hb hby d9_20)) ?_
      by_cases c26 : u6 = u13
      ·
       refine Home.go (fun _ => XS.icmpYes X0.here hx rfl (pc0 := 21) (pc' := 26) rfl (hb hby d9_21) rfl (teq c26).1 (by decide) (by decide)) ?_
       refine Home.run X0 hx hby sg9_26_4 (pc' := 11) (L' := #[.val (.ref o0), .val (.ref o1), .val (.int (6 : Int32))]) (S' := [(.ref o0), (.int (6 : Int32))]) rfl ?_
       obtain ⟨cl27, Ar27, q27, S27, M27, H27, G27⟩ := id V_o0
       refine Home.go (own_alen X0 hx hZ e0 Ar27 S27 M27 rfl rfl (hb hby d9_11)) ?_
       refine Home.go (fun _ => XS.icmpNo X0.here hx rfl (hb hby d9_12) rfl (tlt (by decide)).2.1) ?_
       refine Home.run X0 hx hby sg9_15_2 (pc' := 17) (L' := #[.val (.ref o0), .val (.ref o1), .val (.int (6 : Int32))]) (S' := [(.int (6 : Int32)), (.ref o0)]) rfl ?_
       obtain ⟨cl28, Ar28, q28, S28, M28, H28, G28⟩ := id V_o0
       have ib28 : ¬ ((6 : Int32) < 0 ∨ cl28.slots.size ≤ ((6 : Int32)).toNatClampNeg) := inb_of S28 ⟨by decide, by decide⟩
       refine Home.go (X0.baloadBytes hx (j := (6 : Int32)) (v := (.int u7)) (by rw [e0]; exact Ar28.1) (State.isArrayOf_alike hZ.alike Ar28.2.1) Ar28.2.2 ib28 (Has.at H28 ib28 rfl) rfl rfl (hb hby d9_17)) ?_
       show Home s₁ (mkF m 18 #[.val (.ref o0), .val (.ref o1), .val (.int (6 : Int32))] [(.int u7)])
       refine Home.run X0 hx hby sg9_18_2 (pc' := 20) (L' := #[.val (.ref o0), .val (.ref o1), .val (.int (6 : Int32))]) (S' := [(.int (6 : Int32)), (.ref o1), (.int u7)]) rfl ?_
       obtain ⟨cl29, Ar29, q29, S29, M29, H29, G29⟩ := id V_o1
       have ib29 : ¬ ((6 : Int32) < 0 ∨ cl29.slots.size ≤ ((6 : Int32)).toNatClampNeg) := inb_of S29 ⟨by decide, by decide⟩
       refine Home.go (X0.baloadBytes hx (j := (6 : Int32)) (v := (.int u14)) (by rw [e0]; exact Ar29.1) (State.isArrayOf_alike hZ.alike Ar29.2.1) Ar29.2.2 ib29 (Has.at H29 ib29 rfl) rfl rfl (hb hby d9_20)) ?_
       by_cases c30 : u7 = u14
       ·
        refine Home.go (fun _ => XS.icmpYes X0.here hx rfl (pc0 := 21) (pc' := 26) rfl (hb hby d9_21) rfl (teq c30).1 (by decide) (by decide)) ?_
        refine Home.run X0 hx hby sg9_26_4 (pc' := 11) (L' := #[.val (.ref o0), .val (.ref o1), .val (.int (7 : Int32))]) (S' := [(.ref o0), (.int (7 : Int32))]) rfl ?_
        obtain ⟨cl31, Ar31, q31, S31, M31, H31, G31⟩ := id V_o0
        refine Home.go (own_alen X0 hx hZ e0 Ar31 S31 M31 rfl rfl (hb hby d9_11)) ?_
        refine Home.go (fun _ => XS.icmpYes X0.here hx rfl (pc0 := 12) (pc' := 32) rfl (hb hby d9_12) rfl (flt (by decide)).2.1 (by decide) (by decide)) ?_
        refine Home.run X0 hx hby sg9_32_1 (pc' := 33) (L' := #[.val (.ref o0), .val (.ref o1), .val (.int (7 : Int32))]) (S' := [(.int (1 : Int32))]) rfl ?_
        exact Home.retN X0 hx hlk (t := .boolean) hret (by simp) (hb hby d9_33) ⟨congrArg some (congrArg Value.int (by first | rfl | (simp only [f_rm9_2, if_pos c6, if_pos c10, if_pos c14, if_pos c18, if_pos c22, if_pos c26, if_pos c30, nar_i2c, nar_i2b] <;> rfl) | (simp [f_rm9_2, if_pos c6, if_pos c10, if_pos c14, if_pos c18, if_pos c22, if_pos c26, if_pos c30]; done))), rfl, e0⟩ (by decide) (by decide)
       ·
        refine Home.go (fun _ => XS.icmpNo X0.here hx rfl (hb hby d9_21) rfl (feq c30).1) ?_
        refine Home.run X0 hx hby sg9_24_1 (pc' := 25) (L' := #[.val (.ref o0), .val (.ref o1), .val (.int (6 : Int32))]) (S' := [(.int (0 : Int32))]) rfl ?_
        exact Home.retN X0 hx hlk (t := .boolean) hret (by simp) (hb hby d9_25) ⟨congrArg some (congrArg Value.int (by first | rfl | (simp only [f_rm9_2, if_pos c6, if_pos c10, if_pos c14, if_pos c18, if_pos c22, if_pos c26, if_neg c30, nar_i2c, nar_i2b] <;> rfl) | (simp [f_rm9_2, if_pos c6, if_pos c10, if_pos c14, if_pos c18, if_pos c22, if_pos c26, if_neg c30]; done))), rfl, e0⟩ (by decide) (by decide)
      ·
       refine Home.go (fun _ => XS.icmpNo X0.here hx rfl (hb hby d9_21) rfl (feq c26).1) ?_
       refine Home.run X0 hx hby sg9_24_1 (pc' := 25) (L' := #[.val (.ref o0), .val (.ref o1), .val (.int (5 : Int32))]) (S' := [(.int (0 : Int32))]) rfl ?_
       exact Home.retN X0 hx hlk (t := .boolean) hret (by simp) (hb hby d9_25) ⟨congrArg some (congrArg Value.int (by first | rfl | (simp only [f_rm9_2, if_pos c6, if_pos c10, if_pos c14, if_pos c18, if_pos c22, if_neg c26, nar_i2c, nar_i2b] <;> rfl) | (simp [f_rm9_2, if_pos c6, if_pos c10, if_pos c14, if_pos c18, if_pos c22, if_neg c26]; done))), rfl, e0⟩ (by decide) (by decide)
     ·
      refine Home.go (fun _ => XS.icmpNo X0.here hx rfl (hb hby d9_21) rfl (feq c22).1) ?_
      refine Home.run X0 hx hby sg9_24_1 (pc' := 25) (L' := #[.val (.ref o0), .val (.ref o1), .val (.int (4 : Int32))]) (S' := [(.int (0 : Int32))]) rfl ?_
      exact Home.retN X0 hx hlk (t := .boolean) hret (by simp) (hb hby d9_25) ⟨congrArg some (congrArg Value.int (by first | rfl | (simp only [f_rm9_2, if_pos c6, if_pos c10, if_pos c14, if_pos c18, if_neg c22, nar_i2c, nar_i2b] <;> rfl) | (simp [f_rm9_2, if_pos c6, if_pos c10, if_pos c14, if_pos c18, if_neg c22]; done))), rfl, e0⟩ (by decide) (by decide)
    ·
     refine Home.go (fun _ => XS.icmpNo X0.here hx rfl (hb hby d9_21) rfl (feq c18).1) ?_
     refine Home.run X0 hx hby sg9_24_1 (pc' := 25) (L' := #[.val (.ref o0), .val (.ref o1), .val (.int (3 : Int32))]) (S' := [(.int (0 : Int32))]) rfl ?_
     exact Home.retN X0 hx hlk (t := .boolean) hret (by simp) (hb hby d9_25) ⟨congrArg some (congrArg Value.int (by first | rfl | (simp only [f_rm9_2, if_pos c6, if_pos c10, if_pos c14, if_neg c18, nar_i2c, nar_i2b] <;> rfl) | (simp [f_rm9_2, if_pos c6, if_pos c10, if_pos c14, if_neg c18]; done))), rfl, e0⟩ (by decide) (by decide)
   ·
    refine Home.go (fun _ => XS.icmpNo X0.here hx rfl (hb hby d9_21) rfl (feq c14).1) ?_
    refine Home.run X0 hx hby sg9_24_1 (pc' := 25) (L' := #[.val (.ref o0), .val (.ref o1), .val (.int (2 : Int32))]) (S' := [(.int (0 : Int32))]) rfl ?_
    exact Home.retN X0 hx hlk (t := .boolean) hret (by simp) (hb hby d9_25) ⟨congrArg some (congrArg Value.int (by first | rfl | (simp only [f_rm9_2, if_pos c6, if_pos c10, if_neg c14, nar_i2c, nar_i2b] <;> rfl) | (simp [f_rm9_2, if_pos c6, if_pos c10, if_neg c14]; done))), rfl, e0⟩ (by decide) (by decide)
  ·
   refine Home.go (fun _ => XS.icmpNo X0.here hx rfl (hb hby d9_21) rfl (feq c10).1) ?_
   refine Home.run X0 hx hby sg9_24_1 (pc' := 25) (L' := #[.val (.ref o0), .val (.ref o1), .val (.int (1 : Int32))]) (S' := [(.int (0 : Int32))]) rfl ?_
   exact Home.retN X0 hx hlk (t := .boolean) hret (by simp) (hb hby d9_25) ⟨congrArg some (congrArg Value.int (by first | rfl | (simp only [f_rm9_2, if_pos c6, if_neg c10, nar_i2c, nar_i2b] <;> rfl) | (simp [f_rm9_2, if_pos c6, if_neg c10]; done))), rfl, e0⟩ (by decide) (by decide)
 ·
  refine Home.go (fun _ => XS.icmpNo X0.here hx rfl (hb hby d9_21) rfl (feq c6).1) ?_
  refine Home.run X0 hx hby sg9_24_1 (pc' := 25) (L' := #[.val (.ref o0), .val (.ref o1), .val (.int (0 : Int32))]) (S' := [(.int (0 : Int32))]) rfl ?_
  exact Home.retN X0 hx hlk (t := .boolean) hret (by simp) (hb hby d9_25) ⟨congrArg some (congrArg Value.int (by first | rfl | (simp only [f_rm9_2, if_neg c6, nar_i2c, nar_i2b] <;> rfl) | (simp [f_rm9_2, if_neg c6]; done))), rfl, e0⟩ (by decide) (by decide)
theorem f_rm9_2_bnd (u1 : Int32) (u2 : Int32) (u3 : Int32) (u4 : Int32) (u5 : Int32) (u6 : Int32) (u7 : Int32) (u8 : Int32) (u9 : Int32) (u10 : Int32) (u11 : Int32) (u12 : Int32) (u13 : Int32) (u14 : Int32) : ¬ (f_rm9_2 u1 u2 u3 u4 u5 u6 u7 u8 u9 u10 u11 u12 u13 u14) < (0 : Int32) ∧ ¬ (1 : Int32) < (f_rm9_2 u1 u2 u3 u4 u5 u6 u7 u8 u9 u10 u11 u12 u13 u14) := by unfold f_rm9_2; (repeat' split) <;> first | exact bnd_mono (bnd_lit (1 : Int32)) (by decide +kernel) (by decide +kernel) | exact bnd_mono (bnd_lit (0 : Int32)) (by decide +kernel) (by decide +kernel)
theorem rm8_2 (l : Launch) (Z : State) (a0 : Array Value) (hw : HW a0 Z) (ws : List Jvm.Cond) (o0 o1 : Addr) (sv_COMPACT_STRINGS : Int32) (p3 p4 : Addr) (k_p3 : ClassId) (u1 u2 u3 u4 u5 u6 u7 : Int32) (k_p4 : ClassId) (u8 u9 u10 u11 u12 u13 u14 : Int32) (h0 : Heap) (n0 : Nat) (O0 : Old Z n0 h0) (E_o0 : Exa Z h0 o0 "java/lang/String") (E_o1 : Exa Z h0 o1 "java/lang/String") (ne_o0_o1 : o0 ≠ o1) (S_COMPACT_STRINGS : Sta Z Z.heap "java/lang/String" "COMPACT_STRINGS" "Z" (.int sv_COMPACT_STRINGS)) (hCS : ¬ (sv_COMPACT_STRINGS = (0 : Int32))) (F_coder_o0 : Fld Z h0 o0 "java/lang/String" "coder" "B" (.int (0 : Int32))) (F_coder_o1 : Fld Z h0 o1 "java/lang/String" "coder" "B" (.int (0 : Int32))) (F_value_o0 : Fld Z h0 o0 "java/lang/String" "value" "[B" (.ref p3)) (F_value_o1 : Fld Z h0 o1 "java/lang/String" "value" "[B" (.ref p4)) (V_p3 : Arv Z h0 p3 k_p3 .byte (7 : Int32) [(.int u1), (.int u2), (.int u3), (.int u4), (.int u5), (.int u6), (.int u7)] (.int (0 : Int32))) (V_p4 : Arv Z h0 p4 k_p4 .byte (7 : Int32) [(.int u8), (.int u9), (.int u10), (.int u11), (.int u12), (.int u13), (.int u14)] (.int (0 : Int32))) :
    Con l Z (⟨"java/lang/String", "equals", "(Ljava/lang/Object;)Z"⟩ : MethodName) jdk_42_method_66_code 3 (some .boolean) ws ({ frames := 1, cells := 0, slots := 0, locals := 14 } : Room) #[(.ref o0), (.ref o1)] h0 (Pur (some (.int (f_rm8_2 u1 u2 u3 u4 u5 u6 u7 u8 u9 u10 u11 u12 u13 u14))) h0) := by
 refine own_body (plainFor_of_name own_pn1) (fun m => ef_rm8_2 m o0 o1) ?_
 intro p e s m below meth c s₁ hx hby hlk hml hret hZ hown hnm X0 e0
 have N0 := Fr.nil n0
 refine Home.run X0 hx hby sg8_0_2 (pc' := 2) (L' := #[.val (.ref o0), .val (.ref o1), .unset]) (S' := [(.ref o1), (.ref o0)]) rfl ?_
 refine Home.go (fun _ => Jvm.RoadKit.acmp X0 hx rfl rfl rfl (pc0 := 2) (pc' := 7) (same := false) rfl (hb hby d8_2) rfl (decide_eq_false fun q => ne_o0_o1 (Value.ref.inj q)) (by decide) (by decide)) ?_
 show Home s₁ (mkF m 7 #[.val (.ref o0), .val (.ref o1), .unset] [])
 refine Home.run X0 hx hby sg8_7_1 (pc' := 8) (L' := #[.val (.ref o0), .val (.ref o1), .unset]) (S' := [(.ref o1)]) rfl ?_
 refine Home.st (instY X0 hx hZ hown (own_w42 hw) e0 (Ins.self E_o1) rfl rfl (hb hby d8_8)) fun T1 X1 e1 => ?_
 refine Home.go (fun _ => XS.ifNo X1.here hx rfl (hb hby d8_11) rfl ((if0 _ _).trans (feq (by decide)).1)) ?_
 refine Home.run X1 hx hby sg8_14_1 (pc' := 15) (L' := #[.val (.ref o0), .val (.ref o1), .unset]) (S' := [(.ref o1)]) rfl ?_
 refine Home.st (castY X1 hx hZ hown (own_w42 hw) e1 (Ins.self E_o1) rfl rfl (hb hby d8_15)) fun T2 X2 e2 => ?_
 refine Home.run X2 hx hby sg8_18_1 (pc' := 19) (L' := #[.val (.ref o0), .val (.ref o1), .val (.ref o1)]) (S' := []) rfl ?_
 refine Home.st (getS2 X2 hx hZ hown (host := "") (Or.inl (own_w18 hw)) Via.refl e2 (S_COMPACT_STRINGS.ext O0.2) rfl (hb hby d8_19)) fun T3 X3 e3 => ?_
 refine Home.go (fun _ => XS.ifNo X3.here hx rfl (hb hby d8_22) rfl ((if0 _ _).trans (feq hCS).1)) ?_
 refine Home.run X3 hx hby sg8_25_1 (pc' := 26) (L' := #[.val (.ref o0), .val (.ref o1), .val (.ref o1)]) (S' := [(.ref o0)]) rfl ?_
 refine Home.st (getF X3 hx hZ hown (host := "") (Or.inl (own_w30 hw)) Via.refl e3 F_coder_o0 rfl rfl (hb hby d8_26)) fun T4 X4 e4 => ?_
 show Home T4 (mkF m 29 #[.val (.ref o0), .val (.ref o1), .val (.ref o1)] [(.int (0 : Int32))])
 refine Home.run X4 hx hby sg8_29_1 (pc' := 30) (L' := #[.val (.ref o0), .val (.ref o1), .val (.ref o1)]) (S' := [(.ref o1), (.int (0 : Int32))]) rfl ?_
 refine Home.st (getF X4 hx hZ hown (host := "") (Or.inl (own_w30 hw)) Via.refl e4 F_coder_o1 rfl rfl (hb hby d8_30)) fun T5 X5 e5 => ?_
 refine Home.go (fun _ => XS.icmpNo X5.here hx rfl (hb hby d8_33) rfl (teq (by decide)).2) ?_
 refine Home.run X5 hx hby sg8_36_1 (pc' := 37) (L' := #[.val (.ref o0), .val (.ref o1), .val (.ref o1)]) (S' := [(.ref o0)]) rfl ?_
 refine Home.st (getF X5 hx hZ hown (host := "") (Or.inl (own_w32 hw)) Via.refl e5 F_value_o0 rfl rfl (hb hby d8_37)) fun T6 X6 e6 => ?_
 refine Home.run X6 hx hby sg8_40_1 (pc' := 41) (L' := #[.val (.ref o0), .val (.ref o1), .val (.ref o1)]) (S' := [(.ref o1), (.ref p3)]) rfl ?_
 refine Home.st (getF X6 hx hZ hown (host := "") (Or.inl (own_w32 hw)) Via.refl e6 F_value_o1 rfl rfl (hb hby d8_41)) fun T7 X7 e7 => ?_
 refine Home.st (own_pure (own_static X7 hx hZ hown (own_w43 hw) (own_w44 hw) (own_w45 hw) (own_w46 hw) (by decide) (rm9_2 l Z a0 hw [] p3 p4 k_p3 u1 u2 u3 u4 u5 u6 u7 k_p4 u8 u9 u10 u11 u12 u13 u14 h0 n0 O0 V_p3 V_p4) e7 rfl (by rw [hml]; rfl) (argsL := [(.ref p3), (.ref p4)]) (rest := []) (lenOf own_pd6 rfl) rfl rfl (W := 0) (by exact hW0) (by decide) (by decide) (hb hby d8_44) (by decide) (by decide))) fun T8 X8 e8 => ?_
 show Home T8 (mkF m 47 #[.val (.ref o0), .val (.ref o1), .val (.ref o1)] [(.int (f_rm9_2 u1 u2 u3 u4 u5 u6 u7 u8 u9 u10 u11 u12 u13 u14))])
 obtain ⟨r9, hr9⟩ : ∃ z, z = (f_rm9_2 u1 u2 u3 u4 u5 u6 u7 u8 u9 u10 u11 u12 u13 u14) := ⟨_, rfl⟩
 rw [← hr9]
 have br9 : ¬ r9 < (0 : Int32) ∧ ¬ (1 : Int32) < r9 := by rw [hr9]; exact f_rm9_2_bnd u1 u2 u3 u4 u5 u6 u7 u8 u9 u10 u11 u12 u13 u14
 suffices J13 : ∀ {T : State} (X : Stand p l e ({ frames := 1, cells := 0, slots := 0, locals := 14 } : Room) s m #[(.ref o0), (.ref o1)] below meth c T [] 0 0) (eT : T.heap = h0) (v14 : Int32) (hv14 : v14 = (if r9 = (0 : Int32) then (0 : Int32) else (1 : Int32))), @Home p e below _ T (mkF m 55 #[.val (.ref o0), .val (.ref o1), .val (.ref o1)] [(.int v14)]) by
  by_cases c10 : r9 = (0 : Int32)
  ·
   refine Home.go (fun _ => XS.ifYes X8.here hx rfl (pc0 := 47) (pc' := 54) rfl (hb hby d8_47) rfl ((if0 _ _).trans (teq c10).1) (by decide) (by decide)) ?_
   have bd11 : ¬ r9 < (0 : Int32) ∧ ¬ (0 : Int32) < r9 := ⟨(bnd_eql c10), (bnd_eqr c10)⟩
   refine Home.run X8 hx hby sg8_54_1 (pc' := 55) (L' := #[.val (.ref o0), .val (.ref o1), .val (.ref o1)]) (S' := [(.int (0 : Int32))]) rfl ?_
   exact J13 X8 e8 _ (by simp only [if_pos c10])
  ·
   refine Home.go (fun _ => XS.ifNo X8.here hx rfl (hb hby d8_47) rfl ((if0 _ _).trans (feq c10).1)) ?_
   have bd12 : ¬ r9 < (1 : Int32) ∧ ¬ (1 : Int32) < r9 := ⟨(bnd_nel br9.1 c10 (by decide +kernel)), br9.2⟩
   refine Home.run X8 hx hby sg8_50_2 (pc' := 55) (L' := #[.val (.ref o0), .val (.ref o1), .val (.ref o1)]) (S' := [(.int (1 : Int32))]) rfl ?_
   exact J13 X8 e8 _ (by simp only [if_neg c10])
 intro TJ13 XJ13 eJ13 v14 hv14
 have bv14 : ¬ v14 < (0 : Int32) ∧ ¬ (1 : Int32) < v14 := by rw [hv14]; exact (bnd_ite (bnd_mono (bnd_lit (0 : Int32)) (by decide +kernel) (by decide +kernel)) (bnd_mono (bnd_lit (1 : Int32)) (by decide +kernel) (by decide +kernel)))
 show Home TJ13 (mkF m 55 #[.val (.ref o0), .val (.ref o1), .val (.ref o1)] [(.int v14)])
 exact Home.retN XJ13 hx hlk (t := .boolean) hret (by simp) (hb hby d8_55) ⟨congrArg some (congrArg Value.int (by subst hv14; subst hr9; first | rfl | (simp only [f_rm8_2, nar_bool_id bv14 (by decide +kernel) (by decide +kernel), nar_i2c, nar_i2b] <;> rfl) | (simp [f_rm8_2, nar_bool_id bv14 (by decide +kernel) (by decide +kernel)]; done))), rfl, eJ13⟩ (by decide) (by decide)
theorem f_rm8_2_bnd (u1 : Int32) (u2 : Int32) (u3 : Int32) (u4 : Int32) (u5 : Int32) (u6 : Int32) (u7 : Int32) (u8 : Int32) (u9 : Int32) (u10 : Int32) (u11 : Int32) (u12 : Int32) (u13 : Int32) (u14 : Int32) : ¬ (f_rm8_2 u1 u2 u3 u4 u5 u6 u7 u8 u9 u10 u11 u12 u13 u14) < (0 : Int32) ∧ ¬ (1 : Int32) < (f_rm8_2 u1 u2 u3 u4 u5 u6 u7 u8 u9 u10 u11 u12 u13 u14) := by unfold f_rm8_2; (repeat' split) <;> first | exact bnd_mono (bnd_lit (0 : Int32)) (by decide +kernel) (by decide +kernel) | exact bnd_mono (bnd_lit (1 : Int32)) (by decide +kernel) (by decide +kernel)
theorem rm10_3 (l : Launch) (Z : State) (a0 : Array Value) (hw : HW a0 Z) (ws : List Jvm.Cond) (o0 sv__VALUES : Addr) (k_sv__VALUES : ClassId) (sv_MONTH sv_QUARTER sv_MONTH_id : Addr) (sv_COMPACT_STRINGS : Int32) (sv_MONTH_id_value : Addr) (k_sv_MONTH_id_value : ClassId) (p2 : Addr) (k_p2 : ClassId) (u1 u2 u3 u4 u5 u6 u7 : Int32) (sv_QUARTER_id sv_QUARTER_id_value : Addr) (k_sv_QUARTER_id_value : ClassId) (h0 : Heap) (n0 : Nat) (O0 : Old Z n0 h0) (pt0 : (f_rm8_2 (113 : Int32) (117 : Int32) (97 : Int32) (114 : Int32) (116 : Int32) (101 : Int32) (114 : Int32) u1 u2 u3 u4 u5 u6 u7) = (0 : Int32)) (S__VALUES : Sta Z Z.heap "com/example/tapline/tapline/rules/ReturnPeriod" "$VALUES" "[Lcom/example/tapline/tapline/rules/ReturnPeriod;" (.ref sv__VALUES)) (V_sv__VALUES : Arv Z Z.heap sv__VALUES k_sv__VALUES (.object "com/example/tapline/tapline/rules/ReturnPeriod") (2 : Int32) [(.ref sv_MONTH), (.ref sv_QUARTER)] .null) (E_sv__VALUES : Exa Z Z.heap sv__VALUES "[Lcom/example/tapline/tapline/rules/ReturnPeriod;") (F_id_sv_MONTH : Fld Z Z.heap sv_MONTH "com/example/tapline/tapline/rules/ReturnPeriod" "id" "Ljava/lang/String;" (.ref sv_MONTH_id)) (E_sv_MONTH_id : Exa Z Z.heap sv_MONTH_id "java/lang/String") (E_o0 : Exa Z h0 o0 "java/lang/String") (S_COMPACT_STRINGS : Sta Z Z.heap "java/lang/String" "COMPACT_STRINGS" "Z" (.int sv_COMPACT_STRINGS)) (F_coder_sv_MONTH_id : Fld Z Z.heap sv_MONTH_id "java/lang/String" "coder" "B" (.int (0 : Int32))) (F_coder_o0 : Fld Z h0 o0 "java/lang/String" "coder" "B" (.int (0 : Int32))) (F_value_sv_MONTH_id : Fld Z Z.heap sv_MONTH_id "java/lang/String" "value" "[B" (.ref sv_MONTH_id_value)) (V_sv_MONTH_id_value : Arv Z Z.heap sv_MONTH_id_value k_sv_MONTH_id_value .byte (5 : Int32) [(.int (109 : Int32)), (.int (111 : Int32)), (.int (110 : Int32)), (.int (116 : Int32)), (.int (104 : Int32))] (.int (0 : Int32))) (F_value_o0 : Fld Z h0 o0 "java/lang/String" "value" "[B" (.ref p2)) (V_p2 : Arv Z h0 p2 k_p2 .byte (7 : Int32) [(.int u1), (.int u2), (.int u3), (.int u4), (.int u5), (.int u6), (.int u7)] (.int (0 : Int32))) (g_o0 : n0 ≤ o0) (hCS : ¬ (sv_COMPACT_STRINGS = (0 : Int32))) (F_id_sv_QUARTER : Fld Z Z.heap sv_QUARTER "com/example/tapline/tapline/rules/ReturnPeriod" "id" "Ljava/lang/String;" (.ref sv_QUARTER_id)) (E_sv_QUARTER_id : Exa Z Z.heap sv_QUARTER_id "java/lang/String") (F_coder_sv_QUARTER_id : Fld Z Z.heap sv_QUARTER_id "java/lang/String" "coder" "B" (.int (0 : Int32))) (F_value_sv_QUARTER_id : Fld Z Z.heap sv_QUARTER_id "java/lang/String" "value" "[B" (.ref sv_QUARTER_id_value)) (V_sv_QUARTER_id_value : Arv Z Z.heap sv_QUARTER_id_value k_sv_QUARTER_id_value .byte (7 : Int32) [(.int (113 : Int32)), (.int (117 : Int32)), (.int (97 : Int32)), (.int (114 : Int32)), (.int (116 : Int32)), (.int (101 : Int32)), (.int (114 : Int32))] (.int (0 : Int32))) :
    Con l Z (⟨"com/example/tapline/tapline/rules/ReturnPeriod", "byId", "(Ljava/lang/String;)Lcom/example/tapline/tapline/rules/ReturnPeriod;"⟩ : MethodName) prog_74_method_7_code 6 (some (.object "com/example/tapline/tapline/rules/ReturnPeriod")) ws ({ frames := 2, cells := 1, slots := 2, locals := 28 } : Room) #[(.ref o0)] h0 (fun v h L => v = some .null ∧ Fr n0 L ∧ Keep h0 h []) := by
 refine own_body (plainFor_of_name own_pn4) (fun m => ef_rm10_3 m o0) ?_
 intro p e s m below meth c s₁ hx hby hlk hml hret hZ hown hnm X0 e0
 have N0 := Fr.nil n0
 have bd901 : ¬ (f_rm8_2 (113 : Int32) (117 : Int32) (97 : Int32) (114 : Int32) (116 : Int32) (101 : Int32) (114 : Int32) u1 u2 u3 u4 u5 u6 u7) < (0 : Int32) ∧ ¬ (0 : Int32) < (f_rm8_2 (113 : Int32) (117 : Int32) (97 : Int32) (114 : Int32) (116 : Int32) (101 : Int32) (114 : Int32) u1 u2 u3 u4 u5 u6 u7) := ⟨(bnd_eql pt0), (bnd_eqr pt0)⟩
 refine Home.run X0 hx hby sg10_0_2 (pc' := 2) (L' := #[.val (.ref o0), .val .null, .unset, .unset, .unset, .unset]) (S' := []) rfl ?_
 refine Home.call (own_static X0 hx hZ hown (own_w53 hw) (own_w54 hw) (own_w48 hw) (own_w55 hw) (by decide) (rm11_0 l Z a0 hw [] sv__VALUES k_sv__VALUES sv_MONTH sv_QUARTER h0 n0 O0 S__VALUES V_sv__VALUES E_sv__VALUES) e0 rfl (by rw [hml]; rfl) (argsL := []) (rest := []) (lenOf own_pd8 rfl) rfl rfl (W := 0) (by exact hW0) (by decide) (by decide) (hb hby d10_2) (by decide) (by decide)) ?_
 rintro _ T1 L1 X1 ⟨b2_1, rfl, N1q, sz_b2_1, K1q, P1_0, P1_1⟩
 have g_b2_1 : n0 ≤ b2_1 := Nat.le_trans (Old.le O0) sz_b2_1
 have O1 := Old.keep O0 K1q all0
 have K1 : Keep h0 T1.heap ([] : List Addr) := Keep.trans (Keep.refl h0 ([] : List Addr)) K1q all0
 have N1 := Fr.app N0 N1q
 refine Home.run X1 hx hby sg10_5_2 (pc' := 7) (L' := #[.val (.ref o0), .val .null, .val (.ref b2_1), .unset, .unset, .unset]) (S' := [(.ref b2_1)]) rfl ?_
 obtain ⟨cl2, Ar2, q2, S2, M2, H2, G2⟩ := id P1_0
 refine Home.go (own_alen X1 hx hZ rfl Ar2 S2 M2 rfl rfl (hb hby d10_7)) ?_
 show Home T1 (mkF m 8 #[.val (.ref o0), .val .null, .val (.ref b2_1), .unset, .unset, .unset] [(.int (2 : Int32))])
 refine Home.run X1 hx hby sg10_8_5 (pc' := 15) (L' := #[.val (.ref o0), .val .null, .val (.ref b2_1), .val (.int (2 : Int32)), .val (.int (0 : Int32)), .unset]) (S' := [(.int (2 : Int32)), (.int (0 : Int32))]) rfl ?_
 refine Home.go (fun _ => XS.icmpNo X1.here hx rfl (hb hby d10_15) rfl (tlt (by decide)).2.1) ?_
 refine Home.run X1 hx hby sg10_18_2 (pc' := 21) (L' := #[.val (.ref o0), .val .null, .val (.ref b2_1), .val (.int (2 : Int32)), .val (.int (0 : Int32)), .unset]) (S' := [(.int (0 : Int32)), (.ref b2_1)]) rfl ?_
 obtain ⟨cl3, Ar3, q3, S3, M3, H3, G3⟩ := id P1_0
 have ib3 : ¬ ((0 : Int32) < 0 ∨ cl3.slots.size ≤ ((0 : Int32)).toNatClampNeg) := inb_of S3 ⟨by decide, by decide⟩
 refine Home.go (X1.aaload hx (j := (0 : Int32)) (v := (.ref sv_MONTH)) Ar3.1 (State.isArrayOf_alike hZ.alike Ar3.2.1) rfl Ar3.2.2 ib3 (Has.at H3 ib3 rfl) rfl rfl (hb hby d10_21)) ?_
 refine Home.run X1 hx hby sg10_22_2 (pc' := 26) (L' := #[.val (.ref o0), .val .null, .val (.ref b2_1), .val (.int (2 : Int32)), .val (.int (0 : Int32)), .val (.ref sv_MONTH)]) (S' := [(.ref sv_MONTH)]) rfl ?_
 refine Home.st (getF X1 hx hZ hown (host := "") (Or.inl (own_w69 hw)) Via.refl rfl (F_id_sv_MONTH.ext O1.2) rfl rfl (hb hby d10_26)) fun T4 X4 e4 => ?_
 show Home T4 (mkF m 29 #[.val (.ref o0), .val .null, .val (.ref b2_1), .val (.int (2 : Int32)), .val (.int (0 : Int32)), .val (.ref sv_MONTH)] [(.ref sv_MONTH_id)])
 refine Home.run X4 hx hby sg10_29_1 (pc' := 30) (L' := #[.val (.ref o0), .val .null, .val (.ref b2_1), .val (.int (2 : Int32)), .val (.int (0 : Int32)), .val (.ref sv_MONTH)]) (S' := [(.ref o0), (.ref sv_MONTH_id)]) rfl ?_
 have ne5 : sv_MONTH_id ≠ o0 := (Old.ne O0 E_sv_MONTH_id.lt g_o0)
 refine Home.st (own_pure (own_virtual X4 hx hZ hown (own_w71 hw) (own_w38 hw) (notFace_of_selects (args := #[]) (mvT hZ (own_w40 hw))) (own_w40 hw) (own_w39 hw) (own_w7 hw) (own_w41 hw) (by decide) (rm8_0 l Z a0 hw [] sv_MONTH_id o0 sv_MONTH_id_value k_sv_MONTH_id_value (5 : Int32) [(.int (109 : Int32)), (.int (111 : Int32)), (.int (110 : Int32)), (.int (116 : Int32)), (.int (104 : Int32))] p2 k_p2 (7 : Int32) [(.int u1), (.int u2), (.int u3), (.int u4), (.int u5), (.int u6), (.int u7)] sv_COMPACT_STRINGS T1.heap n0 O1 (V_sv_MONTH_id_value.ext O1.2) (V_p2.keep K1 nin0) (by decide) (E_sv_MONTH_id.ext O1.2) (E_o0.keep K1) ne5 S_COMPACT_STRINGS hCS (F_coder_sv_MONTH_id.ext O1.2) (F_coder_o0.keep K1 nin0) (F_value_sv_MONTH_id.ext O1.2) (F_value_o0.keep K1 nin0)) e4 (E_sv_MONTH_id.ext O1.2) rfl (by rw [hml]; rfl) (argsL := [(.ref o0)]) (rest := []) (lenOf own_pd7 rfl) rfl rfl (W := 0) (by exact hW0) (by decide) (by decide) (hb hby d10_30) (by decide) (by decide))) fun T6 X6 e6 => ?_
 refine Home.go (fun _ => XS.ifYes X6.here hx rfl (pc0 := 33) (pc' := 39) rfl (hb hby d10_33) rfl ((if0 _ _).trans (teq (by decide)).1) (by decide) (by decide)) ?_
 refine Home.run X6 hx hby sg10_39_4 (pc' := 15) (L' := #[.val (.ref o0), .val .null, .val (.ref b2_1), .val (.int (2 : Int32)), .val (.int (1 : Int32)), .val (.ref sv_MONTH)]) (S' := [(.int (2 : Int32)), (.int (1 : Int32))]) rfl ?_
 refine Home.go (fun _ => XS.icmpNo X6.here hx rfl (hb hby d10_15) rfl (tlt (by decide)).2.1) ?_
 refine Home.run X6 hx hby sg10_18_2 (pc' := 21) (L' := #[.val (.ref o0), .val .null, .val (.ref b2_1), .val (.int (2 : Int32)), .val (.int (1 : Int32)), .val (.ref sv_MONTH)]) (S' := [(.int (1 : Int32)), (.ref b2_1)]) rfl ?_
 obtain ⟨cl7, Ar7, q7, S7, M7, H7, G7⟩ := id P1_0
 have ib7 : ¬ ((1 : Int32) < 0 ∨ cl7.slots.size ≤ ((1 : Int32)).toNatClampNeg) := inb_of S7 ⟨by decide, by decide⟩
 refine Home.go (X6.aaload hx (j := (1 : Int32)) (v := (.ref sv_QUARTER)) (by rw [e6]; exact Ar7.1) (State.isArrayOf_alike hZ.alike Ar7.2.1) rfl Ar7.2.2 ib7 (Has.at H7 ib7 rfl) rfl rfl (hb hby d10_21)) ?_
 show Home T6 (mkF m 22 #[.val (.ref o0), .val .null, .val (.ref b2_1), .val (.int (2 : Int32)), .val (.int (1 : Int32)), .val (.ref sv_MONTH)] [(.ref sv_QUARTER)])
 refine Home.run X6 hx hby sg10_22_2 (pc' := 26) (L' := #[.val (.ref o0), .val .null, .val (.ref b2_1), .val (.int (2 : Int32)), .val (.int (1 : Int32)), .val (.ref sv_QUARTER)]) (S' := [(.ref sv_QUARTER)]) rfl ?_
 refine Home.st (getF X6 hx hZ hown (host := "") (Or.inl (own_w69 hw)) Via.refl e6 (F_id_sv_QUARTER.ext O1.2) rfl rfl (hb hby d10_26)) fun T8 X8 e8 => ?_
 refine Home.run X8 hx hby sg10_29_1 (pc' := 30) (L' := #[.val (.ref o0), .val .null, .val (.ref b2_1), .val (.int (2 : Int32)), .val (.int (1 : Int32)), .val (.ref sv_QUARTER)]) (S' := [(.ref o0), (.ref sv_QUARTER_id)]) rfl ?_
 have ne9 : sv_QUARTER_id ≠ o0 := (Old.ne O0 E_sv_QUARTER_id.lt g_o0)
 refine Home.st (own_pure (own_virtual X8 hx hZ hown (own_w71 hw) (own_w38 hw) (notFace_of_selects (args := #[]) (mvT hZ (own_w40 hw))) (own_w40 hw) (own_w39 hw) (own_w7 hw) (own_w41 hw) (by decide) (rm8_2 l Z a0 hw [] sv_QUARTER_id o0 sv_COMPACT_STRINGS sv_QUARTER_id_value p2 k_sv_QUARTER_id_value (113 : Int32) (117 : Int32) (97 : Int32) (114 : Int32) (116 : Int32) (101 : Int32) (114 : Int32) k_p2 u1 u2 u3 u4 u5 u6 u7 T1.heap n0 O1 (E_sv_QUARTER_id.ext O1.2) (E_o0.keep K1) ne9 S_COMPACT_STRINGS hCS (F_coder_sv_QUARTER_id.ext O1.2) (F_coder_o0.keep K1 nin0) (F_value_sv_QUARTER_id.ext O1.2) (F_value_o0.keep K1 nin0) (V_sv_QUARTER_id_value.ext O1.2) (V_p2.keep K1 nin0)) e8 (E_sv_QUARTER_id.ext O1.2) rfl (by rw [hml]; rfl) (argsL := [(.ref o0)]) (rest := []) (lenOf own_pd7 rfl) rfl rfl (W := 0) (by exact hW0) (by decide) (by decide) (hb hby d10_30) (by decide) (by decide))) fun T10 X10 e10 => ?_
 show Home T10 (mkF m 33 #[.val (.ref o0), .val .null, .val (.ref b2_1), .val (.int (2 : Int32)), .val (.int (1 : Int32)), .val (.ref sv_QUARTER)] [(.int (f_rm8_2 (113 : Int32) (117 : Int32) (97 : Int32) (114 : Int32) (116 : Int32) (101 : Int32) (114 : Int32) u1 u2 u3 u4 u5 u6 u7))])
 obtain ⟨r11, hr11⟩ : ∃ z, z = (f_rm8_2 (113 : Int32) (117 : Int32) (97 : Int32) (114 : Int32) (116 : Int32) (101 : Int32) (114 : Int32) u1 u2 u3 u4 u5 u6 u7) := ⟨_, rfl⟩
 rw [← hr11]
 have br11 : ¬ r11 < (0 : Int32) ∧ ¬ (1 : Int32) < r11 := by rw [hr11]; exact f_rm8_2_bnd (113 : Int32) (117 : Int32) (97 : Int32) (114 : Int32) (116 : Int32) (101 : Int32) (114 : Int32) u1 u2 u3 u4 u5 u6 u7
 refine Home.go (fun _ => XS.ifYes X10.here hx rfl (pc0 := 33) (pc' := 39) rfl (hb hby d10_33) rfl ((if0 _ _).trans (teq (by rw [hr11]; exact pt0)).1) (by decide) (by decide)) ?_
 refine Home.run X10 hx hby sg10_39_4 (pc' := 15) (L' := #[.val (.ref o0), .val .null, .val (.ref b2_1), .val (.int (2 : Int32)), .val (.int (2 : Int32)), .val (.ref sv_QUARTER)]) (S' := [(.int (2 : Int32)), (.int (2 : Int32))]) rfl ?_
 refine Home.go (fun _ => XS.icmpYes X10.here hx rfl (pc0 := 15) (pc' := 45) rfl (hb hby d10_15) rfl (flt (by decide)).2.1 (by decide) (by decide)) ?_
 refine Home.run X10 hx hby sg10_45_1 (pc' := 46) (L' := #[.val (.ref o0), .val .null, .val (.ref b2_1), .val (.int (2 : Int32)), .val (.int (2 : Int32)), .val (.ref sv_QUARTER)]) (S' := [.null]) rfl ?_
 subst hr11
 exact Home.retR X10 hx hlk hret rfl rfl (hb hby d10_46) (by rw [show T10.heap = T1.heap from e10]; exact ⟨rfl, N1, K1⟩) (by decide) (by decide)
theorem rm10_4 (l : Launch) (Z : State) (a0 : Array Value) (hw : HW a0 Z) (ws : List Jvm.Cond) (o0 sv__VALUES : Addr) (k_sv__VALUES : ClassId) (sv_MONTH sv_QUARTER sv_MONTH_id : Addr) (sv_COMPACT_STRINGS : Int32) (sv_MONTH_id_value : Addr) (k_sv_MONTH_id_value : ClassId) (p2 : Addr) (k_p2 : ClassId) (u1 u2 u3 u4 u5 u6 u7 : Int32) (sv_QUARTER_id sv_QUARTER_id_value : Addr) (k_sv_QUARTER_id_value : ClassId) (h0 : Heap) (n0 : Nat) (O0 : Old Z n0 h0) (pt0 : ¬ ((f_rm8_2 (113 : Int32) (117 : Int32) (97 : Int32) (114 : Int32) (116 : Int32) (101 : Int32) (114 : Int32) u1 u2 u3 u4 u5 u6 u7) = (0 : Int32))) (S__VALUES : Sta Z Z.heap "com/example/tapline/tapline/rules/ReturnPeriod" "$VALUES" "[Lcom/example/tapline/tapline/rules/ReturnPeriod;" (.ref sv__VALUES)) (V_sv__VALUES : Arv Z Z.heap sv__VALUES k_sv__VALUES (.object "com/example/tapline/tapline/rules/ReturnPeriod") (2 : Int32) [(.ref sv_MONTH), (.ref sv_QUARTER)] .null) (E_sv__VALUES : Exa Z Z.heap sv__VALUES "[Lcom/example/tapline/tapline/rules/ReturnPeriod;") (F_id_sv_MONTH : Fld Z Z.heap sv_MONTH "com/example/tapline/tapline/rules/ReturnPeriod" "id" "Ljava/lang/String;" (.ref sv_MONTH_id)) (E_sv_MONTH_id : Exa Z Z.heap sv_MONTH_id "java/lang/String") (E_o0 : Exa Z h0 o0 "java/lang/String") (S_COMPACT_STRINGS : Sta Z Z.heap "java/lang/String" "COMPACT_STRINGS" "Z" (.int sv_COMPACT_STRINGS)) (F_coder_sv_MONTH_id : Fld Z Z.heap sv_MONTH_id "java/lang/String" "coder" "B" (.int (0 : Int32))) (F_coder_o0 : Fld Z h0 o0 "java/lang/String" "coder" "B" (.int (0 : Int32))) (F_value_sv_MONTH_id : Fld Z Z.heap sv_MONTH_id "java/lang/String" "value" "[B" (.ref sv_MONTH_id_value)) (V_sv_MONTH_id_value : Arv Z Z.heap sv_MONTH_id_value k_sv_MONTH_id_value .byte (5 : Int32) [(.int (109 : Int32)), (.int (111 : Int32)), (.int (110 : Int32)), (.int (116 : Int32)), (.int (104 : Int32))] (.int (0 : Int32))) (F_value_o0 : Fld Z h0 o0 "java/lang/String" "value" "[B" (.ref p2)) (V_p2 : Arv Z h0 p2 k_p2 .byte (7 : Int32) [(.int u1), (.int u2), (.int u3), (.int u4), (.int u5), (.int u6), (.int u7)] (.int (0 : Int32))) (g_o0 : n0 ≤ o0) (hCS : ¬ (sv_COMPACT_STRINGS = (0 : Int32))) (F_id_sv_QUARTER : Fld Z Z.heap sv_QUARTER "com/example/tapline/tapline/rules/ReturnPeriod" "id" "Ljava/lang/String;" (.ref sv_QUARTER_id)) (E_sv_QUARTER_id : Exa Z Z.heap sv_QUARTER_id "java/lang/String") (F_coder_sv_QUARTER_id : Fld Z Z.heap sv_QUARTER_id "java/lang/String" "coder" "B" (.int (0 : Int32))) (F_value_sv_QUARTER_id : Fld Z Z.heap sv_QUARTER_id "java/lang/String" "value" "[B" (.ref sv_QUARTER_id_value)) (V_sv_QUARTER_id_value : Arv Z Z.heap sv_QUARTER_id_value k_sv_QUARTER_id_value .byte (7 : Int32) [(.int (113 : Int32)), (.int (117 : Int32)), (.int (97 : Int32)), (.int (114 : Int32)), (.int (116 : Int32)), (.int (101 : Int32)), (.int (114 : Int32))] (.int (0 : Int32))) :
    Con l Z (⟨"com/example/tapline/tapline/rules/ReturnPeriod", "byId", "(Ljava/lang/String;)Lcom/example/tapline/tapline/rules/ReturnPeriod;"⟩ : MethodName) prog_74_method_7_code 6 (some (.object "com/example/tapline/tapline/rules/ReturnPeriod")) ws ({ frames := 2, cells := 1, slots := 2, locals := 28 } : Room) #[(.ref o0)] h0 (fun v h L => v = some (.ref sv_QUARTER) ∧ Fr n0 L ∧ Keep h0 h []) := by
 refine own_body (plainFor_of_name own_pn4) (fun m => ef_rm10_4 m o0) ?_
 intro p e s m below meth c s₁ hx hby hlk hml hret hZ hown hnm X0 e0
 have N0 := Fr.nil n0
 refine Home.run X0 hx hby sg10_0_2 (pc' := 2) (L' := #[.val (.ref o0), .val .null, .unset, .unset, .unset, .unset]) (S' := []) rfl ?_
 refine Home.call (own_static X0 hx hZ hown (own_w53 hw) (own_w54 hw) (own_w48 hw) (own_w55 hw) (by decide) (rm11_0 l Z a0 hw [] sv__VALUES k_sv__VALUES sv_MONTH sv_QUARTER h0 n0 O0 S__VALUES V_sv__VALUES E_sv__VALUES) e0 rfl (by rw [hml]; rfl) (argsL := []) (rest := []) (lenOf own_pd8 rfl) rfl rfl (W := 0) (by exact hW0) (by decide) (by decide) (hb hby d10_2) (by decide) (by decide)) ?_
 rintro _ T1 L1 X1 ⟨b2_1, rfl, N1q, sz_b2_1, K1q, P1_0, P1_1⟩
 have g_b2_1 : n0 ≤ b2_1 := Nat.le_trans (Old.le O0) sz_b2_1
 have O1 := Old.keep O0 K1q all0
 have K1 : Keep h0 T1.heap ([] : List Addr) := Keep.trans (Keep.refl h0 ([] : List Addr)) K1q all0
 have N1 := Fr.app N0 N1q
 refine Home.run X1 hx hby sg10_5_2 (pc' := 7) (L' := #[.val (.ref o0), .val .null, .val (.ref b2_1), .unset, .unset, .unset]) (S' := [(.ref b2_1)]) rfl ?_
 obtain ⟨cl2, Ar2, q2, S2, M2, H2, G2⟩ := id P1_0
 refine Home.go (own_alen X1 hx hZ rfl Ar2 S2 M2 rfl rfl (hb hby d10_7)) ?_
 show Home T1 (mkF m 8 #[.val (.ref o0), .val .null, .val (.ref b2_1), .unset, .unset, .unset] [(.int (2 : Int32))])
 refine Home.run X1 hx hby sg10_8_5 (pc' := 15) (L' := #[.val (.ref o0), .val .null, .val (.ref b2_1), .val (.int (2 : Int32)), .val (.int (0 : Int32)), .unset]) (S' := [(.int (2 : Int32)), (.int (0 : Int32))]) rfl ?_
 refine Home.go (fun _ => XS.icmpNo X1.here hx rfl (hb hby d10_15) rfl (tlt (by decide)).2.1) ?_
 refine Home.run X1 hx hby sg10_18_2 (pc' := 21) (L' := #[.val (.ref o0), .val .null, .val (.ref b2_1), .val (.int (2 : Int32)), .val (.int (0 : Int32)), .unset]) (S' := [(.int (0 : Int32)), (.ref b2_1)]) rfl ?_
 obtain ⟨cl3, Ar3, q3, S3, M3, H3, G3⟩ := id P1_0
 have ib3 : ¬ ((0 : Int32) < 0 ∨ cl3.slots.size ≤ ((0 : Int32)).toNatClampNeg) := inb_of S3 ⟨by decide, by decide⟩
 refine Home.go (X1.aaload hx (j := (0 : Int32)) (v := (.ref sv_MONTH)) Ar3.1 (State.isArrayOf_alike hZ.alike Ar3.2.1) rfl Ar3.2.2 ib3 (Has.at H3 ib3 rfl) rfl rfl (hb hby d10_21)) ?_
 refine Home.run X1 hx hby sg10_22_2 (pc' := 26) (L' := #[.val (.ref o0), .val .null, .val (.ref b2_1), .val (.int (2 : Int32)), .val (.int (0 : Int32)), .val (.ref sv_MONTH)]) (S' := [(.ref sv_MONTH)]) rfl ?_
 refine Home.st (getF X1 hx hZ hown (host := "") (Or.inl (own_w69 hw)) Via.refl rfl (F_id_sv_MONTH.ext O1.2) rfl rfl (hb hby d10_26)) fun T4 X4 e4 => ?_
 show Home T4 (mkF m 29 #[.val (.ref o0), .val .null, .val (.ref b2_1), .val (.int (2 : Int32)), .val (.int (0 : Int32)), .val (.ref sv_MONTH)] [(.ref sv_MONTH_id)])
 refine Home.run X4 hx hby sg10_29_1 (pc' := 30) (L' := #[.val (.ref o0), .val .null, .val (.ref b2_1), .val (.int (2 : Int32)), .val (.int (0 : Int32)), .val (.ref sv_MONTH)]) (S' := [(.ref o0), (.ref sv_MONTH_id)]) rfl ?_
 have ne5 : sv_MONTH_id ≠ o0 := (Old.ne O0 E_sv_MONTH_id.lt g_o0)
 refine Home.st (own_pure (own_virtual X4 hx hZ hown (own_w71 hw) (own_w38 hw) (notFace_of_selects (args := #[]) (mvT hZ (own_w40 hw))) (own_w40 hw) (own_w39 hw) (own_w7 hw) (own_w41 hw) (by decide) (rm8_0 l Z a0 hw [] sv_MONTH_id o0 sv_MONTH_id_value k_sv_MONTH_id_value (5 : Int32) [(.int (109 : Int32)), (.int (111 : Int32)), (.int (110 : Int32)), (.int (116 : Int32)), (.int (104 : Int32))] p2 k_p2 (7 : Int32) [(.int u1), (.int u2), (.int u3), (.int u4), (.int u5), (.int u6), (.int u7)] sv_COMPACT_STRINGS T1.heap n0 O1 (V_sv_MONTH_id_value.ext O1.2) (V_p2.keep K1 nin0) (by decide) (E_sv_MONTH_id.ext O1.2) (E_o0.keep K1) ne5 S_COMPACT_STRINGS hCS (F_coder_sv_MONTH_id.ext O1.2) (F_coder_o0.keep K1 nin0) (F_value_sv_MONTH_id.ext O1.2) (F_value_o0.keep K1 nin0)) e4 (E_sv_MONTH_id.ext O1.2) rfl (by rw [hml]; rfl) (argsL := [(.ref o0)]) (rest := []) (lenOf own_pd7 rfl) rfl rfl (W := 0) (by exact hW0) (by decide) (by decide) (hb hby d10_30) (by decide) (by decide))) fun T6 X6 e6 => ?_
 refine Home.go (fun _ => XS.ifYes X6.here hx rfl (pc0 := 33) (pc' := 39) rfl (hb hby d10_33) rfl ((if0 _ _).trans (teq (by decide)).1) (by decide) (by decide)) ?_
 refine Home.run X6 hx hby sg10_39_4 (pc' := 15) (L' := #[.val (.ref o0), .val .null, .val (.ref b2_1), .val (.int (2 : Int32)), .val (.int (1 : Int32)), .val (.ref sv_MONTH)]) (S' := [(.int (2 : Int32)), (.int (1 : Int32))]) rfl ?_
 refine Home.go (fun _ => XS.icmpNo X6.here hx rfl (hb hby d10_15) rfl (tlt (by decide)).2.1) ?_
 refine Home.run X6 hx hby sg10_18_2 (pc' := 21) (L' := #[.val (.ref o0), .val .null, .val (.ref b2_1), .val (.int (2 : Int32)), .val (.int (1 : Int32)), .val (.ref sv_MONTH)]) (S' := [(.int (1 : Int32)), (.ref b2_1)]) rfl ?_
 obtain ⟨cl7, Ar7, q7, S7, M7, H7, G7⟩ := id P1_0
 have ib7 : ¬ ((1 : Int32) < 0 ∨ cl7.slots.size ≤ ((1 : Int32)).toNatClampNeg) := inb_of S7 ⟨by decide, by decide⟩
 refine Home.go (X6.aaload hx (j := (1 : Int32)) (v := (.ref sv_QUARTER)) (by rw [e6]; exact Ar7.1) (State.isArrayOf_alike hZ.alike Ar7.2.1) rfl Ar7.2.2 ib7 (Has.at H7 ib7 rfl) rfl rfl (hb hby d10_21)) ?_
 show Home T6 (mkF m 22 #[.val (.ref o0), .val .null, .val (.ref b2_1), .val (.int (2 : Int32)), .val (.int (1 : Int32)), .val (.ref sv_MONTH)] [(.ref sv_QUARTER)])
 refine Home.run X6 hx hby sg10_22_2 (pc' := 26) (L' := #[.val (.ref o0), .val .null, .val (.ref b2_1), .val (.int (2 : Int32)), .val (.int (1 : Int32)), .val (.ref sv_QUARTER)]) (S' := [(.ref sv_QUARTER)]) rfl ?_
 refine Home.st (getF X6 hx hZ hown (host := "") (Or.inl (own_w69 hw)) Via.refl e6 (F_id_sv_QUARTER.ext O1.2) rfl rfl (hb hby d10_26)) fun T8 X8 e8 => ?_
 refine Home.run X8 hx hby sg10_29_1 (pc' := 30) (L' := #[.val (.ref o0), .val .null, .val (.ref b2_1), .val (.int (2 : Int32)), .val (.int (1 : Int32)), .val (.ref sv_QUARTER)]) (S' := [(.ref o0), (.ref sv_QUARTER_id)]) rfl ?_
 have ne9 : sv_QUARTER_id ≠ o0 := (Old.ne O0 E_sv_QUARTER_id.lt g_o0)
 refine Home.st (own_pure (own_virtual X8 hx hZ hown (own_w71 hw) (own_w38 hw) (notFace_of_selects (args := #[]) (mvT hZ (own_w40 hw))) (own_w40 hw) (own_w39 hw) (own_w7 hw) (own_w41 hw) (by decide) (rm8_2 l Z a0 hw [] sv_QUARTER_id o0 sv_COMPACT_STRINGS sv_QUARTER_id_value p2 k_sv_QUARTER_id_value (113 : Int32) (117 : Int32) (97 : Int32) (114 : Int32) (116 : Int32) (101 : Int32) (114 : Int32) k_p2 u1 u2 u3 u4 u5 u6 u7 T1.heap n0 O1 (E_sv_QUARTER_id.ext O1.2) (E_o0.keep K1) ne9 S_COMPACT_STRINGS hCS (F_coder_sv_QUARTER_id.ext O1.2) (F_coder_o0.keep K1 nin0) (F_value_sv_QUARTER_id.ext O1.2) (F_value_o0.keep K1 nin0) (V_sv_QUARTER_id_value.ext O1.2) (V_p2.keep K1 nin0)) e8 (E_sv_QUARTER_id.ext O1.2) rfl (by rw [hml]; rfl) (argsL := [(.ref o0)]) (rest := []) (lenOf own_pd7 rfl) rfl rfl (W := 0) (by exact hW0) (by decide) (by decide) (hb hby d10_30) (by decide) (by decide))) fun T10 X10 e10 => ?_
 show Home T10 (mkF m 33 #[.val (.ref o0), .val .null, .val (.ref b2_1), .val (.int (2 : Int32)), .val (.int (1 : Int32)), .val (.ref sv_QUARTER)] [(.int (f_rm8_2 (113 : Int32) (117 : Int32) (97 : Int32) (114 : Int32) (116 : Int32) (101 : Int32) (114 : Int32) u1 u2 u3 u4 u5 u6 u7))])
 obtain ⟨r11, hr11⟩ : ∃ z, z = (f_rm8_2 (113 : Int32) (117 : Int32) (97 : Int32) (114 : Int32) (116 : Int32) (101 : Int32) (114 : Int32) u1 u2 u3 u4 u5 u6 u7) := ⟨_, rfl⟩
 rw [← hr11]
 have br11 : ¬ r11 < (0 : Int32) ∧ ¬ (1 : Int32) < r11 := by rw [hr11]; exact f_rm8_2_bnd (113 : Int32) (117 : Int32) (97 : Int32) (114 : Int32) (116 : Int32) (101 : Int32) (114 : Int32) u1 u2 u3 u4 u5 u6 u7
 refine Home.go (fun _ => XS.ifNo X10.here hx rfl (hb hby d10_33) rfl ((if0 _ _).trans (feq (by rw [hr11]; exact pt0)).1)) ?_
 refine Home.run X10 hx hby sg10_36_6 (pc' := 15) (L' := #[.val (.ref o0), .val (.ref sv_QUARTER), .val (.ref b2_1), .val (.int (2 : Int32)), .val (.int (2 : Int32)), .val (.ref sv_QUARTER)]) (S' := [(.int (2 : Int32)), (.int (2 : Int32))]) rfl ?_
 refine Home.go (fun _ => XS.icmpYes X10.here hx rfl (pc0 := 15) (pc' := 45) rfl (hb hby d10_15) rfl (flt (by decide)).2.1 (by decide) (by decide)) ?_
 refine Home.run X10 hx hby sg10_45_1 (pc' := 46) (L' := #[.val (.ref o0), .val (.ref sv_QUARTER), .val (.ref b2_1), .val (.int (2 : Int32)), .val (.int (2 : Int32)), .val (.ref sv_QUARTER)]) (S' := [(.ref sv_QUARTER)]) rfl ?_
 subst hr11
 exact Home.retR X10 hx hlk hret rfl rfl (hb hby d10_46) (by rw [show T10.heap = T1.heap from e10]; exact ⟨rfl, N1, K1⟩) (by decide) (by decide)
theorem rm1_7 (l : Launch) (Z : State) (a0 : Array Value) (hw : HW a0 Z) (ws : List Jvm.Cond) (o0 : Addr) (k_o0 : ClassId) (u1 u2 u3 u4 u5 u6 u7 u8 sv_COMPACT_STRINGS : Int32) (h0 : Heap) (n0 : Nat) (O0 : Old Z n0 h0) (V_o0 : Arv Z h0 o0 k_o0 .char (8 : Int32) [(.int u1), (.int u2), (.int u3), (.int u4), (.int u5), (.int u6), (.int u7), (.int u8)] (.int (0 : Int32))) (bnd_u1 : ¬ u1 < (0 : Int32) ∧ ¬ (255 : Int32) < u1) (bnd_u2 : ¬ u2 < (0 : Int32) ∧ ¬ (255 : Int32) < u2) (bnd_u3 : ¬ u3 < (0 : Int32) ∧ ¬ (255 : Int32) < u3) (bnd_u4 : ¬ u4 < (0 : Int32) ∧ ¬ (255 : Int32) < u4) (bnd_u5 : ¬ u5 < (0 : Int32) ∧ ¬ (255 : Int32) < u5) (bnd_u6 : ¬ u6 < (0 : Int32) ∧ ¬ (255 : Int32) < u6) (bnd_u7 : ¬ u7 < (0 : Int32) ∧ ¬ (255 : Int32) < u7) (bnd_u8 : ¬ u8 < (0 : Int32) ∧ ¬ (255 : Int32) < u8) (S_COMPACT_STRINGS : Sta Z Z.heap "java/lang/String" "COMPACT_STRINGS" "Z" (.int sv_COMPACT_STRINGS)) (hCS : ¬ (sv_COMPACT_STRINGS = (0 : Int32))) :
    Con l Z (⟨"com/example/tapline/tapline/rules/ReturnPeriodByIdPinLaw", "str", "([CI)Ljava/lang/String;"⟩ : MethodName) method_2_code 2 (some (.object "java/lang/String")) ws ({ frames := 4, cells := 3, slots := 20, locals := 66 } : Room) #[(.ref o0), (.int (8 : Int32))] h0 (fun v h L => ∃ (b1 : Addr), ∃ (b1_3_2_23 : Addr), ∃ (k1_3_2_23 : ClassId), v = some (.ref b1) ∧ Fr n0 L ∧ h0.size ≤ b1 ∧ h0.size ≤ b1_3_2_23 ∧ Keep h0 h [] ∧ Exa Z h b1 "java/lang/String" ∧ Fld Z h b1 "java/lang/String" "coder" "B" (.int (0 : Int32)) ∧ Fld Z h b1 "java/lang/String" "value" "[B" (.ref b1_3_2_23) ∧ Arv Z h b1_3_2_23 k1_3_2_23 .byte (8 : Int32) [(.int (u1.toInt8.toInt32)), (.int (u2.toInt8.toInt32)), (.int (u3.toInt8.toInt32)), (.int (u4.toInt8.toInt32)), (.int (u5.toInt8.toInt32)), (.int (u6.toInt8.toInt32)), (.int (u7.toInt8.toInt32)), (.int (u8.toInt8.toInt32))] (.int (0 : Int32))) := by
 refine own_body (plainFor_of_name own_pn2) (fun m => ef_rm1_7 m o0 (8 : Int32)) ?_
 intro p e s m below meth c s₁ hx hby hlk hml hret hZ hown hnm X0 e0
 have N0 := Fr.nil n0
 refine Home.run X0 hx hby sg1_0_1 (pc' := 1) (L' := #[.val (.ref o0), .val (.int (8 : Int32))]) (S' := [(.int (8 : Int32))]) rfl ?_
 refine Home.go (fun _ => XS.ifYes X0.here hx rfl (pc0 := 1) (pc' := 15) rfl (hb hby d1_1) rfl ((if0 _ _).trans (tlt (by decide)).2.2.1) (by decide) (by decide)) ?_
 refine Home.run X0 hx hby sg1_15_2 (pc' := 17) (L' := #[.val (.ref o0), .val (.int (8 : Int32))]) (S' := [(.int (1 : Int32)), (.int (8 : Int32))]) rfl ?_
 refine Home.go (fun _ => XS.icmpYes X0.here hx rfl (pc0 := 17) (pc' := 37) rfl (hb hby d1_17) rfl (feq (by decide)).2 (by decide) (by decide)) ?_
 refine Home.run X0 hx hby sg1_37_2 (pc' := 39) (L' := #[.val (.ref o0), .val (.int (8 : Int32))]) (S' := [(.int (2 : Int32)), (.int (8 : Int32))]) rfl ?_
 refine Home.go (fun _ => XS.icmpYes X0.here hx rfl (pc0 := 39) (pc' := 65) rfl (hb hby d1_39) rfl (feq (by decide)).2 (by decide) (by decide)) ?_
 refine Home.run X0 hx hby sg1_65_2 (pc' := 67) (L' := #[.val (.ref o0), .val (.int (8 : Int32))]) (S' := [(.int (3 : Int32)), (.int (8 : Int32))]) rfl ?_
 refine Home.go (fun _ => XS.icmpYes X0.here hx rfl (pc0 := 67) (pc' := 99) rfl (hb hby d1_67) rfl (feq (by decide)).2 (by decide) (by decide)) ?_
 refine Home.run X0 hx hby sg1_99_2 (pc' := 101) (L' := #[.val (.ref o0), .val (.int (8 : Int32))]) (S' := [(.int (4 : Int32)), (.int (8 : Int32))]) rfl ?_
 refine Home.go (fun _ => XS.icmpYes X0.here hx rfl (pc0 := 101) (pc' := 139) rfl (hb hby d1_101) rfl (feq (by decide)).2 (by decide) (by decide)) ?_
 refine Home.run X0 hx hby sg1_139_2 (pc' := 141) (L' := #[.val (.ref o0), .val (.int (8 : Int32))]) (S' := [(.int (5 : Int32)), (.int (8 : Int32))]) rfl ?_
 refine Home.go (fun _ => XS.icmpYes X0.here hx rfl (pc0 := 141) (pc' := 185) rfl (hb hby d1_141) rfl (feq (by decide)).2 (by decide) (by decide)) ?_
 refine Home.run X0 hx hby sg1_185_2 (pc' := 188) (L' := #[.val (.ref o0), .val (.int (8 : Int32))]) (S' := [(.int (6 : Int32)), (.int (8 : Int32))]) rfl ?_
 refine Home.go (fun _ => XS.icmpYes X0.here hx rfl (pc0 := 188) (pc' := 239) rfl (hb hby d1_188) rfl (feq (by decide)).2 (by decide) (by decide)) ?_
 refine Home.run X0 hx hby sg1_239_2 (pc' := 242) (L' := #[.val (.ref o0), .val (.int (8 : Int32))]) (S' := [(.int (7 : Int32)), (.int (8 : Int32))]) rfl ?_
 refine Home.go (fun _ => XS.icmpYes X0.here hx rfl (pc0 := 242) (pc' := 301) rfl (hb hby d1_242) rfl (feq (by decide)).2 (by decide) (by decide)) ?_
 refine Home.nw (own_newO X0 hx hZ hown (own_w5 hw) (own_w6 hw) (own_w7 hw) e0 rfl (hb hby d1_301) (by decide) (by decide)) fun T1 h1 b1 g1 X1 e1 E1 A1 D1 => ?_
 have g_b1 : n0 ≤ b1 := Nat.le_trans (Old.le O0) (Nat.le_of_eq g1.symm)
 have F_coder_b1 : Fld Z h1 b1 "java/lang/String" "coder" "B" (.int (0 : Int32)) := D1 (Or.inr (own_w31 hw)) (ty := .byte) (by decide)
 have F_value_b1 : Fld Z h1 b1 "java/lang/String" "value" "[B" .null := D1 (Or.inr (own_w33 hw)) (ty := (.array .byte)) (by decide)
 have O1 := O0.ext E1
 have K1 : Keep h0 h1 ([] : List Addr) := Keep.ext (Keep.refl h0 ([] : List Addr)) E1
 show Home T1 (mkF m 304 #[.val (.ref o0), .val (.int (8 : Int32))] [(.ref b1)])
 refine Home.run X1 hx hby sg1_304_2 (pc' := 307) (L' := #[.val (.ref o0), .val (.int (8 : Int32))]) (S' := [(.int (8 : Int32)), (.ref b1), (.ref b1)]) rfl ?_
 refine Home.na (own_newP (aty := .char) X1 hx hZ (own_w0 hw) e1 (g := (mkF m 307 #[.val (.ref o0), .val (.int (8 : Int32))] [(.int (8 : Int32)), (.ref b1), (.ref b1)])) rfl (hb hby d1_307) rfl (by decide) (cap := 8) (by decide) (by decide) (by decide) (by decide)) fun T2 h2 k2 b2 g2 X2 e2 E2 A2 => ?_
 have g_b2 : n0 ≤ b2 := Nat.le_trans (Old.le O1) (Nat.le_of_eq g2.symm)
 have V2 : Arv Z h2 b2 k2 .char (8 : Int32) [(.int (0 : Int32)), (.int (0 : Int32)), (.int (0 : Int32)), (.int (0 : Int32)), (.int (0 : Int32)), (.int (0 : Int32)), (.int (0 : Int32)), (.int (0 : Int32))] (.int (0 : Int32)) := (Arv.new A2 (by decide)).pad (pad_rep [] (.int (0 : Int32)) 8)
 have O2 := O1.ext E2
 have K2 : Keep h0 h2 ([] : List Addr) := Keep.ext K1 E2
 refine Home.run X2 hx hby sg1_309_4 (pc' := 313) (L' := #[.val (.ref o0), .val (.int (8 : Int32))]) (S' := [(.int (0 : Int32)), (.ref o0), (.int (0 : Int32)), (.ref b2), (.ref b2), (.ref b1), (.ref b1)]) rfl ?_
 obtain ⟨cl3, Ar3, q3, S3, M3, H3, G3⟩ := id (V_o0.keep K2 nin0)
 have ib3 : ¬ ((0 : Int32) < 0 ∨ cl3.slots.size ≤ ((0 : Int32)).toNatClampNeg) := inb_of S3 ⟨by decide, by decide⟩
 refine Home.go (X2.caload hx (j := (0 : Int32)) (v := (.int u1)) (by rw [e2]; exact Ar3.1) (State.isArrayOf_alike hZ.alike Ar3.2.1) Ar3.2.2 ib3 (Has.at H3 ib3 rfl) rfl rfl (hb hby d1_313)) ?_
 show Home T2 (mkF m 314 #[.val (.ref o0), .val (.int (8 : Int32))] [(.int u1), (.int (0 : Int32)), (.ref b2), (.ref b2), (.ref b1), (.ref b1)])
 obtain ⟨cl4, Ar4, q4, S4, M4, H4, G4⟩ := id V2
 refine Home.wr (stC X2 hx hZ e2 Ar4 (j := (0 : Int32)) (inb_of S4 ⟨by decide, by decide⟩) rfl rfl (hb hby d1_314)) fun T4 h4 X4 e4 W4 => ?_
 have W4' := Wr.to W4 (congrArg Value.int (nar_char_id bnd_u1 (by decide +kernel) (by decide +kernel)))
 have V4 : Arv Z h4 b2 k2 .char (8 : Int32) [(.int u1), (.int (0 : Int32)), (.int (0 : Int32)), (.int (0 : Int32)), (.int (0 : Int32)), (.int (0 : Int32)), (.int (0 : Int32)), (.int (0 : Int32))] (.int (0 : Int32)) := Arv.set Ar4 q4 S4 M4 H4 G4 (fits_char_b bnd_u1 (by decide +kernel) (by decide +kernel)) W4' 0 rfl (Nat.le_of_ble_eq_true rfl)
 have O4 := O2.wr W4 g_b2
 have K4 : Keep h0 h4 ([] : List Addr) := Keep.wr K2 W4 (Or.inr (Nat.le_trans E1.1 (Nat.le_of_eq g2.symm)))
 have N4 := Fr.snoc X4 N0 g_b2
 refine Home.run X4 hx hby sg1_315_4 (pc' := 319) (L' := #[.val (.ref o0), .val (.int (8 : Int32))]) (S' := [(.int (1 : Int32)), (.ref o0), (.int (1 : Int32)), (.ref b2), (.ref b2), (.ref b1), (.ref b1)]) rfl ?_
 obtain ⟨cl5, Ar5, q5, S5, M5, H5, G5⟩ := id (V_o0.keep K4 nin0)
 have ib5 : ¬ ((1 : Int32) < 0 ∨ cl5.slots.size ≤ ((1 : Int32)).toNatClampNeg) := inb_of S5 ⟨by decide, by decide⟩
 refine Home.go (X4.caload hx (j := (1 : Int32)) (v := (.int u2)) (by rw [e4]; exact Ar5.1) (State.isArrayOf_alike hZ.alike Ar5.2.1) Ar5.2.2 ib5 (Has.at H5 ib5 rfl) rfl rfl (hb hby d1_319)) ?_
 show Home T4 (mkF m 320 #[.val (.ref o0), .val (.int (8 : Int32))] [(.int u2), (.int (1 : Int32)), (.ref b2), (.ref b2), (.ref b1), (.ref b1)])
 obtain ⟨cl6, Ar6, q6, S6, M6, H6, G6⟩ := id V4
 refine Home.wr (stC X4 hx hZ e4 Ar6 (j := (1 : Int32)) (inb_of S6 ⟨by decide, by decide⟩) rfl rfl (hb hby d1_320)) fun T6 h6 X6 e6 W6 => ?_
 have W6' := Wr.to W6 (congrArg Value.int (nar_char_id bnd_u2 (by decide +kernel) (by decide +kernel)))
 have V6 : Arv Z h6 b2 k2 .char (8 : Int32) [(.int u1), (.int u2), (.int (0 : Int32)), (.int (0 : Int32)), (.int (0 : Int32)), (.int (0 : Int32)), (.int (0 : Int32)), (.int (0 : Int32))] (.int (0 : Int32)) := Arv.set Ar6 q6 S6 M6 H6 G6 (fits_char_b bnd_u2 (by decide +kernel) (by decide +kernel)) W6' 1 rfl (Nat.le_of_ble_eq_true rfl)
 have O6 := O4.wr W6 g_b2
 have K6 : Keep h0 h6 ([] : List Addr) := Keep.wr K4 W6 (Or.inr (Nat.le_trans E1.1 (Nat.le_of_eq g2.symm)))
 have N6 := Fr.snoc X6 N4 g_b2
 refine Home.run X6 hx hby sg1_321_4 (pc' := 325) (L' := #[.val (.ref o0), .val (.int (8 : Int32))]) (S' := [(.int (2 : Int32)), (.ref o0), (.int (2 : Int32)), (.ref b2), (.ref b2), (.ref b1), (.ref b1)]) rfl ?_
 obtain ⟨cl7, Ar7, q7, S7, M7, H7, G7⟩ := id (V_o0.keep K6 nin0)
 have ib7 : ¬ ((2 : Int32) < 0 ∨ cl7.slots.size ≤ ((2 : Int32)).toNatClampNeg) := inb_of S7 ⟨by decide, by decide⟩
 refine Home.go (X6.caload hx (j := (2 : Int32)) (v := (.int u3)) (by rw [e6]; exact Ar7.1) (State.isArrayOf_alike hZ.alike Ar7.2.1) Ar7.2.2 ib7 (Has.at H7 ib7 rfl) rfl rfl (hb hby d1_325)) ?_
 show Home T6 (mkF m 326 #[.val (.ref o0), .val (.int (8 : Int32))] [(.int u3), (.int (2 : Int32)), (.ref b2), (.ref b2), (.ref b1), (.ref b1)])
 obtain ⟨cl8, Ar8, q8, S8, M8, H8, G8⟩ := id V6
 refine Home.wr (stC X6 hx hZ e6 Ar8 (j := (2 : Int32)) (inb_of S8 ⟨by decide, by decide⟩) rfl rfl (hb hby d1_326)) fun T8 h8 X8 e8 W8 => ?_
 have W8' := Wr.to W8 (congrArg Value.int (nar_char_id bnd_u3 (by decide +kernel) (by decide +kernel)))
 have V8 : Arv Z h8 b2 k2 .char (8 : Int32) [(.int u1), (.int u2), (.int u3), (.int (0 : Int32)), (.int (0 : Int32)), (.int (0 : Int32)), (.int (0 : Int32)), (.int (0 : Int32))] (.int (0 : Int32)) := Arv.set Ar8 q8 S8 M8 H8 G8 (fits_char_b bnd_u3 (by decide +kernel) (by decide +kernel)) W8' 2 rfl (Nat.le_of_ble_eq_true rfl)
 have O8 := O6.wr W8 g_b2
 have K8 : Keep h0 h8 ([] : List Addr) := Keep.wr K6 W8 (Or.inr (Nat.le_trans E1.1 (Nat.le_of_eq g2.symm)))
 have N8 := Fr.snoc X8 N6 g_b2
 refine Home.run X8 hx hby sg1_327_4 (pc' := 331) (L' := #[.val (.ref o0), .val (.int (8 : Int32))]) (S' := [(.int (3 : Int32)), (.ref o0), (.int (3 : Int32)), (.ref b2), (.ref b2), (.ref b1), (.ref b1)]) rfl ?_
 obtain ⟨cl9, Ar9, q9, S9, M9, H9, G9⟩ := id (V_o0.keep K8 nin0)
 have ib9 : ¬ ((3 : Int32) < 0 ∨ cl9.slots.size ≤ ((3 : Int32)).toNatClampNeg) := inb_of S9 ⟨by decide, by decide⟩
 refine Home.go (X8.caload hx (j := (3 : Int32)) (v := (.int u4)) (by rw [e8]; exact Ar9.1) (State.isArrayOf_alike hZ.alike Ar9.2.1) Ar9.2.2 ib9 (Has.at H9 ib9 rfl) rfl rfl (hb hby d1_331)) ?_
 show Home T8 (mkF m 332 #[.val (.ref o0), .val (.int (8 : Int32))] [(.int u4), (.int (3 : Int32)), (.ref b2), (.ref b2), (.ref b1), (.ref b1)])
 obtain ⟨cl10, Ar10, q10, S10, M10, H10, G10⟩ := id V8
 refine Home.wr (stC X8 hx hZ e8 Ar10 (j := (3 : Int32)) (inb_of S10 ⟨by decide, by decide⟩) rfl rfl (hb hby d1_332)) fun T10 h10 X10 e10 W10 => ?_
 have W10' := Wr.to W10 (congrArg Value.int (nar_char_id bnd_u4 (by decide +kernel) (by decide +kernel)))
 have V10 : Arv Z h10 b2 k2 .char (8 : Int32) [(.int u1), (.int u2), (.int u3), (.int u4), (.int (0 : Int32)), (.int (0 : Int32)), (.int (0 : Int32)), (.int (0 : Int32))] (.int (0 : Int32)) := Arv.set Ar10 q10 S10 M10 H10 G10 (fits_char_b bnd_u4 (by decide +kernel) (by decide +kernel)) W10' 3 rfl (Nat.le_of_ble_eq_true rfl)
 have O10 := O8.wr W10 g_b2
 have K10 : Keep h0 h10 ([] : List Addr) := Keep.wr K8 W10 (Or.inr (Nat.le_trans E1.1 (Nat.le_of_eq g2.symm)))
 have N10 := Fr.snoc X10 N8 g_b2
 refine Home.run X10 hx hby sg1_333_4 (pc' := 337) (L' := #[.val (.ref o0), .val (.int (8 : Int32))]) (S' := [(.int (4 : Int32)), (.ref o0), (.int (4 : Int32)), (.ref b2), (.ref b2), (.ref b1), (.ref b1)]) rfl ?_
 obtain ⟨cl11, Ar11, q11, S11, M11, H11, G11⟩ := id (V_o0.keep K10 nin0)
 have ib11 : ¬ ((4 : Int32) < 0 ∨ cl11.slots.size ≤ ((4 : Int32)).toNatClampNeg) := inb_of S11 ⟨by decide, by decide⟩
 refine Home.go (X10.caload hx (j := (4 : Int32)) (v := (.int u5)) (by rw [e10]; exact Ar11.1) (State.isArrayOf_alike hZ.alike Ar11.2.1) Ar11.2.2 ib11 (Has.at H11 ib11 rfl) rfl rfl (hb hby d1_337)) ?_
 show Home T10 (mkF m 338 #[.val (.ref o0), .val (.int (8 : Int32))] [(.int u5), (.int (4 : Int32)), (.ref b2), (.ref b2), (.ref b1), (.ref b1)])
 obtain ⟨cl12, Ar12, q12, S12, M12, H12, G12⟩ := id V10
 refine Home.wr (stC X10 hx hZ e10 Ar12 (j := (4 : Int32)) (inb_of S12 ⟨by decide, by decide⟩) rfl rfl (hb hby d1_338)) fun T12 h12 X12 e12 W12 => ?_
 have W12' := Wr.to W12 (congrArg Value.int (nar_char_id bnd_u5 (by decide +kernel) (by decide +kernel)))
 have V12 : Arv Z h12 b2 k2 .char (8 : Int32) [(.int u1), (.int u2), (.int u3), (.int u4), (.int u5), (.int (0 : Int32)), (.int (0 : Int32)), (.int (0 : Int32))] (.int (0 : Int32)) := Arv.set Ar12 q12 S12 M12 H12 G12 (fits_char_b bnd_u5 (by decide +kernel) (by decide +kernel)) W12' 4 rfl (Nat.le_of_ble_eq_true rfl)
 have O12 := O10.wr W12 g_b2
 have K12 : Keep h0 h12 ([] : List Addr) := Keep.wr K10 W12 (Or.inr (Nat.le_trans E1.1 (Nat.le_of_eq g2.symm)))
 have N12 := Fr.snoc X12 N10 g_b2
 refine Home.run X12 hx hby sg1_339_4 (pc' := 343) (L' := #[.val (.ref o0), .val (.int (8 : Int32))]) (S' := [(.int (5 : Int32)), (.ref o0), (.int (5 : Int32)), (.ref b2), (.ref b2), (.ref b1), (.ref b1)]) rfl ?_
 obtain ⟨cl13, Ar13, q13, S13, M13, H13, G13⟩ := id (V_o0.keep K12 nin0)
 have ib13 : ¬ ((5 : Int32) < 0 ∨ cl13.slots.size ≤ ((5 : Int32)).toNatClampNeg) := inb_of S13 ⟨by decide, by decide⟩
 refine Home.go (X12.caload hx (j := (5 : Int32)) (v := (.int u6)) (by rw [e12]; exact Ar13.1) (State.isArrayOf_alike hZ.alike Ar13.2.1) Ar13.2.2 ib13 (Has.at H13 ib13 rfl) rfl rfl (hb hby d1_343)) ?_
 show Home T12 (mkF m 344 #[.val (.ref o0), .val (.int (8 : Int32))] [(.int u6), (.int (5 : Int32)), (.ref b2), (.ref b2), (.ref b1), (.ref b1)])
 obtain ⟨cl14, Ar14, q14, S14, M14, H14, G14⟩ := id V12
 refine Home.wr (stC X12 hx hZ e12 Ar14 (j := (5 : Int32)) (inb_of S14 ⟨by decide, by decide⟩) rfl rfl (hb hby d1_344)) fun T14 h14 X14 e14 W14 => ?_
 have W14' := Wr.to W14 (congrArg Value.int (nar_char_id bnd_u6 (by decide +kernel) (by decide +kernel)))
 have V14 : Arv Z h14 b2 k2 .char (8 : Int32) [(.int u1), (.int u2), (.int u3), (.int u4), (.int u5), (.int u6), (.int (0 : Int32)), (.int (0 : Int32))] (.int (0 : Int32)) := Arv.set Ar14 q14 S14 M14 H14 G14 (fits_char_b bnd_u6 (by decide +kernel) (by decide +kernel)) W14' 5 rfl (Nat.le_of_ble_eq_true rfl)
 have O14 := O12.wr W14 g_b2
 have K14 : Keep h0 h14 ([] : List Addr) := Keep.wr K12 W14 (Or.inr (Nat.le_trans E1.1 (Nat.le_of_eq g2.symm)))
 have N14 := Fr.snoc X14 N12 g_b2
 refine Home.run X14 hx hby sg1_345_4 (pc' := 351) (L' := #[.val (.ref o0), .val (.int (8 : Int32))]) (S' := [(.int (6 : Int32)), (.ref o0), (.int (6 : Int32)), (.ref b2), (.ref b2), (.ref b1), (.ref b1)]) rfl ?_
 obtain ⟨cl15, Ar15, q15, S15, M15, H15, G15⟩ := id (V_o0.keep K14 nin0)
 have ib15 : ¬ ((6 : Int32) < 0 ∨ cl15.slots.size ≤ ((6 : Int32)).toNatClampNeg) := inb_of S15 ⟨by decide, by decide⟩
 refine Home.go (X14.caload hx (j := (6 : Int32)) (v := (.int u7)) (by rw [e14]; exact Ar15.1) (State.isArrayOf_alike hZ.alike Ar15.2.1) Ar15.2.2 ib15 (Has.at H15 ib15 rfl) rfl rfl (hb hby d1_351)) ?_
 show Home T14 (mkF m 352 #[.val (.ref o0), .val (.int (8 : Int32))] [(.int u7), (.int (6 : Int32)), (.ref b2), (.ref b2), (.ref b1), (.ref b1)])
 obtain ⟨cl16, Ar16, q16, S16, M16, H16, G16⟩ := id V14
 refine Home.wr (stC X14 hx hZ e14 Ar16 (j := (6 : Int32)) (inb_of S16 ⟨by decide, by decide⟩) rfl rfl (hb hby d1_352)) fun T16 h16 X16 e16 W16 => ?_
 have W16' := Wr.to W16 (congrArg Value.int (nar_char_id bnd_u7 (by decide +kernel) (by decide +kernel)))
 have V16 : Arv Z h16 b2 k2 .char (8 : Int32) [(.int u1), (.int u2), (.int u3), (.int u4), (.int u5), (.int u6), (.int u7), (.int (0 : Int32))] (.int (0 : Int32)) := Arv.set Ar16 q16 S16 M16 H16 G16 (fits_char_b bnd_u7 (by decide +kernel) (by decide +kernel)) W16' 6 rfl (Nat.le_of_ble_eq_true rfl)
 have O16 := O14.wr W16 g_b2
 have K16 : Keep h0 h16 ([] : List Addr) := Keep.wr K14 W16 (Or.inr (Nat.le_trans E1.1 (Nat.le_of_eq g2.symm)))
 have N16 := Fr.snoc X16 N14 g_b2
 refine Home.run X16 hx hby sg1_353_4 (pc' := 359) (L' := #[.val (.ref o0), .val (.int (8 : Int32))]) (S' := [(.int (7 : Int32)), (.ref o0), (.int (7 : Int32)), (.ref b2), (.ref b2), (.ref b1), (.ref b1)]) rfl ?_
 obtain ⟨cl17, Ar17, q17, S17, M17, H17, G17⟩ := id (V_o0.keep K16 nin0)
 have ib17 : ¬ ((7 : Int32) < 0 ∨ cl17.slots.size ≤ ((7 : Int32)).toNatClampNeg) := inb_of S17 ⟨by decide, by decide⟩
 refine Home.go (X16.caload hx (j := (7 : Int32)) (v := (.int u8)) (by rw [e16]; exact Ar17.1) (State.isArrayOf_alike hZ.alike Ar17.2.1) Ar17.2.2 ib17 (Has.at H17 ib17 rfl) rfl rfl (hb hby d1_359)) ?_
 show Home T16 (mkF m 360 #[.val (.ref o0), .val (.int (8 : Int32))] [(.int u8), (.int (7 : Int32)), (.ref b2), (.ref b2), (.ref b1), (.ref b1)])
 obtain ⟨cl18, Ar18, q18, S18, M18, H18, G18⟩ := id V16
 refine Home.wr (stC X16 hx hZ e16 Ar18 (j := (7 : Int32)) (inb_of S18 ⟨by decide, by decide⟩) rfl rfl (hb hby d1_360)) fun T18 h18 X18 e18 W18 => ?_
 have W18' := Wr.to W18 (congrArg Value.int (nar_char_id bnd_u8 (by decide +kernel) (by decide +kernel)))
 have V18 : Arv Z h18 b2 k2 .char (8 : Int32) [(.int u1), (.int u2), (.int u3), (.int u4), (.int u5), (.int u6), (.int u7), (.int u8)] (.int (0 : Int32)) := Arv.set Ar18 q18 S18 M18 H18 G18 (fits_char_b bnd_u8 (by decide +kernel) (by decide +kernel)) W18' 7 rfl (Nat.le_of_ble_eq_true rfl)
 have O18 := O16.wr W18 g_b2
 have K18 : Keep h0 h18 ([] : List Addr) := Keep.wr K16 W18 (Or.inr (Nat.le_trans E1.1 (Nat.le_of_eq g2.symm)))
 have N18 := Fr.snoc X18 N16 g_b2
 have q19 := (((((((((A1.ext E2).wr W4).wr W6).wr W8).wr W10).wr W12).wr W14).wr W16).wr W18)
 have ne20 : b1 ≠ b2 := (Nat.ne_of_lt (Nat.lt_of_lt_of_le A1.lt (Nat.le_trans (Nat.le_refl _) (Nat.le_of_eq g2.symm))))
 have q21 := (((((((((F_coder_b1.ext E2).other W4 (Or.inl ne20)).other W6 (Or.inl ne20)).other W8 (Or.inl ne20)).other W10 (Or.inl ne20)).other W12 (Or.inl ne20)).other W14 (Or.inl ne20)).other W16 (Or.inl ne20)).other W18 (Or.inl ne20))
 have q22 := (((((((((F_value_b1.ext E2).other W4 (Or.inl ne20)).other W6 (Or.inl ne20)).other W8 (Or.inl ne20)).other W10 (Or.inl ne20)).other W12 (Or.inl ne20)).other W14 (Or.inl ne20)).other W16 (Or.inl ne20)).other W18 (Or.inl ne20))
 refine Home.call (own_special X18 hx hZ hown rfl (own_w8 hw) (own_w9 hw) (own_w7 hw) (own_w10 hw) (by decide) (rm2_7 l Z a0 hw [] b1 b2 k2 u1 u2 u3 u4 u5 u6 u7 u8 sv_COMPACT_STRINGS h18 n0 O18 V18 S_COMPACT_STRINGS q19 q21 q22 bnd_u1 bnd_u2 bnd_u3 bnd_u4 bnd_u5 bnd_u6 bnd_u7 bnd_u8 g_b1 hCS) e18 rfl (by rw [hml]; rfl) (a := b1) (argsL := [(.ref b2)]) (rest := [(.ref b1)]) (lenOf own_pd4 rfl) rfl rfl (W := 1) (by exact hW0) (by decide) (by decide) (hb hby d1_361) (by decide) (by decide)) ?_
 rintro _ T23 L23 X23 ⟨b1_3_2_23, k1_3_2_23, rfl, N23q, sz_b1_3_2_23, K23q, P23_0, P23_1, P23_2, P23_3⟩
 have g_b1_3_2_23 : n0 ≤ b1_3_2_23 := Nat.le_trans (Old.le O18) sz_b1_3_2_23
 have O23 := Old.keep O18 K23q (allS g_b1 all0)
 have K23 : Keep h0 T23.heap ([] : List Addr) := Keep.trans K18 K23q (allS (Or.inr (Nat.le_trans (Nat.le_refl _) (Nat.le_of_eq g1.symm))) all0)
 have N23 := Fr.app N18 N23q
 show Home T23 (mkF m 364 #[.val (.ref o0), .val (.int (8 : Int32))] [(.ref b1)])
 have le24 : h0.size ≤ h2.size := Nat.le_trans E1.1 E2.1
 have le25 : h0.size ≤ h4.size := Nat.le_trans le24 (Nat.le_of_eq W4.size.symm)
 have le26 : h0.size ≤ h6.size := Nat.le_trans le25 (Nat.le_of_eq W6.size.symm)
 have le27 : h0.size ≤ h8.size := Nat.le_trans le26 (Nat.le_of_eq W8.size.symm)
 have le28 : h0.size ≤ h10.size := Nat.le_trans le27 (Nat.le_of_eq W10.size.symm)
 have le29 : h0.size ≤ h12.size := Nat.le_trans le28 (Nat.le_of_eq W12.size.symm)
 have le30 : h0.size ≤ h14.size := Nat.le_trans le29 (Nat.le_of_eq W14.size.symm)
 have le31 : h0.size ≤ h16.size := Nat.le_trans le30 (Nat.le_of_eq W16.size.symm)
 have le32 : h0.size ≤ h18.size := Nat.le_trans le31 (Nat.le_of_eq W18.size.symm)
 exact Home.retR X23 hx hlk hret rfl rfl (hb hby d1_364) ⟨b1, b1_3_2_23, k1_3_2_23, rfl, N23, (Nat.le_trans (Nat.le_refl _) (Nat.le_of_eq g1.symm)), (Nat.le_trans le32 sz_b1_3_2_23), K23, P23_0, P23_1, P23_2, P23_3⟩ (by decide) (by decide)
theorem rm1_8 (l : Launch) (Z : State) (a0 : Array Value) (hw : HW a0 Z) (ws : List Jvm.Cond) (o0 : Addr) (h0 : Heap) (n0 : Nat) (O0 : Old Z n0 h0) :
    ConW l Z own_EL ([] : List Addr) true (⟨"com/example/tapline/tapline/rules/ReturnPeriodByIdPinLaw", "str", "([CI)Ljava/lang/String;"⟩ : MethodName) method_2_code 2 (some (.object "java/lang/String")) ws ({ frames := 3, cells := 6, slots := 12, locals := 43 } : Room) #[(.ref o0), (.int (0 : Int32))] h0 (fun v h L => ∃ (b1 : Addr), ∃ (b2_2_6 : Jvm.Addr), ∃ (k2_2_6 : ClassId), v = some (.ref b1) ∧ Fr n0 L ∧ h0.size ≤ b1 ∧ Keep h0 h [] ∧ Exa Z h b1 "java/lang/String" ∧ Fld Z h b1 "java/lang/String" "coder" "B" (.int (0 : Int32)) ∧ Fld Z h b1 "java/lang/String" "value" "[B" (.ref b2_2_6) ∧ Arv Z h b2_2_6 k2_2_6 .byte (0 : Int32) [] (.int (0 : Int32))) := by
 refine own_bodyW (plainFor_of_name own_pn2) (fun m => ef_rm1_8 m o0 (0 : Int32)) ?_
 intro p e s m below meth c s₁ hx hby hlk hml hret hZ hown hnm X0 e0 Cd0
 have N0 := Fr.nil n0
 refine Home.run X0 hx hby sg1_0_1 (pc' := 1) (L' := #[.val (.ref o0), .val (.int (0 : Int32))]) (S' := [(.int (0 : Int32))]) rfl ?_
 refine Home.go (fun _ => XS.ifNo X0.here hx rfl (hb hby d1_1) rfl ((if0 _ _).trans (flt (by decide)).2.2.1)) ?_
 refine Home.nw (own_newO X0 hx hZ hown (own_w5 hw) (own_w6 hw) (own_w7 hw) e0 rfl (hb hby d1_4) (by decide) (by decide)) fun T1 h1 b1 g1 X1 e1 E1 A1 D1 => ?_
 have g_b1 : n0 ≤ b1 := Nat.le_trans (Old.le O0) (Nat.le_of_eq g1.symm)
 have F_coder_b1 : Fld Z h1 b1 "java/lang/String" "coder" "B" (.int (0 : Int32)) := D1 (Or.inr (own_w31 hw)) (ty := .byte) (by decide)
 have F_value_b1 : Fld Z h1 b1 "java/lang/String" "value" "[B" .null := D1 (Or.inr (own_w33 hw)) (ty := (.array .byte)) (by decide)
 have O1 := O0.ext E1
 have K1 : Keep h0 h1 ([] : List Addr) := Keep.ext (Keep.refl h0 ([] : List Addr)) E1
 have Cd1 := Cold.add Cd0 E1 (Nat.le_of_eq g1.symm) A1.lt
 show Home T1 (mkF m 7 #[.val (.ref o0), .val (.int (0 : Int32))] [(.ref b1)])
 refine Home.run X1 hx hby sg1_7_2 (pc' := 9) (L' := #[.val (.ref o0), .val (.int (0 : Int32))]) (S' := [(.int (0 : Int32)), (.ref b1), (.ref b1)]) rfl ?_
 refine Home.na (own_newP (aty := .char) X1 hx hZ (own_w0 hw) e1 (g := (mkF m 9 #[.val (.ref o0), .val (.int (0 : Int32))] [(.int (0 : Int32)), (.ref b1), (.ref b1)])) rfl (hb hby d1_9) rfl (by decide) (cap := 0) (by decide) (by decide) (by decide) (by decide)) fun T2 h2 k2 b2 g2 X2 e2 E2 A2 => ?_
 have g_b2 : n0 ≤ b2 := Nat.le_trans (Old.le O1) (Nat.le_of_eq g2.symm)
 have V2 : Arv Z h2 b2 k2 .char (0 : Int32) [] (.int (0 : Int32)) := Arv.new A2 (by decide)
 have O2 := O1.ext E2
 have K2 : Keep h0 h2 ([] : List Addr) := Keep.ext K1 E2
 have Cd2 := Cold.ext Cd1 E2
 have q3 := (A1.ext E2)
 have q4 := (F_value_b1.ext E2)
 have q5 := (F_coder_b1.ext E2)
 refine Home.call (own_specialW X2 hx hZ hown (own_hEL hw) Cd2 (allS (List.mem_of_getElem? (i := 0) rfl) all0) rfl (own_w8 hw) (own_w9 hw) (own_w7 hw) (own_w10 hw) (by decide) (rm2_8 l Z a0 hw [] b1 b2 k2 h2 n0 O2 V2 q3 q4 q5 g_b1) e2 rfl (by rw [hml]; rfl) (a := b1) (argsL := [(.ref b2)]) (rest := [(.ref b1)]) (lenOf own_pd4 rfl) rfl rfl (W := 1) (by exact hW0) (by decide) (by decide) (hb hby d1_11) (by decide) (by decide)) ?_
 rintro _ T6 L6 X6 ⟨⟨b2_2_6, k2_2_6, rfl, N6q, K6q, P6_0, P6_1, P6_2, P6_3⟩, hZ, hown, Cd6, sR6⟩
 have O6 := Old.keep O2 K6q (allS g_b1 all0)
 have K6 : Keep h0 T6.heap ([] : List Addr) := Keep.trans K2 K6q (allS (Or.inr (Nat.le_trans (Nat.le_refl _) (Nat.le_of_eq g1.symm))) all0)
 have N6 := Fr.app N0 N6q
 show Home T6 (mkF m 14 #[.val (.ref o0), .val (.int (0 : Int32))] [(.ref b1)])
 exact HomeW.retR X6 hx hlk hZ (own_hEL hw) rfl Cd6 (fun _ _ q => by cases q; exact (List.mem_of_getElem? (i := 0) rfl)) hret rfl rfl (hb hby d1_14) ⟨b1, b2_2_6, k2_2_6, rfl, N6, (Nat.le_trans (Nat.le_refl _) (Nat.le_of_eq g1.symm)), K6, P6_0, P6_2, P6_1, P6_3⟩ (by decide) (by decide)
theorem own_sym1 (u1 u2 u3 u4 u5 u6 u7 u8 u9 u10 : Int32) : f_rm8_1 u1 u2 u3 u4 u5 u6 u7 u8 u9 u10 = f_rm8_1 u6 u7 u8 u9 u10 u1 u2 u3 u4 u5 := by
  unfold f_rm8_1 f_rm9_1
  simp only [eq_comm (a := u1) (b := u6), eq_comm (a := u2) (b := u7), eq_comm (a := u3) (b := u8), eq_comm (a := u4) (b := u9), eq_comm (a := u5) (b := u10)]
theorem own_sym2 (u1 u2 u3 u4 u5 u6 u7 u8 u9 u10 u11 u12 u13 u14 : Int32) : f_rm8_2 u1 u2 u3 u4 u5 u6 u7 u8 u9 u10 u11 u12 u13 u14 = f_rm8_2 u8 u9 u10 u11 u12 u13 u14 u1 u2 u3 u4 u5 u6 u7 := by
  unfold f_rm8_2 f_rm9_2
  simp only [eq_comm (a := u1) (b := u8), eq_comm (a := u2) (b := u9), eq_comm (a := u3) (b := u10), eq_comm (a := u4) (b := u11), eq_comm (a := u5) (b := u12), eq_comm (a := u6) (b := u13), eq_comm (a := u7) (b := u14)]
theorem own_end0 (v78 : Int32) (v79 : Int32) (v80 : Int32) (v81 : Int32) (v82 : Int32) (r182 : Int32) (hr182 : r182 = (f_rm8_1 (v78.toInt8.toInt32) (v79.toInt8.toInt32) (v80.toInt8.toInt32) (v81.toInt8.toInt32) (v82.toInt8.toInt32) (109 : Int32) (111 : Int32) (110 : Int32) (116 : Int32) (104 : Int32))) (c183 : r182 = (0 : Int32)) (c195 : ¬ ((f_rm8_1 (109 : Int32) (111 : Int32) (110 : Int32) (116 : Int32) (104 : Int32) (v78.toInt8.toInt32) (v79.toInt8.toInt32) (v80.toInt8.toInt32) (v81.toInt8.toInt32) (v82.toInt8.toInt32)) = (0 : Int32))) : nar .boolean (0 : Int32) = (1 : Int32) := by
  exact absurd (by rw [own_sym1, ← hr182]; exact c183) c195
theorem own_end1 (v78 : Int32) (v79 : Int32) (v80 : Int32) (v81 : Int32) (v82 : Int32) (r182 : Int32) (hr182 : r182 = (f_rm8_1 (v78.toInt8.toInt32) (v79.toInt8.toInt32) (v80.toInt8.toInt32) (v81.toInt8.toInt32) (v82.toInt8.toInt32) (109 : Int32) (111 : Int32) (110 : Int32) (116 : Int32) (104 : Int32))) (c183 : ¬ (r182 = (0 : Int32))) (c200 : (f_rm8_1 (109 : Int32) (111 : Int32) (110 : Int32) (116 : Int32) (104 : Int32) (v78.toInt8.toInt32) (v79.toInt8.toInt32) (v80.toInt8.toInt32) (v81.toInt8.toInt32) (v82.toInt8.toInt32)) = (0 : Int32)) : nar .boolean (0 : Int32) = (1 : Int32) := by
  exact absurd (by rw [hr182, own_sym1]; exact c200) c183
theorem own_end2 (v78 : Int32) (v79 : Int32) (v80 : Int32) (v81 : Int32) (v82 : Int32) (v83 : Int32) (v84 : Int32) (r244 : Int32) (hr244 : r244 = (f_rm8_2 (v78.toInt8.toInt32) (v79.toInt8.toInt32) (v80.toInt8.toInt32) (v81.toInt8.toInt32) (v82.toInt8.toInt32) (v83.toInt8.toInt32) (v84.toInt8.toInt32) (113 : Int32) (117 : Int32) (97 : Int32) (114 : Int32) (116 : Int32) (101 : Int32) (114 : Int32))) (c245 : r244 = (0 : Int32)) (c250 : ¬ ((f_rm8_2 (113 : Int32) (117 : Int32) (97 : Int32) (114 : Int32) (116 : Int32) (101 : Int32) (114 : Int32) (v78.toInt8.toInt32) (v79.toInt8.toInt32) (v80.toInt8.toInt32) (v81.toInt8.toInt32) (v82.toInt8.toInt32) (v83.toInt8.toInt32) (v84.toInt8.toInt32)) = (0 : Int32))) : nar .boolean (0 : Int32) = (1 : Int32) := by
  exact absurd (by rw [own_sym2, ← hr244]; exact c245) c250
theorem own_end3 (v78 : Int32) (v79 : Int32) (v80 : Int32) (v81 : Int32) (v82 : Int32) (v83 : Int32) (v84 : Int32) (r244 : Int32) (hr244 : r244 = (f_rm8_2 (v78.toInt8.toInt32) (v79.toInt8.toInt32) (v80.toInt8.toInt32) (v81.toInt8.toInt32) (v82.toInt8.toInt32) (v83.toInt8.toInt32) (v84.toInt8.toInt32) (113 : Int32) (117 : Int32) (97 : Int32) (114 : Int32) (116 : Int32) (101 : Int32) (114 : Int32))) (c245 : ¬ (r244 = (0 : Int32))) (c255 : (f_rm8_2 (113 : Int32) (117 : Int32) (97 : Int32) (114 : Int32) (116 : Int32) (101 : Int32) (114 : Int32) (v78.toInt8.toInt32) (v79.toInt8.toInt32) (v80.toInt8.toInt32) (v81.toInt8.toInt32) (v82.toInt8.toInt32) (v83.toInt8.toInt32) (v84.toInt8.toInt32)) = (0 : Int32)) : nar .boolean (0 : Int32) = (1 : Int32) := by
  exact absurd (by rw [hr244, own_sym2]; exact c255) c245
theorem rm0 (l : Launch) (Z : State) (a0 : Array Value) (hw : HW a0 Z) (ws : List Jvm.Cond) (i0 i1 i2 i3 i4 i5 sv_COMPACT_STRINGS : Int32) (sv__VALUES : Addr) (k_sv__VALUES : ClassId) (sv_MONTH sv_QUARTER sv_MONTH_id sv_MONTH_id_value : Addr) (k_sv_MONTH_id_value : ClassId) (sv_QUARTER_id sv_QUARTER_id_value : Addr) (k_sv_QUARTER_id_value : ClassId) (h0 : Heap) (n0 : Nat) (O0 : Old Z n0 h0) (S_COMPACT_STRINGS : Sta Z Z.heap "java/lang/String" "COMPACT_STRINGS" "Z" (.int sv_COMPACT_STRINGS)) (hCS : ¬ (sv_COMPACT_STRINGS = (0 : Int32))) (S__VALUES : Sta Z Z.heap "com/example/tapline/tapline/rules/ReturnPeriod" "$VALUES" "[Lcom/example/tapline/tapline/rules/ReturnPeriod;" (.ref sv__VALUES)) (V_sv__VALUES : Arv Z Z.heap sv__VALUES k_sv__VALUES (.object "com/example/tapline/tapline/rules/ReturnPeriod") (2 : Int32) [(.ref sv_MONTH), (.ref sv_QUARTER)] .null) (E_sv__VALUES : Exa Z Z.heap sv__VALUES "[Lcom/example/tapline/tapline/rules/ReturnPeriod;") (F_id_sv_MONTH : Fld Z Z.heap sv_MONTH "com/example/tapline/tapline/rules/ReturnPeriod" "id" "Ljava/lang/String;" (.ref sv_MONTH_id)) (E_sv_MONTH_id : Exa Z Z.heap sv_MONTH_id "java/lang/String") (F_coder_sv_MONTH_id : Fld Z Z.heap sv_MONTH_id "java/lang/String" "coder" "B" (.int (0 : Int32))) (F_value_sv_MONTH_id : Fld Z Z.heap sv_MONTH_id "java/lang/String" "value" "[B" (.ref sv_MONTH_id_value)) (V_sv_MONTH_id_value : Arv Z Z.heap sv_MONTH_id_value k_sv_MONTH_id_value .byte (5 : Int32) [(.int (109 : Int32)), (.int (111 : Int32)), (.int (110 : Int32)), (.int (116 : Int32)), (.int (104 : Int32))] (.int (0 : Int32))) (F_id_sv_QUARTER : Fld Z Z.heap sv_QUARTER "com/example/tapline/tapline/rules/ReturnPeriod" "id" "Ljava/lang/String;" (.ref sv_QUARTER_id)) (E_sv_QUARTER_id : Exa Z Z.heap sv_QUARTER_id "java/lang/String") (F_coder_sv_QUARTER_id : Fld Z Z.heap sv_QUARTER_id "java/lang/String" "coder" "B" (.int (0 : Int32))) (F_value_sv_QUARTER_id : Fld Z Z.heap sv_QUARTER_id "java/lang/String" "value" "[B" (.ref sv_QUARTER_id_value)) (V_sv_QUARTER_id_value : Arv Z Z.heap sv_QUARTER_id_value k_sv_QUARTER_id_value .byte (7 : Int32) [(.int (113 : Int32)), (.int (117 : Int32)), (.int (97 : Int32)), (.int (114 : Int32)), (.int (116 : Int32)), (.int (101 : Int32)), (.int (114 : Int32))] (.int (0 : Int32))) (S_MONTH : Sta Z Z.heap "com/example/tapline/tapline/rules/ReturnPeriod" "MONTH" "Lcom/example/tapline/tapline/rules/ReturnPeriod;" (.ref sv_MONTH)) (S_QUARTER : Sta Z Z.heap "com/example/tapline/tapline/rules/ReturnPeriod" "QUARTER" "Lcom/example/tapline/tapline/rules/ReturnPeriod;" (.ref sv_QUARTER)) :
    ConW l Z own_EL ([] : List Addr) false x code maxLocals ret ws room_1 #[(.int i0), (.int i1), (.int i2), (.int i3), (.int i4), (.int i5)] h0 (fun v h L => v = some (.int (1 : Int32)) ∧ Fr n0 L) := by
 refine own_bodyW (plainFor_of_name own_pn2) (fun m => ef_rm0 m i0 i1 i2 i3 i4 i5) ?_
 intro p e s m below meth c s₁ hx hby hlk hml hret hZ hown hnm X0 e0 Cd0
 have N0 := Fr.nil n0
 refine Home.run X0 hx hby sg0_0_1 (pc' := 2) (L' := #[.val (.int i0), .val (.int i1), .val (.int i2), .val (.int i3), .val (.int i4), .val (.int i5), .unset, .unset, .unset, .unset, .unset, .unset, .unset, .unset, .unset]) (S' := [(.int (8 : Int32))]) rfl ?_
 refine Home.na (own_newP (aty := .char) X0 hx hZ (own_w0 hw) e0 (g := (mkF m 2 #[.val (.int i0), .val (.int i1), .val (.int i2), .val (.int i3), .val (.int i4), .val (.int i5), .unset, .unset, .unset, .unset, .unset, .unset, .unset, .unset, .unset] [(.int (8 : Int32))])) rfl (hb hby at_2) rfl (by decide) (cap := 8) (by decide) (by decide) (by decide) (by decide)) fun T1 h1 k1 b1 g1 X1 e1 E1 A1 => ?_
 have g_b1 : n0 ≤ b1 := Nat.le_trans (Old.le O0) (Nat.le_of_eq g1.symm)
 have V1 : Arv Z h1 b1 k1 .char (8 : Int32) [(.int (0 : Int32)), (.int (0 : Int32)), (.int (0 : Int32)), (.int (0 : Int32)), (.int (0 : Int32)), (.int (0 : Int32)), (.int (0 : Int32)), (.int (0 : Int32))] (.int (0 : Int32)) := (Arv.new A1 (by decide)).pad (pad_rep [] (.int (0 : Int32)) 8)
 have O1 := O0.ext E1
 have K1 : Keep h0 h1 ([] : List Addr) := Keep.ext (Keep.refl h0 ([] : List Addr)) E1
 have Cd1 := Cold.ext Cd0 E1
 refine Home.run X1 hx hby sg0_4_7 (pc' := 15) (L' := #[.val (.int i0), .val (.int i1), .val (.int i2), .val (.int i3), .val (.int i4), .val (.int i5), .val (.ref b1), .unset, .unset, .unset, .unset, .unset, .unset, .unset, .unset]) (S' := [(.int ((i1 &&& (255 : Int32)).toUInt32.toUInt16.toUInt32.toInt32)), (.int (0 : Int32)), (.ref b1)]) rfl ?_
 rw [i2c_id (bnd_and i1 (255 : Int32) (by decide)) (by decide +kernel) (by decide +kernel)]
 obtain ⟨cl2, Ar2, q2, S2, M2, H2, G2⟩ := id V1
 refine Home.wr (stC X1 hx hZ e1 Ar2 (j := (0 : Int32)) (inb_of S2 ⟨by decide, by decide⟩) rfl rfl (hb hby at_15)) fun T2 h2 X2 e2 W2 => ?_
 have W2' := Wr.to W2 (congrArg Value.int (nar_char_id (bnd_and i1 (255 : Int32) (by decide)) (by decide +kernel) (by decide +kernel)))
 have V2 : Arv Z h2 b1 k1 .char (8 : Int32) [(.int (i1 &&& (255 : Int32))), (.int (0 : Int32)), (.int (0 : Int32)), (.int (0 : Int32)), (.int (0 : Int32)), (.int (0 : Int32)), (.int (0 : Int32)), (.int (0 : Int32))] (.int (0 : Int32)) := Arv.set Ar2 q2 S2 M2 H2 G2 (fits_char_b (bnd_and i1 (255 : Int32) (by decide)) (by decide +kernel) (by decide +kernel)) W2' 0 rfl (Nat.le_of_ble_eq_true rfl)
 have O2 := O1.wr W2 g_b1
 have K2 : Keep h0 h2 ([] : List Addr) := Keep.wr K1 W2 (Or.inr (Nat.le_trans (Nat.le_refl _) (Nat.le_of_eq g1.symm)))
 have Cd2 := Cold.wr Cd1 W2 (Safe.arv hZ.alike V1 (by simp))
 have N2 := Fr.snoc X2 N0 g_b1
 show Home T2 (mkF m 16 #[.val (.int i0), .val (.int i1), .val (.int i2), .val (.int i3), .val (.int i4), .val (.int i5), .val (.ref b1), .unset, .unset, .unset, .unset, .unset, .unset, .unset, .unset] [])
 refine Home.run X2 hx hby sg0_16_8 (pc' := 28) (L' := #[.val (.int i0), .val (.int i1), .val (.int i2), .val (.int i3), .val (.int i4), .val (.int i5), .val (.ref b1), .unset, .unset, .unset, .unset, .unset, .unset, .unset, .unset]) (S' := [(.int ((((i1.toUInt32 >>> ((8 : Int32) &&& 31).toUInt32).toInt32) &&& (255 : Int32)).toUInt32.toUInt16.toUInt32.toInt32)), (.int (1 : Int32)), (.ref b1)]) rfl ?_
 rw [i2c_id (bnd_and ((i1.toUInt32 >>> ((8 : Int32) &&& 31).toUInt32).toInt32) (255 : Int32) (by decide)) (by decide +kernel) (by decide +kernel)]
 obtain ⟨cl3, Ar3, q3, S3, M3, H3, G3⟩ := id V2
 refine Home.wr (stC X2 hx hZ e2 Ar3 (j := (1 : Int32)) (inb_of S3 ⟨by decide, by decide⟩) rfl rfl (hb hby at_28)) fun T3 h3 X3 e3 W3 => ?_
 have W3' := Wr.to W3 (congrArg Value.int (nar_char_id (bnd_and ((i1.toUInt32 >>> ((8 : Int32) &&& 31).toUInt32).toInt32) (255 : Int32) (by decide)) (by decide +kernel) (by decide +kernel)))
 have V3 : Arv Z h3 b1 k1 .char (8 : Int32) [(.int (i1 &&& (255 : Int32))), (.int (((i1.toUInt32 >>> ((8 : Int32) &&& 31).toUInt32).toInt32) &&& (255 : Int32))), (.int (0 : Int32)), (.int (0 : Int32)), (.int (0 : Int32)), (.int (0 : Int32)), (.int (0 : Int32)), (.int (0 : Int32))] (.int (0 : Int32)) := Arv.set Ar3 q3 S3 M3 H3 G3 (fits_char_b (bnd_and ((i1.toUInt32 >>> ((8 : Int32) &&& 31).toUInt32).toInt32) (255 : Int32) (by decide)) (by decide +kernel) (by decide +kernel)) W3' 1 rfl (Nat.le_of_ble_eq_true rfl)
 have O3 := O2.wr W3 g_b1
 have K3 : Keep h0 h3 ([] : List Addr) := Keep.wr K2 W3 (Or.inr (Nat.le_trans (Nat.le_refl _) (Nat.le_of_eq g1.symm)))
 have Cd3 := Cold.wr Cd2 W3 (Safe.arv hZ.alike V2 (by simp))
 have N3 := Fr.snoc X3 N2 g_b1
 show Home T3 (mkF m 29 #[.val (.int i0), .val (.int i1), .val (.int i2), .val (.int i3), .val (.int i4), .val (.int i5), .val (.ref b1), .unset, .unset, .unset, .unset, .unset, .unset, .unset, .unset] [])
 refine Home.run X3 hx hby sg0_29_6 (pc' := 38) (L' := #[.val (.int i0), .val (.int i1), .val (.int i2), .val (.int i3), .val (.int i4), .val (.int i5), .val (.ref b1), .unset, .unset, .unset, .unset, .unset, .unset, .unset, .unset]) (S' := [(.int ((i2 &&& (255 : Int32)).toUInt32.toUInt16.toUInt32.toInt32)), (.int (2 : Int32)), (.ref b1)]) rfl ?_
 rw [i2c_id (bnd_and i2 (255 : Int32) (by decide)) (by decide +kernel) (by decide +kernel)]
 obtain ⟨cl4, Ar4, q4, S4, M4, H4, G4⟩ := id V3
 refine Home.wr (stC X3 hx hZ e3 Ar4 (j := (2 : Int32)) (inb_of S4 ⟨by decide, by decide⟩) rfl rfl (hb hby at_38)) fun T4 h4 X4 e4 W4 => ?_
 have W4' := Wr.to W4 (congrArg Value.int (nar_char_id (bnd_and i2 (255 : Int32) (by decide)) (by decide +kernel) (by decide +kernel)))
 have V4 : Arv Z h4 b1 k1 .char (8 : Int32) [(.int (i1 &&& (255 : Int32))), (.int (((i1.toUInt32 >>> ((8 : Int32) &&& 31).toUInt32).toInt32) &&& (255 : Int32))), (.int (i2 &&& (255 : Int32))), (.int (0 : Int32)), (.int (0 : Int32)), (.int (0 : Int32)), (.int (0 : Int32)), (.int (0 : Int32))] (.int (0 : Int32)) := Arv.set Ar4 q4 S4 M4 H4 G4 (fits_char_b (bnd_and i2 (255 : Int32) (by decide)) (by decide +kernel) (by decide +kernel)) W4' 2 rfl (Nat.le_of_ble_eq_true rfl)
 have O4 := O3.wr W4 g_b1
 have K4 : Keep h0 h4 ([] : List Addr) := Keep.wr K3 W4 (Or.inr (Nat.le_trans (Nat.le_refl _) (Nat.le_of_eq g1.symm)))
 have Cd4 := Cold.wr Cd3 W4 (Safe.arv hZ.alike V3 (by simp))
 have N4 := Fr.snoc X4 N3 g_b1
 show Home T4 (mkF m 39 #[.val (.int i0), .val (.int i1), .val (.int i2), .val (.int i3), .val (.int i4), .val (.int i5), .val (.ref b1), .unset, .unset, .unset, .unset, .unset, .unset, .unset, .unset] [])
 refine Home.run X4 hx hby sg0_39_8 (pc' := 51) (L' := #[.val (.int i0), .val (.int i1), .val (.int i2), .val (.int i3), .val (.int i4), .val (.int i5), .val (.ref b1), .unset, .unset, .unset, .unset, .unset, .unset, .unset, .unset]) (S' := [(.int ((((i2.toUInt32 >>> ((8 : Int32) &&& 31).toUInt32).toInt32) &&& (255 : Int32)).toUInt32.toUInt16.toUInt32.toInt32)), (.int (3 : Int32)), (.ref b1)]) rfl ?_
 rw [i2c_id (bnd_and ((i2.toUInt32 >>> ((8 : Int32) &&& 31).toUInt32).toInt32) (255 : Int32) (by decide)) (by decide +kernel) (by decide +kernel)]
 obtain ⟨cl5, Ar5, q5, S5, M5, H5, G5⟩ := id V4
 refine Home.wr (stC X4 hx hZ e4 Ar5 (j := (3 : Int32)) (inb_of S5 ⟨by decide, by decide⟩) rfl rfl (hb hby at_51)) fun T5 h5 X5 e5 W5 => ?_
 have W5' := Wr.to W5 (congrArg Value.int (nar_char_id (bnd_and ((i2.toUInt32 >>> ((8 : Int32) &&& 31).toUInt32).toInt32) (255 : Int32) (by decide)) (by decide +kernel) (by decide +kernel)))
 have V5 : Arv Z h5 b1 k1 .char (8 : Int32) [(.int (i1 &&& (255 : Int32))), (.int (((i1.toUInt32 >>> ((8 : Int32) &&& 31).toUInt32).toInt32) &&& (255 : Int32))), (.int (i2 &&& (255 : Int32))), (.int (((i2.toUInt32 >>> ((8 : Int32) &&& 31).toUInt32).toInt32) &&& (255 : Int32))), (.int (0 : Int32)), (.int (0 : Int32)), (.int (0 : Int32)), (.int (0 : Int32))] (.int (0 : Int32)) := Arv.set Ar5 q5 S5 M5 H5 G5 (fits_char_b (bnd_and ((i2.toUInt32 >>> ((8 : Int32) &&& 31).toUInt32).toInt32) (255 : Int32) (by decide)) (by decide +kernel) (by decide +kernel)) W5' 3 rfl (Nat.le_of_ble_eq_true rfl)
 have O5 := O4.wr W5 g_b1
 have K5 : Keep h0 h5 ([] : List Addr) := Keep.wr K4 W5 (Or.inr (Nat.le_trans (Nat.le_refl _) (Nat.le_of_eq g1.symm)))
 have Cd5 := Cold.wr Cd4 W5 (Safe.arv hZ.alike V4 (by simp))
 have N5 := Fr.snoc X5 N4 g_b1
 show Home T5 (mkF m 52 #[.val (.int i0), .val (.int i1), .val (.int i2), .val (.int i3), .val (.int i4), .val (.int i5), .val (.ref b1), .unset, .unset, .unset, .unset, .unset, .unset, .unset, .unset] [])
 refine Home.run X5 hx hby sg0_52_6 (pc' := 61) (L' := #[.val (.int i0), .val (.int i1), .val (.int i2), .val (.int i3), .val (.int i4), .val (.int i5), .val (.ref b1), .unset, .unset, .unset, .unset, .unset, .unset, .unset, .unset]) (S' := [(.int ((i3 &&& (255 : Int32)).toUInt32.toUInt16.toUInt32.toInt32)), (.int (4 : Int32)), (.ref b1)]) rfl ?_
 rw [i2c_id (bnd_and i3 (255 : Int32) (by decide)) (by decide +kernel) (by decide +kernel)]
 obtain ⟨cl6, Ar6, q6, S6, M6, H6, G6⟩ := id V5
 refine Home.wr (stC X5 hx hZ e5 Ar6 (j := (4 : Int32)) (inb_of S6 ⟨by decide, by decide⟩) rfl rfl (hb hby at_61)) fun T6 h6 X6 e6 W6 => ?_
 have W6' := Wr.to W6 (congrArg Value.int (nar_char_id (bnd_and i3 (255 : Int32) (by decide)) (by decide +kernel) (by decide +kernel)))
 have V6 : Arv Z h6 b1 k1 .char (8 : Int32) [(.int (i1 &&& (255 : Int32))), (.int (((i1.toUInt32 >>> ((8 : Int32) &&& 31).toUInt32).toInt32) &&& (255 : Int32))), (.int (i2 &&& (255 : Int32))), (.int (((i2.toUInt32 >>> ((8 : Int32) &&& 31).toUInt32).toInt32) &&& (255 : Int32))), (.int (i3 &&& (255 : Int32))), (.int (0 : Int32)), (.int (0 : Int32)), (.int (0 : Int32))] (.int (0 : Int32)) := Arv.set Ar6 q6 S6 M6 H6 G6 (fits_char_b (bnd_and i3 (255 : Int32) (by decide)) (by decide +kernel) (by decide +kernel)) W6' 4 rfl (Nat.le_of_ble_eq_true rfl)
 have O6 := O5.wr W6 g_b1
 have K6 : Keep h0 h6 ([] : List Addr) := Keep.wr K5 W6 (Or.inr (Nat.le_trans (Nat.le_refl _) (Nat.le_of_eq g1.symm)))
 have Cd6 := Cold.wr Cd5 W6 (Safe.arv hZ.alike V5 (by simp))
 have N6 := Fr.snoc X6 N5 g_b1
 show Home T6 (mkF m 62 #[.val (.int i0), .val (.int i1), .val (.int i2), .val (.int i3), .val (.int i4), .val (.int i5), .val (.ref b1), .unset, .unset, .unset, .unset, .unset, .unset, .unset, .unset] [])
 refine Home.run X6 hx hby sg0_62_8 (pc' := 74) (L' := #[.val (.int i0), .val (.int i1), .val (.int i2), .val (.int i3), .val (.int i4), .val (.int i5), .val (.ref b1), .unset, .unset, .unset, .unset, .unset, .unset, .unset, .unset]) (S' := [(.int ((((i3.toUInt32 >>> ((8 : Int32) &&& 31).toUInt32).toInt32) &&& (255 : Int32)).toUInt32.toUInt16.toUInt32.toInt32)), (.int (5 : Int32)), (.ref b1)]) rfl ?_
 rw [i2c_id (bnd_and ((i3.toUInt32 >>> ((8 : Int32) &&& 31).toUInt32).toInt32) (255 : Int32) (by decide)) (by decide +kernel) (by decide +kernel)]
 obtain ⟨cl7, Ar7, q7, S7, M7, H7, G7⟩ := id V6
 refine Home.wr (stC X6 hx hZ e6 Ar7 (j := (5 : Int32)) (inb_of S7 ⟨by decide, by decide⟩) rfl rfl (hb hby at_74)) fun T7 h7 X7 e7 W7 => ?_
 have W7' := Wr.to W7 (congrArg Value.int (nar_char_id (bnd_and ((i3.toUInt32 >>> ((8 : Int32) &&& 31).toUInt32).toInt32) (255 : Int32) (by decide)) (by decide +kernel) (by decide +kernel)))
 have V7 : Arv Z h7 b1 k1 .char (8 : Int32) [(.int (i1 &&& (255 : Int32))), (.int (((i1.toUInt32 >>> ((8 : Int32) &&& 31).toUInt32).toInt32) &&& (255 : Int32))), (.int (i2 &&& (255 : Int32))), (.int (((i2.toUInt32 >>> ((8 : Int32) &&& 31).toUInt32).toInt32) &&& (255 : Int32))), (.int (i3 &&& (255 : Int32))), (.int (((i3.toUInt32 >>> ((8 : Int32) &&& 31).toUInt32).toInt32) &&& (255 : Int32))), (.int (0 : Int32)), (.int (0 : Int32))] (.int (0 : Int32)) := Arv.set Ar7 q7 S7 M7 H7 G7 (fits_char_b (bnd_and ((i3.toUInt32 >>> ((8 : Int32) &&& 31).toUInt32).toInt32) (255 : Int32) (by decide)) (by decide +kernel) (by decide +kernel)) W7' 5 rfl (Nat.le_of_ble_eq_true rfl)
 have O7 := O6.wr W7 g_b1
 have K7 : Keep h0 h7 ([] : List Addr) := Keep.wr K6 W7 (Or.inr (Nat.le_trans (Nat.le_refl _) (Nat.le_of_eq g1.symm)))
 have Cd7 := Cold.wr Cd6 W7 (Safe.arv hZ.alike V6 (by simp))
 have N7 := Fr.snoc X7 N6 g_b1
 show Home T7 (mkF m 75 #[.val (.int i0), .val (.int i1), .val (.int i2), .val (.int i3), .val (.int i4), .val (.int i5), .val (.ref b1), .unset, .unset, .unset, .unset, .unset, .unset, .unset, .unset] [])
 refine Home.run X7 hx hby sg0_75_6 (pc' := 86) (L' := #[.val (.int i0), .val (.int i1), .val (.int i2), .val (.int i3), .val (.int i4), .val (.int i5), .val (.ref b1), .unset, .unset, .unset, .unset, .unset, .unset, .unset, .unset]) (S' := [(.int ((i4 &&& (255 : Int32)).toUInt32.toUInt16.toUInt32.toInt32)), (.int (6 : Int32)), (.ref b1)]) rfl ?_
 rw [i2c_id (bnd_and i4 (255 : Int32) (by decide)) (by decide +kernel) (by decide +kernel)]
 obtain ⟨cl8, Ar8, q8, S8, M8, H8, G8⟩ := id V7
 refine Home.wr (stC X7 hx hZ e7 Ar8 (j := (6 : Int32)) (inb_of S8 ⟨by decide, by decide⟩) rfl rfl (hb hby at_86)) fun T8 h8 X8 e8 W8 => ?_
 have W8' := Wr.to W8 (congrArg Value.int (nar_char_id (bnd_and i4 (255 : Int32) (by decide)) (by decide +kernel) (by decide +kernel)))
 have V8 : Arv Z h8 b1 k1 .char (8 : Int32) [(.int (i1 &&& (255 : Int32))), (.int (((i1.toUInt32 >>> ((8 : Int32) &&& 31).toUInt32).toInt32) &&& (255 : Int32))), (.int (i2 &&& (255 : Int32))), (.int (((i2.toUInt32 >>> ((8 : Int32) &&& 31).toUInt32).toInt32) &&& (255 : Int32))), (.int (i3 &&& (255 : Int32))), (.int (((i3.toUInt32 >>> ((8 : Int32) &&& 31).toUInt32).toInt32) &&& (255 : Int32))), (.int (i4 &&& (255 : Int32))), (.int (0 : Int32))] (.int (0 : Int32)) := Arv.set Ar8 q8 S8 M8 H8 G8 (fits_char_b (bnd_and i4 (255 : Int32) (by decide)) (by decide +kernel) (by decide +kernel)) W8' 6 rfl (Nat.le_of_ble_eq_true rfl)
 have O8 := O7.wr W8 g_b1
 have K8 : Keep h0 h8 ([] : List Addr) := Keep.wr K7 W8 (Or.inr (Nat.le_trans (Nat.le_refl _) (Nat.le_of_eq g1.symm)))
 have Cd8 := Cold.wr Cd7 W8 (Safe.arv hZ.alike V7 (by simp))
 have N8 := Fr.snoc X8 N7 g_b1
 show Home T8 (mkF m 87 #[.val (.int i0), .val (.int i1), .val (.int i2), .val (.int i3), .val (.int i4), .val (.int i5), .val (.ref b1), .unset, .unset, .unset, .unset, .unset, .unset, .unset, .unset] [])
 refine Home.run X8 hx hby sg0_87_8 (pc' := 101) (L' := #[.val (.int i0), .val (.int i1), .val (.int i2), .val (.int i3), .val (.int i4), .val (.int i5), .val (.ref b1), .unset, .unset, .unset, .unset, .unset, .unset, .unset, .unset]) (S' := [(.int ((((i4.toUInt32 >>> ((8 : Int32) &&& 31).toUInt32).toInt32) &&& (255 : Int32)).toUInt32.toUInt16.toUInt32.toInt32)), (.int (7 : Int32)), (.ref b1)]) rfl ?_
 rw [i2c_id (bnd_and ((i4.toUInt32 >>> ((8 : Int32) &&& 31).toUInt32).toInt32) (255 : Int32) (by decide)) (by decide +kernel) (by decide +kernel)]
 obtain ⟨cl9, Ar9, q9, S9, M9, H9, G9⟩ := id V8
 refine Home.wr (stC X8 hx hZ e8 Ar9 (j := (7 : Int32)) (inb_of S9 ⟨by decide, by decide⟩) rfl rfl (hb hby at_101)) fun T9 h9 X9 e9 W9 => ?_
 have W9' := Wr.to W9 (congrArg Value.int (nar_char_id (bnd_and ((i4.toUInt32 >>> ((8 : Int32) &&& 31).toUInt32).toInt32) (255 : Int32) (by decide)) (by decide +kernel) (by decide +kernel)))
 have V9 : Arv Z h9 b1 k1 .char (8 : Int32) [(.int (i1 &&& (255 : Int32))), (.int (((i1.toUInt32 >>> ((8 : Int32) &&& 31).toUInt32).toInt32) &&& (255 : Int32))), (.int (i2 &&& (255 : Int32))), (.int (((i2.toUInt32 >>> ((8 : Int32) &&& 31).toUInt32).toInt32) &&& (255 : Int32))), (.int (i3 &&& (255 : Int32))), (.int (((i3.toUInt32 >>> ((8 : Int32) &&& 31).toUInt32).toInt32) &&& (255 : Int32))), (.int (i4 &&& (255 : Int32))), (.int (((i4.toUInt32 >>> ((8 : Int32) &&& 31).toUInt32).toInt32) &&& (255 : Int32)))] (.int (0 : Int32)) := Arv.set Ar9 q9 S9 M9 H9 G9 (fits_char_b (bnd_and ((i4.toUInt32 >>> ((8 : Int32) &&& 31).toUInt32).toInt32) (255 : Int32) (by decide)) (by decide +kernel) (by decide +kernel)) W9' 7 rfl (Nat.le_of_ble_eq_true rfl)
 have O9 := O8.wr W9 g_b1
 have K9 : Keep h0 h9 ([] : List Addr) := Keep.wr K8 W9 (Or.inr (Nat.le_trans (Nat.le_refl _) (Nat.le_of_eq g1.symm)))
 have Cd9 := Cold.wr Cd8 W9 (Safe.arv hZ.alike V8 (by simp))
 have N9 := Fr.snoc X9 N8 g_b1
 show Home T9 (mkF m 102 #[.val (.int i0), .val (.int i1), .val (.int i2), .val (.int i3), .val (.int i4), .val (.int i5), .val (.ref b1), .unset, .unset, .unset, .unset, .unset, .unset, .unset, .unset] [])
 refine Home.run X9 hx hby sg0_102_4 (pc' := 107) (L' := #[.val (.int i0), .val (.int i1), .val (.int i2), .val (.int i3), .val (.int i4), .val (.int i5), .val (.ref b1), .val (.int (i0 &&& (3 : Int32))), .unset, .unset, .unset, .unset, .unset, .unset, .unset]) (S' := []) rfl ?_
 obtain ⟨v10, hv10⟩ : ∃ z, z = (i0 &&& (3 : Int32)) := ⟨_, rfl⟩
 rw [← hv10]
 have bv10 : ¬ v10 < (0 : Int32) ∧ ¬ (3 : Int32) < v10 := by rw [hv10]; exact (bnd_and i0 (3 : Int32) (by decide))
 refine Home.run X9 hx hby sg0_107_5 (pc' := 112) (L' := #[.val (.int i0), .val (.int i1), .val (.int i2), .val (.int i3), .val (.int i4), .val (.int i5), .val (.ref b1), .val (.int v10), .unset, .unset, .unset, .unset, .unset, .unset, .unset]) (S' := [(.int (((i0.toUInt32 >>> ((2 : Int32) &&& 31).toUInt32).toInt32) &&& (1 : Int32)))]) rfl ?_
 suffices J14 : ∀ {T : State} {lc : List Loc} (X : Stand p l e room_1 (s.setVm s.vm) m #[(.int i0), (.int i1), (.int i2), (.int i3), (.int i4), (.int i5)] below meth c T lc 1 8) (N : Fr n0 lc) (eT : T.heap = h9) (v15 : Int32) (hv15 : v15 = (if (((i0.toUInt32 >>> ((2 : Int32) &&& 31).toUInt32).toInt32) &&& (1 : Int32)) = (0 : Int32) then (0 : Int32) else (1 : Int32))), @Home p e below _ T (mkF m 120 #[.val (.int i0), .val (.int i1), .val (.int i2), .val (.int i3), .val (.int i4), .val (.int i5), .val (.ref b1), .val (.int v10), .unset, .unset, .unset, .unset, .unset, .unset, .unset] [(.int v15)]) by
  by_cases c11 : (((i0.toUInt32 >>> ((2 : Int32) &&& 31).toUInt32).toInt32) &&& (1 : Int32)) = (0 : Int32)
  ·
   refine Home.go (fun _ => XS.ifYes X9.here hx rfl (pc0 := 112) (pc' := 119) rfl (hb hby at_112) rfl ((if0 _ _).trans (teq c11).1) (by decide) (by decide)) ?_
   have bd12 : ¬ (((i0.toUInt32 >>> ((2 : Int32) &&& 31).toUInt32).toInt32) &&& (1 : Int32)) < (0 : Int32) ∧ ¬ (0 : Int32) < (((i0.toUInt32 >>> ((2 : Int32) &&& 31).toUInt32).toInt32) &&& (1 : Int32)) := ⟨(bnd_eql c11), (bnd_eqr c11)⟩
   refine Home.run X9 hx hby sg0_119_1 (pc' := 120) (L' := #[.val (.int i0), .val (.int i1), .val (.int i2), .val (.int i3), .val (.int i4), .val (.int i5), .val (.ref b1), .val (.int v10), .unset, .unset, .unset, .unset, .unset, .unset, .unset]) (S' := [(.int (0 : Int32))]) rfl ?_
   exact J14 X9 N9 e9 _ (by simp only [if_pos c11])
  ·
   refine Home.go (fun _ => XS.ifNo X9.here hx rfl (hb hby at_112) rfl ((if0 _ _).trans (feq c11).1)) ?_
   have bd13 : ¬ (((i0.toUInt32 >>> ((2 : Int32) &&& 31).toUInt32).toInt32) &&& (1 : Int32)) < (1 : Int32) ∧ ¬ (1 : Int32) < (((i0.toUInt32 >>> ((2 : Int32) &&& 31).toUInt32).toInt32) &&& (1 : Int32)) := ⟨(bnd_nel (bnd_and ((i0.toUInt32 >>> ((2 : Int32) &&& 31).toUInt32).toInt32) (1 : Int32) (by decide)).1 c11 (by decide +kernel)), (bnd_and ((i0.toUInt32 >>> ((2 : Int32) &&& 31).toUInt32).toInt32) (1 : Int32) (by decide)).2⟩
   refine Home.run X9 hx hby sg0_115_2 (pc' := 120) (L' := #[.val (.int i0), .val (.int i1), .val (.int i2), .val (.int i3), .val (.int i4), .val (.int i5), .val (.ref b1), .val (.int v10), .unset, .unset, .unset, .unset, .unset, .unset, .unset]) (S' := [(.int (1 : Int32))]) rfl ?_
   exact J14 X9 N9 e9 _ (by simp only [if_neg c11])
 intro TJ14 lcJ14 XJ14 NJ14 eJ14 v15 hv15
 have bv15 : ¬ v15 < (0 : Int32) ∧ ¬ (1 : Int32) < v15 := by rw [hv15]; exact (bnd_ite (bnd_mono (bnd_lit (0 : Int32)) (by decide +kernel) (by decide +kernel)) (bnd_mono (bnd_lit (1 : Int32)) (by decide +kernel) (by decide +kernel)))
 show Home TJ14 (mkF m 120 #[.val (.int i0), .val (.int i1), .val (.int i2), .val (.int i3), .val (.int i4), .val (.int i5), .val (.ref b1), .val (.int v10), .unset, .unset, .unset, .unset, .unset, .unset, .unset] [(.int v15)])
 refine Home.run XJ14 hx hby sg0_120_6 (pc' := 127) (L' := #[.val (.int i0), .val (.int i1), .val (.int i2), .val (.int i3), .val (.int i4), .val (.int i5), .val (.ref b1), .val (.int v10), .val (.int v15), .unset, .unset, .unset, .unset, .unset, .unset]) (S' := [(.int (((i0.toUInt32 >>> ((3 : Int32) &&& 31).toUInt32).toInt32) &&& (1 : Int32)))]) rfl ?_
 suffices J19 : ∀ {T : State} {lc : List Loc} (X : Stand p l e room_1 (s.setVm s.vm) m #[(.int i0), (.int i1), (.int i2), (.int i3), (.int i4), (.int i5)] below meth c T lc 1 8) (N : Fr n0 lc) (eT : T.heap = h9) (v20 : Int32) (hv20 : v20 = (if (((i0.toUInt32 >>> ((3 : Int32) &&& 31).toUInt32).toInt32) &&& (1 : Int32)) = (0 : Int32) then (0 : Int32) else (1 : Int32))), @Home p e below _ T (mkF m 135 #[.val (.int i0), .val (.int i1), .val (.int i2), .val (.int i3), .val (.int i4), .val (.int i5), .val (.ref b1), .val (.int v10), .val (.int v15), .unset, .unset, .unset, .unset, .unset, .unset] [(.int v20)]) by
  by_cases c16 : (((i0.toUInt32 >>> ((3 : Int32) &&& 31).toUInt32).toInt32) &&& (1 : Int32)) = (0 : Int32)
  ·
   refine Home.go (fun _ => XS.ifYes XJ14.here hx rfl (pc0 := 127) (pc' := 134) rfl (hb hby at_127) rfl ((if0 _ _).trans (teq c16).1) (by decide) (by decide)) ?_
   have bd17 : ¬ (((i0.toUInt32 >>> ((3 : Int32) &&& 31).toUInt32).toInt32) &&& (1 : Int32)) < (0 : Int32) ∧ ¬ (0 : Int32) < (((i0.toUInt32 >>> ((3 : Int32) &&& 31).toUInt32).toInt32) &&& (1 : Int32)) := ⟨(bnd_eql c16), (bnd_eqr c16)⟩
   refine Home.run XJ14 hx hby sg0_134_1 (pc' := 135) (L' := #[.val (.int i0), .val (.int i1), .val (.int i2), .val (.int i3), .val (.int i4), .val (.int i5), .val (.ref b1), .val (.int v10), .val (.int v15), .unset, .unset, .unset, .unset, .unset, .unset]) (S' := [(.int (0 : Int32))]) rfl ?_
   exact J19 XJ14 NJ14 eJ14 _ (by simp only [if_pos c16])
  ·
   refine Home.go (fun _ => XS.ifNo XJ14.here hx rfl (hb hby at_127) rfl ((if0 _ _).trans (feq c16).1)) ?_
   have bd18 : ¬ (((i0.toUInt32 >>> ((3 : Int32) &&& 31).toUInt32).toInt32) &&& (1 : Int32)) < (1 : Int32) ∧ ¬ (1 : Int32) < (((i0.toUInt32 >>> ((3 : Int32) &&& 31).toUInt32).toInt32) &&& (1 : Int32)) := ⟨(bnd_nel (bnd_and ((i0.toUInt32 >>> ((3 : Int32) &&& 31).toUInt32).toInt32) (1 : Int32) (by decide)).1 c16 (by decide +kernel)), (bnd_and ((i0.toUInt32 >>> ((3 : Int32) &&& 31).toUInt32).toInt32) (1 : Int32) (by decide)).2⟩
   refine Home.run XJ14 hx hby sg0_130_2 (pc' := 135) (L' := #[.val (.int i0), .val (.int i1), .val (.int i2), .val (.int i3), .val (.int i4), .val (.int i5), .val (.ref b1), .val (.int v10), .val (.int v15), .unset, .unset, .unset, .unset, .unset, .unset]) (S' := [(.int (1 : Int32))]) rfl ?_
   exact J19 XJ14 NJ14 eJ14 _ (by simp only [if_neg c16])
 intro TJ19 lcJ19 XJ19 NJ19 eJ19 v20 hv20
 have bv20 : ¬ v20 < (0 : Int32) ∧ ¬ (1 : Int32) < v20 := by rw [hv20]; exact (bnd_ite (bnd_mono (bnd_lit (0 : Int32)) (by decide +kernel) (by decide +kernel)) (bnd_mono (bnd_lit (1 : Int32)) (by decide +kernel) (by decide +kernel)))
 show Home TJ19 (mkF m 135 #[.val (.int i0), .val (.int i1), .val (.int i2), .val (.int i3), .val (.int i4), .val (.int i5), .val (.ref b1), .val (.int v10), .val (.int v15), .unset, .unset, .unset, .unset, .unset, .unset] [(.int v20)])
 refine Home.run XJ19 hx hby sg0_135_6 (pc' := 142) (L' := #[.val (.int i0), .val (.int i1), .val (.int i2), .val (.int i3), .val (.int i4), .val (.int i5), .val (.ref b1), .val (.int v10), .val (.int v15), .val (.int v20), .unset, .unset, .unset, .unset, .unset]) (S' := [(.int (((i0.toUInt32 >>> ((4 : Int32) &&& 31).toUInt32).toInt32) &&& (1 : Int32)))]) rfl ?_
 suffices J24 : ∀ {T : State} {lc : List Loc} (X : Stand p l e room_1 (s.setVm s.vm) m #[(.int i0), (.int i1), (.int i2), (.int i3), (.int i4), (.int i5)] below meth c T lc 1 8) (N : Fr n0 lc) (eT : T.heap = h9) (v25 : Int32) (hv25 : v25 = (if (((i0.toUInt32 >>> ((4 : Int32) &&& 31).toUInt32).toInt32) &&& (1 : Int32)) = (0 : Int32) then (0 : Int32) else (1 : Int32))), @Home p e below _ T (mkF m 150 #[.val (.int i0), .val (.int i1), .val (.int i2), .val (.int i3), .val (.int i4), .val (.int i5), .val (.ref b1), .val (.int v10), .val (.int v15), .val (.int v20), .unset, .unset, .unset, .unset, .unset] [(.int v25)]) by
  by_cases c21 : (((i0.toUInt32 >>> ((4 : Int32) &&& 31).toUInt32).toInt32) &&& (1 : Int32)) = (0 : Int32)
  ·
   refine Home.go (fun _ => XS.ifYes XJ19.here hx rfl (pc0 := 142) (pc' := 149) rfl (hb hby at_142) rfl ((if0 _ _).trans (teq c21).1) (by decide) (by decide)) ?_
   have bd22 : ¬ (((i0.toUInt32 >>> ((4 : Int32) &&& 31).toUInt32).toInt32) &&& (1 : Int32)) < (0 : Int32) ∧ ¬ (0 : Int32) < (((i0.toUInt32 >>> ((4 : Int32) &&& 31).toUInt32).toInt32) &&& (1 : Int32)) := ⟨(bnd_eql c21), (bnd_eqr c21)⟩
   refine Home.run XJ19 hx hby sg0_149_1 (pc' := 150) (L' := #[.val (.int i0), .val (.int i1), .val (.int i2), .val (.int i3), .val (.int i4), .val (.int i5), .val (.ref b1), .val (.int v10), .val (.int v15), .val (.int v20), .unset, .unset, .unset, .unset, .unset]) (S' := [(.int (0 : Int32))]) rfl ?_
   exact J24 XJ19 NJ19 eJ19 _ (by simp only [if_pos c21])
  ·
   refine Home.go (fun _ => XS.ifNo XJ19.here hx rfl (hb hby at_142) rfl ((if0 _ _).trans (feq c21).1)) ?_
   have bd23 : ¬ (((i0.toUInt32 >>> ((4 : Int32) &&& 31).toUInt32).toInt32) &&& (1 : Int32)) < (1 : Int32) ∧ ¬ (1 : Int32) < (((i0.toUInt32 >>> ((4 : Int32) &&& 31).toUInt32).toInt32) &&& (1 : Int32)) := ⟨(bnd_nel (bnd_and ((i0.toUInt32 >>> ((4 : Int32) &&& 31).toUInt32).toInt32) (1 : Int32) (by decide)).1 c21 (by decide +kernel)), (bnd_and ((i0.toUInt32 >>> ((4 : Int32) &&& 31).toUInt32).toInt32) (1 : Int32) (by decide)).2⟩
   refine Home.run XJ19 hx hby sg0_145_2 (pc' := 150) (L' := #[.val (.int i0), .val (.int i1), .val (.int i2), .val (.int i3), .val (.int i4), .val (.int i5), .val (.ref b1), .val (.int v10), .val (.int v15), .val (.int v20), .unset, .unset, .unset, .unset, .unset]) (S' := [(.int (1 : Int32))]) rfl ?_
   exact J24 XJ19 NJ19 eJ19 _ (by simp only [if_neg c21])
 intro TJ24 lcJ24 XJ24 NJ24 eJ24 v25 hv25
 have bv25 : ¬ v25 < (0 : Int32) ∧ ¬ (1 : Int32) < v25 := by rw [hv25]; exact (bnd_ite (bnd_mono (bnd_lit (0 : Int32)) (by decide +kernel) (by decide +kernel)) (bnd_mono (bnd_lit (1 : Int32)) (by decide +kernel) (by decide +kernel)))
 show Home TJ24 (mkF m 150 #[.val (.int i0), .val (.int i1), .val (.int i2), .val (.int i3), .val (.int i4), .val (.int i5), .val (.ref b1), .val (.int v10), .val (.int v15), .val (.int v20), .unset, .unset, .unset, .unset, .unset] [(.int v25)])
 refine Home.run XJ24 hx hby sg0_150_2 (pc' := 154) (L' := #[.val (.int i0), .val (.int i1), .val (.int i2), .val (.int i3), .val (.int i4), .val (.int i5), .val (.ref b1), .val (.int v10), .val (.int v15), .val (.int v20), .val (.int v25), .unset, .unset, .unset, .unset]) (S' := [(.int v10)]) rfl ?_
 suffices J44 : ∀ {T : State} {lc : List Loc} {hJ : Heap} (X : Stand p l e room_1 (s.setVm s.vm) m #[(.int i0), (.int i1), (.int i2), (.int i3), (.int i4), (.int i5)] below meth c T lc 1 8) (N : Fr n0 lc) (eT : T.heap = hJ) (Kq : Keep h9 hJ ([b1] : List Addr)) (v45 : Int32) (hv45 : v45 = (if v10 = (0 : Int32) then (5 : Int32) else (if v10 = (1 : Int32) then (7 : Int32) else (((i0.toUInt32 >>> ((5 : Int32) &&& 31).toUInt32).toInt32) % (9 : Int32))))) (v46 : Int32) (hv46 : v46 = (if v10 = (0 : Int32) then (109 : Int32) else (if v10 = (1 : Int32) then (113 : Int32) else (i1 &&& (255 : Int32))))) (v47 : Int32) (hv47 : v47 = (if v10 = (0 : Int32) then (111 : Int32) else (if v10 = (1 : Int32) then (117 : Int32) else (((i1.toUInt32 >>> ((8 : Int32) &&& 31).toUInt32).toInt32) &&& (255 : Int32))))) (v48 : Int32) (hv48 : v48 = (if v10 = (0 : Int32) then (110 : Int32) else (if v10 = (1 : Int32) then (97 : Int32) else (i2 &&& (255 : Int32))))) (v49 : Int32) (hv49 : v49 = (if v10 = (0 : Int32) then (116 : Int32) else (if v10 = (1 : Int32) then (114 : Int32) else (((i2.toUInt32 >>> ((8 : Int32) &&& 31).toUInt32).toInt32) &&& (255 : Int32))))) (v50 : Int32) (hv50 : v50 = (if v10 = (0 : Int32) then (104 : Int32) else (if v10 = (1 : Int32) then (116 : Int32) else (i3 &&& (255 : Int32))))) (v51 : Int32) (hv51 : v51 = (if v10 = (0 : Int32) then (((i3.toUInt32 >>> ((8 : Int32) &&& 31).toUInt32).toInt32) &&& (255 : Int32)) else (if v10 = (1 : Int32) then (101 : Int32) else (((i3.toUInt32 >>> ((8 : Int32) &&& 31).toUInt32).toInt32) &&& (255 : Int32))))) (v52 : Int32) (hv52 : v52 = (if v10 = (0 : Int32) then (i4 &&& (255 : Int32)) else (if v10 = (1 : Int32) then (114 : Int32) else (i4 &&& (255 : Int32))))) (HJ44_0 : Arv Z hJ b1 k1 .char (8 : Int32) [(.int v46), (.int v47), (.int v48), (.int v49), (.int v50), (.int v51), (.int v52), (.int (((i4.toUInt32 >>> ((8 : Int32) &&& 31).toUInt32).toInt32) &&& (255 : Int32)))] (.int (0 : Int32))), @Home p e below _ T (mkF m 257 #[.val (.int i0), .val (.int i1), .val (.int i2), .val (.int i3), .val (.int i4), .val (.int i5), .val (.ref b1), .val (.int v10), .val (.int v15), .val (.int v20), .val (.int v25), .val (.int v45), .unset, .unset, .unset] []) by
  by_cases c26 : v10 = (0 : Int32)
  ·
   refine Home.go (fun _ => XS.ifNo XJ24.here hx rfl (hb hby at_154) rfl ((if0 _ _).trans (teq c26).2)) ?_
   have bd27 : ¬ v10 < (0 : Int32) ∧ ¬ (0 : Int32) < v10 := ⟨(bnd_eql c26), (bnd_eqr c26)⟩
   refine Home.run XJ24 hx hby sg0_157_3 (pc' := 162) (L' := #[.val (.int i0), .val (.int i1), .val (.int i2), .val (.int i3), .val (.int i4), .val (.int i5), .val (.ref b1), .val (.int v10), .val (.int v15), .val (.int v20), .val (.int v25), .unset, .unset, .unset, .unset]) (S' := [(.int (109 : Int32)), (.int (0 : Int32)), (.ref b1)]) rfl ?_
   obtain ⟨cl29, Ar29, q29, S29, M29, H29, G29⟩ := id V9
   refine Home.wr (stC XJ24 hx hZ eJ24 Ar29 (j := (0 : Int32)) (inb_of S29 ⟨by decide, by decide⟩) rfl rfl (hb hby at_162)) fun T29 h29 X29 e29 W29 => ?_
   have W29' := Wr.to W29 (congrArg Value.int (nar_char_id (bnd_lit (109 : Int32)) (by decide +kernel) (by decide +kernel)))
   have V29 : Arv Z h29 b1 k1 .char (8 : Int32) [(.int (109 : Int32)), (.int (((i1.toUInt32 >>> ((8 : Int32) &&& 31).toUInt32).toInt32) &&& (255 : Int32))), (.int (i2 &&& (255 : Int32))), (.int (((i2.toUInt32 >>> ((8 : Int32) &&& 31).toUInt32).toInt32) &&& (255 : Int32))), (.int (i3 &&& (255 : Int32))), (.int (((i3.toUInt32 >>> ((8 : Int32) &&& 31).toUInt32).toInt32) &&& (255 : Int32))), (.int (i4 &&& (255 : Int32))), (.int (((i4.toUInt32 >>> ((8 : Int32) &&& 31).toUInt32).toInt32) &&& (255 : Int32)))] (.int (0 : Int32)) := Arv.set Ar29 q29 S29 M29 H29 G29 (fits_char_b (bnd_lit (109 : Int32)) (by decide +kernel) (by decide +kernel)) W29' 0 rfl (Nat.le_of_ble_eq_true rfl)
   have O29 := O9.wr W29 g_b1
   have K29 : Keep h0 h29 ([] : List Addr) := Keep.wr K9 W29 (Or.inr (Nat.le_trans (Nat.le_refl _) (Nat.le_of_eq g1.symm)))
   have Cd29 := Cold.wr Cd9 W29 (Safe.arv hZ.alike V9 (by simp))
   have N29 := Fr.snoc X29 NJ24 g_b1
   show Home T29 (mkF m 163 #[.val (.int i0), .val (.int i1), .val (.int i2), .val (.int i3), .val (.int i4), .val (.int i5), .val (.ref b1), .val (.int v10), .val (.int v15), .val (.int v20), .val (.int v25), .unset, .unset, .unset, .unset] [])
   refine Home.run X29 hx hby sg0_163_3 (pc' := 168) (L' := #[.val (.int i0), .val (.int i1), .val (.int i2), .val (.int i3), .val (.int i4), .val (.int i5), .val (.ref b1), .val (.int v10), .val (.int v15), .val (.int v20), .val (.int v25), .unset, .unset, .unset, .unset]) (S' := [(.int (111 : Int32)), (.int (1 : Int32)), (.ref b1)]) rfl ?_
   obtain ⟨cl30, Ar30, q30, S30, M30, H30, G30⟩ := id V29
   refine Home.wr (stC X29 hx hZ e29 Ar30 (j := (1 : Int32)) (inb_of S30 ⟨by decide, by decide⟩) rfl rfl (hb hby at_168)) fun T30 h30 X30 e30 W30 => ?_
   have W30' := Wr.to W30 (congrArg Value.int (nar_char_id (bnd_lit (111 : Int32)) (by decide +kernel) (by decide +kernel)))
   have V30 : Arv Z h30 b1 k1 .char (8 : Int32) [(.int (109 : Int32)), (.int (111 : Int32)), (.int (i2 &&& (255 : Int32))), (.int (((i2.toUInt32 >>> ((8 : Int32) &&& 31).toUInt32).toInt32) &&& (255 : Int32))), (.int (i3 &&& (255 : Int32))), (.int (((i3.toUInt32 >>> ((8 : Int32) &&& 31).toUInt32).toInt32) &&& (255 : Int32))), (.int (i4 &&& (255 : Int32))), (.int (((i4.toUInt32 >>> ((8 : Int32) &&& 31).toUInt32).toInt32) &&& (255 : Int32)))] (.int (0 : Int32)) := Arv.set Ar30 q30 S30 M30 H30 G30 (fits_char_b (bnd_lit (111 : Int32)) (by decide +kernel) (by decide +kernel)) W30' 1 rfl (Nat.le_of_ble_eq_true rfl)
   have O30 := O29.wr W30 g_b1
   have K30 : Keep h0 h30 ([] : List Addr) := Keep.wr K29 W30 (Or.inr (Nat.le_trans (Nat.le_refl _) (Nat.le_of_eq g1.symm)))
   have Cd30 := Cold.wr Cd29 W30 (Safe.arv hZ.alike V29 (by simp))
   have N30 := Fr.snoc X30 N29 g_b1
   show Home T30 (mkF m 169 #[.val (.int i0), .val (.int i1), .val (.int i2), .val (.int i3), .val (.int i4), .val (.int i5), .val (.ref b1), .val (.int v10), .val (.int v15), .val (.int v20), .val (.int v25), .unset, .unset, .unset, .unset] [])
   refine Home.run X30 hx hby sg0_169_3 (pc' := 174) (L' := #[.val (.int i0), .val (.int i1), .val (.int i2), .val (.int i3), .val (.int i4), .val (.int i5), .val (.ref b1), .val (.int v10), .val (.int v15), .val (.int v20), .val (.int v25), .unset, .unset, .unset, .unset]) (S' := [(.int (110 : Int32)), (.int (2 : Int32)), (.ref b1)]) rfl ?_
   obtain ⟨cl31, Ar31, q31, S31, M31, H31, G31⟩ := id V30
   refine Home.wr (stC X30 hx hZ e30 Ar31 (j := (2 : Int32)) (inb_of S31 ⟨by decide, by decide⟩) rfl rfl (hb hby at_174)) fun T31 h31 X31 e31 W31 => ?_
   have W31' := Wr.to W31 (congrArg Value.int (nar_char_id (bnd_lit (110 : Int32)) (by decide +kernel) (by decide +kernel)))
   have V31 : Arv Z h31 b1 k1 .char (8 : Int32) [(.int (109 : Int32)), (.int (111 : Int32)), (.int (110 : Int32)), (.int (((i2.toUInt32 >>> ((8 : Int32) &&& 31).toUInt32).toInt32) &&& (255 : Int32))), (.int (i3 &&& (255 : Int32))), (.int (((i3.toUInt32 >>> ((8 : Int32) &&& 31).toUInt32).toInt32) &&& (255 : Int32))), (.int (i4 &&& (255 : Int32))), (.int (((i4.toUInt32 >>> ((8 : Int32) &&& 31).toUInt32).toInt32) &&& (255 : Int32)))] (.int (0 : Int32)) := Arv.set Ar31 q31 S31 M31 H31 G31 (fits_char_b (bnd_lit (110 : Int32)) (by decide +kernel) (by decide +kernel)) W31' 2 rfl (Nat.le_of_ble_eq_true rfl)
   have O31 := O30.wr W31 g_b1
   have K31 : Keep h0 h31 ([] : List Addr) := Keep.wr K30 W31 (Or.inr (Nat.le_trans (Nat.le_refl _) (Nat.le_of_eq g1.symm)))
   have Cd31 := Cold.wr Cd30 W31 (Safe.arv hZ.alike V30 (by simp))
   have N31 := Fr.snoc X31 N30 g_b1
   show Home T31 (mkF m 175 #[.val (.int i0), .val (.int i1), .val (.int i2), .val (.int i3), .val (.int i4), .val (.int i5), .val (.ref b1), .val (.int v10), .val (.int v15), .val (.int v20), .val (.int v25), .unset, .unset, .unset, .unset] [])
   refine Home.run X31 hx hby sg0_175_3 (pc' := 180) (L' := #[.val (.int i0), .val (.int i1), .val (.int i2), .val (.int i3), .val (.int i4), .val (.int i5), .val (.ref b1), .val (.int v10), .val (.int v15), .val (.int v20), .val (.int v25), .unset, .unset, .unset, .unset]) (S' := [(.int (116 : Int32)), (.int (3 : Int32)), (.ref b1)]) rfl ?_
   obtain ⟨cl32, Ar32, q32, S32, M32, H32, G32⟩ := id V31
   refine Home.wr (stC X31 hx hZ e31 Ar32 (j := (3 : Int32)) (inb_of S32 ⟨by decide, by decide⟩) rfl rfl (hb hby at_180)) fun T32 h32 X32 e32 W32 => ?_
   have W32' := Wr.to W32 (congrArg Value.int (nar_char_id (bnd_lit (116 : Int32)) (by decide +kernel) (by decide +kernel)))
   have V32 : Arv Z h32 b1 k1 .char (8 : Int32) [(.int (109 : Int32)), (.int (111 : Int32)), (.int (110 : Int32)), (.int (116 : Int32)), (.int (i3 &&& (255 : Int32))), (.int (((i3.toUInt32 >>> ((8 : Int32) &&& 31).toUInt32).toInt32) &&& (255 : Int32))), (.int (i4 &&& (255 : Int32))), (.int (((i4.toUInt32 >>> ((8 : Int32) &&& 31).toUInt32).toInt32) &&& (255 : Int32)))] (.int (0 : Int32)) := Arv.set Ar32 q32 S32 M32 H32 G32 (fits_char_b (bnd_lit (116 : Int32)) (by decide +kernel) (by decide +kernel)) W32' 3 rfl (Nat.le_of_ble_eq_true rfl)
   have O32 := O31.wr W32 g_b1
   have K32 : Keep h0 h32 ([] : List Addr) := Keep.wr K31 W32 (Or.inr (Nat.le_trans (Nat.le_refl _) (Nat.le_of_eq g1.symm)))
   have Cd32 := Cold.wr Cd31 W32 (Safe.arv hZ.alike V31 (by simp))
   have N32 := Fr.snoc X32 N31 g_b1
   show Home T32 (mkF m 181 #[.val (.int i0), .val (.int i1), .val (.int i2), .val (.int i3), .val (.int i4), .val (.int i5), .val (.ref b1), .val (.int v10), .val (.int v15), .val (.int v20), .val (.int v25), .unset, .unset, .unset, .unset] [])
   refine Home.run X32 hx hby sg0_181_3 (pc' := 186) (L' := #[.val (.int i0), .val (.int i1), .val (.int i2), .val (.int i3), .val (.int i4), .val (.int i5), .val (.ref b1), .val (.int v10), .val (.int v15), .val (.int v20), .val (.int v25), .unset, .unset, .unset, .unset]) (S' := [(.int (104 : Int32)), (.int (4 : Int32)), (.ref b1)]) rfl ?_
   obtain ⟨cl33, Ar33, q33, S33, M33, H33, G33⟩ := id V32
   refine Home.wr (stC X32 hx hZ e32 Ar33 (j := (4 : Int32)) (inb_of S33 ⟨by decide, by decide⟩) rfl rfl (hb hby at_186)) fun T33 h33 X33 e33 W33 => ?_
   have W33' := Wr.to W33 (congrArg Value.int (nar_char_id (bnd_lit (104 : Int32)) (by decide +kernel) (by decide +kernel)))
   have V33 : Arv Z h33 b1 k1 .char (8 : Int32) [(.int (109 : Int32)), (.int (111 : Int32)), (.int (110 : Int32)), (.int (116 : Int32)), (.int (104 : Int32)), (.int (((i3.toUInt32 >>> ((8 : Int32) &&& 31).toUInt32).toInt32) &&& (255 : Int32))), (.int (i4 &&& (255 : Int32))), (.int (((i4.toUInt32 >>> ((8 : Int32) &&& 31).toUInt32).toInt32) &&& (255 : Int32)))] (.int (0 : Int32)) := Arv.set Ar33 q33 S33 M33 H33 G33 (fits_char_b (bnd_lit (104 : Int32)) (by decide +kernel) (by decide +kernel)) W33' 4 rfl (Nat.le_of_ble_eq_true rfl)
   have O33 := O32.wr W33 g_b1
   have K33 : Keep h0 h33 ([] : List Addr) := Keep.wr K32 W33 (Or.inr (Nat.le_trans (Nat.le_refl _) (Nat.le_of_eq g1.symm)))
   have Cd33 := Cold.wr Cd32 W33 (Safe.arv hZ.alike V32 (by simp))
   have N33 := Fr.snoc X33 N32 g_b1
   show Home T33 (mkF m 187 #[.val (.int i0), .val (.int i1), .val (.int i2), .val (.int i3), .val (.int i4), .val (.int i5), .val (.ref b1), .val (.int v10), .val (.int v15), .val (.int v20), .val (.int v25), .unset, .unset, .unset, .unset] [])
   refine Home.run X33 hx hby sg0_187_3 (pc' := 257) (L' := #[.val (.int i0), .val (.int i1), .val (.int i2), .val (.int i3), .val (.int i4), .val (.int i5), .val (.ref b1), .val (.int v10), .val (.int v15), .val (.int v20), .val (.int v25), .val (.int (5 : Int32)), .unset, .unset, .unset]) (S' := []) rfl ?_
   exact J44 X33 N33 e33 (Keep.wr (Keep.wr (Keep.wr (Keep.wr (Keep.wr (Keep.refl h9 ([b1] : List Addr)) W29 (Or.inl (List.mem_of_getElem? (i := 0) rfl))) W30 (Or.inl (List.mem_of_getElem? (i := 0) rfl))) W31 (Or.inl (List.mem_of_getElem? (i := 0) rfl))) W32 (Or.inl (List.mem_of_getElem? (i := 0) rfl))) W33 (Or.inl (List.mem_of_getElem? (i := 0) rfl))) _ (by simp only [if_pos c26]) (109 : Int32) (by simp only [if_pos c26]) (111 : Int32) (by simp only [if_pos c26]) (110 : Int32) (by simp only [if_pos c26]) (116 : Int32) (by simp only [if_pos c26]) (104 : Int32) (by simp only [if_pos c26]) (((i3.toUInt32 >>> ((8 : Int32) &&& 31).toUInt32).toInt32) &&& (255 : Int32)) (by simp only [if_pos c26]) (i4 &&& (255 : Int32)) (by simp only [if_pos c26]) V33
  ·
   refine Home.go (fun _ => XS.ifYes XJ24.here hx rfl (pc0 := 154) (pc' := 193) rfl (hb hby at_154) rfl ((if0 _ _).trans (feq c26).2) (by decide) (by decide)) ?_
   have bd28 : ¬ v10 < (1 : Int32) ∧ ¬ (3 : Int32) < v10 := ⟨(bnd_nel bv10.1 c26 (by decide +kernel)), bv10.2⟩
   refine Home.run XJ24 hx hby sg0_193_2 (pc' := 196) (L' := #[.val (.int i0), .val (.int i1), .val (.int i2), .val (.int i3), .val (.int i4), .val (.int i5), .val (.ref b1), .val (.int v10), .val (.int v15), .val (.int v20), .val (.int v25), .unset, .unset, .unset, .unset]) (S' := [(.int (1 : Int32)), (.int v10)]) rfl ?_
   by_cases c34 : v10 = (1 : Int32)
   ·
    refine Home.go (fun _ => XS.icmpNo XJ24.here hx rfl (hb hby at_196) rfl (teq c34).2) ?_
    have bd35 : ¬ v10 < (1 : Int32) ∧ ¬ (1 : Int32) < v10 := ⟨(bnd_eql c34), (bnd_eqr c34)⟩
    refine Home.run XJ24 hx hby sg0_199_3 (pc' := 204) (L' := #[.val (.int i0), .val (.int i1), .val (.int i2), .val (.int i3), .val (.int i4), .val (.int i5), .val (.ref b1), .val (.int v10), .val (.int v15), .val (.int v20), .val (.int v25), .unset, .unset, .unset, .unset]) (S' := [(.int (113 : Int32)), (.int (0 : Int32)), (.ref b1)]) rfl ?_
    obtain ⟨cl37, Ar37, q37, S37, M37, H37, G37⟩ := id V9
    refine Home.wr (stC XJ24 hx hZ eJ24 Ar37 (j := (0 : Int32)) (inb_of S37 ⟨by decide, by decide⟩) rfl rfl (hb hby at_204)) fun T37 h37 X37 e37 W37 => ?_
    have W37' := Wr.to W37 (congrArg Value.int (nar_char_id (bnd_lit (113 : Int32)) (by decide +kernel) (by decide +kernel)))
    have V37 : Arv Z h37 b1 k1 .char (8 : Int32) [(.int (113 : Int32)), (.int (((i1.toUInt32 >>> ((8 : Int32) &&& 31).toUInt32).toInt32) &&& (255 : Int32))), (.int (i2 &&& (255 : Int32))), (.int (((i2.toUInt32 >>> ((8 : Int32) &&& 31).toUInt32).toInt32) &&& (255 : Int32))), (.int (i3 &&& (255 : Int32))), (.int (((i3.toUInt32 >>> ((8 : Int32) &&& 31).toUInt32).toInt32) &&& (255 : Int32))), (.int (i4 &&& (255 : Int32))), (.int (((i4.toUInt32 >>> ((8 : Int32) &&& 31).toUInt32).toInt32) &&& (255 : Int32)))] (.int (0 : Int32)) := Arv.set Ar37 q37 S37 M37 H37 G37 (fits_char_b (bnd_lit (113 : Int32)) (by decide +kernel) (by decide +kernel)) W37' 0 rfl (Nat.le_of_ble_eq_true rfl)
    have O37 := O9.wr W37 g_b1
    have K37 : Keep h0 h37 ([] : List Addr) := Keep.wr K9 W37 (Or.inr (Nat.le_trans (Nat.le_refl _) (Nat.le_of_eq g1.symm)))
    have Cd37 := Cold.wr Cd9 W37 (Safe.arv hZ.alike V9 (by simp))
    have N37 := Fr.snoc X37 NJ24 g_b1
    show Home T37 (mkF m 205 #[.val (.int i0), .val (.int i1), .val (.int i2), .val (.int i3), .val (.int i4), .val (.int i5), .val (.ref b1), .val (.int v10), .val (.int v15), .val (.int v20), .val (.int v25), .unset, .unset, .unset, .unset] [])
    refine Home.run X37 hx hby sg0_205_3 (pc' := 210) (L' := #[.val (.int i0), .val (.int i1), .val (.int i2), .val (.int i3), .val (.int i4), .val (.int i5), .val (.ref b1), .val (.int v10), .val (.int v15), .val (.int v20), .val (.int v25), .unset, .unset, .unset, .unset]) (S' := [(.int (117 : Int32)), (.int (1 : Int32)), (.ref b1)]) rfl ?_
    obtain ⟨cl38, Ar38, q38, S38, M38, H38, G38⟩ := id V37
    refine Home.wr (stC X37 hx hZ e37 Ar38 (j := (1 : Int32)) (inb_of S38 ⟨by decide, by decide⟩) rfl rfl (hb hby at_210)) fun T38 h38 X38 e38 W38 => ?_
    have W38' := Wr.to W38 (congrArg Value.int (nar_char_id (bnd_lit (117 : Int32)) (by decide +kernel) (by decide +kernel)))
    have V38 : Arv Z h38 b1 k1 .char (8 : Int32) [(.int (113 : Int32)), (.int (117 : Int32)), (.int (i2 &&& (255 : Int32))), (.int (((i2.toUInt32 >>> ((8 : Int32) &&& 31).toUInt32).toInt32) &&& (255 : Int32))), (.int (i3 &&& (255 : Int32))), (.int (((i3.toUInt32 >>> ((8 : Int32) &&& 31).toUInt32).toInt32) &&& (255 : Int32))), (.int (i4 &&& (255 : Int32))), (.int (((i4.toUInt32 >>> ((8 : Int32) &&& 31).toUInt32).toInt32) &&& (255 : Int32)))] (.int (0 : Int32)) := Arv.set Ar38 q38 S38 M38 H38 G38 (fits_char_b (bnd_lit (117 : Int32)) (by decide +kernel) (by decide +kernel)) W38' 1 rfl (Nat.le_of_ble_eq_true rfl)
    have O38 := O37.wr W38 g_b1
    have K38 : Keep h0 h38 ([] : List Addr) := Keep.wr K37 W38 (Or.inr (Nat.le_trans (Nat.le_refl _) (Nat.le_of_eq g1.symm)))
    have Cd38 := Cold.wr Cd37 W38 (Safe.arv hZ.alike V37 (by simp))
    have N38 := Fr.snoc X38 N37 g_b1
    show Home T38 (mkF m 211 #[.val (.int i0), .val (.int i1), .val (.int i2), .val (.int i3), .val (.int i4), .val (.int i5), .val (.ref b1), .val (.int v10), .val (.int v15), .val (.int v20), .val (.int v25), .unset, .unset, .unset, .unset] [])
    refine Home.run X38 hx hby sg0_211_3 (pc' := 216) (L' := #[.val (.int i0), .val (.int i1), .val (.int i2), .val (.int i3), .val (.int i4), .val (.int i5), .val (.ref b1), .val (.int v10), .val (.int v15), .val (.int v20), .val (.int v25), .unset, .unset, .unset, .unset]) (S' := [(.int (97 : Int32)), (.int (2 : Int32)), (.ref b1)]) rfl ?_
    obtain ⟨cl39, Ar39, q39, S39, M39, H39, G39⟩ := id V38
    refine Home.wr (stC X38 hx hZ e38 Ar39 (j := (2 : Int32)) (inb_of S39 ⟨by decide, by decide⟩) rfl rfl (hb hby at_216)) fun T39 h39 X39 e39 W39 => ?_
    have W39' := Wr.to W39 (congrArg Value.int (nar_char_id (bnd_lit (97 : Int32)) (by decide +kernel) (by decide +kernel)))
    have V39 : Arv Z h39 b1 k1 .char (8 : Int32) [(.int (113 : Int32)), (.int (117 : Int32)), (.int (97 : Int32)), (.int (((i2.toUInt32 >>> ((8 : Int32) &&& 31).toUInt32).toInt32) &&& (255 : Int32))), (.int (i3 &&& (255 : Int32))), (.int (((i3.toUInt32 >>> ((8 : Int32) &&& 31).toUInt32).toInt32) &&& (255 : Int32))), (.int (i4 &&& (255 : Int32))), (.int (((i4.toUInt32 >>> ((8 : Int32) &&& 31).toUInt32).toInt32) &&& (255 : Int32)))] (.int (0 : Int32)) := Arv.set Ar39 q39 S39 M39 H39 G39 (fits_char_b (bnd_lit (97 : Int32)) (by decide +kernel) (by decide +kernel)) W39' 2 rfl (Nat.le_of_ble_eq_true rfl)
    have O39 := O38.wr W39 g_b1
    have K39 : Keep h0 h39 ([] : List Addr) := Keep.wr K38 W39 (Or.inr (Nat.le_trans (Nat.le_refl _) (Nat.le_of_eq g1.symm)))
    have Cd39 := Cold.wr Cd38 W39 (Safe.arv hZ.alike V38 (by simp))
    have N39 := Fr.snoc X39 N38 g_b1
    show Home T39 (mkF m 217 #[.val (.int i0), .val (.int i1), .val (.int i2), .val (.int i3), .val (.int i4), .val (.int i5), .val (.ref b1), .val (.int v10), .val (.int v15), .val (.int v20), .val (.int v25), .unset, .unset, .unset, .unset] [])
    refine Home.run X39 hx hby sg0_217_3 (pc' := 222) (L' := #[.val (.int i0), .val (.int i1), .val (.int i2), .val (.int i3), .val (.int i4), .val (.int i5), .val (.ref b1), .val (.int v10), .val (.int v15), .val (.int v20), .val (.int v25), .unset, .unset, .unset, .unset]) (S' := [(.int (114 : Int32)), (.int (3 : Int32)), (.ref b1)]) rfl ?_
    obtain ⟨cl40, Ar40, q40, S40, M40, H40, G40⟩ := id V39
    refine Home.wr (stC X39 hx hZ e39 Ar40 (j := (3 : Int32)) (inb_of S40 ⟨by decide, by decide⟩) rfl rfl (hb hby at_222)) fun T40 h40 X40 e40 W40 => ?_
    have W40' := Wr.to W40 (congrArg Value.int (nar_char_id (bnd_lit (114 : Int32)) (by decide +kernel) (by decide +kernel)))
    have V40 : Arv Z h40 b1 k1 .char (8 : Int32) [(.int (113 : Int32)), (.int (117 : Int32)), (.int (97 : Int32)), (.int (114 : Int32)), (.int (i3 &&& (255 : Int32))), (.int (((i3.toUInt32 >>> ((8 : Int32) &&& 31).toUInt32).toInt32) &&& (255 : Int32))), (.int (i4 &&& (255 : Int32))), (.int (((i4.toUInt32 >>> ((8 : Int32) &&& 31).toUInt32).toInt32) &&& (255 : Int32)))] (.int (0 : Int32)) := Arv.set Ar40 q40 S40 M40 H40 G40 (fits_char_b (bnd_lit (114 : Int32)) (by decide +kernel) (by decide +kernel)) W40' 3 rfl (Nat.le_of_ble_eq_true rfl)
    have O40 := O39.wr W40 g_b1
    have K40 : Keep h0 h40 ([] : List Addr) := Keep.wr K39 W40 (Or.inr (Nat.le_trans (Nat.le_refl _) (Nat.le_of_eq g1.symm)))
    have Cd40 := Cold.wr Cd39 W40 (Safe.arv hZ.alike V39 (by simp))
    have N40 := Fr.snoc X40 N39 g_b1
    show Home T40 (mkF m 223 #[.val (.int i0), .val (.int i1), .val (.int i2), .val (.int i3), .val (.int i4), .val (.int i5), .val (.ref b1), .val (.int v10), .val (.int v15), .val (.int v20), .val (.int v25), .unset, .unset, .unset, .unset] [])
    refine Home.run X40 hx hby sg0_223_3 (pc' := 228) (L' := #[.val (.int i0), .val (.int i1), .val (.int i2), .val (.int i3), .val (.int i4), .val (.int i5), .val (.ref b1), .val (.int v10), .val (.int v15), .val (.int v20), .val (.int v25), .unset, .unset, .unset, .unset]) (S' := [(.int (116 : Int32)), (.int (4 : Int32)), (.ref b1)]) rfl ?_
    obtain ⟨cl41, Ar41, q41, S41, M41, H41, G41⟩ := id V40
    refine Home.wr (stC X40 hx hZ e40 Ar41 (j := (4 : Int32)) (inb_of S41 ⟨by decide, by decide⟩) rfl rfl (hb hby at_228)) fun T41 h41 X41 e41 W41 => ?_
    have W41' := Wr.to W41 (congrArg Value.int (nar_char_id (bnd_lit (116 : Int32)) (by decide +kernel) (by decide +kernel)))
    have V41 : Arv Z h41 b1 k1 .char (8 : Int32) [(.int (113 : Int32)), (.int (117 : Int32)), (.int (97 : Int32)), (.int (114 : Int32)), (.int (116 : Int32)), (.int (((i3.toUInt32 >>> ((8 : Int32) &&& 31).toUInt32).toInt32) &&& (255 : Int32))), (.int (i4 &&& (255 : Int32))), (.int (((i4.toUInt32 >>> ((8 : Int32) &&& 31).toUInt32).toInt32) &&& (255 : Int32)))] (.int (0 : Int32)) := Arv.set Ar41 q41 S41 M41 H41 G41 (fits_char_b (bnd_lit (116 : Int32)) (by decide +kernel) (by decide +kernel)) W41' 4 rfl (Nat.le_of_ble_eq_true rfl)
    have O41 := O40.wr W41 g_b1
    have K41 : Keep h0 h41 ([] : List Addr) := Keep.wr K40 W41 (Or.inr (Nat.le_trans (Nat.le_refl _) (Nat.le_of_eq g1.symm)))
    have Cd41 := Cold.wr Cd40 W41 (Safe.arv hZ.alike V40 (by simp))
    have N41 := Fr.snoc X41 N40 g_b1
    show Home T41 (mkF m 229 #[.val (.int i0), .val (.int i1), .val (.int i2), .val (.int i3), .val (.int i4), .val (.int i5), .val (.ref b1), .val (.int v10), .val (.int v15), .val (.int v20), .val (.int v25), .unset, .unset, .unset, .unset] [])
    refine Home.run X41 hx hby sg0_229_3 (pc' := 234) (L' := #[.val (.int i0), .val (.int i1), .val (.int i2), .val (.int i3), .val (.int i4), .val (.int i5), .val (.ref b1), .val (.int v10), .val (.int v15), .val (.int v20), .val (.int v25), .unset, .unset, .unset, .unset]) (S' := [(.int (101 : Int32)), (.int (5 : Int32)), (.ref b1)]) rfl ?_
    obtain ⟨cl42, Ar42, q42, S42, M42, H42, G42⟩ := id V41
    refine Home.wr (stC X41 hx hZ e41 Ar42 (j := (5 : Int32)) (inb_of S42 ⟨by decide, by decide⟩) rfl rfl (hb hby at_234)) fun T42 h42 X42 e42 W42 => ?_
    have W42' := Wr.to W42 (congrArg Value.int (nar_char_id (bnd_lit (101 : Int32)) (by decide +kernel) (by decide +kernel)))
    have V42 : Arv Z h42 b1 k1 .char (8 : Int32) [(.int (113 : Int32)), (.int (117 : Int32)), (.int (97 : Int32)), (.int (114 : Int32)), (.int (116 : Int32)), (.int (101 : Int32)), (.int (i4 &&& (255 : Int32))), (.int (((i4.toUInt32 >>> ((8 : Int32) &&& 31).toUInt32).toInt32) &&& (255 : Int32)))] (.int (0 : Int32)) := Arv.set Ar42 q42 S42 M42 H42 G42 (fits_char_b (bnd_lit (101 : Int32)) (by decide +kernel) (by decide +kernel)) W42' 5 rfl (Nat.le_of_ble_eq_true rfl)
    have O42 := O41.wr W42 g_b1
    have K42 : Keep h0 h42 ([] : List Addr) := Keep.wr K41 W42 (Or.inr (Nat.le_trans (Nat.le_refl _) (Nat.le_of_eq g1.symm)))
    have Cd42 := Cold.wr Cd41 W42 (Safe.arv hZ.alike V41 (by simp))
    have N42 := Fr.snoc X42 N41 g_b1
    show Home T42 (mkF m 235 #[.val (.int i0), .val (.int i1), .val (.int i2), .val (.int i3), .val (.int i4), .val (.int i5), .val (.ref b1), .val (.int v10), .val (.int v15), .val (.int v20), .val (.int v25), .unset, .unset, .unset, .unset] [])
    refine Home.run X42 hx hby sg0_235_3 (pc' := 241) (L' := #[.val (.int i0), .val (.int i1), .val (.int i2), .val (.int i3), .val (.int i4), .val (.int i5), .val (.ref b1), .val (.int v10), .val (.int v15), .val (.int v20), .val (.int v25), .unset, .unset, .unset, .unset]) (S' := [(.int (114 : Int32)), (.int (6 : Int32)), (.ref b1)]) rfl ?_
    obtain ⟨cl43, Ar43, q43, S43, M43, H43, G43⟩ := id V42
    refine Home.wr (stC X42 hx hZ e42 Ar43 (j := (6 : Int32)) (inb_of S43 ⟨by decide, by decide⟩) rfl rfl (hb hby at_241)) fun T43 h43 X43 e43 W43 => ?_
    have W43' := Wr.to W43 (congrArg Value.int (nar_char_id (bnd_lit (114 : Int32)) (by decide +kernel) (by decide +kernel)))
    have V43 : Arv Z h43 b1 k1 .char (8 : Int32) [(.int (113 : Int32)), (.int (117 : Int32)), (.int (97 : Int32)), (.int (114 : Int32)), (.int (116 : Int32)), (.int (101 : Int32)), (.int (114 : Int32)), (.int (((i4.toUInt32 >>> ((8 : Int32) &&& 31).toUInt32).toInt32) &&& (255 : Int32)))] (.int (0 : Int32)) := Arv.set Ar43 q43 S43 M43 H43 G43 (fits_char_b (bnd_lit (114 : Int32)) (by decide +kernel) (by decide +kernel)) W43' 6 rfl (Nat.le_of_ble_eq_true rfl)
    have O43 := O42.wr W43 g_b1
    have K43 : Keep h0 h43 ([] : List Addr) := Keep.wr K42 W43 (Or.inr (Nat.le_trans (Nat.le_refl _) (Nat.le_of_eq g1.symm)))
    have Cd43 := Cold.wr Cd42 W43 (Safe.arv hZ.alike V42 (by simp))
    have N43 := Fr.snoc X43 N42 g_b1
    show Home T43 (mkF m 242 #[.val (.int i0), .val (.int i1), .val (.int i2), .val (.int i3), .val (.int i4), .val (.int i5), .val (.ref b1), .val (.int v10), .val (.int v15), .val (.int v20), .val (.int v25), .unset, .unset, .unset, .unset] [])
    refine Home.run X43 hx hby sg0_242_3 (pc' := 257) (L' := #[.val (.int i0), .val (.int i1), .val (.int i2), .val (.int i3), .val (.int i4), .val (.int i5), .val (.ref b1), .val (.int v10), .val (.int v15), .val (.int v20), .val (.int v25), .val (.int (7 : Int32)), .unset, .unset, .unset]) (S' := []) rfl ?_
    exact J44 X43 N43 e43 (Keep.wr (Keep.wr (Keep.wr (Keep.wr (Keep.wr (Keep.wr (Keep.wr (Keep.refl h9 ([b1] : List Addr)) W37 (Or.inl (List.mem_of_getElem? (i := 0) rfl))) W38 (Or.inl (List.mem_of_getElem? (i := 0) rfl))) W39 (Or.inl (List.mem_of_getElem? (i := 0) rfl))) W40 (Or.inl (List.mem_of_getElem? (i := 0) rfl))) W41 (Or.inl (List.mem_of_getElem? (i := 0) rfl))) W42 (Or.inl (List.mem_of_getElem? (i := 0) rfl))) W43 (Or.inl (List.mem_of_getElem? (i := 0) rfl))) _ (by simp only [if_neg c26, if_pos c34]) (113 : Int32) (by simp only [if_neg c26, if_pos c34]) (117 : Int32) (by simp only [if_neg c26, if_pos c34]) (97 : Int32) (by simp only [if_neg c26, if_pos c34]) (114 : Int32) (by simp only [if_neg c26, if_pos c34]) (116 : Int32) (by simp only [if_neg c26, if_pos c34]) (101 : Int32) (by simp only [if_neg c26, if_pos c34]) (114 : Int32) (by simp only [if_neg c26, if_pos c34]) V43
   ·
    refine Home.go (fun _ => XS.icmpYes XJ24.here hx rfl (pc0 := 196) (pc' := 249) rfl (hb hby at_196) rfl (feq c34).2 (by decide) (by decide)) ?_
    have bd36 : ¬ v10 < (2 : Int32) ∧ ¬ (3 : Int32) < v10 := ⟨(bnd_nel bd28.1 c34 (by decide +kernel)), bd28.2⟩
    refine Home.run XJ24 hx hby sg0_249_4 (pc' := 254) (L' := #[.val (.int i0), .val (.int i1), .val (.int i2), .val (.int i3), .val (.int i4), .val (.int i5), .val (.ref b1), .val (.int v10), .val (.int v15), .val (.int v20), .val (.int v25), .unset, .unset, .unset, .unset]) (S' := [(.int (9 : Int32)), (.int ((i0.toUInt32 >>> ((5 : Int32) &&& 31).toUInt32).toInt32))]) rfl ?_
    refine Home.go (fun _ => iremM XJ24 hx rfl (hb hby at_254) rfl (by decide)) ?_
    refine Home.run XJ24 hx hby sg0_255_1 (pc' := 257) (L' := #[.val (.int i0), .val (.int i1), .val (.int i2), .val (.int i3), .val (.int i4), .val (.int i5), .val (.ref b1), .val (.int v10), .val (.int v15), .val (.int v20), .val (.int v25), .val (.int (((i0.toUInt32 >>> ((5 : Int32) &&& 31).toUInt32).toInt32) % (9 : Int32))), .unset, .unset, .unset]) (S' := []) rfl ?_
    exact J44 XJ24 NJ24 eJ24 (Keep.refl h9 ([b1] : List Addr)) _ (by simp only [if_neg c26, if_neg c34]) (i1 &&& (255 : Int32)) (by simp only [if_neg c26, if_neg c34]) (((i1.toUInt32 >>> ((8 : Int32) &&& 31).toUInt32).toInt32) &&& (255 : Int32)) (by simp only [if_neg c26, if_neg c34]) (i2 &&& (255 : Int32)) (by simp only [if_neg c26, if_neg c34]) (((i2.toUInt32 >>> ((8 : Int32) &&& 31).toUInt32).toInt32) &&& (255 : Int32)) (by simp only [if_neg c26, if_neg c34]) (i3 &&& (255 : Int32)) (by simp only [if_neg c26, if_neg c34]) (((i3.toUInt32 >>> ((8 : Int32) &&& 31).toUInt32).toInt32) &&& (255 : Int32)) (by simp only [if_neg c26, if_neg c34]) (i4 &&& (255 : Int32)) (by simp only [if_neg c26, if_neg c34]) V9
 intro TJ44 lcJ44 hJ44 XJ44 NJ44 eJ44 KqJ44 v45 hv45 v46 hv46 v47 hv47 v48 hv48 v49 hv49 v50 hv50 v51 hv51 v52 hv52 HJ44_0
 have OJ44 := Old.keep O9 KqJ44 (allS g_b1 all0)
 have KJ44 : Keep h0 hJ44 ([] : List Addr) := Keep.trans K9 KqJ44 (allS (Or.inr (Nat.le_trans (Nat.le_refl _) (Nat.le_of_eq g1.symm))) all0)
 have CdJ44 := Cold.keep Cd9 KqJ44 (allS (Safe.arv hZ.alike V9 (by simp)) all0)
 have bv45 : ¬ v45 < (0 : Int32) ∧ ¬ (8 : Int32) < v45 := by rw [hv45]; exact (bnd_ite (bnd_mono (bnd_lit (5 : Int32)) (by decide +kernel) (by decide +kernel)) (bnd_ite (bnd_mono (bnd_lit (7 : Int32)) (by decide +kernel) (by decide +kernel)) (bnd_mono (bnd_rem (bnd_ushr i0 (k := 5) (hi := (134217727 : Int32)) (by decide +kernel) (by decide +kernel)) (by decide +kernel) (by decide +kernel)) (by decide +kernel) (by decide +kernel))))
 have bv46 : ¬ v46 < (0 : Int32) ∧ ¬ (255 : Int32) < v46 := by rw [hv46]; exact (bnd_ite (bnd_mono (bnd_lit (109 : Int32)) (by decide +kernel) (by decide +kernel)) (bnd_ite (bnd_mono (bnd_lit (113 : Int32)) (by decide +kernel) (by decide +kernel)) (bnd_mono (bnd_and i1 (255 : Int32) (by decide)) (by decide +kernel) (by decide +kernel))))
 have bv47 : ¬ v47 < (0 : Int32) ∧ ¬ (255 : Int32) < v47 := by rw [hv47]; exact (bnd_ite (bnd_mono (bnd_lit (111 : Int32)) (by decide +kernel) (by decide +kernel)) (bnd_ite (bnd_mono (bnd_lit (117 : Int32)) (by decide +kernel) (by decide +kernel)) (bnd_mono (bnd_and ((i1.toUInt32 >>> ((8 : Int32) &&& 31).toUInt32).toInt32) (255 : Int32) (by decide)) (by decide +kernel) (by decide +kernel))))
 have bv48 : ¬ v48 < (0 : Int32) ∧ ¬ (255 : Int32) < v48 := by rw [hv48]; exact (bnd_ite (bnd_mono (bnd_lit (110 : Int32)) (by decide +kernel) (by decide +kernel)) (bnd_ite (bnd_mono (bnd_lit (97 : Int32)) (by decide +kernel) (by decide +kernel)) (bnd_mono (bnd_and i2 (255 : Int32) (by decide)) (by decide +kernel) (by decide +kernel))))
 have bv49 : ¬ v49 < (0 : Int32) ∧ ¬ (255 : Int32) < v49 := by rw [hv49]; exact (bnd_ite (bnd_mono (bnd_lit (116 : Int32)) (by decide +kernel) (by decide +kernel)) (bnd_ite (bnd_mono (bnd_lit (114 : Int32)) (by decide +kernel) (by decide +kernel)) (bnd_mono (bnd_and ((i2.toUInt32 >>> ((8 : Int32) &&& 31).toUInt32).toInt32) (255 : Int32) (by decide)) (by decide +kernel) (by decide +kernel))))
 have bv50 : ¬ v50 < (0 : Int32) ∧ ¬ (255 : Int32) < v50 := by rw [hv50]; exact (bnd_ite (bnd_mono (bnd_lit (104 : Int32)) (by decide +kernel) (by decide +kernel)) (bnd_ite (bnd_mono (bnd_lit (116 : Int32)) (by decide +kernel) (by decide +kernel)) (bnd_mono (bnd_and i3 (255 : Int32) (by decide)) (by decide +kernel) (by decide +kernel))))
 have bv51 : ¬ v51 < (0 : Int32) ∧ ¬ (255 : Int32) < v51 := by rw [hv51]; exact (bnd_ite (bnd_mono (bnd_and ((i3.toUInt32 >>> ((8 : Int32) &&& 31).toUInt32).toInt32) (255 : Int32) (by decide)) (by decide +kernel) (by decide +kernel)) (bnd_ite (bnd_mono (bnd_lit (101 : Int32)) (by decide +kernel) (by decide +kernel)) (bnd_mono (bnd_and ((i3.toUInt32 >>> ((8 : Int32) &&& 31).toUInt32).toInt32) (255 : Int32) (by decide)) (by decide +kernel) (by decide +kernel))))
 have bv52 : ¬ v52 < (0 : Int32) ∧ ¬ (255 : Int32) < v52 := by rw [hv52]; exact (bnd_ite (bnd_mono (bnd_and i4 (255 : Int32) (by decide)) (by decide +kernel) (by decide +kernel)) (bnd_ite (bnd_mono (bnd_lit (114 : Int32)) (by decide +kernel) (by decide +kernel)) (bnd_mono (bnd_and i4 (255 : Int32) (by decide)) (by decide +kernel) (by decide +kernel))))
 show Home TJ44 (mkF m 257 #[.val (.int i0), .val (.int i1), .val (.int i2), .val (.int i3), .val (.int i4), .val (.int i5), .val (.ref b1), .val (.int v10), .val (.int v15), .val (.int v20), .val (.int v25), .val (.int v45), .unset, .unset, .unset] [])
 refine Home.run XJ44 hx hby sg0_257_1 (pc' := 259) (L' := #[.val (.int i0), .val (.int i1), .val (.int i2), .val (.int i3), .val (.int i4), .val (.int i5), .val (.ref b1), .val (.int v10), .val (.int v15), .val (.int v20), .val (.int v25), .val (.int v45), .unset, .unset, .unset]) (S' := [(.int v15)]) rfl ?_
 suffices J59 : ∀ {T : State} {lc : List Loc} (X : Stand p l e room_1 (s.setVm s.vm) m #[(.int i0), (.int i1), (.int i2), (.int i3), (.int i4), (.int i5)] below meth c T lc 1 8) (N : Fr n0 lc) (eT : T.heap = hJ44) (v60 : Int32) (hv60 : v60 = (if v15 = (0 : Int32) then v45 else (if v45 < (8 : Int32) then (v45 + (1 : Int32)) else v45))), @Home p e below _ T (mkF m 275 #[.val (.int i0), .val (.int i1), .val (.int i2), .val (.int i3), .val (.int i4), .val (.int i5), .val (.ref b1), .val (.int v10), .val (.int v15), .val (.int v20), .val (.int v25), .val (.int v60), .unset, .unset, .unset] []) by
  by_cases c53 : v15 = (0 : Int32)
  ·
   refine Home.go (fun _ => XS.ifYes XJ44.here hx rfl (pc0 := 259) (pc' := 275) rfl (hb hby at_259) rfl ((if0 _ _).trans (teq c53).1) (by decide) (by decide)) ?_
   have bd54 : ¬ v15 < (0 : Int32) ∧ ¬ (0 : Int32) < v15 := ⟨(bnd_eql c53), (bnd_eqr c53)⟩
   exact J59 XJ44 NJ44 eJ44 _ (by simp only [if_pos c53])
  ·
   refine Home.go (fun _ => XS.ifNo XJ44.here hx rfl (hb hby at_259) rfl ((if0 _ _).trans (feq c53).1)) ?_
   have bd55 : ¬ v15 < (1 : Int32) ∧ ¬ (1 : Int32) < v15 := ⟨(bnd_nel bv15.1 c53 (by decide +kernel)), bv15.2⟩
   refine Home.run XJ44 hx hby sg0_262_2 (pc' := 266) (L' := #[.val (.int i0), .val (.int i1), .val (.int i2), .val (.int i3), .val (.int i4), .val (.int i5), .val (.ref b1), .val (.int v10), .val (.int v15), .val (.int v20), .val (.int v25), .val (.int v45), .unset, .unset, .unset]) (S' := [(.int (8 : Int32)), (.int v45)]) rfl ?_
   by_cases c56 : v45 < (8 : Int32)
   ·
    refine Home.go (fun _ => XS.icmpNo XJ44.here hx rfl (hb hby at_266) rfl (tlt c56).2.1) ?_
    have bd57 : ¬ v45 < (0 : Int32) ∧ ¬ (7 : Int32) < v45 := ⟨bv45.1, (bnd_dn c56 (by decide +kernel))⟩
    refine Home.run XJ44 hx hby sg0_269_4 (pc' := 275) (L' := #[.val (.int i0), .val (.int i1), .val (.int i2), .val (.int i3), .val (.int i4), .val (.int i5), .val (.ref b1), .val (.int v10), .val (.int v15), .val (.int v20), .val (.int v25), .val (.int (v45 + (1 : Int32))), .unset, .unset, .unset]) (S' := []) rfl ?_
    exact J59 XJ44 NJ44 eJ44 _ (by simp only [if_neg c53, if_pos c56])
   ·
    refine Home.go (fun _ => XS.icmpYes XJ44.here hx rfl (pc0 := 266) (pc' := 275) rfl (hb hby at_266) rfl (flt c56).2.1 (by decide) (by decide)) ?_
    have bd58 : ¬ v45 < (8 : Int32) ∧ ¬ (8 : Int32) < v45 := ⟨c56, bv45.2⟩
    exact J59 XJ44 NJ44 eJ44 _ (by simp only [if_neg c53, if_neg c56])
 intro TJ59 lcJ59 XJ59 NJ59 eJ59 v60 hv60
 have bv60 : ¬ v60 < (0 : Int32) ∧ ¬ (8 : Int32) < v60 := by rw [hv60]; exact (bnd_ite (bnd_mono bv45 (by decide +kernel) (by decide +kernel)) (bnd_dite (fun c56 => (bnd_mono (bnd_add (show ¬ v45 < (0 : Int32) ∧ ¬ (7 : Int32) < v45 from ⟨bv45.1, (bnd_dn c56 (by decide +kernel))⟩) (bnd_lit (1 : Int32)) (lo := (1 : Int32)) (hi := (8 : Int32)) (by decide +kernel) (by decide +kernel) (by decide +kernel) (by decide +kernel)) (by decide +kernel) (by decide +kernel))) (fun c56 => (bnd_mono (show ¬ v45 < (8 : Int32) ∧ ¬ (8 : Int32) < v45 from ⟨c56, bv45.2⟩) (by decide +kernel) (by decide +kernel)))))
 show Home TJ59 (mkF m 275 #[.val (.int i0), .val (.int i1), .val (.int i2), .val (.int i3), .val (.int i4), .val (.int i5), .val (.ref b1), .val (.int v10), .val (.int v15), .val (.int v20), .val (.int v25), .val (.int v60), .unset, .unset, .unset] [])
 refine Home.run XJ59 hx hby sg0_275_1 (pc' := 277) (L' := #[.val (.int i0), .val (.int i1), .val (.int i2), .val (.int i3), .val (.int i4), .val (.int i5), .val (.ref b1), .val (.int v10), .val (.int v15), .val (.int v20), .val (.int v25), .val (.int v60), .unset, .unset, .unset]) (S' := [(.int v20)]) rfl ?_
 suffices J67 : ∀ {T : State} {lc : List Loc} (X : Stand p l e room_1 (s.setVm s.vm) m #[(.int i0), (.int i1), (.int i2), (.int i3), (.int i4), (.int i5)] below meth c T lc 1 8) (N : Fr n0 lc) (eT : T.heap = hJ44) (v68 : Int32) (hv68 : v68 = (if v20 = (0 : Int32) then v60 else (if (0 : Int32) < v60 then (v60 - (1 : Int32)) else v60))), @Home p e below _ T (mkF m 291 #[.val (.int i0), .val (.int i1), .val (.int i2), .val (.int i3), .val (.int i4), .val (.int i5), .val (.ref b1), .val (.int v10), .val (.int v15), .val (.int v20), .val (.int v25), .val (.int v68), .unset, .unset, .unset] []) by
  by_cases c61 : v20 = (0 : Int32)
  ·
   refine Home.go (fun _ => XS.ifYes XJ59.here hx rfl (pc0 := 277) (pc' := 291) rfl (hb hby at_277) rfl ((if0 _ _).trans (teq c61).1) (by decide) (by decide)) ?_
   have bd62 : ¬ v20 < (0 : Int32) ∧ ¬ (0 : Int32) < v20 := ⟨(bnd_eql c61), (bnd_eqr c61)⟩
   exact J67 XJ59 NJ59 eJ59 _ (by simp only [if_pos c61])
  ·
   refine Home.go (fun _ => XS.ifNo XJ59.here hx rfl (hb hby at_277) rfl ((if0 _ _).trans (feq c61).1)) ?_
   have bd63 : ¬ v20 < (1 : Int32) ∧ ¬ (1 : Int32) < v20 := ⟨(bnd_nel bv20.1 c61 (by decide +kernel)), bv20.2⟩
   refine Home.run XJ59 hx hby sg0_280_1 (pc' := 282) (L' := #[.val (.int i0), .val (.int i1), .val (.int i2), .val (.int i3), .val (.int i4), .val (.int i5), .val (.ref b1), .val (.int v10), .val (.int v15), .val (.int v20), .val (.int v25), .val (.int v60), .unset, .unset, .unset]) (S' := [(.int v60)]) rfl ?_
   by_cases c64 : (0 : Int32) < v60
   ·
    refine Home.go (fun _ => XS.ifNo XJ59.here hx rfl (hb hby at_282) rfl ((if0 _ _).trans (tlt c64).2.2.2)) ?_
    have bd65 : ¬ v60 < (1 : Int32) ∧ ¬ (8 : Int32) < v60 := ⟨(bnd_up c64 (by decide +kernel)), bv60.2⟩
    refine Home.run XJ59 hx hby sg0_285_4 (pc' := 291) (L' := #[.val (.int i0), .val (.int i1), .val (.int i2), .val (.int i3), .val (.int i4), .val (.int i5), .val (.ref b1), .val (.int v10), .val (.int v15), .val (.int v20), .val (.int v25), .val (.int (v60 - (1 : Int32))), .unset, .unset, .unset]) (S' := []) rfl ?_
    exact J67 XJ59 NJ59 eJ59 _ (by simp only [if_neg c61, if_pos c64])
   ·
    refine Home.go (fun _ => XS.ifYes XJ59.here hx rfl (pc0 := 282) (pc' := 291) rfl (hb hby at_282) rfl ((if0 _ _).trans (flt c64).2.2.2) (by decide) (by decide)) ?_
    have bd66 : ¬ v60 < (0 : Int32) ∧ ¬ (0 : Int32) < v60 := ⟨bv60.1, c64⟩
    exact J67 XJ59 NJ59 eJ59 _ (by simp only [if_neg c61, if_neg c64])
 intro TJ67 lcJ67 XJ67 NJ67 eJ67 v68 hv68
 have bv68 : ¬ v68 < (0 : Int32) ∧ ¬ (8 : Int32) < v68 := by rw [hv68]; exact (bnd_ite (bnd_mono bv60 (by decide +kernel) (by decide +kernel)) (bnd_dite (fun c64 => (bnd_mono (bnd_sub (show ¬ v60 < (1 : Int32) ∧ ¬ (8 : Int32) < v60 from ⟨(bnd_up c64 (by decide +kernel)), bv60.2⟩) (bnd_lit (1 : Int32)) (lo := (0 : Int32)) (hi := (7 : Int32)) (by decide +kernel) (by decide +kernel) (by decide +kernel) (by decide +kernel)) (by decide +kernel) (by decide +kernel))) (fun c64 => (bnd_mono (show ¬ v60 < (0 : Int32) ∧ ¬ (0 : Int32) < v60 from ⟨bv60.1, c64⟩) (by decide +kernel) (by decide +kernel)))))
 show Home TJ67 (mkF m 291 #[.val (.int i0), .val (.int i1), .val (.int i2), .val (.int i3), .val (.int i4), .val (.int i5), .val (.ref b1), .val (.int v10), .val (.int v15), .val (.int v20), .val (.int v25), .val (.int v68), .unset, .unset, .unset] [])
 refine Home.run XJ67 hx hby sg0_291_1 (pc' := 293) (L' := #[.val (.int i0), .val (.int i1), .val (.int i2), .val (.int i3), .val (.int i4), .val (.int i5), .val (.ref b1), .val (.int v10), .val (.int v15), .val (.int v20), .val (.int v25), .val (.int v68), .unset, .unset, .unset]) (S' := [(.int v25)]) rfl ?_
 suffices J76 : ∀ {T : State} {lc : List Loc} {hJ : Heap} (X : Stand p l e room_1 (s.setVm s.vm) m #[(.int i0), (.int i1), (.int i2), (.int i3), (.int i4), (.int i5)] below meth c T lc 1 8) (N : Fr n0 lc) (eT : T.heap = hJ) (Kq : Keep hJ44 hJ ([b1] : List Addr)) (v77 : Slot) (hv77 : v77 = .unset ∨ ∃ w, v77 = .val w ∧ w.category = 1) (v78 : Int32) (hv78 : v78 = (if v25 = (0 : Int32) then v46 else (if (0 : Int32) < v68 then (if ((i5 &&& (255 : Int32)) % v68) = (0 : Int32) then (((i5.toUInt32 >>> ((8 : Int32) &&& 31).toUInt32).toInt32) &&& (255 : Int32)) else v46) else v46))) (v79 : Int32) (hv79 : v79 = (if v25 = (0 : Int32) then v47 else (if (0 : Int32) < v68 then (if ((i5 &&& (255 : Int32)) % v68) = (1 : Int32) then (((i5.toUInt32 >>> ((8 : Int32) &&& 31).toUInt32).toInt32) &&& (255 : Int32)) else v47) else v47))) (v80 : Int32) (hv80 : v80 = (if v25 = (0 : Int32) then v48 else (if (0 : Int32) < v68 then (if ((i5 &&& (255 : Int32)) % v68) = (2 : Int32) then (((i5.toUInt32 >>> ((8 : Int32) &&& 31).toUInt32).toInt32) &&& (255 : Int32)) else v48) else v48))) (v81 : Int32) (hv81 : v81 = (if v25 = (0 : Int32) then v49 else (if (0 : Int32) < v68 then (if ((i5 &&& (255 : Int32)) % v68) = (3 : Int32) then (((i5.toUInt32 >>> ((8 : Int32) &&& 31).toUInt32).toInt32) &&& (255 : Int32)) else v49) else v49))) (v82 : Int32) (hv82 : v82 = (if v25 = (0 : Int32) then v50 else (if (0 : Int32) < v68 then (if ((i5 &&& (255 : Int32)) % v68) = (4 : Int32) then (((i5.toUInt32 >>> ((8 : Int32) &&& 31).toUInt32).toInt32) &&& (255 : Int32)) else v50) else v50))) (v83 : Int32) (hv83 : v83 = (if v25 = (0 : Int32) then v51 else (if (0 : Int32) < v68 then (if ((i5 &&& (255 : Int32)) % v68) = (5 : Int32) then (((i5.toUInt32 >>> ((8 : Int32) &&& 31).toUInt32).toInt32) &&& (255 : Int32)) else v51) else v51))) (v84 : Int32) (hv84 : v84 = (if v25 = (0 : Int32) then v52 else (if (0 : Int32) < v68 then (if ((i5 &&& (255 : Int32)) % v68) = (6 : Int32) then (((i5.toUInt32 >>> ((8 : Int32) &&& 31).toUInt32).toInt32) &&& (255 : Int32)) else v52) else v52))) (v85 : Int32) (hv85 : v85 = (if v25 = (0 : Int32) then (((i4.toUInt32 >>> ((8 : Int32) &&& 31).toUInt32).toInt32) &&& (255 : Int32)) else (if (0 : Int32) < v68 then (if ((i5 &&& (255 : Int32)) % v68) = (7 : Int32) then (((i5.toUInt32 >>> ((8 : Int32) &&& 31).toUInt32).toInt32) &&& (255 : Int32)) else (((i4.toUInt32 >>> ((8 : Int32) &&& 31).toUInt32).toInt32) &&& (255 : Int32))) else (((i4.toUInt32 >>> ((8 : Int32) &&& 31).toUInt32).toInt32) &&& (255 : Int32))))) (HJ76_0 : Arv Z hJ b1 k1 .char (8 : Int32) [(.int v78), (.int v79), (.int v80), (.int v81), (.int v82), (.int v83), (.int v84), (.int v85)] (.int (0 : Int32))), @Home p e below _ T (mkF m 327 #[.val (.int i0), .val (.int i1), .val (.int i2), .val (.int i3), .val (.int i4), .val (.int i5), .val (.ref b1), .val (.int v10), .val (.int v15), .val (.int v20), .val (.int v25), .val (.int v68), v77, .unset, .unset] []) by
  by_cases c69 : v25 = (0 : Int32)
  ·
   refine Home.go (fun _ => XS.ifYes XJ67.here hx rfl (pc0 := 293) (pc' := 327) rfl (hb hby at_293) rfl ((if0 _ _).trans (teq c69).1) (by decide) (by decide)) ?_
   have bd70 : ¬ v25 < (0 : Int32) ∧ ¬ (0 : Int32) < v25 := ⟨(bnd_eql c69), (bnd_eqr c69)⟩
   exact J76 XJ67 NJ67 eJ67 (Keep.refl hJ44 ([b1] : List Addr)) _ (Or.inl rfl) v46 (by simp only [if_pos c69]) v47 (by simp only [if_pos c69]) v48 (by simp only [if_pos c69]) v49 (by simp only [if_pos c69]) v50 (by simp only [if_pos c69]) v51 (by simp only [if_pos c69]) v52 (by simp only [if_pos c69]) (((i4.toUInt32 >>> ((8 : Int32) &&& 31).toUInt32).toInt32) &&& (255 : Int32)) (by simp only [if_pos c69]) HJ44_0
  ·
   refine Home.go (fun _ => XS.ifNo XJ67.here hx rfl (hb hby at_293) rfl ((if0 _ _).trans (feq c69).1)) ?_
   have bd71 : ¬ v25 < (1 : Int32) ∧ ¬ (1 : Int32) < v25 := ⟨(bnd_nel bv25.1 c69 (by decide +kernel)), bv25.2⟩
   refine Home.run XJ67 hx hby sg0_296_1 (pc' := 298) (L' := #[.val (.int i0), .val (.int i1), .val (.int i2), .val (.int i3), .val (.int i4), .val (.int i5), .val (.ref b1), .val (.int v10), .val (.int v15), .val (.int v20), .val (.int v25), .val (.int v68), .unset, .unset, .unset]) (S' := [(.int v68)]) rfl ?_
   by_cases c72 : (0 : Int32) < v68
   ·
    refine Home.go (fun _ => XS.ifNo XJ67.here hx rfl (hb hby at_298) rfl ((if0 _ _).trans (tlt c72).2.2.2)) ?_
    have bd73 : ¬ v68 < (1 : Int32) ∧ ¬ (8 : Int32) < v68 := ⟨(bnd_up c72 (by decide +kernel)), bv68.2⟩
    refine Home.run XJ67 hx hby sg0_301_4 (pc' := 309) (L' := #[.val (.int i0), .val (.int i1), .val (.int i2), .val (.int i3), .val (.int i4), .val (.int i5), .val (.ref b1), .val (.int v10), .val (.int v15), .val (.int v20), .val (.int v25), .val (.int v68), .unset, .unset, .unset]) (S' := [(.int v68), (.int (i5 &&& (255 : Int32)))]) rfl ?_
    refine Home.go (fun _ => iremM XJ67 hx rfl (hb hby at_309) rfl (bnd_ne bd73 (bnd_lit (0 : Int32)) (by decide +kernel))) ?_
    refine Home.run XJ67 hx hby sg0_310_9 (pc' := 326) (L' := #[.val (.int i0), .val (.int i1), .val (.int i2), .val (.int i3), .val (.int i4), .val (.int i5), .val (.ref b1), .val (.int v10), .val (.int v15), .val (.int v20), .val (.int v25), .val (.int v68), .val (.int ((i5 &&& (255 : Int32)) % v68)), .unset, .unset]) (S' := [(.int ((((i5.toUInt32 >>> ((8 : Int32) &&& 31).toUInt32).toInt32) &&& (255 : Int32)).toUInt32.toUInt16.toUInt32.toInt32)), (.int ((i5 &&& (255 : Int32)) % v68)), (.ref b1)]) rfl ?_
    rw [i2c_id (bnd_and ((i5.toUInt32 >>> ((8 : Int32) &&& 31).toUInt32).toInt32) (255 : Int32) (by decide)) (by decide +kernel) (by decide +kernel)]
    obtain ⟨cl75, Ar75, q75, S75, M75, H75, G75⟩ := id HJ44_0
    have ib75 : ¬ ((i5 &&& (255 : Int32)) % v68) < (0 : Int32) ∧ ((i5 &&& (255 : Int32)) % v68) < (8 : Int32) := ⟨(bnd_nlt (bnd_rem2 (bnd_and i5 (255 : Int32) (by decide)) bd73 (hi := (7 : Int32)) (by decide +kernel) (by decide +kernel) (by decide +kernel)) (bnd_lit (0 : Int32)) (by decide +kernel)), (bnd_lt (bnd_rem2 (bnd_and i5 (255 : Int32) (by decide)) bd73 (hi := (7 : Int32)) (by decide +kernel) (by decide +kernel) (by decide +kernel)) (bnd_lit (8 : Int32)) (by decide +kernel))⟩
    refine Home.wr (stC XJ67 hx hZ eJ67 Ar75 (j := ((i5 &&& (255 : Int32)) % v68)) (inb_of S75 ib75) rfl rfl (hb hby at_326)) fun T75 h75 X75 e75 W75 => ?_
    have W75' := Wr.to W75 (congrArg Value.int (nar_char_id (bnd_and ((i5.toUInt32 >>> ((8 : Int32) &&& 31).toUInt32).toInt32) (255 : Int32) (by decide)) (by decide +kernel) (by decide +kernel)))
    have V75 : Arv Z h75 b1 k1 .char (8 : Int32) [(.int (if ((i5 &&& (255 : Int32)) % v68) = (0 : Int32) then (((i5.toUInt32 >>> ((8 : Int32) &&& 31).toUInt32).toInt32) &&& (255 : Int32)) else v46)), (.int (if ((i5 &&& (255 : Int32)) % v68) = (1 : Int32) then (((i5.toUInt32 >>> ((8 : Int32) &&& 31).toUInt32).toInt32) &&& (255 : Int32)) else v47)), (.int (if ((i5 &&& (255 : Int32)) % v68) = (2 : Int32) then (((i5.toUInt32 >>> ((8 : Int32) &&& 31).toUInt32).toInt32) &&& (255 : Int32)) else v48)), (.int (if ((i5 &&& (255 : Int32)) % v68) = (3 : Int32) then (((i5.toUInt32 >>> ((8 : Int32) &&& 31).toUInt32).toInt32) &&& (255 : Int32)) else v49)), (.int (if ((i5 &&& (255 : Int32)) % v68) = (4 : Int32) then (((i5.toUInt32 >>> ((8 : Int32) &&& 31).toUInt32).toInt32) &&& (255 : Int32)) else v50)), (.int (if ((i5 &&& (255 : Int32)) % v68) = (5 : Int32) then (((i5.toUInt32 >>> ((8 : Int32) &&& 31).toUInt32).toInt32) &&& (255 : Int32)) else v51)), (.int (if ((i5 &&& (255 : Int32)) % v68) = (6 : Int32) then (((i5.toUInt32 >>> ((8 : Int32) &&& 31).toUInt32).toInt32) &&& (255 : Int32)) else v52)), (.int (if ((i5 &&& (255 : Int32)) % v68) = (7 : Int32) then (((i5.toUInt32 >>> ((8 : Int32) &&& 31).toUInt32).toInt32) &&& (255 : Int32)) else (((i4.toUInt32 >>> ((8 : Int32) &&& 31).toUInt32).toInt32) &&& (255 : Int32))))] (.int (0 : Int32)) := own_setS (vs := [v46, v47, v48, v49, v50, v51, v52, (((i4.toUInt32 >>> ((8 : Int32) &&& 31).toUInt32).toInt32) &&& (255 : Int32))]) (ws := [(if ((i5 &&& (255 : Int32)) % v68) = (0 : Int32) then (((i5.toUInt32 >>> ((8 : Int32) &&& 31).toUInt32).toInt32) &&& (255 : Int32)) else v46), (if ((i5 &&& (255 : Int32)) % v68) = (1 : Int32) then (((i5.toUInt32 >>> ((8 : Int32) &&& 31).toUInt32).toInt32) &&& (255 : Int32)) else v47), (if ((i5 &&& (255 : Int32)) % v68) = (2 : Int32) then (((i5.toUInt32 >>> ((8 : Int32) &&& 31).toUInt32).toInt32) &&& (255 : Int32)) else v48), (if ((i5 &&& (255 : Int32)) % v68) = (3 : Int32) then (((i5.toUInt32 >>> ((8 : Int32) &&& 31).toUInt32).toInt32) &&& (255 : Int32)) else v49), (if ((i5 &&& (255 : Int32)) % v68) = (4 : Int32) then (((i5.toUInt32 >>> ((8 : Int32) &&& 31).toUInt32).toInt32) &&& (255 : Int32)) else v50), (if ((i5 &&& (255 : Int32)) % v68) = (5 : Int32) then (((i5.toUInt32 >>> ((8 : Int32) &&& 31).toUInt32).toInt32) &&& (255 : Int32)) else v51), (if ((i5 &&& (255 : Int32)) % v68) = (6 : Int32) then (((i5.toUInt32 >>> ((8 : Int32) &&& 31).toUInt32).toInt32) &&& (255 : Int32)) else v52), (if ((i5 &&& (255 : Int32)) % v68) = (7 : Int32) then (((i5.toUInt32 >>> ((8 : Int32) &&& 31).toUInt32).toInt32) &&& (255 : Int32)) else (((i4.toUInt32 >>> ((8 : Int32) &&& 31).toUInt32).toInt32) &&& (255 : Int32)))]) Ar75 q75 S75 M75 H75 G75 (fits_char_b (bnd_and ((i5.toUInt32 >>> ((8 : Int32) &&& 31).toUInt32).toInt32) (255 : Int32) (by decide)) (by decide +kernel) (by decide +kernel)) W75' (own_lt_of ib75) (own_set_ite ib75.1 (Nat.le_of_ble_eq_true rfl))
    have O75 := OJ44.wr W75 g_b1
    have K75 : Keep h0 h75 ([] : List Addr) := Keep.wr KJ44 W75 (Or.inr (Nat.le_trans (Nat.le_refl _) (Nat.le_of_eq g1.symm)))
    have Cd75 := Cold.wr CdJ44 W75 (Safe.arv hZ.alike HJ44_0 (by simp))
    have N75 := Fr.snoc X75 NJ67 g_b1
    show Home T75 (mkF m 327 #[.val (.int i0), .val (.int i1), .val (.int i2), .val (.int i3), .val (.int i4), .val (.int i5), .val (.ref b1), .val (.int v10), .val (.int v15), .val (.int v20), .val (.int v25), .val (.int v68), .val (.int ((i5 &&& (255 : Int32)) % v68)), .unset, .unset] [])
    exact J76 X75 N75 e75 (Keep.wr (Keep.refl hJ44 ([b1] : List Addr)) W75 (Or.inl (List.mem_of_getElem? (i := 0) rfl))) _ (Or.inr ⟨_, rfl, rfl⟩) (if ((i5 &&& (255 : Int32)) % v68) = (0 : Int32) then (((i5.toUInt32 >>> ((8 : Int32) &&& 31).toUInt32).toInt32) &&& (255 : Int32)) else v46) (by simp only [if_neg c69, if_pos c72]) (if ((i5 &&& (255 : Int32)) % v68) = (1 : Int32) then (((i5.toUInt32 >>> ((8 : Int32) &&& 31).toUInt32).toInt32) &&& (255 : Int32)) else v47) (by simp only [if_neg c69, if_pos c72]) (if ((i5 &&& (255 : Int32)) % v68) = (2 : Int32) then (((i5.toUInt32 >>> ((8 : Int32) &&& 31).toUInt32).toInt32) &&& (255 : Int32)) else v48) (by simp only [if_neg c69, if_pos c72]) (if ((i5 &&& (255 : Int32)) % v68) = (3 : Int32) then (((i5.toUInt32 >>> ((8 : Int32) &&& 31).toUInt32).toInt32) &&& (255 : Int32)) else v49) (by simp only [if_neg c69, if_pos c72]) (if ((i5 &&& (255 : Int32)) % v68) = (4 : Int32) then (((i5.toUInt32 >>> ((8 : Int32) &&& 31).toUInt32).toInt32) &&& (255 : Int32)) else v50) (by simp only [if_neg c69, if_pos c72]) (if ((i5 &&& (255 : Int32)) % v68) = (5 : Int32) then (((i5.toUInt32 >>> ((8 : Int32) &&& 31).toUInt32).toInt32) &&& (255 : Int32)) else v51) (by simp only [if_neg c69, if_pos c72]) (if ((i5 &&& (255 : Int32)) % v68) = (6 : Int32) then (((i5.toUInt32 >>> ((8 : Int32) &&& 31).toUInt32).toInt32) &&& (255 : Int32)) else v52) (by simp only [if_neg c69, if_pos c72]) (if ((i5 &&& (255 : Int32)) % v68) = (7 : Int32) then (((i5.toUInt32 >>> ((8 : Int32) &&& 31).toUInt32).toInt32) &&& (255 : Int32)) else (((i4.toUInt32 >>> ((8 : Int32) &&& 31).toUInt32).toInt32) &&& (255 : Int32))) (by simp only [if_neg c69, if_pos c72]) V75
   ·
    refine Home.go (fun _ => XS.ifYes XJ67.here hx rfl (pc0 := 298) (pc' := 327) rfl (hb hby at_298) rfl ((if0 _ _).trans (flt c72).2.2.2) (by decide) (by decide)) ?_
    have bd74 : ¬ v68 < (0 : Int32) ∧ ¬ (0 : Int32) < v68 := ⟨bv68.1, c72⟩
    exact J76 XJ67 NJ67 eJ67 (Keep.refl hJ44 ([b1] : List Addr)) _ (Or.inl rfl) v46 (by simp only [if_neg c69, if_neg c72]) v47 (by simp only [if_neg c69, if_neg c72]) v48 (by simp only [if_neg c69, if_neg c72]) v49 (by simp only [if_neg c69, if_neg c72]) v50 (by simp only [if_neg c69, if_neg c72]) v51 (by simp only [if_neg c69, if_neg c72]) v52 (by simp only [if_neg c69, if_neg c72]) (((i4.toUInt32 >>> ((8 : Int32) &&& 31).toUInt32).toInt32) &&& (255 : Int32)) (by simp only [if_neg c69, if_neg c72]) HJ44_0
 intro TJ76 lcJ76 hJ76 XJ76 NJ76 eJ76 KqJ76 v77 hv77 v78 hv78 v79 hv79 v80 hv80 v81 hv81 v82 hv82 v83 hv83 v84 hv84 v85 hv85 HJ76_0
 have OJ76 := Old.keep OJ44 KqJ76 (allS g_b1 all0)
 have KJ76 : Keep h0 hJ76 ([] : List Addr) := Keep.trans KJ44 KqJ76 (allS (Or.inr (Nat.le_trans (Nat.le_refl _) (Nat.le_of_eq g1.symm))) all0)
 have CdJ76 := Cold.keep CdJ44 KqJ76 (allS (Safe.arv hZ.alike HJ44_0 (by simp)) all0)
 have bv78 : ¬ v78 < (0 : Int32) ∧ ¬ (255 : Int32) < v78 := by rw [hv78]; exact (bnd_ite (bnd_mono bv46 (by decide +kernel) (by decide +kernel)) (bnd_ite (bnd_mono (bnd_ite (lo := (0 : Int32)) (hi := (255 : Int32)) (bnd_mono (bnd_and ((i5.toUInt32 >>> ((8 : Int32) &&& 31).toUInt32).toInt32) (255 : Int32) (by decide)) (by decide +kernel) (by decide +kernel)) (bnd_mono bv46 (by decide +kernel) (by decide +kernel))) (by decide +kernel) (by decide +kernel)) (bnd_mono bv46 (by decide +kernel) (by decide +kernel))))
 have bv79 : ¬ v79 < (0 : Int32) ∧ ¬ (255 : Int32) < v79 := by rw [hv79]; exact (bnd_ite (bnd_mono bv47 (by decide +kernel) (by decide +kernel)) (bnd_ite (bnd_mono (bnd_ite (lo := (0 : Int32)) (hi := (255 : Int32)) (bnd_mono (bnd_and ((i5.toUInt32 >>> ((8 : Int32) &&& 31).toUInt32).toInt32) (255 : Int32) (by decide)) (by decide +kernel) (by decide +kernel)) (bnd_mono bv47 (by decide +kernel) (by decide +kernel))) (by decide +kernel) (by decide +kernel)) (bnd_mono bv47 (by decide +kernel) (by decide +kernel))))
 have bv80 : ¬ v80 < (0 : Int32) ∧ ¬ (255 : Int32) < v80 := by rw [hv80]; exact (bnd_ite (bnd_mono bv48 (by decide +kernel) (by decide +kernel)) (bnd_ite (bnd_mono (bnd_ite (lo := (0 : Int32)) (hi := (255 : Int32)) (bnd_mono (bnd_and ((i5.toUInt32 >>> ((8 : Int32) &&& 31).toUInt32).toInt32) (255 : Int32) (by decide)) (by decide +kernel) (by decide +kernel)) (bnd_mono bv48 (by decide +kernel) (by decide +kernel))) (by decide +kernel) (by decide +kernel)) (bnd_mono bv48 (by decide +kernel) (by decide +kernel))))
 have bv81 : ¬ v81 < (0 : Int32) ∧ ¬ (255 : Int32) < v81 := by rw [hv81]; exact (bnd_ite (bnd_mono bv49 (by decide +kernel) (by decide +kernel)) (bnd_ite (bnd_mono (bnd_ite (lo := (0 : Int32)) (hi := (255 : Int32)) (bnd_mono (bnd_and ((i5.toUInt32 >>> ((8 : Int32) &&& 31).toUInt32).toInt32) (255 : Int32) (by decide)) (by decide +kernel) (by decide +kernel)) (bnd_mono bv49 (by decide +kernel) (by decide +kernel))) (by decide +kernel) (by decide +kernel)) (bnd_mono bv49 (by decide +kernel) (by decide +kernel))))
 have bv82 : ¬ v82 < (0 : Int32) ∧ ¬ (255 : Int32) < v82 := by rw [hv82]; exact (bnd_ite (bnd_mono bv50 (by decide +kernel) (by decide +kernel)) (bnd_ite (bnd_mono (bnd_ite (lo := (0 : Int32)) (hi := (255 : Int32)) (bnd_mono (bnd_and ((i5.toUInt32 >>> ((8 : Int32) &&& 31).toUInt32).toInt32) (255 : Int32) (by decide)) (by decide +kernel) (by decide +kernel)) (bnd_mono bv50 (by decide +kernel) (by decide +kernel))) (by decide +kernel) (by decide +kernel)) (bnd_mono bv50 (by decide +kernel) (by decide +kernel))))
 have bv83 : ¬ v83 < (0 : Int32) ∧ ¬ (255 : Int32) < v83 := by rw [hv83]; exact (bnd_ite (bnd_mono bv51 (by decide +kernel) (by decide +kernel)) (bnd_ite (bnd_mono (bnd_ite (lo := (0 : Int32)) (hi := (255 : Int32)) (bnd_mono (bnd_and ((i5.toUInt32 >>> ((8 : Int32) &&& 31).toUInt32).toInt32) (255 : Int32) (by decide)) (by decide +kernel) (by decide +kernel)) (bnd_mono bv51 (by decide +kernel) (by decide +kernel))) (by decide +kernel) (by decide +kernel)) (bnd_mono bv51 (by decide +kernel) (by decide +kernel))))
 have bv84 : ¬ v84 < (0 : Int32) ∧ ¬ (255 : Int32) < v84 := by rw [hv84]; exact (bnd_ite (bnd_mono bv52 (by decide +kernel) (by decide +kernel)) (bnd_ite (bnd_mono (bnd_ite (lo := (0 : Int32)) (hi := (255 : Int32)) (bnd_mono (bnd_and ((i5.toUInt32 >>> ((8 : Int32) &&& 31).toUInt32).toInt32) (255 : Int32) (by decide)) (by decide +kernel) (by decide +kernel)) (bnd_mono bv52 (by decide +kernel) (by decide +kernel))) (by decide +kernel) (by decide +kernel)) (bnd_mono bv52 (by decide +kernel) (by decide +kernel))))
 have bv85 : ¬ v85 < (0 : Int32) ∧ ¬ (255 : Int32) < v85 := by rw [hv85]; exact (bnd_ite (bnd_mono (bnd_and ((i4.toUInt32 >>> ((8 : Int32) &&& 31).toUInt32).toInt32) (255 : Int32) (by decide)) (by decide +kernel) (by decide +kernel)) (bnd_ite (bnd_mono (bnd_ite (lo := (0 : Int32)) (hi := (255 : Int32)) (bnd_mono (bnd_and ((i5.toUInt32 >>> ((8 : Int32) &&& 31).toUInt32).toInt32) (255 : Int32) (by decide)) (by decide +kernel) (by decide +kernel)) (bnd_mono (bnd_and ((i4.toUInt32 >>> ((8 : Int32) &&& 31).toUInt32).toInt32) (255 : Int32) (by decide)) (by decide +kernel) (by decide +kernel))) (by decide +kernel) (by decide +kernel)) (bnd_mono (bnd_and ((i4.toUInt32 >>> ((8 : Int32) &&& 31).toUInt32).toInt32) (255 : Int32) (by decide)) (by decide +kernel) (by decide +kernel))))
 show Home TJ76 (mkF m 327 #[.val (.int i0), .val (.int i1), .val (.int i2), .val (.int i3), .val (.int i4), .val (.int i5), .val (.ref b1), .val (.int v10), .val (.int v15), .val (.int v20), .val (.int v25), .val (.int v68), v77, .unset, .unset] [])
 refine Home.run XJ76 hx hby sg0_327_2 (pc' := 331) (L' := #[.val (.int i0), .val (.int i1), .val (.int i2), .val (.int i3), .val (.int i4), .val (.int i5), .val (.ref b1), .val (.int v10), .val (.int v15), .val (.int v20), .val (.int v25), .val (.int v68), v77, .unset, .unset]) (S' := [(.int v68), (.ref b1)]) rfl ?_
 by_cases c86 : (0 : Int32) < v68
 ·
  have bd87 : ¬ v68 < (1 : Int32) ∧ ¬ (8 : Int32) < v68 := ⟨(bnd_up c86 (by decide +kernel)), bv68.2⟩
  by_cases c90 : v68 = (1 : Int32)
  ·
   have bd91 : ¬ v68 < (1 : Int32) ∧ ¬ (1 : Int32) < v68 := ⟨(bnd_eql c90), (bnd_eqr c90)⟩
   have fx92 : v68 = (1 : Int32) := bnd_fix bd91
   try rw [fx92]
   show Home TJ76 (mkF m 331 #[.val (.int i0), .val (.int i1), .val (.int i2), .val (.int i3), .val (.int i4), .val (.int i5), .val (.ref b1), .val (.int v10), .val (.int v15), .val (.int v20), .val (.int v25), .val (.int (1 : Int32)), v77, .unset, .unset] [(.int (1 : Int32)), (.ref b1)])
   refine Home.call (own_static XJ76 hx hZ hown (own_w1 hw) (own_w2 hw) (own_w3 hw) (own_w4 hw) (by decide) (rm1_0 l Z a0 hw [] b1 k1 v78 v79 v80 v81 v82 v83 v84 v85 sv_COMPACT_STRINGS hJ76 n0 OJ76 HJ76_0 bv78 S_COMPACT_STRINGS hCS) eJ76 rfl (by rw [hml]; rfl) (argsL := [(.ref b1), (.int (1 : Int32))]) (rest := []) (lenOf own_pd5 rfl) rfl rfl (W := 0) (by exact hW0) (by decide) (by decide) (hb hby at_331) (by decide) (by decide)) ?_
   rintro _ T94 L94 X94 ⟨b1_94, b1_3_2_9_94, k1_3_2_9_94, rfl, N94q, sz_b1_94, sz_b1_3_2_9_94, K94q, P94_0, P94_1, P94_2, P94_3⟩
   have Cd94 := Cold.keep CdJ76 K94q all0
   have Cd94b1_94 := Cold.put Cd94 ⟨Safe.keep K94q all0 CdJ76.2.1.1 (Safe.new sz_b1_94), P94_0.lt⟩
   have Cd94b1_3_2_9_94 := Cold.put Cd94b1_94 ⟨Safe.keep K94q all0 CdJ76.2.1.1 (Safe.new sz_b1_3_2_9_94), P94_3.lt⟩
   have g_b1_94 : n0 ≤ b1_94 := Nat.le_trans (Old.le OJ76) sz_b1_94
   have g_b1_3_2_9_94 : n0 ≤ b1_3_2_9_94 := Nat.le_trans (Old.le OJ76) sz_b1_3_2_9_94
   have O94 := Old.keep OJ76 K94q all0
   have K94 : Keep h0 T94.heap ([] : List Addr) := Keep.trans KJ76 K94q all0
   have N94 := Fr.app NJ76 N94q
   show Home T94 (mkF m 334 #[.val (.int i0), .val (.int i1), .val (.int i2), .val (.int i3), .val (.int i4), .val (.int i5), .val (.ref b1), .val (.int v10), .val (.int v15), .val (.int v20), .val (.int v25), .val (.int (1 : Int32)), v77, .unset, .unset] [(.ref b1_94)])
   refine Home.go (fun _ => XS.astore X94.here hx rfl (hb hby at_334) rfl rfl (l' := #[.val (.int i0), .val (.int i1), .val (.int i2), .val (.int i3), .val (.int i4), .val (.int i5), .val (.ref b1), .val (.int v10), .val (.int v15), .val (.int v20), .val (.int v25), .val (.int (1 : Int32)), .val (.ref b1_94), .unset, .unset]) (XS.store1 rfl hv77 rfl)) ?_
   refine Home.run X94 hx hby sg0_336_1 (pc' := 338) (L' := #[.val (.int i0), .val (.int i1), .val (.int i2), .val (.int i3), .val (.int i4), .val (.int i5), .val (.ref b1), .val (.int v10), .val (.int v15), .val (.int v20), .val (.int v25), .val (.int (1 : Int32)), .val (.ref b1_94), .unset, .unset]) (S' := [(.ref b1_94)]) rfl ?_
   obtain ⟨ad95, b95, k95, T95, h95, X95, e95, E95, hZ, hown, Cd95, Ea95, Fc95, Fv95, V95, la95, lb95, hne95, st95⟩ := own_ldcW X94 hx hZ hown (own_hEL hw) Cd94b1_3_2_9_94 (own_w34 hw) (own_wS hw) rfl (List.mem_of_getElem? (i := 0) rfl) (vs := [(.int (109 : Int32)), (.int (111 : Int32)), (.int (110 : Int32)), (.int (116 : Int32)), (.int (104 : Int32))]) (z := (5 : Int32)) ⟨by decide, by rfl⟩ (by decide) (by decide) (g := (mkF m 338 #[.val (.int i0), .val (.int i1), .val (.int i2), .val (.int i3), .val (.int i4), .val (.int i5), .val (.ref b1), .val (.int v10), .val (.int v15), .val (.int v20), .val (.int v25), .val (.int (1 : Int32)), .val (.ref b1_94), .unset, .unset] [(.ref b1_94)])) rfl (hb hby at_338) (n := 20) (by decide) (by decide) (by decide) (by decide)
   refine Home.go st95 ?_
   have O95 := O94.ext E95
   have K95 : Keep h0 h95 ([] : List Addr) := Keep.ext K94 E95
   have q96 := (P94_0.ext E95)
   have q97 := (P94_1.ext E95)
   have q98 := (P94_2.ext E95)
   have q99 := (P94_3.ext E95)
   have ne100 : b1_94 ≠ ad95 := (hne95 _ (List.mem_of_getElem? (i := 1) rfl)).1
   refine Home.st (own_pure (own_virtual X95 hx hZ hown (own_w37 hw) (own_w38 hw) (notFace_of_selects (args := #[]) (mvT hZ (own_w40 hw))) (own_w40 hw) (own_w39 hw) (own_w7 hw) (own_w41 hw) (by decide) (rm8_0 l Z a0 hw [] b1_94 ad95 b1_3_2_9_94 k1_3_2_9_94 (1 : Int32) [(.int (v78.toInt8.toInt32))] b95 k95 (5 : Int32) [(.int (109 : Int32)), (.int (111 : Int32)), (.int (110 : Int32)), (.int (116 : Int32)), (.int (104 : Int32))] sv_COMPACT_STRINGS h95 n0 O95 q99 V95 (by decide) q96 Ea95 ne100 S_COMPACT_STRINGS hCS q97 Fc95 q98 Fv95) e95 q96 rfl (by rw [hml]; rfl) (argsL := [(.ref ad95)]) (rest := []) (lenOf own_pd7 rfl) rfl rfl (W := 0) (by exact hW0) (by decide) (by decide) (hb hby at_340) (by decide) (by decide))) fun T101 X101 e101 => ?_
   show Home T101 (mkF m 343 #[.val (.int i0), .val (.int i1), .val (.int i2), .val (.int i3), .val (.int i4), .val (.int i5), .val (.ref b1), .val (.int v10), .val (.int v15), .val (.int v20), .val (.int v25), .val (.int (1 : Int32)), .val (.ref b1_94), .unset, .unset] [(.int (0 : Int32))])
   refine Home.go (fun _ => XS.ifYes X101.here hx rfl (pc0 := 343) (pc' := 354) rfl (hb hby at_343) rfl ((if0 _ _).trans (teq (by decide)).1) (by decide) (by decide)) ?_
   refine Home.run X101 hx hby sg0_354_1 (pc' := 356) (L' := #[.val (.int i0), .val (.int i1), .val (.int i2), .val (.int i3), .val (.int i4), .val (.int i5), .val (.ref b1), .val (.int v10), .val (.int v15), .val (.int v20), .val (.int v25), .val (.int (1 : Int32)), .val (.ref b1_94), .unset, .unset]) (S' := [(.ref b1_94)]) rfl ?_
   obtain ⟨ad102, b102, k102, T102, h102, X102, e102, E102, hZ, hown, Cd102, Ea102, Fc102, Fv102, V102, la102, lb102, hne102, st102⟩ := own_ldcW X101 hx hZ hown (own_hEL hw) Cd95 (own_w72 hw) (own_wS hw) e101 (List.mem_of_getElem? (i := 1) rfl) (vs := [(.int (113 : Int32)), (.int (117 : Int32)), (.int (97 : Int32)), (.int (114 : Int32)), (.int (116 : Int32)), (.int (101 : Int32)), (.int (114 : Int32))]) (z := (7 : Int32)) ⟨by decide, by rfl⟩ (by decide) (by decide) (g := (mkF m 356 #[.val (.int i0), .val (.int i1), .val (.int i2), .val (.int i3), .val (.int i4), .val (.int i5), .val (.ref b1), .val (.int v10), .val (.int v15), .val (.int v20), .val (.int v25), .val (.int (1 : Int32)), .val (.ref b1_94), .unset, .unset] [(.ref b1_94)])) rfl (hb hby at_356) (n := 28) (by decide) (by decide) (by decide) (by decide)
   refine Home.go st102 ?_
   have O102 := O95.ext E102
   have K102 : Keep h0 h102 ([] : List Addr) := Keep.ext K95 E102
   have q103 := (q96.ext E102)
   have q104 := (q97.ext E102)
   have q105 := (q98.ext E102)
   have q106 := (q99.ext E102)
   have ne107 : b1_94 ≠ ad102 := (hne102 _ (List.mem_of_getElem? (i := 1) rfl)).1
   refine Home.st (own_pure (own_virtual X102 hx hZ hown (own_w37 hw) (own_w38 hw) (notFace_of_selects (args := #[]) (mvT hZ (own_w40 hw))) (own_w40 hw) (own_w39 hw) (own_w7 hw) (own_w41 hw) (by decide) (rm8_0 l Z a0 hw [] b1_94 ad102 b1_3_2_9_94 k1_3_2_9_94 (1 : Int32) [(.int (v78.toInt8.toInt32))] b102 k102 (7 : Int32) [(.int (113 : Int32)), (.int (117 : Int32)), (.int (97 : Int32)), (.int (114 : Int32)), (.int (116 : Int32)), (.int (101 : Int32)), (.int (114 : Int32))] sv_COMPACT_STRINGS h102 n0 O102 q106 V102 (by decide) q103 Ea102 ne107 S_COMPACT_STRINGS hCS q104 Fc102 q105 Fv102) e102 q103 rfl (by rw [hml]; rfl) (argsL := [(.ref ad102)]) (rest := []) (lenOf own_pd7 rfl) rfl rfl (W := 0) (by exact hW0) (by decide) (by decide) (hb hby at_358) (by decide) (by decide))) fun T108 X108 e108 => ?_
   show Home T108 (mkF m 361 #[.val (.int i0), .val (.int i1), .val (.int i2), .val (.int i3), .val (.int i4), .val (.int i5), .val (.ref b1), .val (.int v10), .val (.int v15), .val (.int v20), .val (.int v25), .val (.int (1 : Int32)), .val (.ref b1_94), .unset, .unset] [(.int (0 : Int32))])
   refine Home.go (fun _ => XS.ifYes X108.here hx rfl (pc0 := 361) (pc' := 372) rfl (hb hby at_361) rfl ((if0 _ _).trans (teq (by decide)).1) (by decide) (by decide)) ?_
   refine Home.run X108 hx hby sg0_372_3 (pc' := 377) (L' := #[.val (.int i0), .val (.int i1), .val (.int i2), .val (.int i3), .val (.int i4), .val (.int i5), .val (.ref b1), .val (.int v10), .val (.int v15), .val (.int v20), .val (.int v25), .val (.int (1 : Int32)), .val (.ref b1_94), .val .null, .unset]) (S' := [(.ref b1_94)]) rfl ?_
   refine Home.call (own_static X108 hx hZ hown (own_w50 hw) (own_w51 hw) (own_w48 hw) (own_w52 hw) (by decide) (rm10_0 l Z a0 hw [] b1_94 b1_3_2_9_94 k1_3_2_9_94 (1 : Int32) [(.int (v78.toInt8.toInt32))] sv__VALUES k_sv__VALUES sv_MONTH sv_QUARTER sv_MONTH_id sv_COMPACT_STRINGS sv_MONTH_id_value k_sv_MONTH_id_value sv_QUARTER_id sv_QUARTER_id_value k_sv_QUARTER_id_value h102 n0 O102 q106 (by decide) (by decide) S__VALUES V_sv__VALUES E_sv__VALUES F_id_sv_MONTH E_sv_MONTH_id q103 S_COMPACT_STRINGS F_coder_sv_MONTH_id q104 F_value_sv_MONTH_id V_sv_MONTH_id_value q105 g_b1_94 hCS F_id_sv_QUARTER E_sv_QUARTER_id F_coder_sv_QUARTER_id F_value_sv_QUARTER_id V_sv_QUARTER_id_value) e108 rfl (by rw [hml]; rfl) (argsL := [(.ref b1_94)]) (rest := []) (lenOf own_pd9 rfl) rfl rfl (W := 0) (by exact hW0) (by decide) (by decide) (hb hby at_377) (by decide) (by decide)) ?_
   rintro _ T109 L109 X109 ⟨rfl, N109q, K109q⟩
   have Cd109 := Cold.keep Cd102 K109q all0
   have O109 := Old.keep O102 K109q all0
   have K109 : Keep h0 T109.heap ([] : List Addr) := Keep.trans K102 K109q all0
   have N109 := Fr.app N94 N109q
   show Home T109 (mkF m 380 #[.val (.int i0), .val (.int i1), .val (.int i2), .val (.int i3), .val (.int i4), .val (.int i5), .val (.ref b1), .val (.int v10), .val (.int v15), .val (.int v20), .val (.int v25), .val (.int (1 : Int32)), .val (.ref b1_94), .val .null, .unset] [.null])
   refine Home.run X109 hx hby sg0_380_3 (pc' := 386) (L' := #[.val (.int i0), .val (.int i1), .val (.int i2), .val (.int i3), .val (.int i4), .val (.int i5), .val (.ref b1), .val (.int v10), .val (.int v15), .val (.int v20), .val (.int v25), .val (.int (1 : Int32)), .val (.ref b1_94), .val .null, .val .null]) (S' := [.null, .null]) rfl ?_
   refine Home.go (fun _ => Jvm.RoadKit.acmp X109 hx rfl rfl rfl (pc0 := 386) (pc' := 389) (same := true) rfl (hb hby at_386) rfl (decide_eq_true rfl) (by decide) (by decide)) ?_
   show Home T109 (mkF m 389 #[.val (.int i0), .val (.int i1), .val (.int i2), .val (.int i3), .val (.int i4), .val (.int i5), .val (.ref b1), .val (.int v10), .val (.int v15), .val (.int v20), .val (.int v25), .val (.int (1 : Int32)), .val (.ref b1_94), .val .null, .val .null] [])
   refine Home.run X109 hx hby sg0_389_2 (pc' := 394) (L' := #[.val (.int i0), .val (.int i1), .val (.int i2), .val (.int i3), .val (.int i4), .val (.int i5), .val (.ref b1), .val (.int v10), .val (.int v15), .val (.int v20), .val (.int v25), .val (.int (1 : Int32)), .val (.ref b1_94), .val .null, .val .null]) (S' := [(.int (1 : Int32))]) rfl ?_
   exact HomeW.retN X109 hx hlk hZ (own_hEL hw) rfl Cd109 (t := .boolean) hret (by simp) (hb hby at_394) ⟨rfl, N109⟩ (by decide) (by decide)
  ·
   have bd93 : ¬ v68 < (2 : Int32) ∧ ¬ (8 : Int32) < v68 := ⟨(bnd_nel bd87.1 c90 (by decide +kernel)), bd87.2⟩
   by_cases c110 : v68 = (2 : Int32)
   ·
    have bd111 : ¬ v68 < (2 : Int32) ∧ ¬ (2 : Int32) < v68 := ⟨(bnd_eql c110), (bnd_eqr c110)⟩
    have fx112 : v68 = (2 : Int32) := bnd_fix bd111
    try rw [fx112]
    show Home TJ76 (mkF m 331 #[.val (.int i0), .val (.int i1), .val (.int i2), .val (.int i3), .val (.int i4), .val (.int i5), .val (.ref b1), .val (.int v10), .val (.int v15), .val (.int v20), .val (.int v25), .val (.int (2 : Int32)), v77, .unset, .unset] [(.int (2 : Int32)), (.ref b1)])
    refine Home.call (own_static XJ76 hx hZ hown (own_w1 hw) (own_w2 hw) (own_w3 hw) (own_w4 hw) (by decide) (rm1_1 l Z a0 hw [] b1 k1 v78 v79 v80 v81 v82 v83 v84 v85 sv_COMPACT_STRINGS hJ76 n0 OJ76 HJ76_0 bv78 bv79 S_COMPACT_STRINGS hCS) eJ76 rfl (by rw [hml]; rfl) (argsL := [(.ref b1), (.int (2 : Int32))]) (rest := []) (lenOf own_pd5 rfl) rfl rfl (W := 0) (by exact hW0) (by decide) (by decide) (hb hby at_331) (by decide) (by decide)) ?_
    rintro _ T114 L114 X114 ⟨b1_114, b1_3_2_11_114, k1_3_2_11_114, rfl, N114q, sz_b1_114, sz_b1_3_2_11_114, K114q, P114_0, P114_1, P114_2, P114_3⟩
    have Cd114 := Cold.keep CdJ76 K114q all0
    have Cd114b1_114 := Cold.put Cd114 ⟨Safe.keep K114q all0 CdJ76.2.1.1 (Safe.new sz_b1_114), P114_0.lt⟩
    have Cd114b1_3_2_11_114 := Cold.put Cd114b1_114 ⟨Safe.keep K114q all0 CdJ76.2.1.1 (Safe.new sz_b1_3_2_11_114), P114_3.lt⟩
    have g_b1_114 : n0 ≤ b1_114 := Nat.le_trans (Old.le OJ76) sz_b1_114
    have g_b1_3_2_11_114 : n0 ≤ b1_3_2_11_114 := Nat.le_trans (Old.le OJ76) sz_b1_3_2_11_114
    have O114 := Old.keep OJ76 K114q all0
    have K114 : Keep h0 T114.heap ([] : List Addr) := Keep.trans KJ76 K114q all0
    have N114 := Fr.app NJ76 N114q
    show Home T114 (mkF m 334 #[.val (.int i0), .val (.int i1), .val (.int i2), .val (.int i3), .val (.int i4), .val (.int i5), .val (.ref b1), .val (.int v10), .val (.int v15), .val (.int v20), .val (.int v25), .val (.int (2 : Int32)), v77, .unset, .unset] [(.ref b1_114)])
    refine Home.go (fun _ => XS.astore X114.here hx rfl (hb hby at_334) rfl rfl (l' := #[.val (.int i0), .val (.int i1), .val (.int i2), .val (.int i3), .val (.int i4), .val (.int i5), .val (.ref b1), .val (.int v10), .val (.int v15), .val (.int v20), .val (.int v25), .val (.int (2 : Int32)), .val (.ref b1_114), .unset, .unset]) (XS.store1 rfl hv77 rfl)) ?_
    refine Home.run X114 hx hby sg0_336_1 (pc' := 338) (L' := #[.val (.int i0), .val (.int i1), .val (.int i2), .val (.int i3), .val (.int i4), .val (.int i5), .val (.ref b1), .val (.int v10), .val (.int v15), .val (.int v20), .val (.int v25), .val (.int (2 : Int32)), .val (.ref b1_114), .unset, .unset]) (S' := [(.ref b1_114)]) rfl ?_
    obtain ⟨ad115, b115, k115, T115, h115, X115, e115, E115, hZ, hown, Cd115, Ea115, Fc115, Fv115, V115, la115, lb115, hne115, st115⟩ := own_ldcW X114 hx hZ hown (own_hEL hw) Cd114b1_3_2_11_114 (own_w34 hw) (own_wS hw) rfl (List.mem_of_getElem? (i := 0) rfl) (vs := [(.int (109 : Int32)), (.int (111 : Int32)), (.int (110 : Int32)), (.int (116 : Int32)), (.int (104 : Int32))]) (z := (5 : Int32)) ⟨by decide, by rfl⟩ (by decide) (by decide) (g := (mkF m 338 #[.val (.int i0), .val (.int i1), .val (.int i2), .val (.int i3), .val (.int i4), .val (.int i5), .val (.ref b1), .val (.int v10), .val (.int v15), .val (.int v20), .val (.int v25), .val (.int (2 : Int32)), .val (.ref b1_114), .unset, .unset] [(.ref b1_114)])) rfl (hb hby at_338) (n := 20) (by decide) (by decide) (by decide) (by decide)
    refine Home.go st115 ?_
    have O115 := O114.ext E115
    have K115 : Keep h0 h115 ([] : List Addr) := Keep.ext K114 E115
    have q116 := (P114_0.ext E115)
    have q117 := (P114_1.ext E115)
    have q118 := (P114_2.ext E115)
    have q119 := (P114_3.ext E115)
    have ne120 : b1_114 ≠ ad115 := (hne115 _ (List.mem_of_getElem? (i := 1) rfl)).1
    refine Home.st (own_pure (own_virtual X115 hx hZ hown (own_w37 hw) (own_w38 hw) (notFace_of_selects (args := #[]) (mvT hZ (own_w40 hw))) (own_w40 hw) (own_w39 hw) (own_w7 hw) (own_w41 hw) (by decide) (rm8_0 l Z a0 hw [] b1_114 ad115 b1_3_2_11_114 k1_3_2_11_114 (2 : Int32) [(.int (v78.toInt8.toInt32)), (.int (v79.toInt8.toInt32))] b115 k115 (5 : Int32) [(.int (109 : Int32)), (.int (111 : Int32)), (.int (110 : Int32)), (.int (116 : Int32)), (.int (104 : Int32))] sv_COMPACT_STRINGS h115 n0 O115 q119 V115 (by decide) q116 Ea115 ne120 S_COMPACT_STRINGS hCS q117 Fc115 q118 Fv115) e115 q116 rfl (by rw [hml]; rfl) (argsL := [(.ref ad115)]) (rest := []) (lenOf own_pd7 rfl) rfl rfl (W := 0) (by exact hW0) (by decide) (by decide) (hb hby at_340) (by decide) (by decide))) fun T121 X121 e121 => ?_
    show Home T121 (mkF m 343 #[.val (.int i0), .val (.int i1), .val (.int i2), .val (.int i3), .val (.int i4), .val (.int i5), .val (.ref b1), .val (.int v10), .val (.int v15), .val (.int v20), .val (.int v25), .val (.int (2 : Int32)), .val (.ref b1_114), .unset, .unset] [(.int (0 : Int32))])
    refine Home.go (fun _ => XS.ifYes X121.here hx rfl (pc0 := 343) (pc' := 354) rfl (hb hby at_343) rfl ((if0 _ _).trans (teq (by decide)).1) (by decide) (by decide)) ?_
    refine Home.run X121 hx hby sg0_354_1 (pc' := 356) (L' := #[.val (.int i0), .val (.int i1), .val (.int i2), .val (.int i3), .val (.int i4), .val (.int i5), .val (.ref b1), .val (.int v10), .val (.int v15), .val (.int v20), .val (.int v25), .val (.int (2 : Int32)), .val (.ref b1_114), .unset, .unset]) (S' := [(.ref b1_114)]) rfl ?_
    obtain ⟨ad122, b122, k122, T122, h122, X122, e122, E122, hZ, hown, Cd122, Ea122, Fc122, Fv122, V122, la122, lb122, hne122, st122⟩ := own_ldcW X121 hx hZ hown (own_hEL hw) Cd115 (own_w72 hw) (own_wS hw) e121 (List.mem_of_getElem? (i := 1) rfl) (vs := [(.int (113 : Int32)), (.int (117 : Int32)), (.int (97 : Int32)), (.int (114 : Int32)), (.int (116 : Int32)), (.int (101 : Int32)), (.int (114 : Int32))]) (z := (7 : Int32)) ⟨by decide, by rfl⟩ (by decide) (by decide) (g := (mkF m 356 #[.val (.int i0), .val (.int i1), .val (.int i2), .val (.int i3), .val (.int i4), .val (.int i5), .val (.ref b1), .val (.int v10), .val (.int v15), .val (.int v20), .val (.int v25), .val (.int (2 : Int32)), .val (.ref b1_114), .unset, .unset] [(.ref b1_114)])) rfl (hb hby at_356) (n := 28) (by decide) (by decide) (by decide) (by decide)
    refine Home.go st122 ?_
    have O122 := O115.ext E122
    have K122 : Keep h0 h122 ([] : List Addr) := Keep.ext K115 E122
    have q123 := (q116.ext E122)
    have q124 := (q117.ext E122)
    have q125 := (q118.ext E122)
    have q126 := (q119.ext E122)
    have ne127 : b1_114 ≠ ad122 := (hne122 _ (List.mem_of_getElem? (i := 1) rfl)).1
    refine Home.st (own_pure (own_virtual X122 hx hZ hown (own_w37 hw) (own_w38 hw) (notFace_of_selects (args := #[]) (mvT hZ (own_w40 hw))) (own_w40 hw) (own_w39 hw) (own_w7 hw) (own_w41 hw) (by decide) (rm8_0 l Z a0 hw [] b1_114 ad122 b1_3_2_11_114 k1_3_2_11_114 (2 : Int32) [(.int (v78.toInt8.toInt32)), (.int (v79.toInt8.toInt32))] b122 k122 (7 : Int32) [(.int (113 : Int32)), (.int (117 : Int32)), (.int (97 : Int32)), (.int (114 : Int32)), (.int (116 : Int32)), (.int (101 : Int32)), (.int (114 : Int32))] sv_COMPACT_STRINGS h122 n0 O122 q126 V122 (by decide) q123 Ea122 ne127 S_COMPACT_STRINGS hCS q124 Fc122 q125 Fv122) e122 q123 rfl (by rw [hml]; rfl) (argsL := [(.ref ad122)]) (rest := []) (lenOf own_pd7 rfl) rfl rfl (W := 0) (by exact hW0) (by decide) (by decide) (hb hby at_358) (by decide) (by decide))) fun T128 X128 e128 => ?_
    show Home T128 (mkF m 361 #[.val (.int i0), .val (.int i1), .val (.int i2), .val (.int i3), .val (.int i4), .val (.int i5), .val (.ref b1), .val (.int v10), .val (.int v15), .val (.int v20), .val (.int v25), .val (.int (2 : Int32)), .val (.ref b1_114), .unset, .unset] [(.int (0 : Int32))])
    refine Home.go (fun _ => XS.ifYes X128.here hx rfl (pc0 := 361) (pc' := 372) rfl (hb hby at_361) rfl ((if0 _ _).trans (teq (by decide)).1) (by decide) (by decide)) ?_
    refine Home.run X128 hx hby sg0_372_3 (pc' := 377) (L' := #[.val (.int i0), .val (.int i1), .val (.int i2), .val (.int i3), .val (.int i4), .val (.int i5), .val (.ref b1), .val (.int v10), .val (.int v15), .val (.int v20), .val (.int v25), .val (.int (2 : Int32)), .val (.ref b1_114), .val .null, .unset]) (S' := [(.ref b1_114)]) rfl ?_
    refine Home.call (own_static X128 hx hZ hown (own_w50 hw) (own_w51 hw) (own_w48 hw) (own_w52 hw) (by decide) (rm10_0 l Z a0 hw [] b1_114 b1_3_2_11_114 k1_3_2_11_114 (2 : Int32) [(.int (v78.toInt8.toInt32)), (.int (v79.toInt8.toInt32))] sv__VALUES k_sv__VALUES sv_MONTH sv_QUARTER sv_MONTH_id sv_COMPACT_STRINGS sv_MONTH_id_value k_sv_MONTH_id_value sv_QUARTER_id sv_QUARTER_id_value k_sv_QUARTER_id_value h122 n0 O122 q126 (by decide) (by decide) S__VALUES V_sv__VALUES E_sv__VALUES F_id_sv_MONTH E_sv_MONTH_id q123 S_COMPACT_STRINGS F_coder_sv_MONTH_id q124 F_value_sv_MONTH_id V_sv_MONTH_id_value q125 g_b1_114 hCS F_id_sv_QUARTER E_sv_QUARTER_id F_coder_sv_QUARTER_id F_value_sv_QUARTER_id V_sv_QUARTER_id_value) e128 rfl (by rw [hml]; rfl) (argsL := [(.ref b1_114)]) (rest := []) (lenOf own_pd9 rfl) rfl rfl (W := 0) (by exact hW0) (by decide) (by decide) (hb hby at_377) (by decide) (by decide)) ?_
    rintro _ T129 L129 X129 ⟨rfl, N129q, K129q⟩
    have Cd129 := Cold.keep Cd122 K129q all0
    have O129 := Old.keep O122 K129q all0
    have K129 : Keep h0 T129.heap ([] : List Addr) := Keep.trans K122 K129q all0
    have N129 := Fr.app N114 N129q
    show Home T129 (mkF m 380 #[.val (.int i0), .val (.int i1), .val (.int i2), .val (.int i3), .val (.int i4), .val (.int i5), .val (.ref b1), .val (.int v10), .val (.int v15), .val (.int v20), .val (.int v25), .val (.int (2 : Int32)), .val (.ref b1_114), .val .null, .unset] [.null])
    refine Home.run X129 hx hby sg0_380_3 (pc' := 386) (L' := #[.val (.int i0), .val (.int i1), .val (.int i2), .val (.int i3), .val (.int i4), .val (.int i5), .val (.ref b1), .val (.int v10), .val (.int v15), .val (.int v20), .val (.int v25), .val (.int (2 : Int32)), .val (.ref b1_114), .val .null, .val .null]) (S' := [.null, .null]) rfl ?_
    refine Home.go (fun _ => Jvm.RoadKit.acmp X129 hx rfl rfl rfl (pc0 := 386) (pc' := 389) (same := true) rfl (hb hby at_386) rfl (decide_eq_true rfl) (by decide) (by decide)) ?_
    show Home T129 (mkF m 389 #[.val (.int i0), .val (.int i1), .val (.int i2), .val (.int i3), .val (.int i4), .val (.int i5), .val (.ref b1), .val (.int v10), .val (.int v15), .val (.int v20), .val (.int v25), .val (.int (2 : Int32)), .val (.ref b1_114), .val .null, .val .null] [])
    refine Home.run X129 hx hby sg0_389_2 (pc' := 394) (L' := #[.val (.int i0), .val (.int i1), .val (.int i2), .val (.int i3), .val (.int i4), .val (.int i5), .val (.ref b1), .val (.int v10), .val (.int v15), .val (.int v20), .val (.int v25), .val (.int (2 : Int32)), .val (.ref b1_114), .val .null, .val .null]) (S' := [(.int (1 : Int32))]) rfl ?_
    exact HomeW.retN X129 hx hlk hZ (own_hEL hw) rfl Cd129 (t := .boolean) hret (by simp) (hb hby at_394) ⟨rfl, N129⟩ (by decide) (by decide)
   ·
    have bd113 : ¬ v68 < (3 : Int32) ∧ ¬ (8 : Int32) < v68 := ⟨(bnd_nel bd93.1 c110 (by decide +kernel)), bd93.2⟩
    by_cases c130 : v68 = (3 : Int32)
    ·
     have bd131 : ¬ v68 < (3 : Int32) ∧ ¬ (3 : Int32) < v68 := ⟨(bnd_eql c130), (bnd_eqr c130)⟩
     have fx132 : v68 = (3 : Int32) := bnd_fix bd131
     try rw [fx132]
     show Home TJ76 (mkF m 331 #[.val (.int i0), .val (.int i1), .val (.int i2), .val (.int i3), .val (.int i4), .val (.int i5), .val (.ref b1), .val (.int v10), .val (.int v15), .val (.int v20), .val (.int v25), .val (.int (3 : Int32)), v77, .unset, .unset] [(.int (3 : Int32)), (.ref b1)])
     refine Home.call (own_static XJ76 hx hZ hown (own_w1 hw) (own_w2 hw) (own_w3 hw) (own_w4 hw) (by decide) (rm1_2 l Z a0 hw [] b1 k1 v78 v79 v80 v81 v82 v83 v84 v85 sv_COMPACT_STRINGS hJ76 n0 OJ76 HJ76_0 bv78 bv79 bv80 S_COMPACT_STRINGS hCS) eJ76 rfl (by rw [hml]; rfl) (argsL := [(.ref b1), (.int (3 : Int32))]) (rest := []) (lenOf own_pd5 rfl) rfl rfl (W := 0) (by exact hW0) (by decide) (by decide) (hb hby at_331) (by decide) (by decide)) ?_
     rintro _ T134 L134 X134 ⟨b1_134, b1_3_2_13_134, k1_3_2_13_134, rfl, N134q, sz_b1_134, sz_b1_3_2_13_134, K134q, P134_0, P134_1, P134_2, P134_3⟩
     have Cd134 := Cold.keep CdJ76 K134q all0
     have Cd134b1_134 := Cold.put Cd134 ⟨Safe.keep K134q all0 CdJ76.2.1.1 (Safe.new sz_b1_134), P134_0.lt⟩
     have Cd134b1_3_2_13_134 := Cold.put Cd134b1_134 ⟨Safe.keep K134q all0 CdJ76.2.1.1 (Safe.new sz_b1_3_2_13_134), P134_3.lt⟩
     have g_b1_134 : n0 ≤ b1_134 := Nat.le_trans (Old.le OJ76) sz_b1_134
     have g_b1_3_2_13_134 : n0 ≤ b1_3_2_13_134 := Nat.le_trans (Old.le OJ76) sz_b1_3_2_13_134
     have O134 := Old.keep OJ76 K134q all0
     have K134 : Keep h0 T134.heap ([] : List Addr) := Keep.trans KJ76 K134q all0
     have N134 := Fr.app NJ76 N134q
     show Home T134 (mkF m 334 #[.val (.int i0), .val (.int i1), .val (.int i2), .val (.int i3), .val (.int i4), .val (.int i5), .val (.ref b1), .val (.int v10), .val (.int v15), .val (.int v20), .val (.int v25), .val (.int (3 : Int32)), v77, .unset, .unset] [(.ref b1_134)])
     refine Home.go (fun _ => XS.astore X134.here hx rfl (hb hby at_334) rfl rfl (l' := #[.val (.int i0), .val (.int i1), .val (.int i2), .val (.int i3), .val (.int i4), .val (.int i5), .val (.ref b1), .val (.int v10), .val (.int v15), .val (.int v20), .val (.int v25), .val (.int (3 : Int32)), .val (.ref b1_134), .unset, .unset]) (XS.store1 rfl hv77 rfl)) ?_
     refine Home.run X134 hx hby sg0_336_1 (pc' := 338) (L' := #[.val (.int i0), .val (.int i1), .val (.int i2), .val (.int i3), .val (.int i4), .val (.int i5), .val (.ref b1), .val (.int v10), .val (.int v15), .val (.int v20), .val (.int v25), .val (.int (3 : Int32)), .val (.ref b1_134), .unset, .unset]) (S' := [(.ref b1_134)]) rfl ?_
     obtain ⟨ad135, b135, k135, T135, h135, X135, e135, E135, hZ, hown, Cd135, Ea135, Fc135, Fv135, V135, la135, lb135, hne135, st135⟩ := own_ldcW X134 hx hZ hown (own_hEL hw) Cd134b1_3_2_13_134 (own_w34 hw) (own_wS hw) rfl (List.mem_of_getElem? (i := 0) rfl) (vs := [(.int (109 : Int32)), (.int (111 : Int32)), (.int (110 : Int32)), (.int (116 : Int32)), (.int (104 : Int32))]) (z := (5 : Int32)) ⟨by decide, by rfl⟩ (by decide) (by decide) (g := (mkF m 338 #[.val (.int i0), .val (.int i1), .val (.int i2), .val (.int i3), .val (.int i4), .val (.int i5), .val (.ref b1), .val (.int v10), .val (.int v15), .val (.int v20), .val (.int v25), .val (.int (3 : Int32)), .val (.ref b1_134), .unset, .unset] [(.ref b1_134)])) rfl (hb hby at_338) (n := 20) (by decide) (by decide) (by decide) (by decide)
     refine Home.go st135 ?_
     have O135 := O134.ext E135
     have K135 : Keep h0 h135 ([] : List Addr) := Keep.ext K134 E135
     have q136 := (P134_0.ext E135)
     have q137 := (P134_1.ext E135)
     have q138 := (P134_2.ext E135)
     have q139 := (P134_3.ext E135)
     have ne140 : b1_134 ≠ ad135 := (hne135 _ (List.mem_of_getElem? (i := 1) rfl)).1
     refine Home.st (own_pure (own_virtual X135 hx hZ hown (own_w37 hw) (own_w38 hw) (notFace_of_selects (args := #[]) (mvT hZ (own_w40 hw))) (own_w40 hw) (own_w39 hw) (own_w7 hw) (own_w41 hw) (by decide) (rm8_0 l Z a0 hw [] b1_134 ad135 b1_3_2_13_134 k1_3_2_13_134 (3 : Int32) [(.int (v78.toInt8.toInt32)), (.int (v79.toInt8.toInt32)), (.int (v80.toInt8.toInt32))] b135 k135 (5 : Int32) [(.int (109 : Int32)), (.int (111 : Int32)), (.int (110 : Int32)), (.int (116 : Int32)), (.int (104 : Int32))] sv_COMPACT_STRINGS h135 n0 O135 q139 V135 (by decide) q136 Ea135 ne140 S_COMPACT_STRINGS hCS q137 Fc135 q138 Fv135) e135 q136 rfl (by rw [hml]; rfl) (argsL := [(.ref ad135)]) (rest := []) (lenOf own_pd7 rfl) rfl rfl (W := 0) (by exact hW0) (by decide) (by decide) (hb hby at_340) (by decide) (by decide))) fun T141 X141 e141 => ?_
     show Home T141 (mkF m 343 #[.val (.int i0), .val (.int i1), .val (.int i2), .val (.int i3), .val (.int i4), .val (.int i5), .val (.ref b1), .val (.int v10), .val (.int v15), .val (.int v20), .val (.int v25), .val (.int (3 : Int32)), .val (.ref b1_134), .unset, .unset] [(.int (0 : Int32))])
     refine Home.go (fun _ => XS.ifYes X141.here hx rfl (pc0 := 343) (pc' := 354) rfl (hb hby at_343) rfl ((if0 _ _).trans (teq (by decide)).1) (by decide) (by decide)) ?_
     refine Home.run X141 hx hby sg0_354_1 (pc' := 356) (L' := #[.val (.int i0), .val (.int i1), .val (.int i2), .val (.int i3), .val (.int i4), .val (.int i5), .val (.ref b1), .val (.int v10), .val (.int v15), .val (.int v20), .val (.int v25), .val (.int (3 : Int32)), .val (.ref b1_134), .unset, .unset]) (S' := [(.ref b1_134)]) rfl ?_
     obtain ⟨ad142, b142, k142, T142, h142, X142, e142, E142, hZ, hown, Cd142, Ea142, Fc142, Fv142, V142, la142, lb142, hne142, st142⟩ := own_ldcW X141 hx hZ hown (own_hEL hw) Cd135 (own_w72 hw) (own_wS hw) e141 (List.mem_of_getElem? (i := 1) rfl) (vs := [(.int (113 : Int32)), (.int (117 : Int32)), (.int (97 : Int32)), (.int (114 : Int32)), (.int (116 : Int32)), (.int (101 : Int32)), (.int (114 : Int32))]) (z := (7 : Int32)) ⟨by decide, by rfl⟩ (by decide) (by decide) (g := (mkF m 356 #[.val (.int i0), .val (.int i1), .val (.int i2), .val (.int i3), .val (.int i4), .val (.int i5), .val (.ref b1), .val (.int v10), .val (.int v15), .val (.int v20), .val (.int v25), .val (.int (3 : Int32)), .val (.ref b1_134), .unset, .unset] [(.ref b1_134)])) rfl (hb hby at_356) (n := 28) (by decide) (by decide) (by decide) (by decide)
     refine Home.go st142 ?_
     have O142 := O135.ext E142
     have K142 : Keep h0 h142 ([] : List Addr) := Keep.ext K135 E142
     have q143 := (q136.ext E142)
     have q144 := (q137.ext E142)
     have q145 := (q138.ext E142)
     have q146 := (q139.ext E142)
     have ne147 : b1_134 ≠ ad142 := (hne142 _ (List.mem_of_getElem? (i := 1) rfl)).1
     refine Home.st (own_pure (own_virtual X142 hx hZ hown (own_w37 hw) (own_w38 hw) (notFace_of_selects (args := #[]) (mvT hZ (own_w40 hw))) (own_w40 hw) (own_w39 hw) (own_w7 hw) (own_w41 hw) (by decide) (rm8_0 l Z a0 hw [] b1_134 ad142 b1_3_2_13_134 k1_3_2_13_134 (3 : Int32) [(.int (v78.toInt8.toInt32)), (.int (v79.toInt8.toInt32)), (.int (v80.toInt8.toInt32))] b142 k142 (7 : Int32) [(.int (113 : Int32)), (.int (117 : Int32)), (.int (97 : Int32)), (.int (114 : Int32)), (.int (116 : Int32)), (.int (101 : Int32)), (.int (114 : Int32))] sv_COMPACT_STRINGS h142 n0 O142 q146 V142 (by decide) q143 Ea142 ne147 S_COMPACT_STRINGS hCS q144 Fc142 q145 Fv142) e142 q143 rfl (by rw [hml]; rfl) (argsL := [(.ref ad142)]) (rest := []) (lenOf own_pd7 rfl) rfl rfl (W := 0) (by exact hW0) (by decide) (by decide) (hb hby at_358) (by decide) (by decide))) fun T148 X148 e148 => ?_
     show Home T148 (mkF m 361 #[.val (.int i0), .val (.int i1), .val (.int i2), .val (.int i3), .val (.int i4), .val (.int i5), .val (.ref b1), .val (.int v10), .val (.int v15), .val (.int v20), .val (.int v25), .val (.int (3 : Int32)), .val (.ref b1_134), .unset, .unset] [(.int (0 : Int32))])
     refine Home.go (fun _ => XS.ifYes X148.here hx rfl (pc0 := 361) (pc' := 372) rfl (hb hby at_361) rfl ((if0 _ _).trans (teq (by decide)).1) (by decide) (by decide)) ?_
     refine Home.run X148 hx hby sg0_372_3 (pc' := 377) (L' := #[.val (.int i0), .val (.int i1), .val (.int i2), .val (.int i3), .val (.int i4), .val (.int i5), .val (.ref b1), .val (.int v10), .val (.int v15), .val (.int v20), .val (.int v25), .val (.int (3 : Int32)), .val (.ref b1_134), .val .null, .unset]) (S' := [(.ref b1_134)]) rfl ?_
     refine Home.call (own_static X148 hx hZ hown (own_w50 hw) (own_w51 hw) (own_w48 hw) (own_w52 hw) (by decide) (rm10_0 l Z a0 hw [] b1_134 b1_3_2_13_134 k1_3_2_13_134 (3 : Int32) [(.int (v78.toInt8.toInt32)), (.int (v79.toInt8.toInt32)), (.int (v80.toInt8.toInt32))] sv__VALUES k_sv__VALUES sv_MONTH sv_QUARTER sv_MONTH_id sv_COMPACT_STRINGS sv_MONTH_id_value k_sv_MONTH_id_value sv_QUARTER_id sv_QUARTER_id_value k_sv_QUARTER_id_value h142 n0 O142 q146 (by decide) (by decide) S__VALUES V_sv__VALUES E_sv__VALUES F_id_sv_MONTH E_sv_MONTH_id q143 S_COMPACT_STRINGS F_coder_sv_MONTH_id q144 F_value_sv_MONTH_id V_sv_MONTH_id_value q145 g_b1_134 hCS F_id_sv_QUARTER E_sv_QUARTER_id F_coder_sv_QUARTER_id F_value_sv_QUARTER_id V_sv_QUARTER_id_value) e148 rfl (by rw [hml]; rfl) (argsL := [(.ref b1_134)]) (rest := []) (lenOf own_pd9 rfl) rfl rfl (W := 0) (by exact hW0) (by decide) (by decide) (hb hby at_377) (by decide) (by decide)) ?_
     rintro _ T149 L149 X149 ⟨rfl, N149q, K149q⟩
     have Cd149 := Cold.keep Cd142 K149q all0
     have O149 := Old.keep O142 K149q all0
     have K149 : Keep h0 T149.heap ([] : List Addr) := Keep.trans K142 K149q all0
     have N149 := Fr.app N134 N149q
     show Home T149 (mkF m 380 #[.val (.int i0), .val (.int i1), .val (.int i2), .val (.int i3), .val (.int i4), .val (.int i5), .val (.ref b1), .val (.int v10), .val (.int v15), .val (.int v20), .val (.int v25), .val (.int (3 : Int32)), .val (.ref b1_134), .val .null, .unset] [.null])
     refine Home.run X149 hx hby sg0_380_3 (pc' := 386) (L' := #[.val (.int i0), .val (.int i1), .val (.int i2), .val (.int i3), .val (.int i4), .val (.int i5), .val (.ref b1), .val (.int v10), .val (.int v15), .val (.int v20), .val (.int v25), .val (.int (3 : Int32)), .val (.ref b1_134), .val .null, .val .null]) (S' := [.null, .null]) rfl ?_
     refine Home.go (fun _ => Jvm.RoadKit.acmp X149 hx rfl rfl rfl (pc0 := 386) (pc' := 389) (same := true) rfl (hb hby at_386) rfl (decide_eq_true rfl) (by decide) (by decide)) ?_
     show Home T149 (mkF m 389 #[.val (.int i0), .val (.int i1), .val (.int i2), .val (.int i3), .val (.int i4), .val (.int i5), .val (.ref b1), .val (.int v10), .val (.int v15), .val (.int v20), .val (.int v25), .val (.int (3 : Int32)), .val (.ref b1_134), .val .null, .val .null] [])
     refine Home.run X149 hx hby sg0_389_2 (pc' := 394) (L' := #[.val (.int i0), .val (.int i1), .val (.int i2), .val (.int i3), .val (.int i4), .val (.int i5), .val (.ref b1), .val (.int v10), .val (.int v15), .val (.int v20), .val (.int v25), .val (.int (3 : Int32)), .val (.ref b1_134), .val .null, .val .null]) (S' := [(.int (1 : Int32))]) rfl ?_
     exact HomeW.retN X149 hx hlk hZ (own_hEL hw) rfl Cd149 (t := .boolean) hret (by simp) (hb hby at_394) ⟨rfl, N149⟩ (by decide) (by decide)
    ·
     have bd133 : ¬ v68 < (4 : Int32) ∧ ¬ (8 : Int32) < v68 := ⟨(bnd_nel bd113.1 c130 (by decide +kernel)), bd113.2⟩
     by_cases c150 : v68 = (4 : Int32)
     ·
      have bd151 : ¬ v68 < (4 : Int32) ∧ ¬ (4 : Int32) < v68 := ⟨(bnd_eql c150), (bnd_eqr c150)⟩
      have fx152 : v68 = (4 : Int32) := bnd_fix bd151
      try rw [fx152]
      show Home TJ76 (mkF m 331 #[.val (.int i0), .val (.int i1), .val (.int i2), .val (.int i3), .val (.int i4), .val (.int i5), .val (.ref b1), .val (.int v10), .val (.int v15), .val (.int v20), .val (.int v25), .val (.int (4 : Int32)), v77, .unset, .unset] [(.int (4 : Int32)), (.ref b1)])
      refine Home.call (own_static XJ76 hx hZ hown (own_w1 hw) (own_w2 hw) (own_w3 hw) (own_w4 hw) (by decide) (rm1_3 l Z a0 hw [] b1 k1 v78 v79 v80 v81 v82 v83 v84 v85 sv_COMPACT_STRINGS hJ76 n0 OJ76 HJ76_0 bv78 bv79 bv80 bv81 S_COMPACT_STRINGS hCS) eJ76 rfl (by rw [hml]; rfl) (argsL := [(.ref b1), (.int (4 : Int32))]) (rest := []) (lenOf own_pd5 rfl) rfl rfl (W := 0) (by exact hW0) (by decide) (by decide) (hb hby at_331) (by decide) (by decide)) ?_
      rintro _ T154 L154 X154 ⟨b1_154, b1_3_2_15_154, k1_3_2_15_154, rfl, N154q, sz_b1_154, sz_b1_3_2_15_154, K154q, P154_0, P154_1, P154_2, P154_3⟩
      have Cd154 := Cold.keep CdJ76 K154q all0
      have Cd154b1_154 := Cold.put Cd154 ⟨Safe.keep K154q all0 CdJ76.2.1.1 (Safe.new sz_b1_154), P154_0.lt⟩
      have Cd154b1_3_2_15_154 := Cold.put Cd154b1_154 ⟨Safe.keep K154q all0 CdJ76.2.1.1 (Safe.new sz_b1_3_2_15_154), P154_3.lt⟩
      have g_b1_154 : n0 ≤ b1_154 := Nat.le_trans (Old.le OJ76) sz_b1_154
      have g_b1_3_2_15_154 : n0 ≤ b1_3_2_15_154 := Nat.le_trans (Old.le OJ76) sz_b1_3_2_15_154
      have O154 := Old.keep OJ76 K154q all0
      have K154 : Keep h0 T154.heap ([] : List Addr) := Keep.trans KJ76 K154q all0
      have N154 := Fr.app NJ76 N154q
      show Home T154 (mkF m 334 #[.val (.int i0), .val (.int i1), .val (.int i2), .val (.int i3), .val (.int i4), .val (.int i5), .val (.ref b1), .val (.int v10), .val (.int v15), .val (.int v20), .val (.int v25), .val (.int (4 : Int32)), v77, .unset, .unset] [(.ref b1_154)])
      refine Home.go (fun _ => XS.astore X154.here hx rfl (hb hby at_334) rfl rfl (l' := #[.val (.int i0), .val (.int i1), .val (.int i2), .val (.int i3), .val (.int i4), .val (.int i5), .val (.ref b1), .val (.int v10), .val (.int v15), .val (.int v20), .val (.int v25), .val (.int (4 : Int32)), .val (.ref b1_154), .unset, .unset]) (XS.store1 rfl hv77 rfl)) ?_
      refine Home.run X154 hx hby sg0_336_1 (pc' := 338) (L' := #[.val (.int i0), .val (.int i1), .val (.int i2), .val (.int i3), .val (.int i4), .val (.int i5), .val (.ref b1), .val (.int v10), .val (.int v15), .val (.int v20), .val (.int v25), .val (.int (4 : Int32)), .val (.ref b1_154), .unset, .unset]) (S' := [(.ref b1_154)]) rfl ?_
      obtain ⟨ad155, b155, k155, T155, h155, X155, e155, E155, hZ, hown, Cd155, Ea155, Fc155, Fv155, V155, la155, lb155, hne155, st155⟩ := own_ldcW X154 hx hZ hown (own_hEL hw) Cd154b1_3_2_15_154 (own_w34 hw) (own_wS hw) rfl (List.mem_of_getElem? (i := 0) rfl) (vs := [(.int (109 : Int32)), (.int (111 : Int32)), (.int (110 : Int32)), (.int (116 : Int32)), (.int (104 : Int32))]) (z := (5 : Int32)) ⟨by decide, by rfl⟩ (by decide) (by decide) (g := (mkF m 338 #[.val (.int i0), .val (.int i1), .val (.int i2), .val (.int i3), .val (.int i4), .val (.int i5), .val (.ref b1), .val (.int v10), .val (.int v15), .val (.int v20), .val (.int v25), .val (.int (4 : Int32)), .val (.ref b1_154), .unset, .unset] [(.ref b1_154)])) rfl (hb hby at_338) (n := 20) (by decide) (by decide) (by decide) (by decide)
      refine Home.go st155 ?_
      have O155 := O154.ext E155
      have K155 : Keep h0 h155 ([] : List Addr) := Keep.ext K154 E155
      have q156 := (P154_0.ext E155)
      have q157 := (P154_1.ext E155)
      have q158 := (P154_2.ext E155)
      have q159 := (P154_3.ext E155)
      have ne160 : b1_154 ≠ ad155 := (hne155 _ (List.mem_of_getElem? (i := 1) rfl)).1
      refine Home.st (own_pure (own_virtual X155 hx hZ hown (own_w37 hw) (own_w38 hw) (notFace_of_selects (args := #[]) (mvT hZ (own_w40 hw))) (own_w40 hw) (own_w39 hw) (own_w7 hw) (own_w41 hw) (by decide) (rm8_0 l Z a0 hw [] b1_154 ad155 b1_3_2_15_154 k1_3_2_15_154 (4 : Int32) [(.int (v78.toInt8.toInt32)), (.int (v79.toInt8.toInt32)), (.int (v80.toInt8.toInt32)), (.int (v81.toInt8.toInt32))] b155 k155 (5 : Int32) [(.int (109 : Int32)), (.int (111 : Int32)), (.int (110 : Int32)), (.int (116 : Int32)), (.int (104 : Int32))] sv_COMPACT_STRINGS h155 n0 O155 q159 V155 (by decide) q156 Ea155 ne160 S_COMPACT_STRINGS hCS q157 Fc155 q158 Fv155) e155 q156 rfl (by rw [hml]; rfl) (argsL := [(.ref ad155)]) (rest := []) (lenOf own_pd7 rfl) rfl rfl (W := 0) (by exact hW0) (by decide) (by decide) (hb hby at_340) (by decide) (by decide))) fun T161 X161 e161 => ?_
      show Home T161 (mkF m 343 #[.val (.int i0), .val (.int i1), .val (.int i2), .val (.int i3), .val (.int i4), .val (.int i5), .val (.ref b1), .val (.int v10), .val (.int v15), .val (.int v20), .val (.int v25), .val (.int (4 : Int32)), .val (.ref b1_154), .unset, .unset] [(.int (0 : Int32))])
      refine Home.go (fun _ => XS.ifYes X161.here hx rfl (pc0 := 343) (pc' := 354) rfl (hb hby at_343) rfl ((if0 _ _).trans (teq (by decide)).1) (by decide) (by decide)) ?_
      refine Home.run X161 hx hby sg0_354_1 (pc' := 356) (L' := #[.val (.int i0), .val (.int i1), .val (.int i2), .val (.int i3), .val (.int i4), .val (.int i5), .val (.ref b1), .val (.int v10), .val (.int v15), .val (.int v20), .val (.int v25), .val (.int (4 : Int32)), .val (.ref b1_154), .unset, .unset]) (S' := [(.ref b1_154)]) rfl ?_
      obtain ⟨ad162, b162, k162, T162, h162, X162, e162, E162, hZ, hown, Cd162, Ea162, Fc162, Fv162, V162, la162, lb162, hne162, st162⟩ := own_ldcW X161 hx hZ hown (own_hEL hw) Cd155 (own_w72 hw) (own_wS hw) e161 (List.mem_of_getElem? (i := 1) rfl) (vs := [(.int (113 : Int32)), (.int (117 : Int32)), (.int (97 : Int32)), (.int (114 : Int32)), (.int (116 : Int32)), (.int (101 : Int32)), (.int (114 : Int32))]) (z := (7 : Int32)) ⟨by decide, by rfl⟩ (by decide) (by decide) (g := (mkF m 356 #[.val (.int i0), .val (.int i1), .val (.int i2), .val (.int i3), .val (.int i4), .val (.int i5), .val (.ref b1), .val (.int v10), .val (.int v15), .val (.int v20), .val (.int v25), .val (.int (4 : Int32)), .val (.ref b1_154), .unset, .unset] [(.ref b1_154)])) rfl (hb hby at_356) (n := 28) (by decide) (by decide) (by decide) (by decide)
      refine Home.go st162 ?_
      have O162 := O155.ext E162
      have K162 : Keep h0 h162 ([] : List Addr) := Keep.ext K155 E162
      have q163 := (q156.ext E162)
      have q164 := (q157.ext E162)
      have q165 := (q158.ext E162)
      have q166 := (q159.ext E162)
      have ne167 : b1_154 ≠ ad162 := (hne162 _ (List.mem_of_getElem? (i := 1) rfl)).1
      refine Home.st (own_pure (own_virtual X162 hx hZ hown (own_w37 hw) (own_w38 hw) (notFace_of_selects (args := #[]) (mvT hZ (own_w40 hw))) (own_w40 hw) (own_w39 hw) (own_w7 hw) (own_w41 hw) (by decide) (rm8_0 l Z a0 hw [] b1_154 ad162 b1_3_2_15_154 k1_3_2_15_154 (4 : Int32) [(.int (v78.toInt8.toInt32)), (.int (v79.toInt8.toInt32)), (.int (v80.toInt8.toInt32)), (.int (v81.toInt8.toInt32))] b162 k162 (7 : Int32) [(.int (113 : Int32)), (.int (117 : Int32)), (.int (97 : Int32)), (.int (114 : Int32)), (.int (116 : Int32)), (.int (101 : Int32)), (.int (114 : Int32))] sv_COMPACT_STRINGS h162 n0 O162 q166 V162 (by decide) q163 Ea162 ne167 S_COMPACT_STRINGS hCS q164 Fc162 q165 Fv162) e162 q163 rfl (by rw [hml]; rfl) (argsL := [(.ref ad162)]) (rest := []) (lenOf own_pd7 rfl) rfl rfl (W := 0) (by exact hW0) (by decide) (by decide) (hb hby at_358) (by decide) (by decide))) fun T168 X168 e168 => ?_
      show Home T168 (mkF m 361 #[.val (.int i0), .val (.int i1), .val (.int i2), .val (.int i3), .val (.int i4), .val (.int i5), .val (.ref b1), .val (.int v10), .val (.int v15), .val (.int v20), .val (.int v25), .val (.int (4 : Int32)), .val (.ref b1_154), .unset, .unset] [(.int (0 : Int32))])
      refine Home.go (fun _ => XS.ifYes X168.here hx rfl (pc0 := 361) (pc' := 372) rfl (hb hby at_361) rfl ((if0 _ _).trans (teq (by decide)).1) (by decide) (by decide)) ?_
      refine Home.run X168 hx hby sg0_372_3 (pc' := 377) (L' := #[.val (.int i0), .val (.int i1), .val (.int i2), .val (.int i3), .val (.int i4), .val (.int i5), .val (.ref b1), .val (.int v10), .val (.int v15), .val (.int v20), .val (.int v25), .val (.int (4 : Int32)), .val (.ref b1_154), .val .null, .unset]) (S' := [(.ref b1_154)]) rfl ?_
      refine Home.call (own_static X168 hx hZ hown (own_w50 hw) (own_w51 hw) (own_w48 hw) (own_w52 hw) (by decide) (rm10_0 l Z a0 hw [] b1_154 b1_3_2_15_154 k1_3_2_15_154 (4 : Int32) [(.int (v78.toInt8.toInt32)), (.int (v79.toInt8.toInt32)), (.int (v80.toInt8.toInt32)), (.int (v81.toInt8.toInt32))] sv__VALUES k_sv__VALUES sv_MONTH sv_QUARTER sv_MONTH_id sv_COMPACT_STRINGS sv_MONTH_id_value k_sv_MONTH_id_value sv_QUARTER_id sv_QUARTER_id_value k_sv_QUARTER_id_value h162 n0 O162 q166 (by decide) (by decide) S__VALUES V_sv__VALUES E_sv__VALUES F_id_sv_MONTH E_sv_MONTH_id q163 S_COMPACT_STRINGS F_coder_sv_MONTH_id q164 F_value_sv_MONTH_id V_sv_MONTH_id_value q165 g_b1_154 hCS F_id_sv_QUARTER E_sv_QUARTER_id F_coder_sv_QUARTER_id F_value_sv_QUARTER_id V_sv_QUARTER_id_value) e168 rfl (by rw [hml]; rfl) (argsL := [(.ref b1_154)]) (rest := []) (lenOf own_pd9 rfl) rfl rfl (W := 0) (by exact hW0) (by decide) (by decide) (hb hby at_377) (by decide) (by decide)) ?_
      rintro _ T169 L169 X169 ⟨rfl, N169q, K169q⟩
      have Cd169 := Cold.keep Cd162 K169q all0
      have O169 := Old.keep O162 K169q all0
      have K169 : Keep h0 T169.heap ([] : List Addr) := Keep.trans K162 K169q all0
      have N169 := Fr.app N154 N169q
      show Home T169 (mkF m 380 #[.val (.int i0), .val (.int i1), .val (.int i2), .val (.int i3), .val (.int i4), .val (.int i5), .val (.ref b1), .val (.int v10), .val (.int v15), .val (.int v20), .val (.int v25), .val (.int (4 : Int32)), .val (.ref b1_154), .val .null, .unset] [.null])
      refine Home.run X169 hx hby sg0_380_3 (pc' := 386) (L' := #[.val (.int i0), .val (.int i1), .val (.int i2), .val (.int i3), .val (.int i4), .val (.int i5), .val (.ref b1), .val (.int v10), .val (.int v15), .val (.int v20), .val (.int v25), .val (.int (4 : Int32)), .val (.ref b1_154), .val .null, .val .null]) (S' := [.null, .null]) rfl ?_
      refine Home.go (fun _ => Jvm.RoadKit.acmp X169 hx rfl rfl rfl (pc0 := 386) (pc' := 389) (same := true) rfl (hb hby at_386) rfl (decide_eq_true rfl) (by decide) (by decide)) ?_
      show Home T169 (mkF m 389 #[.val (.int i0), .val (.int i1), .val (.int i2), .val (.int i3), .val (.int i4), .val (.int i5), .val (.ref b1), .val (.int v10), .val (.int v15), .val (.int v20), .val (.int v25), .val (.int (4 : Int32)), .val (.ref b1_154), .val .null, .val .null] [])
      refine Home.run X169 hx hby sg0_389_2 (pc' := 394) (L' := #[.val (.int i0), .val (.int i1), .val (.int i2), .val (.int i3), .val (.int i4), .val (.int i5), .val (.ref b1), .val (.int v10), .val (.int v15), .val (.int v20), .val (.int v25), .val (.int (4 : Int32)), .val (.ref b1_154), .val .null, .val .null]) (S' := [(.int (1 : Int32))]) rfl ?_
      exact HomeW.retN X169 hx hlk hZ (own_hEL hw) rfl Cd169 (t := .boolean) hret (by simp) (hb hby at_394) ⟨rfl, N169⟩ (by decide) (by decide)
     ·
      have bd153 : ¬ v68 < (5 : Int32) ∧ ¬ (8 : Int32) < v68 := ⟨(bnd_nel bd133.1 c150 (by decide +kernel)), bd133.2⟩
      by_cases c170 : v68 = (5 : Int32)
      ·
       have bd171 : ¬ v68 < (5 : Int32) ∧ ¬ (5 : Int32) < v68 := ⟨(bnd_eql c170), (bnd_eqr c170)⟩
       have fx172 : v68 = (5 : Int32) := bnd_fix bd171
       try rw [fx172]
       show Home TJ76 (mkF m 331 #[.val (.int i0), .val (.int i1), .val (.int i2), .val (.int i3), .val (.int i4), .val (.int i5), .val (.ref b1), .val (.int v10), .val (.int v15), .val (.int v20), .val (.int v25), .val (.int (5 : Int32)), v77, .unset, .unset] [(.int (5 : Int32)), (.ref b1)])
       refine Home.call (own_static XJ76 hx hZ hown (own_w1 hw) (own_w2 hw) (own_w3 hw) (own_w4 hw) (by decide) (rm1_4 l Z a0 hw [] b1 k1 v78 v79 v80 v81 v82 v83 v84 v85 sv_COMPACT_STRINGS hJ76 n0 OJ76 HJ76_0 bv78 bv79 bv80 bv81 bv82 S_COMPACT_STRINGS hCS) eJ76 rfl (by rw [hml]; rfl) (argsL := [(.ref b1), (.int (5 : Int32))]) (rest := []) (lenOf own_pd5 rfl) rfl rfl (W := 0) (by exact hW0) (by decide) (by decide) (hb hby at_331) (by decide) (by decide)) ?_
       rintro _ T174 L174 X174 ⟨b1_174, b1_3_2_17_174, k1_3_2_17_174, rfl, N174q, sz_b1_174, sz_b1_3_2_17_174, K174q, P174_0, P174_1, P174_2, P174_3⟩
       have Cd174 := Cold.keep CdJ76 K174q all0
       have Cd174b1_174 := Cold.put Cd174 ⟨Safe.keep K174q all0 CdJ76.2.1.1 (Safe.new sz_b1_174), P174_0.lt⟩
       have Cd174b1_3_2_17_174 := Cold.put Cd174b1_174 ⟨Safe.keep K174q all0 CdJ76.2.1.1 (Safe.new sz_b1_3_2_17_174), P174_3.lt⟩
       have g_b1_174 : n0 ≤ b1_174 := Nat.le_trans (Old.le OJ76) sz_b1_174
       have g_b1_3_2_17_174 : n0 ≤ b1_3_2_17_174 := Nat.le_trans (Old.le OJ76) sz_b1_3_2_17_174
       have O174 := Old.keep OJ76 K174q all0
       have K174 : Keep h0 T174.heap ([] : List Addr) := Keep.trans KJ76 K174q all0
       have N174 := Fr.app NJ76 N174q
       show Home T174 (mkF m 334 #[.val (.int i0), .val (.int i1), .val (.int i2), .val (.int i3), .val (.int i4), .val (.int i5), .val (.ref b1), .val (.int v10), .val (.int v15), .val (.int v20), .val (.int v25), .val (.int (5 : Int32)), v77, .unset, .unset] [(.ref b1_174)])
       refine Home.go (fun _ => XS.astore X174.here hx rfl (hb hby at_334) rfl rfl (l' := #[.val (.int i0), .val (.int i1), .val (.int i2), .val (.int i3), .val (.int i4), .val (.int i5), .val (.ref b1), .val (.int v10), .val (.int v15), .val (.int v20), .val (.int v25), .val (.int (5 : Int32)), .val (.ref b1_174), .unset, .unset]) (XS.store1 rfl hv77 rfl)) ?_
       refine Home.run X174 hx hby sg0_336_1 (pc' := 338) (L' := #[.val (.int i0), .val (.int i1), .val (.int i2), .val (.int i3), .val (.int i4), .val (.int i5), .val (.ref b1), .val (.int v10), .val (.int v15), .val (.int v20), .val (.int v25), .val (.int (5 : Int32)), .val (.ref b1_174), .unset, .unset]) (S' := [(.ref b1_174)]) rfl ?_
       obtain ⟨ad175, b175, k175, T175, h175, X175, e175, E175, hZ, hown, Cd175, Ea175, Fc175, Fv175, V175, la175, lb175, hne175, st175⟩ := own_ldcW X174 hx hZ hown (own_hEL hw) Cd174b1_3_2_17_174 (own_w34 hw) (own_wS hw) rfl (List.mem_of_getElem? (i := 0) rfl) (vs := [(.int (109 : Int32)), (.int (111 : Int32)), (.int (110 : Int32)), (.int (116 : Int32)), (.int (104 : Int32))]) (z := (5 : Int32)) ⟨by decide, by rfl⟩ (by decide) (by decide) (g := (mkF m 338 #[.val (.int i0), .val (.int i1), .val (.int i2), .val (.int i3), .val (.int i4), .val (.int i5), .val (.ref b1), .val (.int v10), .val (.int v15), .val (.int v20), .val (.int v25), .val (.int (5 : Int32)), .val (.ref b1_174), .unset, .unset] [(.ref b1_174)])) rfl (hb hby at_338) (n := 20) (by decide) (by decide) (by decide) (by decide)
       refine Home.go st175 ?_
       have O175 := O174.ext E175
       have K175 : Keep h0 h175 ([] : List Addr) := Keep.ext K174 E175
       have q176 := (P174_0.ext E175)
       have q177 := (P174_1.ext E175)
       have q178 := (P174_2.ext E175)
       have q179 := (P174_3.ext E175)
       have ne180 : b1_174 ≠ ad175 := (hne175 _ (List.mem_of_getElem? (i := 1) rfl)).1
       refine Home.st (own_pure (own_virtual X175 hx hZ hown (own_w37 hw) (own_w38 hw) (notFace_of_selects (args := #[]) (mvT hZ (own_w40 hw))) (own_w40 hw) (own_w39 hw) (own_w7 hw) (own_w41 hw) (by decide) (rm8_1 l Z a0 hw [] b1_174 ad175 sv_COMPACT_STRINGS b1_3_2_17_174 b175 k1_3_2_17_174 (v78.toInt8.toInt32) (v79.toInt8.toInt32) (v80.toInt8.toInt32) (v81.toInt8.toInt32) (v82.toInt8.toInt32) k175 (109 : Int32) (111 : Int32) (110 : Int32) (116 : Int32) (104 : Int32) h175 n0 O175 q176 Ea175 ne180 S_COMPACT_STRINGS hCS q177 Fc175 q178 Fv175 q179 V175) e175 q176 rfl (by rw [hml]; rfl) (argsL := [(.ref ad175)]) (rest := []) (lenOf own_pd7 rfl) rfl rfl (W := 0) (by exact hW0) (by decide) (by decide) (hb hby at_340) (by decide) (by decide))) fun T181 X181 e181 => ?_
       show Home T181 (mkF m 343 #[.val (.int i0), .val (.int i1), .val (.int i2), .val (.int i3), .val (.int i4), .val (.int i5), .val (.ref b1), .val (.int v10), .val (.int v15), .val (.int v20), .val (.int v25), .val (.int (5 : Int32)), .val (.ref b1_174), .unset, .unset] [(.int (f_rm8_1 (v78.toInt8.toInt32) (v79.toInt8.toInt32) (v80.toInt8.toInt32) (v81.toInt8.toInt32) (v82.toInt8.toInt32) (109 : Int32) (111 : Int32) (110 : Int32) (116 : Int32) (104 : Int32)))])
       obtain ⟨r182, hr182⟩ : ∃ z, z = (f_rm8_1 (v78.toInt8.toInt32) (v79.toInt8.toInt32) (v80.toInt8.toInt32) (v81.toInt8.toInt32) (v82.toInt8.toInt32) (109 : Int32) (111 : Int32) (110 : Int32) (116 : Int32) (104 : Int32)) := ⟨_, rfl⟩
       rw [← hr182]
       have br182 : ¬ r182 < (0 : Int32) ∧ ¬ (1 : Int32) < r182 := by rw [hr182]; exact f_rm8_1_bnd (v78.toInt8.toInt32) (v79.toInt8.toInt32) (v80.toInt8.toInt32) (v81.toInt8.toInt32) (v82.toInt8.toInt32) (109 : Int32) (111 : Int32) (110 : Int32) (116 : Int32) (104 : Int32)
       by_cases c183 : r182 = (0 : Int32)
       ·
        refine Home.go (fun _ => XS.ifYes X181.here hx rfl (pc0 := 343) (pc' := 354) rfl (hb hby at_343) rfl ((if0 _ _).trans (teq c183).1) (by decide) (by decide)) ?_
        have bd184 : ¬ r182 < (0 : Int32) ∧ ¬ (0 : Int32) < r182 := ⟨(bnd_eql c183), (bnd_eqr c183)⟩
        have fx185 : r182 = (0 : Int32) := bnd_fix bd184
        try rw [fx185]
        show Home T181 (mkF m 354 #[.val (.int i0), .val (.int i1), .val (.int i2), .val (.int i3), .val (.int i4), .val (.int i5), .val (.ref b1), .val (.int v10), .val (.int v15), .val (.int v20), .val (.int v25), .val (.int (5 : Int32)), .val (.ref b1_174), .unset, .unset] [])
        refine Home.run X181 hx hby sg0_354_1 (pc' := 356) (L' := #[.val (.int i0), .val (.int i1), .val (.int i2), .val (.int i3), .val (.int i4), .val (.int i5), .val (.ref b1), .val (.int v10), .val (.int v15), .val (.int v20), .val (.int v25), .val (.int (5 : Int32)), .val (.ref b1_174), .unset, .unset]) (S' := [(.ref b1_174)]) rfl ?_
        obtain ⟨ad188, b188, k188, T188, h188, X188, e188, E188, hZ, hown, Cd188, Ea188, Fc188, Fv188, V188, la188, lb188, hne188, st188⟩ := own_ldcW X181 hx hZ hown (own_hEL hw) Cd175 (own_w72 hw) (own_wS hw) e181 (List.mem_of_getElem? (i := 1) rfl) (vs := [(.int (113 : Int32)), (.int (117 : Int32)), (.int (97 : Int32)), (.int (114 : Int32)), (.int (116 : Int32)), (.int (101 : Int32)), (.int (114 : Int32))]) (z := (7 : Int32)) ⟨by decide, by rfl⟩ (by decide) (by decide) (g := (mkF m 356 #[.val (.int i0), .val (.int i1), .val (.int i2), .val (.int i3), .val (.int i4), .val (.int i5), .val (.ref b1), .val (.int v10), .val (.int v15), .val (.int v20), .val (.int v25), .val (.int (5 : Int32)), .val (.ref b1_174), .unset, .unset] [(.ref b1_174)])) rfl (hb hby at_356) (n := 28) (by decide) (by decide) (by decide) (by decide)
        refine Home.go st188 ?_
        have O188 := O175.ext E188
        have K188 : Keep h0 h188 ([] : List Addr) := Keep.ext K175 E188
        have q189 := (q176.ext E188)
        have q190 := (q177.ext E188)
        have q191 := (q178.ext E188)
        have q192 := (q179.ext E188)
        have ne193 : b1_174 ≠ ad188 := (hne188 _ (List.mem_of_getElem? (i := 1) rfl)).1
        refine Home.st (own_pure (own_virtual X188 hx hZ hown (own_w37 hw) (own_w38 hw) (notFace_of_selects (args := #[]) (mvT hZ (own_w40 hw))) (own_w40 hw) (own_w39 hw) (own_w7 hw) (own_w41 hw) (by decide) (rm8_0 l Z a0 hw [] b1_174 ad188 b1_3_2_17_174 k1_3_2_17_174 (5 : Int32) [(.int (v78.toInt8.toInt32)), (.int (v79.toInt8.toInt32)), (.int (v80.toInt8.toInt32)), (.int (v81.toInt8.toInt32)), (.int (v82.toInt8.toInt32))] b188 k188 (7 : Int32) [(.int (113 : Int32)), (.int (117 : Int32)), (.int (97 : Int32)), (.int (114 : Int32)), (.int (116 : Int32)), (.int (101 : Int32)), (.int (114 : Int32))] sv_COMPACT_STRINGS h188 n0 O188 q192 V188 (by decide) q189 Ea188 ne193 S_COMPACT_STRINGS hCS q190 Fc188 q191 Fv188) e188 q189 rfl (by rw [hml]; rfl) (argsL := [(.ref ad188)]) (rest := []) (lenOf own_pd7 rfl) rfl rfl (W := 0) (by exact hW0) (by decide) (by decide) (hb hby at_358) (by decide) (by decide))) fun T194 X194 e194 => ?_
        show Home T194 (mkF m 361 #[.val (.int i0), .val (.int i1), .val (.int i2), .val (.int i3), .val (.int i4), .val (.int i5), .val (.ref b1), .val (.int v10), .val (.int v15), .val (.int v20), .val (.int v25), .val (.int (5 : Int32)), .val (.ref b1_174), .unset, .unset] [(.int (0 : Int32))])
        refine Home.go (fun _ => XS.ifYes X194.here hx rfl (pc0 := 361) (pc' := 372) rfl (hb hby at_361) rfl ((if0 _ _).trans (teq (by decide)).1) (by decide) (by decide)) ?_
        refine Home.run X194 hx hby sg0_372_3 (pc' := 377) (L' := #[.val (.int i0), .val (.int i1), .val (.int i2), .val (.int i3), .val (.int i4), .val (.int i5), .val (.ref b1), .val (.int v10), .val (.int v15), .val (.int v20), .val (.int v25), .val (.int (5 : Int32)), .val (.ref b1_174), .val .null, .unset]) (S' := [(.ref b1_174)]) rfl ?_
        by_cases c195 : (f_rm8_1 (109 : Int32) (111 : Int32) (110 : Int32) (116 : Int32) (104 : Int32) (v78.toInt8.toInt32) (v79.toInt8.toInt32) (v80.toInt8.toInt32) (v81.toInt8.toInt32) (v82.toInt8.toInt32)) = (0 : Int32)
        ·
         have bd196 : ¬ (f_rm8_1 (109 : Int32) (111 : Int32) (110 : Int32) (116 : Int32) (104 : Int32) (v78.toInt8.toInt32) (v79.toInt8.toInt32) (v80.toInt8.toInt32) (v81.toInt8.toInt32) (v82.toInt8.toInt32)) < (0 : Int32) ∧ ¬ (0 : Int32) < (f_rm8_1 (109 : Int32) (111 : Int32) (110 : Int32) (116 : Int32) (104 : Int32) (v78.toInt8.toInt32) (v79.toInt8.toInt32) (v80.toInt8.toInt32) (v81.toInt8.toInt32) (v82.toInt8.toInt32)) := ⟨(bnd_eql c195), (bnd_eqr c195)⟩
         refine Home.call (own_static X194 hx hZ hown (own_w50 hw) (own_w51 hw) (own_w48 hw) (own_w52 hw) (by decide) (rm10_1 l Z a0 hw [] b1_174 sv__VALUES k_sv__VALUES sv_MONTH sv_QUARTER sv_MONTH_id sv_COMPACT_STRINGS sv_MONTH_id_value b1_3_2_17_174 k_sv_MONTH_id_value k1_3_2_17_174 (v78.toInt8.toInt32) (v79.toInt8.toInt32) (v80.toInt8.toInt32) (v81.toInt8.toInt32) (v82.toInt8.toInt32) sv_QUARTER_id sv_QUARTER_id_value k_sv_QUARTER_id_value h188 n0 O188 c195 S__VALUES V_sv__VALUES E_sv__VALUES F_id_sv_MONTH E_sv_MONTH_id q189 S_COMPACT_STRINGS F_coder_sv_MONTH_id q190 F_value_sv_MONTH_id q191 V_sv_MONTH_id_value q192 g_b1_174 hCS F_id_sv_QUARTER E_sv_QUARTER_id F_coder_sv_QUARTER_id F_value_sv_QUARTER_id V_sv_QUARTER_id_value) e194 rfl (by rw [hml]; rfl) (argsL := [(.ref b1_174)]) (rest := []) (lenOf own_pd9 rfl) rfl rfl (W := 0) (by exact hW0) (by decide) (by decide) (hb hby at_377) (by decide) (by decide)) ?_
         rintro _ T197 L197 X197 ⟨rfl, N197q, K197q⟩
         have Cd197 := Cold.keep Cd188 K197q all0
         have O197 := Old.keep O188 K197q all0
         have K197 : Keep h0 T197.heap ([] : List Addr) := Keep.trans K188 K197q all0
         have N197 := Fr.app N174 N197q
         refine Home.run X197 hx hby sg0_380_3 (pc' := 386) (L' := #[.val (.int i0), .val (.int i1), .val (.int i2), .val (.int i3), .val (.int i4), .val (.int i5), .val (.ref b1), .val (.int v10), .val (.int v15), .val (.int v20), .val (.int v25), .val (.int (5 : Int32)), .val (.ref b1_174), .val .null, .val .null]) (S' := [.null, .null]) rfl ?_
         refine Home.go (fun _ => Jvm.RoadKit.acmp X197 hx rfl rfl rfl (pc0 := 386) (pc' := 389) (same := true) rfl (hb hby at_386) rfl (decide_eq_true rfl) (by decide) (by decide)) ?_
         show Home T197 (mkF m 389 #[.val (.int i0), .val (.int i1), .val (.int i2), .val (.int i3), .val (.int i4), .val (.int i5), .val (.ref b1), .val (.int v10), .val (.int v15), .val (.int v20), .val (.int v25), .val (.int (5 : Int32)), .val (.ref b1_174), .val .null, .val .null] [])
         refine Home.run X197 hx hby sg0_389_2 (pc' := 394) (L' := #[.val (.int i0), .val (.int i1), .val (.int i2), .val (.int i3), .val (.int i4), .val (.int i5), .val (.ref b1), .val (.int v10), .val (.int v15), .val (.int v20), .val (.int v25), .val (.int (5 : Int32)), .val (.ref b1_174), .val .null, .val .null]) (S' := [(.int (1 : Int32))]) rfl ?_
         exact HomeW.retN X197 hx hlk hZ (own_hEL hw) rfl Cd197 (t := .boolean) hret (by simp) (hb hby at_394) ⟨rfl, N197⟩ (by decide) (by decide)
        ·
         refine Home.call (own_static X194 hx hZ hown (own_w50 hw) (own_w51 hw) (own_w48 hw) (own_w52 hw) (by decide) (rm10_2 l Z a0 hw [] b1_174 sv__VALUES k_sv__VALUES sv_MONTH sv_QUARTER sv_MONTH_id sv_COMPACT_STRINGS sv_MONTH_id_value b1_3_2_17_174 k_sv_MONTH_id_value k1_3_2_17_174 (v78.toInt8.toInt32) (v79.toInt8.toInt32) (v80.toInt8.toInt32) (v81.toInt8.toInt32) (v82.toInt8.toInt32) sv_QUARTER_id sv_QUARTER_id_value k_sv_QUARTER_id_value h188 n0 O188 c195 S__VALUES V_sv__VALUES E_sv__VALUES F_id_sv_MONTH E_sv_MONTH_id q189 S_COMPACT_STRINGS F_coder_sv_MONTH_id q190 F_value_sv_MONTH_id q191 V_sv_MONTH_id_value q192 g_b1_174 hCS F_id_sv_QUARTER E_sv_QUARTER_id F_coder_sv_QUARTER_id F_value_sv_QUARTER_id V_sv_QUARTER_id_value) e194 rfl (by rw [hml]; rfl) (argsL := [(.ref b1_174)]) (rest := []) (lenOf own_pd9 rfl) rfl rfl (W := 0) (by exact hW0) (by decide) (by decide) (hb hby at_377) (by decide) (by decide)) ?_
         rintro _ T198 L198 X198 ⟨rfl, N198q, K198q⟩
         have Cd198 := Cold.keep Cd188 K198q all0
         have O198 := Old.keep O188 K198q all0
         have K198 : Keep h0 T198.heap ([] : List Addr) := Keep.trans K188 K198q all0
         have N198 := Fr.app N174 N198q
         refine Home.run X198 hx hby sg0_380_3 (pc' := 386) (L' := #[.val (.int i0), .val (.int i1), .val (.int i2), .val (.int i3), .val (.int i4), .val (.int i5), .val (.ref b1), .val (.int v10), .val (.int v15), .val (.int v20), .val (.int v25), .val (.int (5 : Int32)), .val (.ref b1_174), .val .null, .val (.ref sv_MONTH)]) (S' := [.null, (.ref sv_MONTH)]) rfl ?_
         refine Home.go (fun _ => Jvm.RoadKit.acmp X198 hx rfl rfl rfl (pc0 := 386) (pc' := 393) (same := false) rfl (hb hby at_386) rfl (decide_eq_false nofun) (by decide) (by decide)) ?_
         show Home T198 (mkF m 393 #[.val (.int i0), .val (.int i1), .val (.int i2), .val (.int i3), .val (.int i4), .val (.int i5), .val (.ref b1), .val (.int v10), .val (.int v15), .val (.int v20), .val (.int v25), .val (.int (5 : Int32)), .val (.ref b1_174), .val .null, .val (.ref sv_MONTH)] [])
         refine Home.run X198 hx hby sg0_393_1 (pc' := 394) (L' := #[.val (.int i0), .val (.int i1), .val (.int i2), .val (.int i3), .val (.int i4), .val (.int i5), .val (.ref b1), .val (.int v10), .val (.int v15), .val (.int v20), .val (.int v25), .val (.int (5 : Int32)), .val (.ref b1_174), .val .null, .val (.ref sv_MONTH)]) (S' := [(.int (0 : Int32))]) rfl ?_
         exact HomeW.retN X198 hx hlk hZ (own_hEL hw) rfl Cd198 (t := .boolean) hret (by simp) (hb hby at_394) ⟨congrArg some (congrArg Value.int (own_end0 v78 v79 v80 v81 v82 r182 hr182 c183 c195)), N198⟩ (by decide) (by decide)
       ·
        refine Home.go (fun _ => XS.ifNo X181.here hx rfl (hb hby at_343) rfl ((if0 _ _).trans (feq c183).1)) ?_
        have bd186 : ¬ r182 < (1 : Int32) ∧ ¬ (1 : Int32) < r182 := ⟨(bnd_nel br182.1 c183 (by decide +kernel)), br182.2⟩
        have fx187 : r182 = (1 : Int32) := bnd_fix bd186
        try rw [fx187]
        show Home T181 (mkF m 346 #[.val (.int i0), .val (.int i1), .val (.int i2), .val (.int i3), .val (.int i4), .val (.int i5), .val (.ref b1), .val (.int v10), .val (.int v15), .val (.int v20), .val (.int v25), .val (.int (5 : Int32)), .val (.ref b1_174), .unset, .unset] [])
        refine Home.st (getS2 X181 hx hZ hown (host := "") (Or.inl (own_w47 hw)) Via.refl e181 (S_MONTH.ext O175.2) rfl (hb hby at_346)) fun T199 X199 e199 => ?_
        refine Home.run X199 hx hby sg0_349_3 (pc' := 377) (L' := #[.val (.int i0), .val (.int i1), .val (.int i2), .val (.int i3), .val (.int i4), .val (.int i5), .val (.ref b1), .val (.int v10), .val (.int v15), .val (.int v20), .val (.int v25), .val (.int (5 : Int32)), .val (.ref b1_174), .val (.ref sv_MONTH), .unset]) (S' := [(.ref b1_174)]) rfl ?_
        by_cases c200 : (f_rm8_1 (109 : Int32) (111 : Int32) (110 : Int32) (116 : Int32) (104 : Int32) (v78.toInt8.toInt32) (v79.toInt8.toInt32) (v80.toInt8.toInt32) (v81.toInt8.toInt32) (v82.toInt8.toInt32)) = (0 : Int32)
        ·
         have bd201 : ¬ (f_rm8_1 (109 : Int32) (111 : Int32) (110 : Int32) (116 : Int32) (104 : Int32) (v78.toInt8.toInt32) (v79.toInt8.toInt32) (v80.toInt8.toInt32) (v81.toInt8.toInt32) (v82.toInt8.toInt32)) < (0 : Int32) ∧ ¬ (0 : Int32) < (f_rm8_1 (109 : Int32) (111 : Int32) (110 : Int32) (116 : Int32) (104 : Int32) (v78.toInt8.toInt32) (v79.toInt8.toInt32) (v80.toInt8.toInt32) (v81.toInt8.toInt32) (v82.toInt8.toInt32)) := ⟨(bnd_eql c200), (bnd_eqr c200)⟩
         refine Home.call (own_static X199 hx hZ hown (own_w50 hw) (own_w51 hw) (own_w48 hw) (own_w52 hw) (by decide) (rm10_1 l Z a0 hw [] b1_174 sv__VALUES k_sv__VALUES sv_MONTH sv_QUARTER sv_MONTH_id sv_COMPACT_STRINGS sv_MONTH_id_value b1_3_2_17_174 k_sv_MONTH_id_value k1_3_2_17_174 (v78.toInt8.toInt32) (v79.toInt8.toInt32) (v80.toInt8.toInt32) (v81.toInt8.toInt32) (v82.toInt8.toInt32) sv_QUARTER_id sv_QUARTER_id_value k_sv_QUARTER_id_value h175 n0 O175 c200 S__VALUES V_sv__VALUES E_sv__VALUES F_id_sv_MONTH E_sv_MONTH_id q176 S_COMPACT_STRINGS F_coder_sv_MONTH_id q177 F_value_sv_MONTH_id q178 V_sv_MONTH_id_value q179 g_b1_174 hCS F_id_sv_QUARTER E_sv_QUARTER_id F_coder_sv_QUARTER_id F_value_sv_QUARTER_id V_sv_QUARTER_id_value) e199 rfl (by rw [hml]; rfl) (argsL := [(.ref b1_174)]) (rest := []) (lenOf own_pd9 rfl) rfl rfl (W := 0) (by exact hW0) (by decide) (by decide) (hb hby at_377) (by decide) (by decide)) ?_
         rintro _ T202 L202 X202 ⟨rfl, N202q, K202q⟩
         have Cd202 := Cold.keep Cd175 K202q all0
         have O202 := Old.keep O175 K202q all0
         have K202 : Keep h0 T202.heap ([] : List Addr) := Keep.trans K175 K202q all0
         have N202 := Fr.app N174 N202q
         refine Home.run X202 hx hby sg0_380_3 (pc' := 386) (L' := #[.val (.int i0), .val (.int i1), .val (.int i2), .val (.int i3), .val (.int i4), .val (.int i5), .val (.ref b1), .val (.int v10), .val (.int v15), .val (.int v20), .val (.int v25), .val (.int (5 : Int32)), .val (.ref b1_174), .val (.ref sv_MONTH), .val .null]) (S' := [(.ref sv_MONTH), .null]) rfl ?_
         refine Home.go (fun _ => Jvm.RoadKit.acmp X202 hx rfl rfl rfl (pc0 := 386) (pc' := 393) (same := false) rfl (hb hby at_386) rfl (decide_eq_false nofun) (by decide) (by decide)) ?_
         show Home T202 (mkF m 393 #[.val (.int i0), .val (.int i1), .val (.int i2), .val (.int i3), .val (.int i4), .val (.int i5), .val (.ref b1), .val (.int v10), .val (.int v15), .val (.int v20), .val (.int v25), .val (.int (5 : Int32)), .val (.ref b1_174), .val (.ref sv_MONTH), .val .null] [])
         refine Home.run X202 hx hby sg0_393_1 (pc' := 394) (L' := #[.val (.int i0), .val (.int i1), .val (.int i2), .val (.int i3), .val (.int i4), .val (.int i5), .val (.ref b1), .val (.int v10), .val (.int v15), .val (.int v20), .val (.int v25), .val (.int (5 : Int32)), .val (.ref b1_174), .val (.ref sv_MONTH), .val .null]) (S' := [(.int (0 : Int32))]) rfl ?_
         exact HomeW.retN X202 hx hlk hZ (own_hEL hw) rfl Cd202 (t := .boolean) hret (by simp) (hb hby at_394) ⟨congrArg some (congrArg Value.int (own_end1 v78 v79 v80 v81 v82 r182 hr182 c183 c200)), N202⟩ (by decide) (by decide)
        ·
         refine Home.call (own_static X199 hx hZ hown (own_w50 hw) (own_w51 hw) (own_w48 hw) (own_w52 hw) (by decide) (rm10_2 l Z a0 hw [] b1_174 sv__VALUES k_sv__VALUES sv_MONTH sv_QUARTER sv_MONTH_id sv_COMPACT_STRINGS sv_MONTH_id_value b1_3_2_17_174 k_sv_MONTH_id_value k1_3_2_17_174 (v78.toInt8.toInt32) (v79.toInt8.toInt32) (v80.toInt8.toInt32) (v81.toInt8.toInt32) (v82.toInt8.toInt32) sv_QUARTER_id sv_QUARTER_id_value k_sv_QUARTER_id_value h175 n0 O175 c200 S__VALUES V_sv__VALUES E_sv__VALUES F_id_sv_MONTH E_sv_MONTH_id q176 S_COMPACT_STRINGS F_coder_sv_MONTH_id q177 F_value_sv_MONTH_id q178 V_sv_MONTH_id_value q179 g_b1_174 hCS F_id_sv_QUARTER E_sv_QUARTER_id F_coder_sv_QUARTER_id F_value_sv_QUARTER_id V_sv_QUARTER_id_value) e199 rfl (by rw [hml]; rfl) (argsL := [(.ref b1_174)]) (rest := []) (lenOf own_pd9 rfl) rfl rfl (W := 0) (by exact hW0) (by decide) (by decide) (hb hby at_377) (by decide) (by decide)) ?_
         rintro _ T203 L203 X203 ⟨rfl, N203q, K203q⟩
         have Cd203 := Cold.keep Cd175 K203q all0
         have O203 := Old.keep O175 K203q all0
         have K203 : Keep h0 T203.heap ([] : List Addr) := Keep.trans K175 K203q all0
         have N203 := Fr.app N174 N203q
         refine Home.run X203 hx hby sg0_380_3 (pc' := 386) (L' := #[.val (.int i0), .val (.int i1), .val (.int i2), .val (.int i3), .val (.int i4), .val (.int i5), .val (.ref b1), .val (.int v10), .val (.int v15), .val (.int v20), .val (.int v25), .val (.int (5 : Int32)), .val (.ref b1_174), .val (.ref sv_MONTH), .val (.ref sv_MONTH)]) (S' := [(.ref sv_MONTH), (.ref sv_MONTH)]) rfl ?_
         refine Home.go (fun _ => Jvm.RoadKit.acmp X203 hx rfl rfl rfl (pc0 := 386) (pc' := 389) (same := true) rfl (hb hby at_386) rfl (decide_eq_true rfl) (by decide) (by decide)) ?_
         show Home T203 (mkF m 389 #[.val (.int i0), .val (.int i1), .val (.int i2), .val (.int i3), .val (.int i4), .val (.int i5), .val (.ref b1), .val (.int v10), .val (.int v15), .val (.int v20), .val (.int v25), .val (.int (5 : Int32)), .val (.ref b1_174), .val (.ref sv_MONTH), .val (.ref sv_MONTH)] [])
         refine Home.run X203 hx hby sg0_389_2 (pc' := 394) (L' := #[.val (.int i0), .val (.int i1), .val (.int i2), .val (.int i3), .val (.int i4), .val (.int i5), .val (.ref b1), .val (.int v10), .val (.int v15), .val (.int v20), .val (.int v25), .val (.int (5 : Int32)), .val (.ref b1_174), .val (.ref sv_MONTH), .val (.ref sv_MONTH)]) (S' := [(.int (1 : Int32))]) rfl ?_
         exact HomeW.retN X203 hx hlk hZ (own_hEL hw) rfl Cd203 (t := .boolean) hret (by simp) (hb hby at_394) ⟨rfl, N203⟩ (by decide) (by decide)
      ·
       have bd173 : ¬ v68 < (6 : Int32) ∧ ¬ (8 : Int32) < v68 := ⟨(bnd_nel bd153.1 c170 (by decide +kernel)), bd153.2⟩
       by_cases c204 : v68 = (6 : Int32)
       ·
        have bd205 : ¬ v68 < (6 : Int32) ∧ ¬ (6 : Int32) < v68 := ⟨(bnd_eql c204), (bnd_eqr c204)⟩
        have fx206 : v68 = (6 : Int32) := bnd_fix bd205
        try rw [fx206]
        show Home TJ76 (mkF m 331 #[.val (.int i0), .val (.int i1), .val (.int i2), .val (.int i3), .val (.int i4), .val (.int i5), .val (.ref b1), .val (.int v10), .val (.int v15), .val (.int v20), .val (.int v25), .val (.int (6 : Int32)), v77, .unset, .unset] [(.int (6 : Int32)), (.ref b1)])
        refine Home.call (own_static XJ76 hx hZ hown (own_w1 hw) (own_w2 hw) (own_w3 hw) (own_w4 hw) (by decide) (rm1_5 l Z a0 hw [] b1 k1 v78 v79 v80 v81 v82 v83 v84 v85 sv_COMPACT_STRINGS hJ76 n0 OJ76 HJ76_0 bv78 bv79 bv80 bv81 bv82 bv83 S_COMPACT_STRINGS hCS) eJ76 rfl (by rw [hml]; rfl) (argsL := [(.ref b1), (.int (6 : Int32))]) (rest := []) (lenOf own_pd5 rfl) rfl rfl (W := 0) (by exact hW0) (by decide) (by decide) (hb hby at_331) (by decide) (by decide)) ?_
        rintro _ T208 L208 X208 ⟨b1_208, b1_3_2_19_208, k1_3_2_19_208, rfl, N208q, sz_b1_208, sz_b1_3_2_19_208, K208q, P208_0, P208_1, P208_2, P208_3⟩
        have Cd208 := Cold.keep CdJ76 K208q all0
        have Cd208b1_208 := Cold.put Cd208 ⟨Safe.keep K208q all0 CdJ76.2.1.1 (Safe.new sz_b1_208), P208_0.lt⟩
        have Cd208b1_3_2_19_208 := Cold.put Cd208b1_208 ⟨Safe.keep K208q all0 CdJ76.2.1.1 (Safe.new sz_b1_3_2_19_208), P208_3.lt⟩
        have g_b1_208 : n0 ≤ b1_208 := Nat.le_trans (Old.le OJ76) sz_b1_208
        have g_b1_3_2_19_208 : n0 ≤ b1_3_2_19_208 := Nat.le_trans (Old.le OJ76) sz_b1_3_2_19_208
        have O208 := Old.keep OJ76 K208q all0
        have K208 : Keep h0 T208.heap ([] : List Addr) := Keep.trans KJ76 K208q all0
        have N208 := Fr.app NJ76 N208q
        show Home T208 (mkF m 334 #[.val (.int i0), .val (.int i1), .val (.int i2), .val (.int i3), .val (.int i4), .val (.int i5), .val (.ref b1), .val (.int v10), .val (.int v15), .val (.int v20), .val (.int v25), .val (.int (6 : Int32)), v77, .unset, .unset] [(.ref b1_208)])
        refine Home.go (fun _ => XS.astore X208.here hx rfl (hb hby at_334) rfl rfl (l' := #[.val (.int i0), .val (.int i1), .val (.int i2), .val (.int i3), .val (.int i4), .val (.int i5), .val (.ref b1), .val (.int v10), .val (.int v15), .val (.int v20), .val (.int v25), .val (.int (6 : Int32)), .val (.ref b1_208), .unset, .unset]) (XS.store1 rfl hv77 rfl)) ?_
        refine Home.run X208 hx hby sg0_336_1 (pc' := 338) (L' := #[.val (.int i0), .val (.int i1), .val (.int i2), .val (.int i3), .val (.int i4), .val (.int i5), .val (.ref b1), .val (.int v10), .val (.int v15), .val (.int v20), .val (.int v25), .val (.int (6 : Int32)), .val (.ref b1_208), .unset, .unset]) (S' := [(.ref b1_208)]) rfl ?_
        obtain ⟨ad209, b209, k209, T209, h209, X209, e209, E209, hZ, hown, Cd209, Ea209, Fc209, Fv209, V209, la209, lb209, hne209, st209⟩ := own_ldcW X208 hx hZ hown (own_hEL hw) Cd208b1_3_2_19_208 (own_w34 hw) (own_wS hw) rfl (List.mem_of_getElem? (i := 0) rfl) (vs := [(.int (109 : Int32)), (.int (111 : Int32)), (.int (110 : Int32)), (.int (116 : Int32)), (.int (104 : Int32))]) (z := (5 : Int32)) ⟨by decide, by rfl⟩ (by decide) (by decide) (g := (mkF m 338 #[.val (.int i0), .val (.int i1), .val (.int i2), .val (.int i3), .val (.int i4), .val (.int i5), .val (.ref b1), .val (.int v10), .val (.int v15), .val (.int v20), .val (.int v25), .val (.int (6 : Int32)), .val (.ref b1_208), .unset, .unset] [(.ref b1_208)])) rfl (hb hby at_338) (n := 20) (by decide) (by decide) (by decide) (by decide)
        refine Home.go st209 ?_
        have O209 := O208.ext E209
        have K209 : Keep h0 h209 ([] : List Addr) := Keep.ext K208 E209
        have q210 := (P208_0.ext E209)
        have q211 := (P208_1.ext E209)
        have q212 := (P208_2.ext E209)
        have q213 := (P208_3.ext E209)
        have ne214 : b1_208 ≠ ad209 := (hne209 _ (List.mem_of_getElem? (i := 1) rfl)).1
        refine Home.st (own_pure (own_virtual X209 hx hZ hown (own_w37 hw) (own_w38 hw) (notFace_of_selects (args := #[]) (mvT hZ (own_w40 hw))) (own_w40 hw) (own_w39 hw) (own_w7 hw) (own_w41 hw) (by decide) (rm8_0 l Z a0 hw [] b1_208 ad209 b1_3_2_19_208 k1_3_2_19_208 (6 : Int32) [(.int (v78.toInt8.toInt32)), (.int (v79.toInt8.toInt32)), (.int (v80.toInt8.toInt32)), (.int (v81.toInt8.toInt32)), (.int (v82.toInt8.toInt32)), (.int (v83.toInt8.toInt32))] b209 k209 (5 : Int32) [(.int (109 : Int32)), (.int (111 : Int32)), (.int (110 : Int32)), (.int (116 : Int32)), (.int (104 : Int32))] sv_COMPACT_STRINGS h209 n0 O209 q213 V209 (by decide) q210 Ea209 ne214 S_COMPACT_STRINGS hCS q211 Fc209 q212 Fv209) e209 q210 rfl (by rw [hml]; rfl) (argsL := [(.ref ad209)]) (rest := []) (lenOf own_pd7 rfl) rfl rfl (W := 0) (by exact hW0) (by decide) (by decide) (hb hby at_340) (by decide) (by decide))) fun T215 X215 e215 => ?_
        show Home T215 (mkF m 343 #[.val (.int i0), .val (.int i1), .val (.int i2), .val (.int i3), .val (.int i4), .val (.int i5), .val (.ref b1), .val (.int v10), .val (.int v15), .val (.int v20), .val (.int v25), .val (.int (6 : Int32)), .val (.ref b1_208), .unset, .unset] [(.int (0 : Int32))])
        refine Home.go (fun _ => XS.ifYes X215.here hx rfl (pc0 := 343) (pc' := 354) rfl (hb hby at_343) rfl ((if0 _ _).trans (teq (by decide)).1) (by decide) (by decide)) ?_
        refine Home.run X215 hx hby sg0_354_1 (pc' := 356) (L' := #[.val (.int i0), .val (.int i1), .val (.int i2), .val (.int i3), .val (.int i4), .val (.int i5), .val (.ref b1), .val (.int v10), .val (.int v15), .val (.int v20), .val (.int v25), .val (.int (6 : Int32)), .val (.ref b1_208), .unset, .unset]) (S' := [(.ref b1_208)]) rfl ?_
        obtain ⟨ad216, b216, k216, T216, h216, X216, e216, E216, hZ, hown, Cd216, Ea216, Fc216, Fv216, V216, la216, lb216, hne216, st216⟩ := own_ldcW X215 hx hZ hown (own_hEL hw) Cd209 (own_w72 hw) (own_wS hw) e215 (List.mem_of_getElem? (i := 1) rfl) (vs := [(.int (113 : Int32)), (.int (117 : Int32)), (.int (97 : Int32)), (.int (114 : Int32)), (.int (116 : Int32)), (.int (101 : Int32)), (.int (114 : Int32))]) (z := (7 : Int32)) ⟨by decide, by rfl⟩ (by decide) (by decide) (g := (mkF m 356 #[.val (.int i0), .val (.int i1), .val (.int i2), .val (.int i3), .val (.int i4), .val (.int i5), .val (.ref b1), .val (.int v10), .val (.int v15), .val (.int v20), .val (.int v25), .val (.int (6 : Int32)), .val (.ref b1_208), .unset, .unset] [(.ref b1_208)])) rfl (hb hby at_356) (n := 28) (by decide) (by decide) (by decide) (by decide)
        refine Home.go st216 ?_
        have O216 := O209.ext E216
        have K216 : Keep h0 h216 ([] : List Addr) := Keep.ext K209 E216
        have q217 := (q210.ext E216)
        have q218 := (q211.ext E216)
        have q219 := (q212.ext E216)
        have q220 := (q213.ext E216)
        have ne221 : b1_208 ≠ ad216 := (hne216 _ (List.mem_of_getElem? (i := 1) rfl)).1
        refine Home.st (own_pure (own_virtual X216 hx hZ hown (own_w37 hw) (own_w38 hw) (notFace_of_selects (args := #[]) (mvT hZ (own_w40 hw))) (own_w40 hw) (own_w39 hw) (own_w7 hw) (own_w41 hw) (by decide) (rm8_0 l Z a0 hw [] b1_208 ad216 b1_3_2_19_208 k1_3_2_19_208 (6 : Int32) [(.int (v78.toInt8.toInt32)), (.int (v79.toInt8.toInt32)), (.int (v80.toInt8.toInt32)), (.int (v81.toInt8.toInt32)), (.int (v82.toInt8.toInt32)), (.int (v83.toInt8.toInt32))] b216 k216 (7 : Int32) [(.int (113 : Int32)), (.int (117 : Int32)), (.int (97 : Int32)), (.int (114 : Int32)), (.int (116 : Int32)), (.int (101 : Int32)), (.int (114 : Int32))] sv_COMPACT_STRINGS h216 n0 O216 q220 V216 (by decide) q217 Ea216 ne221 S_COMPACT_STRINGS hCS q218 Fc216 q219 Fv216) e216 q217 rfl (by rw [hml]; rfl) (argsL := [(.ref ad216)]) (rest := []) (lenOf own_pd7 rfl) rfl rfl (W := 0) (by exact hW0) (by decide) (by decide) (hb hby at_358) (by decide) (by decide))) fun T222 X222 e222 => ?_
        show Home T222 (mkF m 361 #[.val (.int i0), .val (.int i1), .val (.int i2), .val (.int i3), .val (.int i4), .val (.int i5), .val (.ref b1), .val (.int v10), .val (.int v15), .val (.int v20), .val (.int v25), .val (.int (6 : Int32)), .val (.ref b1_208), .unset, .unset] [(.int (0 : Int32))])
        refine Home.go (fun _ => XS.ifYes X222.here hx rfl (pc0 := 361) (pc' := 372) rfl (hb hby at_361) rfl ((if0 _ _).trans (teq (by decide)).1) (by decide) (by decide)) ?_
        refine Home.run X222 hx hby sg0_372_3 (pc' := 377) (L' := #[.val (.int i0), .val (.int i1), .val (.int i2), .val (.int i3), .val (.int i4), .val (.int i5), .val (.ref b1), .val (.int v10), .val (.int v15), .val (.int v20), .val (.int v25), .val (.int (6 : Int32)), .val (.ref b1_208), .val .null, .unset]) (S' := [(.ref b1_208)]) rfl ?_
        refine Home.call (own_static X222 hx hZ hown (own_w50 hw) (own_w51 hw) (own_w48 hw) (own_w52 hw) (by decide) (rm10_0 l Z a0 hw [] b1_208 b1_3_2_19_208 k1_3_2_19_208 (6 : Int32) [(.int (v78.toInt8.toInt32)), (.int (v79.toInt8.toInt32)), (.int (v80.toInt8.toInt32)), (.int (v81.toInt8.toInt32)), (.int (v82.toInt8.toInt32)), (.int (v83.toInt8.toInt32))] sv__VALUES k_sv__VALUES sv_MONTH sv_QUARTER sv_MONTH_id sv_COMPACT_STRINGS sv_MONTH_id_value k_sv_MONTH_id_value sv_QUARTER_id sv_QUARTER_id_value k_sv_QUARTER_id_value h216 n0 O216 q220 (by decide) (by decide) S__VALUES V_sv__VALUES E_sv__VALUES F_id_sv_MONTH E_sv_MONTH_id q217 S_COMPACT_STRINGS F_coder_sv_MONTH_id q218 F_value_sv_MONTH_id V_sv_MONTH_id_value q219 g_b1_208 hCS F_id_sv_QUARTER E_sv_QUARTER_id F_coder_sv_QUARTER_id F_value_sv_QUARTER_id V_sv_QUARTER_id_value) e222 rfl (by rw [hml]; rfl) (argsL := [(.ref b1_208)]) (rest := []) (lenOf own_pd9 rfl) rfl rfl (W := 0) (by exact hW0) (by decide) (by decide) (hb hby at_377) (by decide) (by decide)) ?_
        rintro _ T223 L223 X223 ⟨rfl, N223q, K223q⟩
        have Cd223 := Cold.keep Cd216 K223q all0
        have O223 := Old.keep O216 K223q all0
        have K223 : Keep h0 T223.heap ([] : List Addr) := Keep.trans K216 K223q all0
        have N223 := Fr.app N208 N223q
        show Home T223 (mkF m 380 #[.val (.int i0), .val (.int i1), .val (.int i2), .val (.int i3), .val (.int i4), .val (.int i5), .val (.ref b1), .val (.int v10), .val (.int v15), .val (.int v20), .val (.int v25), .val (.int (6 : Int32)), .val (.ref b1_208), .val .null, .unset] [.null])
        refine Home.run X223 hx hby sg0_380_3 (pc' := 386) (L' := #[.val (.int i0), .val (.int i1), .val (.int i2), .val (.int i3), .val (.int i4), .val (.int i5), .val (.ref b1), .val (.int v10), .val (.int v15), .val (.int v20), .val (.int v25), .val (.int (6 : Int32)), .val (.ref b1_208), .val .null, .val .null]) (S' := [.null, .null]) rfl ?_
        refine Home.go (fun _ => Jvm.RoadKit.acmp X223 hx rfl rfl rfl (pc0 := 386) (pc' := 389) (same := true) rfl (hb hby at_386) rfl (decide_eq_true rfl) (by decide) (by decide)) ?_
        show Home T223 (mkF m 389 #[.val (.int i0), .val (.int i1), .val (.int i2), .val (.int i3), .val (.int i4), .val (.int i5), .val (.ref b1), .val (.int v10), .val (.int v15), .val (.int v20), .val (.int v25), .val (.int (6 : Int32)), .val (.ref b1_208), .val .null, .val .null] [])
        refine Home.run X223 hx hby sg0_389_2 (pc' := 394) (L' := #[.val (.int i0), .val (.int i1), .val (.int i2), .val (.int i3), .val (.int i4), .val (.int i5), .val (.ref b1), .val (.int v10), .val (.int v15), .val (.int v20), .val (.int v25), .val (.int (6 : Int32)), .val (.ref b1_208), .val .null, .val .null]) (S' := [(.int (1 : Int32))]) rfl ?_
        exact HomeW.retN X223 hx hlk hZ (own_hEL hw) rfl Cd223 (t := .boolean) hret (by simp) (hb hby at_394) ⟨rfl, N223⟩ (by decide) (by decide)
       ·
        have bd207 : ¬ v68 < (7 : Int32) ∧ ¬ (8 : Int32) < v68 := ⟨(bnd_nel bd173.1 c204 (by decide +kernel)), bd173.2⟩
        by_cases c224 : v68 = (7 : Int32)
        ·
         have bd225 : ¬ v68 < (7 : Int32) ∧ ¬ (7 : Int32) < v68 := ⟨(bnd_eql c224), (bnd_eqr c224)⟩
         have fx226 : v68 = (7 : Int32) := bnd_fix bd225
         try rw [fx226]
         show Home TJ76 (mkF m 331 #[.val (.int i0), .val (.int i1), .val (.int i2), .val (.int i3), .val (.int i4), .val (.int i5), .val (.ref b1), .val (.int v10), .val (.int v15), .val (.int v20), .val (.int v25), .val (.int (7 : Int32)), v77, .unset, .unset] [(.int (7 : Int32)), (.ref b1)])
         refine Home.call (own_static XJ76 hx hZ hown (own_w1 hw) (own_w2 hw) (own_w3 hw) (own_w4 hw) (by decide) (rm1_6 l Z a0 hw [] b1 k1 v78 v79 v80 v81 v82 v83 v84 v85 sv_COMPACT_STRINGS hJ76 n0 OJ76 HJ76_0 bv78 bv79 bv80 bv81 bv82 bv83 bv84 S_COMPACT_STRINGS hCS) eJ76 rfl (by rw [hml]; rfl) (argsL := [(.ref b1), (.int (7 : Int32))]) (rest := []) (lenOf own_pd5 rfl) rfl rfl (W := 0) (by exact hW0) (by decide) (by decide) (hb hby at_331) (by decide) (by decide)) ?_
         rintro _ T229 L229 X229 ⟨b1_229, b1_3_2_21_229, k1_3_2_21_229, rfl, N229q, sz_b1_229, sz_b1_3_2_21_229, K229q, P229_0, P229_1, P229_2, P229_3⟩
         have Cd229 := Cold.keep CdJ76 K229q all0
         have Cd229b1_229 := Cold.put Cd229 ⟨Safe.keep K229q all0 CdJ76.2.1.1 (Safe.new sz_b1_229), P229_0.lt⟩
         have Cd229b1_3_2_21_229 := Cold.put Cd229b1_229 ⟨Safe.keep K229q all0 CdJ76.2.1.1 (Safe.new sz_b1_3_2_21_229), P229_3.lt⟩
         have g_b1_229 : n0 ≤ b1_229 := Nat.le_trans (Old.le OJ76) sz_b1_229
         have g_b1_3_2_21_229 : n0 ≤ b1_3_2_21_229 := Nat.le_trans (Old.le OJ76) sz_b1_3_2_21_229
         have O229 := Old.keep OJ76 K229q all0
         have K229 : Keep h0 T229.heap ([] : List Addr) := Keep.trans KJ76 K229q all0
         have N229 := Fr.app NJ76 N229q
         show Home T229 (mkF m 334 #[.val (.int i0), .val (.int i1), .val (.int i2), .val (.int i3), .val (.int i4), .val (.int i5), .val (.ref b1), .val (.int v10), .val (.int v15), .val (.int v20), .val (.int v25), .val (.int (7 : Int32)), v77, .unset, .unset] [(.ref b1_229)])
         refine Home.go (fun _ => XS.astore X229.here hx rfl (hb hby at_334) rfl rfl (l' := #[.val (.int i0), .val (.int i1), .val (.int i2), .val (.int i3), .val (.int i4), .val (.int i5), .val (.ref b1), .val (.int v10), .val (.int v15), .val (.int v20), .val (.int v25), .val (.int (7 : Int32)), .val (.ref b1_229), .unset, .unset]) (XS.store1 rfl hv77 rfl)) ?_
         refine Home.run X229 hx hby sg0_336_1 (pc' := 338) (L' := #[.val (.int i0), .val (.int i1), .val (.int i2), .val (.int i3), .val (.int i4), .val (.int i5), .val (.ref b1), .val (.int v10), .val (.int v15), .val (.int v20), .val (.int v25), .val (.int (7 : Int32)), .val (.ref b1_229), .unset, .unset]) (S' := [(.ref b1_229)]) rfl ?_
         obtain ⟨ad230, b230, k230, T230, h230, X230, e230, E230, hZ, hown, Cd230, Ea230, Fc230, Fv230, V230, la230, lb230, hne230, st230⟩ := own_ldcW X229 hx hZ hown (own_hEL hw) Cd229b1_3_2_21_229 (own_w34 hw) (own_wS hw) rfl (List.mem_of_getElem? (i := 0) rfl) (vs := [(.int (109 : Int32)), (.int (111 : Int32)), (.int (110 : Int32)), (.int (116 : Int32)), (.int (104 : Int32))]) (z := (5 : Int32)) ⟨by decide, by rfl⟩ (by decide) (by decide) (g := (mkF m 338 #[.val (.int i0), .val (.int i1), .val (.int i2), .val (.int i3), .val (.int i4), .val (.int i5), .val (.ref b1), .val (.int v10), .val (.int v15), .val (.int v20), .val (.int v25), .val (.int (7 : Int32)), .val (.ref b1_229), .unset, .unset] [(.ref b1_229)])) rfl (hb hby at_338) (n := 20) (by decide) (by decide) (by decide) (by decide)
         refine Home.go st230 ?_
         have O230 := O229.ext E230
         have K230 : Keep h0 h230 ([] : List Addr) := Keep.ext K229 E230
         have q231 := (P229_0.ext E230)
         have q232 := (P229_1.ext E230)
         have q233 := (P229_2.ext E230)
         have q234 := (P229_3.ext E230)
         have ne235 : b1_229 ≠ ad230 := (hne230 _ (List.mem_of_getElem? (i := 1) rfl)).1
         refine Home.st (own_pure (own_virtual X230 hx hZ hown (own_w37 hw) (own_w38 hw) (notFace_of_selects (args := #[]) (mvT hZ (own_w40 hw))) (own_w40 hw) (own_w39 hw) (own_w7 hw) (own_w41 hw) (by decide) (rm8_0 l Z a0 hw [] b1_229 ad230 b1_3_2_21_229 k1_3_2_21_229 (7 : Int32) [(.int (v78.toInt8.toInt32)), (.int (v79.toInt8.toInt32)), (.int (v80.toInt8.toInt32)), (.int (v81.toInt8.toInt32)), (.int (v82.toInt8.toInt32)), (.int (v83.toInt8.toInt32)), (.int (v84.toInt8.toInt32))] b230 k230 (5 : Int32) [(.int (109 : Int32)), (.int (111 : Int32)), (.int (110 : Int32)), (.int (116 : Int32)), (.int (104 : Int32))] sv_COMPACT_STRINGS h230 n0 O230 q234 V230 (by decide) q231 Ea230 ne235 S_COMPACT_STRINGS hCS q232 Fc230 q233 Fv230) e230 q231 rfl (by rw [hml]; rfl) (argsL := [(.ref ad230)]) (rest := []) (lenOf own_pd7 rfl) rfl rfl (W := 0) (by exact hW0) (by decide) (by decide) (hb hby at_340) (by decide) (by decide))) fun T236 X236 e236 => ?_
         show Home T236 (mkF m 343 #[.val (.int i0), .val (.int i1), .val (.int i2), .val (.int i3), .val (.int i4), .val (.int i5), .val (.ref b1), .val (.int v10), .val (.int v15), .val (.int v20), .val (.int v25), .val (.int (7 : Int32)), .val (.ref b1_229), .unset, .unset] [(.int (0 : Int32))])
         refine Home.go (fun _ => XS.ifYes X236.here hx rfl (pc0 := 343) (pc' := 354) rfl (hb hby at_343) rfl ((if0 _ _).trans (teq (by decide)).1) (by decide) (by decide)) ?_
         refine Home.run X236 hx hby sg0_354_1 (pc' := 356) (L' := #[.val (.int i0), .val (.int i1), .val (.int i2), .val (.int i3), .val (.int i4), .val (.int i5), .val (.ref b1), .val (.int v10), .val (.int v15), .val (.int v20), .val (.int v25), .val (.int (7 : Int32)), .val (.ref b1_229), .unset, .unset]) (S' := [(.ref b1_229)]) rfl ?_
         obtain ⟨ad237, b237, k237, T237, h237, X237, e237, E237, hZ, hown, Cd237, Ea237, Fc237, Fv237, V237, la237, lb237, hne237, st237⟩ := own_ldcW X236 hx hZ hown (own_hEL hw) Cd230 (own_w72 hw) (own_wS hw) e236 (List.mem_of_getElem? (i := 1) rfl) (vs := [(.int (113 : Int32)), (.int (117 : Int32)), (.int (97 : Int32)), (.int (114 : Int32)), (.int (116 : Int32)), (.int (101 : Int32)), (.int (114 : Int32))]) (z := (7 : Int32)) ⟨by decide, by rfl⟩ (by decide) (by decide) (g := (mkF m 356 #[.val (.int i0), .val (.int i1), .val (.int i2), .val (.int i3), .val (.int i4), .val (.int i5), .val (.ref b1), .val (.int v10), .val (.int v15), .val (.int v20), .val (.int v25), .val (.int (7 : Int32)), .val (.ref b1_229), .unset, .unset] [(.ref b1_229)])) rfl (hb hby at_356) (n := 28) (by decide) (by decide) (by decide) (by decide)
         refine Home.go st237 ?_
         have O237 := O230.ext E237
         have K237 : Keep h0 h237 ([] : List Addr) := Keep.ext K230 E237
         have q238 := (q231.ext E237)
         have q239 := (q232.ext E237)
         have q240 := (q233.ext E237)
         have q241 := (q234.ext E237)
         have ne242 : b1_229 ≠ ad237 := (hne237 _ (List.mem_of_getElem? (i := 1) rfl)).1
         refine Home.st (own_pure (own_virtual X237 hx hZ hown (own_w37 hw) (own_w38 hw) (notFace_of_selects (args := #[]) (mvT hZ (own_w40 hw))) (own_w40 hw) (own_w39 hw) (own_w7 hw) (own_w41 hw) (by decide) (rm8_2 l Z a0 hw [] b1_229 ad237 sv_COMPACT_STRINGS b1_3_2_21_229 b237 k1_3_2_21_229 (v78.toInt8.toInt32) (v79.toInt8.toInt32) (v80.toInt8.toInt32) (v81.toInt8.toInt32) (v82.toInt8.toInt32) (v83.toInt8.toInt32) (v84.toInt8.toInt32) k237 (113 : Int32) (117 : Int32) (97 : Int32) (114 : Int32) (116 : Int32) (101 : Int32) (114 : Int32) h237 n0 O237 q238 Ea237 ne242 S_COMPACT_STRINGS hCS q239 Fc237 q240 Fv237 q241 V237) e237 q238 rfl (by rw [hml]; rfl) (argsL := [(.ref ad237)]) (rest := []) (lenOf own_pd7 rfl) rfl rfl (W := 0) (by exact hW0) (by decide) (by decide) (hb hby at_358) (by decide) (by decide))) fun T243 X243 e243 => ?_
         show Home T243 (mkF m 361 #[.val (.int i0), .val (.int i1), .val (.int i2), .val (.int i3), .val (.int i4), .val (.int i5), .val (.ref b1), .val (.int v10), .val (.int v15), .val (.int v20), .val (.int v25), .val (.int (7 : Int32)), .val (.ref b1_229), .unset, .unset] [(.int (f_rm8_2 (v78.toInt8.toInt32) (v79.toInt8.toInt32) (v80.toInt8.toInt32) (v81.toInt8.toInt32) (v82.toInt8.toInt32) (v83.toInt8.toInt32) (v84.toInt8.toInt32) (113 : Int32) (117 : Int32) (97 : Int32) (114 : Int32) (116 : Int32) (101 : Int32) (114 : Int32)))])
         obtain ⟨r244, hr244⟩ : ∃ z, z = (f_rm8_2 (v78.toInt8.toInt32) (v79.toInt8.toInt32) (v80.toInt8.toInt32) (v81.toInt8.toInt32) (v82.toInt8.toInt32) (v83.toInt8.toInt32) (v84.toInt8.toInt32) (113 : Int32) (117 : Int32) (97 : Int32) (114 : Int32) (116 : Int32) (101 : Int32) (114 : Int32)) := ⟨_, rfl⟩
         rw [← hr244]
         have br244 : ¬ r244 < (0 : Int32) ∧ ¬ (1 : Int32) < r244 := by rw [hr244]; exact f_rm8_2_bnd (v78.toInt8.toInt32) (v79.toInt8.toInt32) (v80.toInt8.toInt32) (v81.toInt8.toInt32) (v82.toInt8.toInt32) (v83.toInt8.toInt32) (v84.toInt8.toInt32) (113 : Int32) (117 : Int32) (97 : Int32) (114 : Int32) (116 : Int32) (101 : Int32) (114 : Int32)
         by_cases c245 : r244 = (0 : Int32)
         ·
          refine Home.go (fun _ => XS.ifYes X243.here hx rfl (pc0 := 361) (pc' := 372) rfl (hb hby at_361) rfl ((if0 _ _).trans (teq c245).1) (by decide) (by decide)) ?_
          have bd246 : ¬ r244 < (0 : Int32) ∧ ¬ (0 : Int32) < r244 := ⟨(bnd_eql c245), (bnd_eqr c245)⟩
          have fx247 : r244 = (0 : Int32) := bnd_fix bd246
          try rw [fx247]
          show Home T243 (mkF m 372 #[.val (.int i0), .val (.int i1), .val (.int i2), .val (.int i3), .val (.int i4), .val (.int i5), .val (.ref b1), .val (.int v10), .val (.int v15), .val (.int v20), .val (.int v25), .val (.int (7 : Int32)), .val (.ref b1_229), .unset, .unset] [])
          refine Home.run X243 hx hby sg0_372_3 (pc' := 377) (L' := #[.val (.int i0), .val (.int i1), .val (.int i2), .val (.int i3), .val (.int i4), .val (.int i5), .val (.ref b1), .val (.int v10), .val (.int v15), .val (.int v20), .val (.int v25), .val (.int (7 : Int32)), .val (.ref b1_229), .val .null, .unset]) (S' := [(.ref b1_229)]) rfl ?_
          by_cases c250 : (f_rm8_2 (113 : Int32) (117 : Int32) (97 : Int32) (114 : Int32) (116 : Int32) (101 : Int32) (114 : Int32) (v78.toInt8.toInt32) (v79.toInt8.toInt32) (v80.toInt8.toInt32) (v81.toInt8.toInt32) (v82.toInt8.toInt32) (v83.toInt8.toInt32) (v84.toInt8.toInt32)) = (0 : Int32)
          ·
           have bd251 : ¬ (f_rm8_2 (113 : Int32) (117 : Int32) (97 : Int32) (114 : Int32) (116 : Int32) (101 : Int32) (114 : Int32) (v78.toInt8.toInt32) (v79.toInt8.toInt32) (v80.toInt8.toInt32) (v81.toInt8.toInt32) (v82.toInt8.toInt32) (v83.toInt8.toInt32) (v84.toInt8.toInt32)) < (0 : Int32) ∧ ¬ (0 : Int32) < (f_rm8_2 (113 : Int32) (117 : Int32) (97 : Int32) (114 : Int32) (116 : Int32) (101 : Int32) (114 : Int32) (v78.toInt8.toInt32) (v79.toInt8.toInt32) (v80.toInt8.toInt32) (v81.toInt8.toInt32) (v82.toInt8.toInt32) (v83.toInt8.toInt32) (v84.toInt8.toInt32)) := ⟨(bnd_eql c250), (bnd_eqr c250)⟩
           refine Home.call (own_static X243 hx hZ hown (own_w50 hw) (own_w51 hw) (own_w48 hw) (own_w52 hw) (by decide) (rm10_3 l Z a0 hw [] b1_229 sv__VALUES k_sv__VALUES sv_MONTH sv_QUARTER sv_MONTH_id sv_COMPACT_STRINGS sv_MONTH_id_value k_sv_MONTH_id_value b1_3_2_21_229 k1_3_2_21_229 (v78.toInt8.toInt32) (v79.toInt8.toInt32) (v80.toInt8.toInt32) (v81.toInt8.toInt32) (v82.toInt8.toInt32) (v83.toInt8.toInt32) (v84.toInt8.toInt32) sv_QUARTER_id sv_QUARTER_id_value k_sv_QUARTER_id_value h237 n0 O237 c250 S__VALUES V_sv__VALUES E_sv__VALUES F_id_sv_MONTH E_sv_MONTH_id q238 S_COMPACT_STRINGS F_coder_sv_MONTH_id q239 F_value_sv_MONTH_id V_sv_MONTH_id_value q240 q241 g_b1_229 hCS F_id_sv_QUARTER E_sv_QUARTER_id F_coder_sv_QUARTER_id F_value_sv_QUARTER_id V_sv_QUARTER_id_value) e243 rfl (by rw [hml]; rfl) (argsL := [(.ref b1_229)]) (rest := []) (lenOf own_pd9 rfl) rfl rfl (W := 0) (by exact hW0) (by decide) (by decide) (hb hby at_377) (by decide) (by decide)) ?_
           rintro _ T252 L252 X252 ⟨rfl, N252q, K252q⟩
           have Cd252 := Cold.keep Cd237 K252q all0
           have O252 := Old.keep O237 K252q all0
           have K252 : Keep h0 T252.heap ([] : List Addr) := Keep.trans K237 K252q all0
           have N252 := Fr.app N229 N252q
           refine Home.run X252 hx hby sg0_380_3 (pc' := 386) (L' := #[.val (.int i0), .val (.int i1), .val (.int i2), .val (.int i3), .val (.int i4), .val (.int i5), .val (.ref b1), .val (.int v10), .val (.int v15), .val (.int v20), .val (.int v25), .val (.int (7 : Int32)), .val (.ref b1_229), .val .null, .val .null]) (S' := [.null, .null]) rfl ?_
           refine Home.go (fun _ => Jvm.RoadKit.acmp X252 hx rfl rfl rfl (pc0 := 386) (pc' := 389) (same := true) rfl (hb hby at_386) rfl (decide_eq_true rfl) (by decide) (by decide)) ?_
           show Home T252 (mkF m 389 #[.val (.int i0), .val (.int i1), .val (.int i2), .val (.int i3), .val (.int i4), .val (.int i5), .val (.ref b1), .val (.int v10), .val (.int v15), .val (.int v20), .val (.int v25), .val (.int (7 : Int32)), .val (.ref b1_229), .val .null, .val .null] [])
           refine Home.run X252 hx hby sg0_389_2 (pc' := 394) (L' := #[.val (.int i0), .val (.int i1), .val (.int i2), .val (.int i3), .val (.int i4), .val (.int i5), .val (.ref b1), .val (.int v10), .val (.int v15), .val (.int v20), .val (.int v25), .val (.int (7 : Int32)), .val (.ref b1_229), .val .null, .val .null]) (S' := [(.int (1 : Int32))]) rfl ?_
           exact HomeW.retN X252 hx hlk hZ (own_hEL hw) rfl Cd252 (t := .boolean) hret (by simp) (hb hby at_394) ⟨rfl, N252⟩ (by decide) (by decide)
          ·
           refine Home.call (own_static X243 hx hZ hown (own_w50 hw) (own_w51 hw) (own_w48 hw) (own_w52 hw) (by decide) (rm10_4 l Z a0 hw [] b1_229 sv__VALUES k_sv__VALUES sv_MONTH sv_QUARTER sv_MONTH_id sv_COMPACT_STRINGS sv_MONTH_id_value k_sv_MONTH_id_value b1_3_2_21_229 k1_3_2_21_229 (v78.toInt8.toInt32) (v79.toInt8.toInt32) (v80.toInt8.toInt32) (v81.toInt8.toInt32) (v82.toInt8.toInt32) (v83.toInt8.toInt32) (v84.toInt8.toInt32) sv_QUARTER_id sv_QUARTER_id_value k_sv_QUARTER_id_value h237 n0 O237 c250 S__VALUES V_sv__VALUES E_sv__VALUES F_id_sv_MONTH E_sv_MONTH_id q238 S_COMPACT_STRINGS F_coder_sv_MONTH_id q239 F_value_sv_MONTH_id V_sv_MONTH_id_value q240 q241 g_b1_229 hCS F_id_sv_QUARTER E_sv_QUARTER_id F_coder_sv_QUARTER_id F_value_sv_QUARTER_id V_sv_QUARTER_id_value) e243 rfl (by rw [hml]; rfl) (argsL := [(.ref b1_229)]) (rest := []) (lenOf own_pd9 rfl) rfl rfl (W := 0) (by exact hW0) (by decide) (by decide) (hb hby at_377) (by decide) (by decide)) ?_
           rintro _ T253 L253 X253 ⟨rfl, N253q, K253q⟩
           have Cd253 := Cold.keep Cd237 K253q all0
           have O253 := Old.keep O237 K253q all0
           have K253 : Keep h0 T253.heap ([] : List Addr) := Keep.trans K237 K253q all0
           have N253 := Fr.app N229 N253q
           refine Home.run X253 hx hby sg0_380_3 (pc' := 386) (L' := #[.val (.int i0), .val (.int i1), .val (.int i2), .val (.int i3), .val (.int i4), .val (.int i5), .val (.ref b1), .val (.int v10), .val (.int v15), .val (.int v20), .val (.int v25), .val (.int (7 : Int32)), .val (.ref b1_229), .val .null, .val (.ref sv_QUARTER)]) (S' := [.null, (.ref sv_QUARTER)]) rfl ?_
           refine Home.go (fun _ => Jvm.RoadKit.acmp X253 hx rfl rfl rfl (pc0 := 386) (pc' := 393) (same := false) rfl (hb hby at_386) rfl (decide_eq_false nofun) (by decide) (by decide)) ?_
           show Home T253 (mkF m 393 #[.val (.int i0), .val (.int i1), .val (.int i2), .val (.int i3), .val (.int i4), .val (.int i5), .val (.ref b1), .val (.int v10), .val (.int v15), .val (.int v20), .val (.int v25), .val (.int (7 : Int32)), .val (.ref b1_229), .val .null, .val (.ref sv_QUARTER)] [])
           refine Home.run X253 hx hby sg0_393_1 (pc' := 394) (L' := #[.val (.int i0), .val (.int i1), .val (.int i2), .val (.int i3), .val (.int i4), .val (.int i5), .val (.ref b1), .val (.int v10), .val (.int v15), .val (.int v20), .val (.int v25), .val (.int (7 : Int32)), .val (.ref b1_229), .val .null, .val (.ref sv_QUARTER)]) (S' := [(.int (0 : Int32))]) rfl ?_
           exact HomeW.retN X253 hx hlk hZ (own_hEL hw) rfl Cd253 (t := .boolean) hret (by simp) (hb hby at_394) ⟨congrArg some (congrArg Value.int (own_end2 v78 v79 v80 v81 v82 v83 v84 r244 hr244 c245 c250)), N253⟩ (by decide) (by decide)
         ·
          refine Home.go (fun _ => XS.ifNo X243.here hx rfl (hb hby at_361) rfl ((if0 _ _).trans (feq c245).1)) ?_
          have bd248 : ¬ r244 < (1 : Int32) ∧ ¬ (1 : Int32) < r244 := ⟨(bnd_nel br244.1 c245 (by decide +kernel)), br244.2⟩
          have fx249 : r244 = (1 : Int32) := bnd_fix bd248
          try rw [fx249]
          show Home T243 (mkF m 364 #[.val (.int i0), .val (.int i1), .val (.int i2), .val (.int i3), .val (.int i4), .val (.int i5), .val (.ref b1), .val (.int v10), .val (.int v15), .val (.int v20), .val (.int v25), .val (.int (7 : Int32)), .val (.ref b1_229), .unset, .unset] [])
          refine Home.st (getS2 X243 hx hZ hown (host := "") (Or.inl (own_w73 hw)) Via.refl e243 (S_QUARTER.ext O237.2) rfl (hb hby at_364)) fun T254 X254 e254 => ?_
          refine Home.run X254 hx hby sg0_367_3 (pc' := 377) (L' := #[.val (.int i0), .val (.int i1), .val (.int i2), .val (.int i3), .val (.int i4), .val (.int i5), .val (.ref b1), .val (.int v10), .val (.int v15), .val (.int v20), .val (.int v25), .val (.int (7 : Int32)), .val (.ref b1_229), .val (.ref sv_QUARTER), .unset]) (S' := [(.ref b1_229)]) rfl ?_
          by_cases c255 : (f_rm8_2 (113 : Int32) (117 : Int32) (97 : Int32) (114 : Int32) (116 : Int32) (101 : Int32) (114 : Int32) (v78.toInt8.toInt32) (v79.toInt8.toInt32) (v80.toInt8.toInt32) (v81.toInt8.toInt32) (v82.toInt8.toInt32) (v83.toInt8.toInt32) (v84.toInt8.toInt32)) = (0 : Int32)
          ·
           have bd256 : ¬ (f_rm8_2 (113 : Int32) (117 : Int32) (97 : Int32) (114 : Int32) (116 : Int32) (101 : Int32) (114 : Int32) (v78.toInt8.toInt32) (v79.toInt8.toInt32) (v80.toInt8.toInt32) (v81.toInt8.toInt32) (v82.toInt8.toInt32) (v83.toInt8.toInt32) (v84.toInt8.toInt32)) < (0 : Int32) ∧ ¬ (0 : Int32) < (f_rm8_2 (113 : Int32) (117 : Int32) (97 : Int32) (114 : Int32) (116 : Int32) (101 : Int32) (114 : Int32) (v78.toInt8.toInt32) (v79.toInt8.toInt32) (v80.toInt8.toInt32) (v81.toInt8.toInt32) (v82.toInt8.toInt32) (v83.toInt8.toInt32) (v84.toInt8.toInt32)) := ⟨(bnd_eql c255), (bnd_eqr c255)⟩
           refine Home.call (own_static X254 hx hZ hown (own_w50 hw) (own_w51 hw) (own_w48 hw) (own_w52 hw) (by decide) (rm10_3 l Z a0 hw [] b1_229 sv__VALUES k_sv__VALUES sv_MONTH sv_QUARTER sv_MONTH_id sv_COMPACT_STRINGS sv_MONTH_id_value k_sv_MONTH_id_value b1_3_2_21_229 k1_3_2_21_229 (v78.toInt8.toInt32) (v79.toInt8.toInt32) (v80.toInt8.toInt32) (v81.toInt8.toInt32) (v82.toInt8.toInt32) (v83.toInt8.toInt32) (v84.toInt8.toInt32) sv_QUARTER_id sv_QUARTER_id_value k_sv_QUARTER_id_value h237 n0 O237 c255 S__VALUES V_sv__VALUES E_sv__VALUES F_id_sv_MONTH E_sv_MONTH_id q238 S_COMPACT_STRINGS F_coder_sv_MONTH_id q239 F_value_sv_MONTH_id V_sv_MONTH_id_value q240 q241 g_b1_229 hCS F_id_sv_QUARTER E_sv_QUARTER_id F_coder_sv_QUARTER_id F_value_sv_QUARTER_id V_sv_QUARTER_id_value) e254 rfl (by rw [hml]; rfl) (argsL := [(.ref b1_229)]) (rest := []) (lenOf own_pd9 rfl) rfl rfl (W := 0) (by exact hW0) (by decide) (by decide) (hb hby at_377) (by decide) (by decide)) ?_
           rintro _ T257 L257 X257 ⟨rfl, N257q, K257q⟩
           have Cd257 := Cold.keep Cd237 K257q all0
           have O257 := Old.keep O237 K257q all0
           have K257 : Keep h0 T257.heap ([] : List Addr) := Keep.trans K237 K257q all0
           have N257 := Fr.app N229 N257q
           refine Home.run X257 hx hby sg0_380_3 (pc' := 386) (L' := #[.val (.int i0), .val (.int i1), .val (.int i2), .val (.int i3), .val (.int i4), .val (.int i5), .val (.ref b1), .val (.int v10), .val (.int v15), .val (.int v20), .val (.int v25), .val (.int (7 : Int32)), .val (.ref b1_229), .val (.ref sv_QUARTER), .val .null]) (S' := [(.ref sv_QUARTER), .null]) rfl ?_
           refine Home.go (fun _ => Jvm.RoadKit.acmp X257 hx rfl rfl rfl (pc0 := 386) (pc' := 393) (same := false) rfl (hb hby at_386) rfl (decide_eq_false nofun) (by decide) (by decide)) ?_
           show Home T257 (mkF m 393 #[.val (.int i0), .val (.int i1), .val (.int i2), .val (.int i3), .val (.int i4), .val (.int i5), .val (.ref b1), .val (.int v10), .val (.int v15), .val (.int v20), .val (.int v25), .val (.int (7 : Int32)), .val (.ref b1_229), .val (.ref sv_QUARTER), .val .null] [])
           refine Home.run X257 hx hby sg0_393_1 (pc' := 394) (L' := #[.val (.int i0), .val (.int i1), .val (.int i2), .val (.int i3), .val (.int i4), .val (.int i5), .val (.ref b1), .val (.int v10), .val (.int v15), .val (.int v20), .val (.int v25), .val (.int (7 : Int32)), .val (.ref b1_229), .val (.ref sv_QUARTER), .val .null]) (S' := [(.int (0 : Int32))]) rfl ?_
           exact HomeW.retN X257 hx hlk hZ (own_hEL hw) rfl Cd257 (t := .boolean) hret (by simp) (hb hby at_394) ⟨congrArg some (congrArg Value.int (own_end3 v78 v79 v80 v81 v82 v83 v84 r244 hr244 c245 c255)), N257⟩ (by decide) (by decide)
          ·
           refine Home.call (own_static X254 hx hZ hown (own_w50 hw) (own_w51 hw) (own_w48 hw) (own_w52 hw) (by decide) (rm10_4 l Z a0 hw [] b1_229 sv__VALUES k_sv__VALUES sv_MONTH sv_QUARTER sv_MONTH_id sv_COMPACT_STRINGS sv_MONTH_id_value k_sv_MONTH_id_value b1_3_2_21_229 k1_3_2_21_229 (v78.toInt8.toInt32) (v79.toInt8.toInt32) (v80.toInt8.toInt32) (v81.toInt8.toInt32) (v82.toInt8.toInt32) (v83.toInt8.toInt32) (v84.toInt8.toInt32) sv_QUARTER_id sv_QUARTER_id_value k_sv_QUARTER_id_value h237 n0 O237 c255 S__VALUES V_sv__VALUES E_sv__VALUES F_id_sv_MONTH E_sv_MONTH_id q238 S_COMPACT_STRINGS F_coder_sv_MONTH_id q239 F_value_sv_MONTH_id V_sv_MONTH_id_value q240 q241 g_b1_229 hCS F_id_sv_QUARTER E_sv_QUARTER_id F_coder_sv_QUARTER_id F_value_sv_QUARTER_id V_sv_QUARTER_id_value) e254 rfl (by rw [hml]; rfl) (argsL := [(.ref b1_229)]) (rest := []) (lenOf own_pd9 rfl) rfl rfl (W := 0) (by exact hW0) (by decide) (by decide) (hb hby at_377) (by decide) (by decide)) ?_
           rintro _ T258 L258 X258 ⟨rfl, N258q, K258q⟩
           have Cd258 := Cold.keep Cd237 K258q all0
           have O258 := Old.keep O237 K258q all0
           have K258 : Keep h0 T258.heap ([] : List Addr) := Keep.trans K237 K258q all0
           have N258 := Fr.app N229 N258q
           refine Home.run X258 hx hby sg0_380_3 (pc' := 386) (L' := #[.val (.int i0), .val (.int i1), .val (.int i2), .val (.int i3), .val (.int i4), .val (.int i5), .val (.ref b1), .val (.int v10), .val (.int v15), .val (.int v20), .val (.int v25), .val (.int (7 : Int32)), .val (.ref b1_229), .val (.ref sv_QUARTER), .val (.ref sv_QUARTER)]) (S' := [(.ref sv_QUARTER), (.ref sv_QUARTER)]) rfl ?_
           refine Home.go (fun _ => Jvm.RoadKit.acmp X258 hx rfl rfl rfl (pc0 := 386) (pc' := 389) (same := true) rfl (hb hby at_386) rfl (decide_eq_true rfl) (by decide) (by decide)) ?_
           show Home T258 (mkF m 389 #[.val (.int i0), .val (.int i1), .val (.int i2), .val (.int i3), .val (.int i4), .val (.int i5), .val (.ref b1), .val (.int v10), .val (.int v15), .val (.int v20), .val (.int v25), .val (.int (7 : Int32)), .val (.ref b1_229), .val (.ref sv_QUARTER), .val (.ref sv_QUARTER)] [])
           refine Home.run X258 hx hby sg0_389_2 (pc' := 394) (L' := #[.val (.int i0), .val (.int i1), .val (.int i2), .val (.int i3), .val (.int i4), .val (.int i5), .val (.ref b1), .val (.int v10), .val (.int v15), .val (.int v20), .val (.int v25), .val (.int (7 : Int32)), .val (.ref b1_229), .val (.ref sv_QUARTER), .val (.ref sv_QUARTER)]) (S' := [(.int (1 : Int32))]) rfl ?_
           exact HomeW.retN X258 hx hlk hZ (own_hEL hw) rfl Cd258 (t := .boolean) hret (by simp) (hb hby at_394) ⟨rfl, N258⟩ (by decide) (by decide)
        ·
         have bd227 : ¬ v68 < (8 : Int32) ∧ ¬ (8 : Int32) < v68 := ⟨(bnd_nel bd207.1 c224 (by decide +kernel)), bd207.2⟩
         have fx228 : v68 = (8 : Int32) := bnd_fix bd227
         try rw [fx228]
         show Home TJ76 (mkF m 331 #[.val (.int i0), .val (.int i1), .val (.int i2), .val (.int i3), .val (.int i4), .val (.int i5), .val (.ref b1), .val (.int v10), .val (.int v15), .val (.int v20), .val (.int v25), .val (.int (8 : Int32)), v77, .unset, .unset] [(.int (8 : Int32)), (.ref b1)])
         refine Home.call (own_static XJ76 hx hZ hown (own_w1 hw) (own_w2 hw) (own_w3 hw) (own_w4 hw) (by decide) (rm1_7 l Z a0 hw [] b1 k1 v78 v79 v80 v81 v82 v83 v84 v85 sv_COMPACT_STRINGS hJ76 n0 OJ76 HJ76_0 bv78 bv79 bv80 bv81 bv82 bv83 bv84 bv85 S_COMPACT_STRINGS hCS) eJ76 rfl (by rw [hml]; rfl) (argsL := [(.ref b1), (.int (8 : Int32))]) (rest := []) (lenOf own_pd5 rfl) rfl rfl (W := 0) (by exact hW0) (by decide) (by decide) (hb hby at_331) (by decide) (by decide)) ?_
         rintro _ T259 L259 X259 ⟨b1_259, b1_3_2_23_259, k1_3_2_23_259, rfl, N259q, sz_b1_259, sz_b1_3_2_23_259, K259q, P259_0, P259_1, P259_2, P259_3⟩
         have Cd259 := Cold.keep CdJ76 K259q all0
         have Cd259b1_259 := Cold.put Cd259 ⟨Safe.keep K259q all0 CdJ76.2.1.1 (Safe.new sz_b1_259), P259_0.lt⟩
         have Cd259b1_3_2_23_259 := Cold.put Cd259b1_259 ⟨Safe.keep K259q all0 CdJ76.2.1.1 (Safe.new sz_b1_3_2_23_259), P259_3.lt⟩
         have g_b1_259 : n0 ≤ b1_259 := Nat.le_trans (Old.le OJ76) sz_b1_259
         have g_b1_3_2_23_259 : n0 ≤ b1_3_2_23_259 := Nat.le_trans (Old.le OJ76) sz_b1_3_2_23_259
         have O259 := Old.keep OJ76 K259q all0
         have K259 : Keep h0 T259.heap ([] : List Addr) := Keep.trans KJ76 K259q all0
         have N259 := Fr.app NJ76 N259q
         show Home T259 (mkF m 334 #[.val (.int i0), .val (.int i1), .val (.int i2), .val (.int i3), .val (.int i4), .val (.int i5), .val (.ref b1), .val (.int v10), .val (.int v15), .val (.int v20), .val (.int v25), .val (.int (8 : Int32)), v77, .unset, .unset] [(.ref b1_259)])
         refine Home.go (fun _ => XS.astore X259.here hx rfl (hb hby at_334) rfl rfl (l' := #[.val (.int i0), .val (.int i1), .val (.int i2), .val (.int i3), .val (.int i4), .val (.int i5), .val (.ref b1), .val (.int v10), .val (.int v15), .val (.int v20), .val (.int v25), .val (.int (8 : Int32)), .val (.ref b1_259), .unset, .unset]) (XS.store1 rfl hv77 rfl)) ?_
         refine Home.run X259 hx hby sg0_336_1 (pc' := 338) (L' := #[.val (.int i0), .val (.int i1), .val (.int i2), .val (.int i3), .val (.int i4), .val (.int i5), .val (.ref b1), .val (.int v10), .val (.int v15), .val (.int v20), .val (.int v25), .val (.int (8 : Int32)), .val (.ref b1_259), .unset, .unset]) (S' := [(.ref b1_259)]) rfl ?_
         obtain ⟨ad260, b260, k260, T260, h260, X260, e260, E260, hZ, hown, Cd260, Ea260, Fc260, Fv260, V260, la260, lb260, hne260, st260⟩ := own_ldcW X259 hx hZ hown (own_hEL hw) Cd259b1_3_2_23_259 (own_w34 hw) (own_wS hw) rfl (List.mem_of_getElem? (i := 0) rfl) (vs := [(.int (109 : Int32)), (.int (111 : Int32)), (.int (110 : Int32)), (.int (116 : Int32)), (.int (104 : Int32))]) (z := (5 : Int32)) ⟨by decide, by rfl⟩ (by decide) (by decide) (g := (mkF m 338 #[.val (.int i0), .val (.int i1), .val (.int i2), .val (.int i3), .val (.int i4), .val (.int i5), .val (.ref b1), .val (.int v10), .val (.int v15), .val (.int v20), .val (.int v25), .val (.int (8 : Int32)), .val (.ref b1_259), .unset, .unset] [(.ref b1_259)])) rfl (hb hby at_338) (n := 20) (by decide) (by decide) (by decide) (by decide)
         refine Home.go st260 ?_
         have O260 := O259.ext E260
         have K260 : Keep h0 h260 ([] : List Addr) := Keep.ext K259 E260
         have q261 := (P259_0.ext E260)
         have q262 := (P259_1.ext E260)
         have q263 := (P259_2.ext E260)
         have q264 := (P259_3.ext E260)
         have ne265 : b1_259 ≠ ad260 := (hne260 _ (List.mem_of_getElem? (i := 1) rfl)).1
         refine Home.st (own_pure (own_virtual X260 hx hZ hown (own_w37 hw) (own_w38 hw) (notFace_of_selects (args := #[]) (mvT hZ (own_w40 hw))) (own_w40 hw) (own_w39 hw) (own_w7 hw) (own_w41 hw) (by decide) (rm8_0 l Z a0 hw [] b1_259 ad260 b1_3_2_23_259 k1_3_2_23_259 (8 : Int32) [(.int (v78.toInt8.toInt32)), (.int (v79.toInt8.toInt32)), (.int (v80.toInt8.toInt32)), (.int (v81.toInt8.toInt32)), (.int (v82.toInt8.toInt32)), (.int (v83.toInt8.toInt32)), (.int (v84.toInt8.toInt32)), (.int (v85.toInt8.toInt32))] b260 k260 (5 : Int32) [(.int (109 : Int32)), (.int (111 : Int32)), (.int (110 : Int32)), (.int (116 : Int32)), (.int (104 : Int32))] sv_COMPACT_STRINGS h260 n0 O260 q264 V260 (by decide) q261 Ea260 ne265 S_COMPACT_STRINGS hCS q262 Fc260 q263 Fv260) e260 q261 rfl (by rw [hml]; rfl) (argsL := [(.ref ad260)]) (rest := []) (lenOf own_pd7 rfl) rfl rfl (W := 0) (by exact hW0) (by decide) (by decide) (hb hby at_340) (by decide) (by decide))) fun T266 X266 e266 => ?_
         show Home T266 (mkF m 343 #[.val (.int i0), .val (.int i1), .val (.int i2), .val (.int i3), .val (.int i4), .val (.int i5), .val (.ref b1), .val (.int v10), .val (.int v15), .val (.int v20), .val (.int v25), .val (.int (8 : Int32)), .val (.ref b1_259), .unset, .unset] [(.int (0 : Int32))])
         refine Home.go (fun _ => XS.ifYes X266.here hx rfl (pc0 := 343) (pc' := 354) rfl (hb hby at_343) rfl ((if0 _ _).trans (teq (by decide)).1) (by decide) (by decide)) ?_
         refine Home.run X266 hx hby sg0_354_1 (pc' := 356) (L' := #[.val (.int i0), .val (.int i1), .val (.int i2), .val (.int i3), .val (.int i4), .val (.int i5), .val (.ref b1), .val (.int v10), .val (.int v15), .val (.int v20), .val (.int v25), .val (.int (8 : Int32)), .val (.ref b1_259), .unset, .unset]) (S' := [(.ref b1_259)]) rfl ?_
         obtain ⟨ad267, b267, k267, T267, h267, X267, e267, E267, hZ, hown, Cd267, Ea267, Fc267, Fv267, V267, la267, lb267, hne267, st267⟩ := own_ldcW X266 hx hZ hown (own_hEL hw) Cd260 (own_w72 hw) (own_wS hw) e266 (List.mem_of_getElem? (i := 1) rfl) (vs := [(.int (113 : Int32)), (.int (117 : Int32)), (.int (97 : Int32)), (.int (114 : Int32)), (.int (116 : Int32)), (.int (101 : Int32)), (.int (114 : Int32))]) (z := (7 : Int32)) ⟨by decide, by rfl⟩ (by decide) (by decide) (g := (mkF m 356 #[.val (.int i0), .val (.int i1), .val (.int i2), .val (.int i3), .val (.int i4), .val (.int i5), .val (.ref b1), .val (.int v10), .val (.int v15), .val (.int v20), .val (.int v25), .val (.int (8 : Int32)), .val (.ref b1_259), .unset, .unset] [(.ref b1_259)])) rfl (hb hby at_356) (n := 28) (by decide) (by decide) (by decide) (by decide)
         refine Home.go st267 ?_
         have O267 := O260.ext E267
         have K267 : Keep h0 h267 ([] : List Addr) := Keep.ext K260 E267
         have q268 := (q261.ext E267)
         have q269 := (q262.ext E267)
         have q270 := (q263.ext E267)
         have q271 := (q264.ext E267)
         have ne272 : b1_259 ≠ ad267 := (hne267 _ (List.mem_of_getElem? (i := 1) rfl)).1
         refine Home.st (own_pure (own_virtual X267 hx hZ hown (own_w37 hw) (own_w38 hw) (notFace_of_selects (args := #[]) (mvT hZ (own_w40 hw))) (own_w40 hw) (own_w39 hw) (own_w7 hw) (own_w41 hw) (by decide) (rm8_0 l Z a0 hw [] b1_259 ad267 b1_3_2_23_259 k1_3_2_23_259 (8 : Int32) [(.int (v78.toInt8.toInt32)), (.int (v79.toInt8.toInt32)), (.int (v80.toInt8.toInt32)), (.int (v81.toInt8.toInt32)), (.int (v82.toInt8.toInt32)), (.int (v83.toInt8.toInt32)), (.int (v84.toInt8.toInt32)), (.int (v85.toInt8.toInt32))] b267 k267 (7 : Int32) [(.int (113 : Int32)), (.int (117 : Int32)), (.int (97 : Int32)), (.int (114 : Int32)), (.int (116 : Int32)), (.int (101 : Int32)), (.int (114 : Int32))] sv_COMPACT_STRINGS h267 n0 O267 q271 V267 (by decide) q268 Ea267 ne272 S_COMPACT_STRINGS hCS q269 Fc267 q270 Fv267) e267 q268 rfl (by rw [hml]; rfl) (argsL := [(.ref ad267)]) (rest := []) (lenOf own_pd7 rfl) rfl rfl (W := 0) (by exact hW0) (by decide) (by decide) (hb hby at_358) (by decide) (by decide))) fun T273 X273 e273 => ?_
         show Home T273 (mkF m 361 #[.val (.int i0), .val (.int i1), .val (.int i2), .val (.int i3), .val (.int i4), .val (.int i5), .val (.ref b1), .val (.int v10), .val (.int v15), .val (.int v20), .val (.int v25), .val (.int (8 : Int32)), .val (.ref b1_259), .unset, .unset] [(.int (0 : Int32))])
         refine Home.go (fun _ => XS.ifYes X273.here hx rfl (pc0 := 361) (pc' := 372) rfl (hb hby at_361) rfl ((if0 _ _).trans (teq (by decide)).1) (by decide) (by decide)) ?_
         refine Home.run X273 hx hby sg0_372_3 (pc' := 377) (L' := #[.val (.int i0), .val (.int i1), .val (.int i2), .val (.int i3), .val (.int i4), .val (.int i5), .val (.ref b1), .val (.int v10), .val (.int v15), .val (.int v20), .val (.int v25), .val (.int (8 : Int32)), .val (.ref b1_259), .val .null, .unset]) (S' := [(.ref b1_259)]) rfl ?_
         refine Home.call (own_static X273 hx hZ hown (own_w50 hw) (own_w51 hw) (own_w48 hw) (own_w52 hw) (by decide) (rm10_0 l Z a0 hw [] b1_259 b1_3_2_23_259 k1_3_2_23_259 (8 : Int32) [(.int (v78.toInt8.toInt32)), (.int (v79.toInt8.toInt32)), (.int (v80.toInt8.toInt32)), (.int (v81.toInt8.toInt32)), (.int (v82.toInt8.toInt32)), (.int (v83.toInt8.toInt32)), (.int (v84.toInt8.toInt32)), (.int (v85.toInt8.toInt32))] sv__VALUES k_sv__VALUES sv_MONTH sv_QUARTER sv_MONTH_id sv_COMPACT_STRINGS sv_MONTH_id_value k_sv_MONTH_id_value sv_QUARTER_id sv_QUARTER_id_value k_sv_QUARTER_id_value h267 n0 O267 q271 (by decide) (by decide) S__VALUES V_sv__VALUES E_sv__VALUES F_id_sv_MONTH E_sv_MONTH_id q268 S_COMPACT_STRINGS F_coder_sv_MONTH_id q269 F_value_sv_MONTH_id V_sv_MONTH_id_value q270 g_b1_259 hCS F_id_sv_QUARTER E_sv_QUARTER_id F_coder_sv_QUARTER_id F_value_sv_QUARTER_id V_sv_QUARTER_id_value) e273 rfl (by rw [hml]; rfl) (argsL := [(.ref b1_259)]) (rest := []) (lenOf own_pd9 rfl) rfl rfl (W := 0) (by exact hW0) (by decide) (by decide) (hb hby at_377) (by decide) (by decide)) ?_
         rintro _ T274 L274 X274 ⟨rfl, N274q, K274q⟩
         have Cd274 := Cold.keep Cd267 K274q all0
         have O274 := Old.keep O267 K274q all0
         have K274 : Keep h0 T274.heap ([] : List Addr) := Keep.trans K267 K274q all0
         have N274 := Fr.app N259 N274q
         show Home T274 (mkF m 380 #[.val (.int i0), .val (.int i1), .val (.int i2), .val (.int i3), .val (.int i4), .val (.int i5), .val (.ref b1), .val (.int v10), .val (.int v15), .val (.int v20), .val (.int v25), .val (.int (8 : Int32)), .val (.ref b1_259), .val .null, .unset] [.null])
         refine Home.run X274 hx hby sg0_380_3 (pc' := 386) (L' := #[.val (.int i0), .val (.int i1), .val (.int i2), .val (.int i3), .val (.int i4), .val (.int i5), .val (.ref b1), .val (.int v10), .val (.int v15), .val (.int v20), .val (.int v25), .val (.int (8 : Int32)), .val (.ref b1_259), .val .null, .val .null]) (S' := [.null, .null]) rfl ?_
         refine Home.go (fun _ => Jvm.RoadKit.acmp X274 hx rfl rfl rfl (pc0 := 386) (pc' := 389) (same := true) rfl (hb hby at_386) rfl (decide_eq_true rfl) (by decide) (by decide)) ?_
         show Home T274 (mkF m 389 #[.val (.int i0), .val (.int i1), .val (.int i2), .val (.int i3), .val (.int i4), .val (.int i5), .val (.ref b1), .val (.int v10), .val (.int v15), .val (.int v20), .val (.int v25), .val (.int (8 : Int32)), .val (.ref b1_259), .val .null, .val .null] [])
         refine Home.run X274 hx hby sg0_389_2 (pc' := 394) (L' := #[.val (.int i0), .val (.int i1), .val (.int i2), .val (.int i3), .val (.int i4), .val (.int i5), .val (.ref b1), .val (.int v10), .val (.int v15), .val (.int v20), .val (.int v25), .val (.int (8 : Int32)), .val (.ref b1_259), .val .null, .val .null]) (S' := [(.int (1 : Int32))]) rfl ?_
         exact HomeW.retN X274 hx hlk hZ (own_hEL hw) rfl Cd274 (t := .boolean) hret (by simp) (hb hby at_394) ⟨rfl, N274⟩ (by decide) (by decide)
 ·
  have bd88 : ¬ v68 < (0 : Int32) ∧ ¬ (0 : Int32) < v68 := ⟨bv68.1, c86⟩
  have fx89 : v68 = (0 : Int32) := bnd_fix bd88
  try rw [fx89]
  show Home TJ76 (mkF m 331 #[.val (.int i0), .val (.int i1), .val (.int i2), .val (.int i3), .val (.int i4), .val (.int i5), .val (.ref b1), .val (.int v10), .val (.int v15), .val (.int v20), .val (.int v25), .val (.int (0 : Int32)), v77, .unset, .unset] [(.int (0 : Int32)), (.ref b1)])
  refine Home.call (own_staticW XJ76 hx hZ hown (own_hEL hw) CdJ76 all0 (own_w1 hw) (own_w2 hw) (own_w3 hw) (own_w4 hw) (by decide) (rm1_8 l Z a0 hw [] b1 hJ76 n0 OJ76) eJ76 rfl (by rw [hml]; rfl) (argsL := [(.ref b1), (.int (0 : Int32))]) (rest := []) (lenOf own_pd5 rfl) rfl rfl (W := 0) (by exact hW0) (by decide) (by decide) (hb hby at_331) (by decide) (by decide)) ?_
  rintro _ T275 L275 X275 ⟨⟨b1_275, b2_2_6_275, k2_2_6_275, rfl, N275q, sz_b1_275, K275q, P275_0, P275_1, P275_2, P275_3⟩, hZ, hown, Cd275, sR275⟩
  have Ce275 := Cold.put Cd275 (sR275 rfl _ rfl)
  have g_b1_275 : n0 ≤ b1_275 := Nat.le_trans (Old.le OJ76) sz_b1_275
  have O275 := Old.keep OJ76 K275q all0
  have K275 : Keep h0 T275.heap ([] : List Addr) := Keep.trans KJ76 K275q all0
  have N275 := Fr.app NJ76 N275q
  refine Home.go (fun _ => XS.astore X275.here hx rfl (hb hby at_334) rfl rfl (l' := #[.val (.int i0), .val (.int i1), .val (.int i2), .val (.int i3), .val (.int i4), .val (.int i5), .val (.ref b1), .val (.int v10), .val (.int v15), .val (.int v20), .val (.int v25), .val (.int (0 : Int32)), .val (.ref b1_275), .unset, .unset]) (XS.store1 rfl hv77 rfl)) ?_
  show Home T275 (mkF m 336 #[.val (.int i0), .val (.int i1), .val (.int i2), .val (.int i3), .val (.int i4), .val (.int i5), .val (.ref b1), .val (.int v10), .val (.int v15), .val (.int v20), .val (.int v25), .val (.int (0 : Int32)), .val (.ref b1_275), .unset, .unset] [])
  refine Home.run X275 hx hby sg0_336_1 (pc' := 338) (L' := #[.val (.int i0), .val (.int i1), .val (.int i2), .val (.int i3), .val (.int i4), .val (.int i5), .val (.ref b1), .val (.int v10), .val (.int v15), .val (.int v20), .val (.int v25), .val (.int (0 : Int32)), .val (.ref b1_275), .unset, .unset]) (S' := [(.ref b1_275)]) rfl ?_
  obtain ⟨ad276, b276, k276, T276, h276, X276, e276, E276, hZ, hown, Cd276, Ea276, Fc276, Fv276, V276, la276, lb276, hne276, st276⟩ := own_ldcW X275 hx hZ hown (own_hEL hw) Ce275 (own_w34 hw) (own_wS hw) rfl (List.mem_of_getElem? (i := 0) rfl) (vs := [(.int (109 : Int32)), (.int (111 : Int32)), (.int (110 : Int32)), (.int (116 : Int32)), (.int (104 : Int32))]) (z := (5 : Int32)) ⟨by decide, by rfl⟩ (by decide) (by decide) (g := (mkF m 338 #[.val (.int i0), .val (.int i1), .val (.int i2), .val (.int i3), .val (.int i4), .val (.int i5), .val (.ref b1), .val (.int v10), .val (.int v15), .val (.int v20), .val (.int v25), .val (.int (0 : Int32)), .val (.ref b1_275), .unset, .unset] [(.ref b1_275)])) rfl (hb hby at_338) (n := 20) (by decide) (by decide) (by decide) (by decide)
  refine Home.go st276 ?_
  have O276 := O275.ext E276
  have K276 : Keep h0 h276 ([] : List Addr) := Keep.ext K275 E276
  have q277 := (P275_0.ext E276)
  have q278 := (P275_1.ext E276)
  have q279 := (P275_2.ext E276)
  have q280 := (P275_3.ext E276)
  have ne281 : b1_275 ≠ ad276 := (hne276 _ (List.mem_of_getElem? (i := 0) rfl)).1
  refine Home.st (own_pure (own_virtual X276 hx hZ hown (own_w37 hw) (own_w38 hw) (notFace_of_selects (args := #[]) (mvT hZ (own_w40 hw))) (own_w40 hw) (own_w39 hw) (own_w7 hw) (own_w41 hw) (by decide) (rm8_0 l Z a0 hw [] b1_275 ad276 b2_2_6_275 k2_2_6_275 (0 : Int32) [] b276 k276 (5 : Int32) [(.int (109 : Int32)), (.int (111 : Int32)), (.int (110 : Int32)), (.int (116 : Int32)), (.int (104 : Int32))] sv_COMPACT_STRINGS h276 n0 O276 q280 V276 (by decide) q277 Ea276 ne281 S_COMPACT_STRINGS hCS q278 Fc276 q279 Fv276) e276 q277 rfl (by rw [hml]; rfl) (argsL := [(.ref ad276)]) (rest := []) (lenOf own_pd7 rfl) rfl rfl (W := 0) (by exact hW0) (by decide) (by decide) (hb hby at_340) (by decide) (by decide))) fun T282 X282 e282 => ?_
  show Home T282 (mkF m 343 #[.val (.int i0), .val (.int i1), .val (.int i2), .val (.int i3), .val (.int i4), .val (.int i5), .val (.ref b1), .val (.int v10), .val (.int v15), .val (.int v20), .val (.int v25), .val (.int (0 : Int32)), .val (.ref b1_275), .unset, .unset] [(.int (0 : Int32))])
  refine Home.go (fun _ => XS.ifYes X282.here hx rfl (pc0 := 343) (pc' := 354) rfl (hb hby at_343) rfl ((if0 _ _).trans (teq (by decide)).1) (by decide) (by decide)) ?_
  refine Home.run X282 hx hby sg0_354_1 (pc' := 356) (L' := #[.val (.int i0), .val (.int i1), .val (.int i2), .val (.int i3), .val (.int i4), .val (.int i5), .val (.ref b1), .val (.int v10), .val (.int v15), .val (.int v20), .val (.int v25), .val (.int (0 : Int32)), .val (.ref b1_275), .unset, .unset]) (S' := [(.ref b1_275)]) rfl ?_
  obtain ⟨ad283, b283, k283, T283, h283, X283, e283, E283, hZ, hown, Cd283, Ea283, Fc283, Fv283, V283, la283, lb283, hne283, st283⟩ := own_ldcW X282 hx hZ hown (own_hEL hw) Cd276 (own_w72 hw) (own_wS hw) e282 (List.mem_of_getElem? (i := 1) rfl) (vs := [(.int (113 : Int32)), (.int (117 : Int32)), (.int (97 : Int32)), (.int (114 : Int32)), (.int (116 : Int32)), (.int (101 : Int32)), (.int (114 : Int32))]) (z := (7 : Int32)) ⟨by decide, by rfl⟩ (by decide) (by decide) (g := (mkF m 356 #[.val (.int i0), .val (.int i1), .val (.int i2), .val (.int i3), .val (.int i4), .val (.int i5), .val (.ref b1), .val (.int v10), .val (.int v15), .val (.int v20), .val (.int v25), .val (.int (0 : Int32)), .val (.ref b1_275), .unset, .unset] [(.ref b1_275)])) rfl (hb hby at_356) (n := 28) (by decide) (by decide) (by decide) (by decide)
  refine Home.go st283 ?_
  have O283 := O276.ext E283
  have K283 : Keep h0 h283 ([] : List Addr) := Keep.ext K276 E283
  have q284 := (q277.ext E283)
  have q285 := (q278.ext E283)
  have q286 := (q279.ext E283)
  have q287 := (q280.ext E283)
  have ne288 : b1_275 ≠ ad283 := (hne283 _ (List.mem_of_getElem? (i := 0) rfl)).1
  refine Home.st (own_pure (own_virtual X283 hx hZ hown (own_w37 hw) (own_w38 hw) (notFace_of_selects (args := #[]) (mvT hZ (own_w40 hw))) (own_w40 hw) (own_w39 hw) (own_w7 hw) (own_w41 hw) (by decide) (rm8_0 l Z a0 hw [] b1_275 ad283 b2_2_6_275 k2_2_6_275 (0 : Int32) [] b283 k283 (7 : Int32) [(.int (113 : Int32)), (.int (117 : Int32)), (.int (97 : Int32)), (.int (114 : Int32)), (.int (116 : Int32)), (.int (101 : Int32)), (.int (114 : Int32))] sv_COMPACT_STRINGS h283 n0 O283 q287 V283 (by decide) q284 Ea283 ne288 S_COMPACT_STRINGS hCS q285 Fc283 q286 Fv283) e283 q284 rfl (by rw [hml]; rfl) (argsL := [(.ref ad283)]) (rest := []) (lenOf own_pd7 rfl) rfl rfl (W := 0) (by exact hW0) (by decide) (by decide) (hb hby at_358) (by decide) (by decide))) fun T289 X289 e289 => ?_
  show Home T289 (mkF m 361 #[.val (.int i0), .val (.int i1), .val (.int i2), .val (.int i3), .val (.int i4), .val (.int i5), .val (.ref b1), .val (.int v10), .val (.int v15), .val (.int v20), .val (.int v25), .val (.int (0 : Int32)), .val (.ref b1_275), .unset, .unset] [(.int (0 : Int32))])
  refine Home.go (fun _ => XS.ifYes X289.here hx rfl (pc0 := 361) (pc' := 372) rfl (hb hby at_361) rfl ((if0 _ _).trans (teq (by decide)).1) (by decide) (by decide)) ?_
  refine Home.run X289 hx hby sg0_372_3 (pc' := 377) (L' := #[.val (.int i0), .val (.int i1), .val (.int i2), .val (.int i3), .val (.int i4), .val (.int i5), .val (.ref b1), .val (.int v10), .val (.int v15), .val (.int v20), .val (.int v25), .val (.int (0 : Int32)), .val (.ref b1_275), .val .null, .unset]) (S' := [(.ref b1_275)]) rfl ?_
  refine Home.call (own_static X289 hx hZ hown (own_w50 hw) (own_w51 hw) (own_w48 hw) (own_w52 hw) (by decide) (rm10_0 l Z a0 hw [] b1_275 b2_2_6_275 k2_2_6_275 (0 : Int32) [] sv__VALUES k_sv__VALUES sv_MONTH sv_QUARTER sv_MONTH_id sv_COMPACT_STRINGS sv_MONTH_id_value k_sv_MONTH_id_value sv_QUARTER_id sv_QUARTER_id_value k_sv_QUARTER_id_value h283 n0 O283 q287 (by decide) (by decide) S__VALUES V_sv__VALUES E_sv__VALUES F_id_sv_MONTH E_sv_MONTH_id q284 S_COMPACT_STRINGS F_coder_sv_MONTH_id q285 F_value_sv_MONTH_id V_sv_MONTH_id_value q286 g_b1_275 hCS F_id_sv_QUARTER E_sv_QUARTER_id F_coder_sv_QUARTER_id F_value_sv_QUARTER_id V_sv_QUARTER_id_value) e289 rfl (by rw [hml]; rfl) (argsL := [(.ref b1_275)]) (rest := []) (lenOf own_pd9 rfl) rfl rfl (W := 0) (by exact hW0) (by decide) (by decide) (hb hby at_377) (by decide) (by decide)) ?_
  rintro _ T290 L290 X290 ⟨rfl, N290q, K290q⟩
  have Cd290 := Cold.keep Cd283 K290q all0
  have O290 := Old.keep O283 K290q all0
  have K290 : Keep h0 T290.heap ([] : List Addr) := Keep.trans K283 K290q all0
  have N290 := Fr.app N275 N290q
  show Home T290 (mkF m 380 #[.val (.int i0), .val (.int i1), .val (.int i2), .val (.int i3), .val (.int i4), .val (.int i5), .val (.ref b1), .val (.int v10), .val (.int v15), .val (.int v20), .val (.int v25), .val (.int (0 : Int32)), .val (.ref b1_275), .val .null, .unset] [.null])
  refine Home.run X290 hx hby sg0_380_3 (pc' := 386) (L' := #[.val (.int i0), .val (.int i1), .val (.int i2), .val (.int i3), .val (.int i4), .val (.int i5), .val (.ref b1), .val (.int v10), .val (.int v15), .val (.int v20), .val (.int v25), .val (.int (0 : Int32)), .val (.ref b1_275), .val .null, .val .null]) (S' := [.null, .null]) rfl ?_
  refine Home.go (fun _ => Jvm.RoadKit.acmp X290 hx rfl rfl rfl (pc0 := 386) (pc' := 389) (same := true) rfl (hb hby at_386) rfl (decide_eq_true rfl) (by decide) (by decide)) ?_
  show Home T290 (mkF m 389 #[.val (.int i0), .val (.int i1), .val (.int i2), .val (.int i3), .val (.int i4), .val (.int i5), .val (.ref b1), .val (.int v10), .val (.int v15), .val (.int v20), .val (.int v25), .val (.int (0 : Int32)), .val (.ref b1_275), .val .null, .val .null] [])
  refine Home.run X290 hx hby sg0_389_2 (pc' := 394) (L' := #[.val (.int i0), .val (.int i1), .val (.int i2), .val (.int i3), .val (.int i4), .val (.int i5), .val (.ref b1), .val (.int v10), .val (.int v15), .val (.int v20), .val (.int v25), .val (.int (0 : Int32)), .val (.ref b1_275), .val .null, .val .null]) (S' := [(.int (1 : Int32))]) rfl ?_
  exact HomeW.retN X290 hx hlk hZ (own_hEL hw) rfl Cd290 (t := .boolean) hret (by simp) (hb hby at_394) ⟨rfl, N290⟩ (by decide) (by decide)
theorem comes_1 {Post : Tables → Env → Array Value → State → Outcome → State → Prop} (hpost : ∀ tb e args s v u, (limb_1_1.after args s (.returned v) u = true ∧ limb_1_2.after args s (.returned v) u = true ∧ True) → ReturnedEndW s (.returned v) u (Jvm.fieldLocs frame_1_writes args s ++ Jvm.arrayLocs frame_1_arrays args s ++ Jvm.staticLocs frame_1_statics s) 24 3264 → Post tb e args s (.returned v) u) :
    ArmFor flags0 classFile x code maxLocals ret World_1 tables_1 room_1 Calls_1 rest_1 Pre_1 Post := by
  intro l hfl _ _ p e ha hc hk s m args below hf hA hF happ hP
  obtain ⟨hcalls, hrest, hpre⟩ := hP
  obtain ⟨-, -, -, hnamed, -, -, -, hat⟩ := (Spec.applies_iff hf).mp happ
  obtain ⟨hg, hn⟩ := and_e (Cond.before_iff.mp (show (Jvm.Cond.and given_1 narrow_1).before args s = true from hpre))
  obtain ⟨gg1, gg2⟩ := and_e hg
  obtain ⟨gg3, gg4⟩ := and_e gg2
  obtain ⟨gg5, gg6⟩ := and_e gg4
  obtain ⟨gg7, gg8⟩ := and_e gg6
  obtain ⟨gg9, gg10⟩ := and_e gg8
  obtain ⟨gg11, gg12⟩ := and_e gg10
  obtain ⟨w0, w1, w2, w3, w4, w5, rfl⟩ : ∃ w0 w1 w2 w3 w4 w5 : Value, args = #[w0, w1, w2, w3, w4, w5] := by
    have hs : args.size = 6 := by simpa [Cond.value, given_1] using gg1
    obtain ⟨L⟩ := args
    match L, hs with
    | [w0, w1, w2, w3, w4, w5], _ => exact ⟨w0, w1, w2, w3, w4, w5, rfl⟩
  have hw := fun d (hd : d ∈ tables_1) => atoms_spec (ws := Jvm.Cond.code x code maxLocals ret :: tables_1) hat d (List.mem_cons_of_mem _ hd)
  have hfit : Fit s := fun {y c} hc i hi => by
    obtain ⟨ha, rfl⟩ := Array.getElem?_eq_some_iff.mp hc
    have q := List.all_eq_true.mp ((Array.all_eq_true_iff_forall_mem.mp hF) _ (Array.getElem_mem ha)) i (List.mem_range.mpr hi)
    simpa [Array.getElem?_eq_getElem hi] using q
  obtain ⟨hsets, hown0⟩ := atoms_of _ (rest_1_c_eq ▸ (show rest_1_c.before _ s = true from hrest))
  have hr0 := Cond.before_iff.mp hown0
  obtain ⟨i0, ei0⟩ := is_v gg3
  obtain rfl : w0 = (.int i0) := Option.some.inj ei0
  obtain ⟨i1, ei1⟩ := is_v gg5
  obtain rfl : w1 = (.int i1) := Option.some.inj ei1
  obtain ⟨i2, ei2⟩ := is_v gg7
  obtain rfl : w2 = (.int i2) := Option.some.inj ei2
  obtain ⟨i3, ei3⟩ := is_v gg9
  obtain rfl : w3 = (.int i3) := Option.some.inj ei3
  obtain ⟨i4, ei4⟩ := is_v gg11
  obtain rfl : w4 = (.int i4) := Option.some.inj ei4
  obtain ⟨i5, ei5⟩ := is_v gg12
  obtain rfl : w5 = (.int i5) := Option.some.inj ei5
  obtain ⟨nn0, hn0⟩ := and_e hn
  obtain ⟨nn1, hn1⟩ := and_e hn0
  obtain ⟨nn2, hn2⟩ := and_e hn1
  obtain ⟨nn3, hn3⟩ := and_e hn2
  obtain ⟨nn4, hn4⟩ := and_e hn3
  obtain ⟨nn5, hn5⟩ := and_e hn4
  obtain ⟨nn6, hn6⟩ := and_e hn5
  obtain ⟨nn7, hn7⟩ := and_e hn6
  obtain ⟨nn8, hn8⟩ := and_e hn7
  obtain ⟨nn9, hn9⟩ := and_e hn8
  obtain ⟨nn10, hn10⟩ := and_e hn9
  obtain ⟨nn11, hn11⟩ := and_e hn10
  obtain ⟨nn12, hn12⟩ := and_e hn11
  obtain ⟨nn13, hn13⟩ := and_e hn12
  obtain ⟨nn14, hn14⟩ := and_e hn13
  obtain ⟨nn15, hn15⟩ := and_e hn14
  obtain ⟨nn16, hn16⟩ := and_e hn15
  obtain ⟨nn17, hn17⟩ := and_e hn16
  obtain ⟨nn18, hn18⟩ := and_e hn17
  obtain ⟨nn19, hn19⟩ := and_e hn18
  obtain ⟨nn20, hn20⟩ := and_e hn19
  obtain ⟨nn21, hn21⟩ := and_e hn20
  obtain ⟨nn22, hn22⟩ := and_e hn21
  obtain ⟨nn23, hn23⟩ := and_e hn22
  obtain ⟨nn24, hn24⟩ := and_e hn23
  obtain ⟨nn25, hn25⟩ := and_e hn24
  obtain ⟨sv_MONTH, ev_sv_MONTH⟩ := exa_v nn0
  have S_MONTH := Sta.start ev_sv_MONTH (Or.inr ⟨(own_w48 hw), (own_w49 hw)⟩)
  have E_sv_MONTH := Exa.start ev_sv_MONTH nn0
  obtain ⟨sv__VALUES, ev_sv__VALUES⟩ := arr_v nn1
  have S__VALUES := Sta.start ev_sv__VALUES (Or.inl (own_w66 hw))
  obtain ⟨c_sv__VALUES, A_sv__VALUES⟩ := Arr.start ev_sv__VALUES nn1
  have E_sv__VALUES := Exa.start ev_sv__VALUES nn2
  obtain ⟨l1_sv__VALUES, l2_sv__VALUES⟩ := own_lenk ev_sv__VALUES A_sv__VALUES nn3
  have el_sv__VALUES_0 : c_sv__VALUES.slots[0]? = some (.ref sv_MONTH) := (elem_in (own_eqr ev_sv_MONTH nn4) ev_sv__VALUES (Term.int_eval (0 : Int32)) A_sv__VALUES.1).2
  obtain ⟨sv_QUARTER, ev_sv_QUARTER⟩ := exa_v nn5
  have S_QUARTER := Sta.start ev_sv_QUARTER (Or.inr ⟨(own_w48 hw), (own_w65 hw)⟩)
  have E_sv_QUARTER := Exa.start ev_sv_QUARTER nn5
  have el_sv__VALUES_1 : c_sv__VALUES.slots[1]? = some (.ref sv_QUARTER) := (elem_in (own_eqr ev_sv_QUARTER nn6) ev_sv__VALUES (Term.int_eval (1 : Int32)) A_sv__VALUES.1).2
  obtain ⟨sv_MONTH_id, ev_sv_MONTH_id⟩ := exa_v nn7
  have F_id_sv_MONTH := Fld.start ((fld_at ev_sv_MONTH).symm.trans ev_sv_MONTH_id)
  have E_sv_MONTH_id := Exa.start ev_sv_MONTH_id nn7
  have F_coder_sv_MONTH_id := Fld.start ((fld_at ev_sv_MONTH_id).symm.trans (eqv_i (Term.int_eval (0)) nn8))
  obtain ⟨sv_MONTH_id_value, ev_sv_MONTH_id_value⟩ := arr_v nn9
  have F_value_sv_MONTH_id := Fld.start ((fld_at ev_sv_MONTH_id).symm.trans ev_sv_MONTH_id_value)
  obtain ⟨c_sv_MONTH_id_value, A_sv_MONTH_id_value⟩ := Arr.start ev_sv_MONTH_id_value nn9
  obtain ⟨l1_sv_MONTH_id_value, l2_sv_MONTH_id_value⟩ := own_lenk ev_sv_MONTH_id_value A_sv_MONTH_id_value nn10
  obtain ⟨sv_QUARTER_id, ev_sv_QUARTER_id⟩ := exa_v nn11
  have F_id_sv_QUARTER := Fld.start ((fld_at ev_sv_QUARTER).symm.trans ev_sv_QUARTER_id)
  have E_sv_QUARTER_id := Exa.start ev_sv_QUARTER_id nn11
  have F_coder_sv_QUARTER_id := Fld.start ((fld_at ev_sv_QUARTER_id).symm.trans (eqv_i (Term.int_eval (0)) nn12))
  obtain ⟨sv_QUARTER_id_value, ev_sv_QUARTER_id_value⟩ := arr_v nn13
  have F_value_sv_QUARTER_id := Fld.start ((fld_at ev_sv_QUARTER_id).symm.trans ev_sv_QUARTER_id_value)
  obtain ⟨c_sv_QUARTER_id_value, A_sv_QUARTER_id_value⟩ := Arr.start ev_sv_QUARTER_id_value nn13
  obtain ⟨l1_sv_QUARTER_id_value, l2_sv_QUARTER_id_value⟩ := own_lenk ev_sv_QUARTER_id_value A_sv_QUARTER_id_value nn14
  have el_sv_MONTH_id_value_0 : c_sv_MONTH_id_value.slots[0]? = some (.int (109 : Int32)) := (elem_in (eqv_i (Term.int_eval (109)) nn15) ev_sv_MONTH_id_value (Term.int_eval (0 : Int32)) A_sv_MONTH_id_value.1).2
  have el_sv_MONTH_id_value_1 : c_sv_MONTH_id_value.slots[1]? = some (.int (111 : Int32)) := (elem_in (eqv_i (Term.int_eval (111)) nn16) ev_sv_MONTH_id_value (Term.int_eval (1 : Int32)) A_sv_MONTH_id_value.1).2
  have el_sv_MONTH_id_value_2 : c_sv_MONTH_id_value.slots[2]? = some (.int (110 : Int32)) := (elem_in (eqv_i (Term.int_eval (110)) nn17) ev_sv_MONTH_id_value (Term.int_eval (2 : Int32)) A_sv_MONTH_id_value.1).2
  have el_sv_MONTH_id_value_3 : c_sv_MONTH_id_value.slots[3]? = some (.int (116 : Int32)) := (elem_in (eqv_i (Term.int_eval (116)) nn18) ev_sv_MONTH_id_value (Term.int_eval (3 : Int32)) A_sv_MONTH_id_value.1).2
  have el_sv_MONTH_id_value_4 : c_sv_MONTH_id_value.slots[4]? = some (.int (104 : Int32)) := (elem_in (eqv_i (Term.int_eval (104)) nn19) ev_sv_MONTH_id_value (Term.int_eval (4 : Int32)) A_sv_MONTH_id_value.1).2
  have el_sv_QUARTER_id_value_0 : c_sv_QUARTER_id_value.slots[0]? = some (.int (113 : Int32)) := (elem_in (eqv_i (Term.int_eval (113)) nn20) ev_sv_QUARTER_id_value (Term.int_eval (0 : Int32)) A_sv_QUARTER_id_value.1).2
  have el_sv_QUARTER_id_value_1 : c_sv_QUARTER_id_value.slots[1]? = some (.int (117 : Int32)) := (elem_in (eqv_i (Term.int_eval (117)) nn21) ev_sv_QUARTER_id_value (Term.int_eval (1 : Int32)) A_sv_QUARTER_id_value.1).2
  have el_sv_QUARTER_id_value_2 : c_sv_QUARTER_id_value.slots[2]? = some (.int (97 : Int32)) := (elem_in (eqv_i (Term.int_eval (97)) nn22) ev_sv_QUARTER_id_value (Term.int_eval (2 : Int32)) A_sv_QUARTER_id_value.1).2
  have el_sv_QUARTER_id_value_3 : c_sv_QUARTER_id_value.slots[3]? = some (.int (114 : Int32)) := (elem_in (eqv_i (Term.int_eval (114)) nn23) ev_sv_QUARTER_id_value (Term.int_eval (3 : Int32)) A_sv_QUARTER_id_value.1).2
  have el_sv_QUARTER_id_value_4 : c_sv_QUARTER_id_value.slots[4]? = some (.int (116 : Int32)) := (elem_in (eqv_i (Term.int_eval (116)) nn24) ev_sv_QUARTER_id_value (Term.int_eval (4 : Int32)) A_sv_QUARTER_id_value.1).2
  have el_sv_QUARTER_id_value_5 : c_sv_QUARTER_id_value.slots[5]? = some (.int (101 : Int32)) := (elem_in (eqv_i (Term.int_eval (101)) nn25) ev_sv_QUARTER_id_value (Term.int_eval (5 : Int32)) A_sv_QUARTER_id_value.1).2
  have el_sv_QUARTER_id_value_6 : c_sv_QUARTER_id_value.slots[6]? = some (.int (114 : Int32)) := (elem_in (eqv_i (Term.int_eval (114)) hn25) ev_sv_QUARTER_id_value (Term.int_eval (6 : Int32)) A_sv_QUARTER_id_value.1).2
  have V_sv__VALUES := Arv.start (vs := [(.ref sv_MONTH), (.ref sv_QUARTER)]) (dv := .null) hfit A_sv__VALUES l1_sv__VALUES l2_sv__VALUES (by decide) rfl ⟨el_sv__VALUES_0, el_sv__VALUES_1, trivial⟩
  have V_sv_MONTH_id_value := Arv.start (vs := [(.int (109 : Int32)), (.int (111 : Int32)), (.int (110 : Int32)), (.int (116 : Int32)), (.int (104 : Int32))]) (dv := (.int (0 : Int32))) hfit A_sv_MONTH_id_value l1_sv_MONTH_id_value l2_sv_MONTH_id_value (by decide) rfl ⟨el_sv_MONTH_id_value_0, el_sv_MONTH_id_value_1, el_sv_MONTH_id_value_2, el_sv_MONTH_id_value_3, el_sv_MONTH_id_value_4, trivial⟩
  have V_sv_QUARTER_id_value := Arv.start (vs := [(.int (113 : Int32)), (.int (117 : Int32)), (.int (97 : Int32)), (.int (114 : Int32)), (.int (116 : Int32)), (.int (101 : Int32)), (.int (114 : Int32))]) (dv := (.int (0 : Int32))) hfit A_sv_QUARTER_id_value l1_sv_QUARTER_id_value l2_sv_QUARTER_id_value (by decide) rfl ⟨el_sv_QUARTER_id_value_0, el_sv_QUARTER_id_value_1, el_sv_QUARTER_id_value_2, el_sv_QUARTER_id_value_3, el_sv_QUARTER_id_value_4, el_sv_QUARTER_id_value_5, el_sv_QUARTER_id_value_6, trivial⟩
  have ne_sv_MONTH_id_value_sv_QUARTER_id_value : sv_MONTH_id_value ≠ sv_QUARTER_id_value := own_nearv V_sv_MONTH_id_value V_sv_QUARTER_id_value (by decide)
  have ne_sv_MONTH_id_sv_QUARTER_id : sv_MONTH_id ≠ sv_QUARTER_id := Fld.ne F_value_sv_MONTH_id F_value_sv_QUARTER_id (fun q => ne_sv_MONTH_id_value_sv_QUARTER_id_value (Value.ref.inj q))
  have ne_sv_MONTH_sv_QUARTER : sv_MONTH ≠ sv_QUARTER := Fld.ne F_id_sv_MONTH F_id_sv_QUARTER (fun q => ne_sv_MONTH_id_sv_QUARTER_id (Value.ref.inj q))
  obtain ⟨sv_COMPACT_STRINGS, v_cs⟩ := is_v (Cond.before_iff.mp (hsets _ (List.mem_of_getElem? (i := 1) rfl)))
  have S_COMPACT_STRINGS := Sta.start v_cs (Or.inl (hsets _ (List.mem_of_getElem? (i := 0) rfl)))
  have hCS : ¬ (sv_COMPACT_STRINGS = (0 : Int32)) := gotF (Cond.eq_ints v_cs (Term.int_eval 0)) (not_v (Cond.before_iff.mp (hsets _ (List.mem_of_getElem? (i := 2) rfl))))
  have hCH : CHv s own_EL s.vm s.heap := CHv.start (own_hEL hw) (fun p hp => hcalls.1 p hp) (hsets _ (List.mem_of_getElem? (i := 2) rfl)) (own_w23 hw) (own_w6 hw)
  obtain ⟨n, o, h1, h2, h3, _, L, rfl, ⟨rfl, N⟩, -, -, hq⟩ := rm0 l s _ hw tables_1 i0 i1 i2 i3 i4 i5 sv_COMPACT_STRINGS sv__VALUES c_sv__VALUES.cls sv_MONTH sv_QUARTER sv_MONTH_id sv_MONTH_id_value c_sv_MONTH_id_value.cls sv_QUARTER_id sv_QUARTER_id_value c_sv_QUARTER_id_value.cls s.heap s.heap.size (Old.start s) S_COMPACT_STRINGS hCS S__VALUES V_sv__VALUES E_sv__VALUES F_id_sv_MONTH E_sv_MONTH_id F_coder_sv_MONTH_id F_value_sv_MONTH_id V_sv_MONTH_id_value F_id_sv_QUARTER E_sv_QUARTER_id F_coder_sv_QUARTER_id F_value_sv_QUARTER_id V_sv_QUARTER_id_value S_MONTH S_QUARTER p e ha hc hk s m _ below hf ((Spec.applies_iff_loose hf).mp happ).1 ⟨rfl, State.Warmed39.refl s, rfl, hCH, fun _ hx => nomatch hx⟩ trivial
  refine ⟨n, _, h1, h2, h3, hpost _ _ _ _ _ _ ⟨Cond.after_iff.mpr rfl, Cond.after_iff.mpr (eq_i res_at (Term.int_eval (1)) rfl), trivial⟩ ⟨hq.1, hq.2.1, hq.2.2.1, (hq.2.2.2.sift fun y hy => Or.inr (N y hy)).mono (by decide) (by decide)⟩⟩
theorem main_1_1 : Claimed_1_1 := comes_1 fun _ _ _ _ _ _ h hF => ⟨h.1, hF⟩
theorem main_1_2 : Claimed_1_2 := comes_1 fun _ _ _ _ _ _ h hF => ⟨h.2.1, hF⟩
end Jvm.Pilot.@@N@@
namespace Jvm.Pilot.@@N@@
open Jvm Jvm.ClassFile Sem Op Lib Jvm.Free Jvm.Stand Jvm.Pilot.@@N@@.Jvm.D
/-! MADE BY PROGRAM (witnessworld.py) out of the Statement's table words and the real class files: 22 classes; the members and pool entries that the words name. The judged class is class 1, her method 2. -/
namespace start1
open Jvm.ClassFile
def u (s : String) : CpInfo := .utf8 (stringToUtf16 s)
/-- a pool by its gaps: so many unusable entries, then the entry; so many at the end -/
def gap : Nat → List CpInfo → List CpInfo
  | 0, r => r
  | n + 1, r => .unusable :: gap n r
def poolList (es : List (Nat × CpInfo)) (last : Nat) : List CpInfo := es.foldr (fun e r => gap e.1 (e.2 :: r)) (gap last [])
def pool (es : List (Nat × CpInfo)) (last : Nat) : Array CpInfo := ⟨poolList es last⟩
def fileOf (pool : Array CpInfo) (this : Nat) (attrs : Array Attribute := #[]) (ms : Array MethodInfo := #[]) (fl : Nat := 33) (sup : Nat := 0) (ifs : Array Nat := #[]) (fds : Array FieldInfo := #[]) : ClassFile where
  minorVersion := 0
  majorVersion := 65
  constantPool := pool
  accessFlags := fl
  thisClass := this
  superClass := sup
  interfaces := ifs
  fields := fds
  methods := ms
  attributes := attrs
def plain (name : String) (sup : Option ClassId) : Class where
  name := name
  kind := .ordinary
  loader := none
  accessFlags := 33
  super := sup
  interfaces := #[]
  cf := none
  fields := #[]
  methods := #[]
  instanceTypes := #[]
  staticTypes := #[]
  resolved := #[]
  callSites := []
  init := .initialized
  statics := none
  mirror := none

def pool0 : Array CpInfo := pool [(5, u "<init>"), (0, u "()V"), (1, .class_ 10), (1, u "java/lang/Object"), (85, u "clone"), (0, u "()Ljava/lang/Object;")] 26

def k0c0 : Code := { maxStack := 0, maxLocals := 1, code := object_method_1_code, exceptionTable := #[], attributes := #[] }
def k0m0 : Method := { name := "<init>", desc := "()V", sig := { parameters := [], returnType := none }, accessFlags := 1, code := some k0c0 }
def k0m1 : Method := { name := "clone", desc := "()Ljava/lang/Object;", sig := { parameters := [], returnType := some (.object "java/lang/Object") }, accessFlags := 260, code := none }
/-- java/lang/Object -/
def k0 : Class := { plain "java/lang/Object" none with
  accessFlags := 33
  interfaces := #[]
  cf := some (fileOf pool0 8 #[] #[{ accessFlags := 1, nameIndex := 5, descriptorIndex := 6, attributes := #[] }, { accessFlags := 260, nameIndex := 96, descriptorIndex := 97, attributes := #[] }] 33 0 #[] #[])
  fields := #[]
  methods := #[k0m0, k0m1]
  instanceTypes := #[]
  staticTypes := #[]
  resolved := Array.replicate 124 none
  statics := none }

def pool1 : Array CpInfo := pool [(2, .class_ 4), (1, u "java/lang/Object"), (0, u "<init>"), (0, u "()V"), (0, .class_ 8), (0, u "java/lang/String"), (0, .methodref 7 10), (0, .nameAndType 5 11), (0, u "([C)V"), (0, .methodref 13 14), (0, .class_ 15), (0, .nameAndType 16 17), (0, u "com/example/tapline/tapline/rules/ReturnPeriodByIdPinLaw"), (0, u "str"), (0, u "([CI)Ljava/lang/String;"), (0, .string 19), (0, u "month"), (0, .methodref 7 21), (0, .nameAndType 22 23), (0, u "equals"), (0, u "(Ljava/lang/Object;)Z"), (0, .fieldref 25 26), (0, .class_ 27), (0, .nameAndType 28 29), (0, u "com/example/tapline/tapline/rules/ReturnPeriod"), (0, u "MONTH"), (0, u "Lcom/example/tapline/tapline/rules/ReturnPeriod;"), (0, .string 31), (0, u "quarter"), (0, .fieldref 25 33), (0, .nameAndType 34 29), (0, u "QUARTER"), (0, .methodref 25 36), (0, .nameAndType 37 38), (0, u "byId"), (0, u "(Ljava/lang/String;)Lcom/example/tapline/tapline/rules/ReturnPeriod;"), (3, u "law"), (0, u "(IIIIII)Z")] 4

def k1m0 : Method := { name := "<init>", desc := "()V", sig := { parameters := [], returnType := none }, accessFlags := 1, code := none }
def k1c1 : Code := { maxStack := 7, maxLocals := 2, code := method_2_code, exceptionTable := #[], attributes := #[] }
def k1m1 : Method := { name := "str", desc := "([CI)Ljava/lang/String;", sig := { parameters := [(.array .char), .int], returnType := some (.object "java/lang/String") }, accessFlags := 10, code := some k1c1 }
def k1c2 : Code := { maxStack := 4, maxLocals := 15, code := code, exceptionTable := #[], attributes := #[] }
def k1m2 : Method := { name := "law", desc := "(IIIIII)Z", sig := { parameters := [.int, .int, .int, .int, .int, .int], returnType := some .boolean }, accessFlags := 9, code := some k1c2 }
/-- com/example/tapline/tapline/rules/ReturnPeriodByIdPinLaw -/
def k1 : Class := { plain "com/example/tapline/tapline/rules/ReturnPeriodByIdPinLaw" (some 0) with
  accessFlags := 49
  interfaces := #[]
  cf := some (fileOf pool1 13 #[] #[{ accessFlags := 1, nameIndex := 5, descriptorIndex := 6, attributes := #[] }, { accessFlags := 10, nameIndex := 16, descriptorIndex := 17, attributes := #[] }, { accessFlags := 9, nameIndex := 42, descriptorIndex := 43, attributes := #[] }] 49 2 #[] #[])
  fields := #[]
  methods := #[k1m0, k1m1, k1m2]
  instanceTypes := #[]
  staticTypes := #[]
  resolved := Array.replicate 48 none
  statics := none }

def pool2 : Array CpInfo := pool [(1, .class_ 2), (0, u "java/io/Serializable"), (0, .class_ 4), (0, u "java/lang/Object")] 2

/-- java/io/Serializable -/
def k2 : Class := { plain "java/io/Serializable" (some 0) with
  accessFlags := 1537
  interfaces := #[]
  cf := some (fileOf pool2 1 #[] #[] 1537 3 #[] #[])
  fields := #[]
  methods := #[]
  instanceTypes := #[]
  staticTypes := #[]
  resolved := Array.replicate 7 none
  statics := none }

def pool3 : Array CpInfo := pool [(1, .class_ 2), (0, u "java/lang/Comparable"), (0, .class_ 4), (0, u "java/lang/Object")] 7

/-- java/lang/Comparable -/
def k3 : Class := { plain "java/lang/Comparable" (some 0) with
  accessFlags := 1537
  interfaces := #[]
  cf := some (fileOf pool3 1 #[] #[] 1537 3 #[] #[])
  fields := #[]
  methods := #[]
  instanceTypes := #[]
  staticTypes := #[]
  resolved := Array.replicate 12 none
  statics := none }

def pool4 : Array CpInfo := pool [(2, .class_ 4), (1, u "java/lang/CharSequence"), (42, .class_ 48), (0, u "java/lang/CharSequence$1CodePointIterator"), (10, .class_ 60), (0, u "java/lang/CharSequence$1CharIterator"), (5, .class_ 67), (0, u "java/lang/Object")] 63

/-- java/lang/CharSequence -/
def k4 : Class := { plain "java/lang/CharSequence" (some 0) with
  accessFlags := 1537
  interfaces := #[]
  cf := some (fileOf pool4 2 #[.nestMembers #[47, 59]] #[] 1537 66 #[] #[])
  fields := #[]
  methods := #[]
  instanceTypes := #[]
  staticTypes := #[]
  resolved := Array.replicate 131 none
  statics := none }

def pool5 : Array CpInfo := pool [(1, .class_ 2), (0, u "java/lang/constant/Constable"), (0, .class_ 4), (0, u "java/lang/Object")] 6

/-- java/lang/constant/Constable -/
def k5 : Class := { plain "java/lang/constant/Constable" (some 0) with
  accessFlags := 1537
  interfaces := #[]
  cf := some (fileOf pool5 1 #[] #[] 1537 3 #[] #[])
  fields := #[]
  methods := #[]
  instanceTypes := #[]
  staticTypes := #[]
  resolved := Array.replicate 11 none
  statics := none }

def pool6 : Array CpInfo := pool [(1, .class_ 2), (0, u "java/lang/constant/ConstantDesc"), (0, .class_ 4), (0, u "java/lang/Object")] 32

/-- java/lang/constant/ConstantDesc -/
def k6 : Class := { plain "java/lang/constant/ConstantDesc" (some 0) with
  accessFlags := 1537
  interfaces := #[]
  cf := some (fileOf pool6 1 #[] #[] 1537 3 #[] #[])
  fields := #[]
  methods := #[]
  instanceTypes := #[]
  staticTypes := #[]
  resolved := Array.replicate 37 none
  statics := none }

def pool7 : Array CpInfo := pool [(1, .methodref 2 3), (0, .class_ 4), (0, .nameAndType 5 6), (0, u "java/lang/Object"), (0, u "<init>"), (0, u "()V"), (0, .string 8), (0, u ""), (0, .fieldref 10 11), (0, .class_ 12), (0, .nameAndType 13 14), (0, u "java/lang/String"), (0, u "value"), (0, u "[B"), (0, .fieldref 10 16), (0, .nameAndType 17 18), (0, u "coder"), (0, u "B"), (2, u "hash"), (0, u "I"), (2, u "hashIsZero"), (0, u "Z"), (0, .methodref 10 28), (0, .nameAndType 5 29), (0, u "([CIILjava/lang/Void;)V"), (8, .fieldref 10 39), (0, .nameAndType 40 26), (0, u "COMPACT_STRINGS"), (1, .class_ 44), (1, u "java/lang/StringUTF16"), (0, u "compress"), (1, .methodref 42 48), (0, .nameAndType 49 50), (0, u "coderFromArrayLen"), (0, u "([BI)B"), (56, .class_ 109), (1, u "java/lang/StringLatin1"), (67, .methodref 42 178), (0, .nameAndType 45 179), (0, u "([CII)[B"), (361, .methodref 107 542), (0, .nameAndType 543 544), (0, u "equals"), (0, u "([B[B)Z"), (28, u "(Ljava/lang/Object;)Z"), (1, .class_ 576), (0, u "java/lang/CharSequence"), (22, u "CASE_INSENSITIVE_ORDER"), (0, u "Ljava/util/Comparator;"), (409, u "([C)V"), (90, u "serialPersistentFields"), (0, u "[Ljava/io/ObjectStreamField;"), (0, .class_ 1104), (0, u "java/lang/String$CaseInsensitiveComparator"), (1, .class_ 1107), (0, u "java/io/Serializable"), (0, .class_ 1109), (0, u "java/lang/Comparable"), (0, .class_ 1111), (0, u "java/lang/constant/Constable"), (0, .class_ 1113), (0, u "java/lang/constant/ConstantDesc"), (2, u "serialVersionUID"), (0, u "J"), (3, u "REPL"), (0, u "C"), (2, u "LATIN1"), (1, u "UTF16")] 323

def k7m0 : Method := { name := "<init>", desc := "()V", sig := { parameters := [], returnType := none }, accessFlags := 1, code := none }
def k7c1 : Code := { maxStack := 5, maxLocals := 2, code := jdk_42_method_3_code, exceptionTable := #[], attributes := #[] }
def k7m1 : Method := { name := "<init>", desc := "([C)V", sig := { parameters := [(.array .char)], returnType := none }, accessFlags := 1, code := some k7c1 }
def k7c2 : Code := { maxStack := 2, maxLocals := 3, code := jdk_42_method_66_code, exceptionTable := #[], attributes := #[] }
def k7m2 : Method := { name := "equals", desc := "(Ljava/lang/Object;)Z", sig := { parameters := [(.object "java/lang/Object")], returnType := some .boolean }, accessFlags := 1, code := some k7c2 }
def k7c3 : Code := { maxStack := 4, maxLocals := 6, code := jdk_42_method_149_code, exceptionTable := #[], attributes := #[] }
def k7m3 : Method := { name := "<init>", desc := "([CIILjava/lang/Void;)V", sig := { parameters := [(.array .char), .int, .int, (.object "java/lang/Void")], returnType := none }, accessFlags := 2, code := some k7c3 }
/-- java/lang/String -/
def k7 : Class := { plain "java/lang/String" (some 0) with
  accessFlags := 49
  interfaces := #[2, 3, 4, 5, 6]
  cf := some (fileOf pool7 10 #[.nestMembers #[1103]] #[{ accessFlags := 1, nameIndex := 5, descriptorIndex := 6, attributes := #[] }, { accessFlags := 1, nameIndex := 5, descriptorIndex := 1010, attributes := #[] }, { accessFlags := 1, nameIndex := 543, descriptorIndex := 573, attributes := #[] }, { accessFlags := 2, nameIndex := 5, descriptorIndex := 29, attributes := #[] }] 49 2 #[1106, 1108, 575, 1110, 1112] #[{ accessFlags := 18, nameIndex := 13, descriptorIndex := 14, attributes := #[] }, { accessFlags := 18, nameIndex := 17, descriptorIndex := 18, attributes := #[] }, { accessFlags := 2, nameIndex := 21, descriptorIndex := 22, attributes := #[] }, { accessFlags := 2, nameIndex := 25, descriptorIndex := 26, attributes := #[] }, { accessFlags := 26, nameIndex := 1116, descriptorIndex := 1117, attributes := #[] }, { accessFlags := 24, nameIndex := 40, descriptorIndex := 26, attributes := #[] }, { accessFlags := 26, nameIndex := 1101, descriptorIndex := 1102, attributes := #[] }, { accessFlags := 26, nameIndex := 1121, descriptorIndex := 1122, attributes := #[] }, { accessFlags := 25, nameIndex := 599, descriptorIndex := 600, attributes := #[] }, { accessFlags := 24, nameIndex := 1125, descriptorIndex := 18, attributes := #[] }, { accessFlags := 24, nameIndex := 1127, descriptorIndex := 18, attributes := #[] }])
  fields := #[{ name := "value", type := (.array .byte), accessFlags := 18, slot := 0, constantValue := 0 }, { name := "coder", type := .byte, accessFlags := 18, slot := 1, constantValue := 0 }, { name := "hash", type := .int, accessFlags := 2, slot := 2, constantValue := 0 }, { name := "hashIsZero", type := .boolean, accessFlags := 2, slot := 3, constantValue := 0 }, { name := "serialVersionUID", type := .long, accessFlags := 26, slot := 0, constantValue := 0 }, { name := "COMPACT_STRINGS", type := .boolean, accessFlags := 24, slot := 1, constantValue := 0 }, { name := "serialPersistentFields", type := (.array (.object "java/io/ObjectStreamField")), accessFlags := 26, slot := 2, constantValue := 0 }, { name := "REPL", type := .char, accessFlags := 26, slot := 3, constantValue := 0 }, { name := "CASE_INSENSITIVE_ORDER", type := (.object "java/util/Comparator"), accessFlags := 25, slot := 4, constantValue := 0 }, { name := "LATIN1", type := .byte, accessFlags := 24, slot := 5, constantValue := 0 }, { name := "UTF16", type := .byte, accessFlags := 24, slot := 6, constantValue := 0 }]
  methods := #[k7m0, k7m1, k7m2, k7m3]
  instanceTypes := #[(.array .byte), .byte, .int, .boolean]
  staticTypes := #[.long, .boolean, (.array (.object "java/io/ObjectStreamField")), .char, (.object "java/util/Comparator"), .byte, .byte]
  resolved := Array.replicate 1451 none
  statics := some 0 }

def pool8 : Array CpInfo := pool [(6, .class_ 8), (1, u "java/lang/Object"), (0, u "<init>"), (0, u "()V"), (1, .class_ 14), (1, u "java/lang/StringUTF16"), (31, u "$assertionsDisabled"), (0, u "Z"), (13, u "HI_BYTE_SHIFT"), (0, u "I"), (2, u "LO_BYTE_SHIFT"), (49, .methodref 12 116), (0, .nameAndType 117 118), (0, u "compress"), (0, u "([CI[BII)I"), (3, u "([CII)[B"), (138, u "coderFromArrayLen"), (0, u "([BI)B"), (106, .class_ 371), (1, u "java/lang/StringUTF16$LinesSpliterator"), (58, u "MAX_LENGTH"), (196, .class_ 628), (0, u "java/lang/StringUTF16$CodePointsSpliterator"), (0, .class_ 630), (0, u "java/lang/StringUTF16$CharsSpliterator")] 4

def k8m0 : Method := { name := "<init>", desc := "()V", sig := { parameters := [], returnType := none }, accessFlags := 0, code := none }
def k8c1 : Code := { maxStack := 2, maxLocals := 2, code := jdk_52_method_15_code, exceptionTable := #[], attributes := #[] }
def k8m1 : Method := { name := "coderFromArrayLen", desc := "([BI)B", sig := { parameters := [(.array .byte), .int], returnType := some .byte }, accessFlags := 8, code := some k8c1 }
def k8c2 : Code := { maxStack := 5, maxLocals := 6, code := jdk_52_method_16_code, exceptionTable := #[], attributes := #[] }
def k8m2 : Method := { name := "compress", desc := "([CII)[B", sig := { parameters := [(.array .char), .int, .int], returnType := some (.array .byte) }, accessFlags := 9, code := some k8c2 }
def k8c3 : Code := { maxStack := 3, maxLocals := 7, code := jdk_52_method_21_code, exceptionTable := #[], attributes := #[] }
def k8m3 : Method := { name := "compress", desc := "([CI[BII)I", sig := { parameters := [(.array .char), .int, (.array .byte), .int, .int], returnType := some .int }, accessFlags := 9, code := some k8c3 }
/-- java/lang/StringUTF16 -/
def k8 : Class := { plain "java/lang/StringUTF16" (some 0) with
  accessFlags := 48
  interfaces := #[]
  cf := some (fileOf pool8 12 #[.nestMembers #[627, 629, 369]] #[{ accessFlags := 0, nameIndex := 9, descriptorIndex := 10, attributes := #[] }, { accessFlags := 8, nameIndex := 261, descriptorIndex := 262, attributes := #[] }, { accessFlags := 9, nameIndex := 117, descriptorIndex := 122, attributes := #[] }, { accessFlags := 9, nameIndex := 117, descriptorIndex := 118, attributes := #[] }] 48 6 #[] #[{ accessFlags := 26, nameIndex := 61, descriptorIndex := 62, attributes := #[] }, { accessFlags := 26, nameIndex := 65, descriptorIndex := 62, attributes := #[] }, { accessFlags := 24, nameIndex := 430, descriptorIndex := 62, attributes := #[] }, { accessFlags := 4120, nameIndex := 46, descriptorIndex := 47, attributes := #[] }])
  fields := #[{ name := "HI_BYTE_SHIFT", type := .int, accessFlags := 26, slot := 0, constantValue := 0 }, { name := "LO_BYTE_SHIFT", type := .int, accessFlags := 26, slot := 1, constantValue := 0 }, { name := "MAX_LENGTH", type := .int, accessFlags := 24, slot := 2, constantValue := 0 }, { name := "$assertionsDisabled", type := .boolean, accessFlags := 4120, slot := 3, constantValue := 0 }]
  methods := #[k8m0, k8m1, k8m2, k8m3]
  instanceTypes := #[]
  staticTypes := #[.int, .int, .int, .boolean]
  resolved := Array.replicate 635 none
  statics := none }

def pool9 : Array CpInfo := pool [(4, .class_ 6), (1, u "java/lang/Object"), (0, u "<init>"), (0, u "()V"), (5, .class_ 16), (1, u "java/lang/StringLatin1"), (104, u "$assertionsDisabled"), (0, u "Z"), (98, .class_ 223), (1, u "java/lang/StringLatin1$LinesSpliterator"), (57, u "equals"), (0, u "([B[B)Z"), (107, .class_ 391), (0, u "java/lang/StringLatin1$CharsSpliterator")] 3

def k9m0 : Method := { name := "<init>", desc := "()V", sig := { parameters := [], returnType := none }, accessFlags := 0, code := none }
def k9c1 : Code := { maxStack := 3, maxLocals := 3, code := jdk_43_method_13_code, exceptionTable := #[], attributes := #[] }
def k9m1 : Method := { name := "equals", desc := "([B[B)Z", sig := { parameters := [(.array .byte), (.array .byte)], returnType := some .boolean }, accessFlags := 9, code := some k9c1 }
/-- java/lang/StringLatin1 -/
def k9 : Class := { plain "java/lang/StringLatin1" (some 0) with
  accessFlags := 48
  interfaces := #[]
  cf := some (fileOf pool9 14 #[.nestMembers #[390, 221]] #[{ accessFlags := 0, nameIndex := 7, descriptorIndex := 8, attributes := #[] }, { accessFlags := 9, nameIndex := 281, descriptorIndex := 282, attributes := #[] }] 48 4 #[] #[{ accessFlags := 4120, nameIndex := 121, descriptorIndex := 122, attributes := #[] }])
  fields := #[{ name := "$assertionsDisabled", type := .boolean, accessFlags := 4120, slot := 0, constantValue := 0 }]
  methods := #[k9m0, k9m1]
  instanceTypes := #[]
  staticTypes := #[.boolean]
  resolved := Array.replicate 395 none
  statics := none }

def pool10 : Array CpInfo := pool [(2, .class_ 4), (1, u "java/lang/Enum"), (0, u "name"), (0, u "Ljava/lang/String;"), (2, u "ordinal"), (0, u "I"), (1, .class_ 14), (1, u "java/lang/Object"), (4, u "hash"), (86, .class_ 108), (1, u "java/lang/Enum$EnumDesc"), (2, .class_ 112), (0, u "java/lang/constant/Constable"), (0, .class_ 114), (0, u "java/lang/Comparable"), (0, .class_ 116), (0, u "java/io/Serializable")] 87

/-- java/lang/Enum -/
def k10 : Class := { plain "java/lang/Enum" (some 0) with
  accessFlags := 1057
  interfaces := #[5, 3, 2]
  cf := some (fileOf pool10 2 #[.nestMembers #[106]] #[] 1057 12 #[111, 113, 115] #[{ accessFlags := 18, nameIndex := 5, descriptorIndex := 6, attributes := #[] }, { accessFlags := 18, nameIndex := 9, descriptorIndex := 10, attributes := #[] }, { accessFlags := 2, nameIndex := 19, descriptorIndex := 10, attributes := #[] }])
  fields := #[{ name := "name", type := (.object "java/lang/String"), accessFlags := 18, slot := 0, constantValue := 0 }, { name := "ordinal", type := .int, accessFlags := 18, slot := 1, constantValue := 0 }, { name := "hash", type := .int, accessFlags := 2, slot := 2, constantValue := 0 }]
  methods := #[]
  instanceTypes := #[(.object "java/lang/String"), .int, .int]
  staticTypes := #[]
  resolved := Array.replicate 204 none
  statics := none }

def pool11 : Array CpInfo := pool [(1, .class_ 2), (0, u "com/example/tapline/tapline/rules/ReturnPeriod"), (2, u "MONTH"), (0, u "Lcom/example/tapline/tapline/rules/ReturnPeriod;"), (2, u "QUARTER"), (0, .fieldref 1 11), (0, .nameAndType 12 13), (0, u "$VALUES"), (0, u "[Lcom/example/tapline/tapline/rules/ReturnPeriod;"), (0, .methodref 15 16), (0, .class_ 13), (0, .nameAndType 17 18), (0, u "clone"), (0, u "()Ljava/lang/Object;"), (1, .class_ 22), (1, u "java/lang/Enum"), (6, .fieldref 1 30), (0, .nameAndType 31 32), (0, u "id"), (0, u "Ljava/lang/String;"), (2, u "months"), (0, u "I"), (17, .methodref 1 55), (0, .nameAndType 56 57), (0, u "values"), (0, u "()[Lcom/example/tapline/tapline/rules/ReturnPeriod;"), (0, .methodref 59 60), (0, .class_ 61), (0, .nameAndType 62 63), (0, u "java/lang/String"), (0, u "equals"), (0, u "(Ljava/lang/Object;)Z"), (24, u "(Ljava/lang/String;)Lcom/example/tapline/tapline/rules/ReturnPeriod;"), (4, u "byId")] 8

def k11c0 : Code := { maxStack := 1, maxLocals := 0, code := prog_74_method_1_code, exceptionTable := #[], attributes := #[] }
def k11m0 : Method := { name := "values", desc := "()[Lcom/example/tapline/tapline/rules/ReturnPeriod;", sig := { parameters := [], returnType := some (.array (.object "com/example/tapline/tapline/rules/ReturnPeriod")) }, accessFlags := 9, code := some k11c0 }
def k11c1 : Code := { maxStack := 2, maxLocals := 6, code := prog_74_method_7_code, exceptionTable := #[], attributes := #[] }
def k11m1 : Method := { name := "byId", desc := "(Ljava/lang/String;)Lcom/example/tapline/tapline/rules/ReturnPeriod;", sig := { parameters := [(.object "java/lang/String")], returnType := some (.object "com/example/tapline/tapline/rules/ReturnPeriod") }, accessFlags := 9, code := some k11c1 }
/-- com/example/tapline/tapline/rules/ReturnPeriod -/
def k11 : Class := { plain "com/example/tapline/tapline/rules/ReturnPeriod" (some 10) with
  accessFlags := 16433
  interfaces := #[]
  cf := some (fileOf pool11 1 #[] #[{ accessFlags := 9, nameIndex := 56, descriptorIndex := 57, attributes := #[] }, { accessFlags := 9, nameIndex := 93, descriptorIndex := 88, attributes := #[] }] 16433 20 #[] #[{ accessFlags := 16409, nameIndex := 5, descriptorIndex := 6, attributes := #[] }, { accessFlags := 16409, nameIndex := 9, descriptorIndex := 6, attributes := #[] }, { accessFlags := 18, nameIndex := 31, descriptorIndex := 32, attributes := #[] }, { accessFlags := 18, nameIndex := 35, descriptorIndex := 36, attributes := #[] }, { accessFlags := 4122, nameIndex := 12, descriptorIndex := 13, attributes := #[] }])
  fields := #[{ name := "MONTH", type := (.object "com/example/tapline/tapline/rules/ReturnPeriod"), accessFlags := 16409, slot := 0, constantValue := 0 }, { name := "QUARTER", type := (.object "com/example/tapline/tapline/rules/ReturnPeriod"), accessFlags := 16409, slot := 1, constantValue := 0 }, { name := "id", type := (.object "java/lang/String"), accessFlags := 18, slot := 3, constantValue := 0 }, { name := "months", type := .int, accessFlags := 18, slot := 4, constantValue := 0 }, { name := "$VALUES", type := (.array (.object "com/example/tapline/tapline/rules/ReturnPeriod")), accessFlags := 4122, slot := 2, constantValue := 0 }]
  methods := #[k11m0, k11m1]
  instanceTypes := #[(.object "java/lang/String"), .int, .int, (.object "java/lang/String"), .int]
  staticTypes := #[(.object "com/example/tapline/tapline/rules/ReturnPeriod"), (.object "com/example/tapline/tapline/rules/ReturnPeriod"), (.array (.object "com/example/tapline/tapline/rules/ReturnPeriod"))]
  resolved := Array.replicate 102 none
  statics := some 1 }

def pool12 : Array CpInfo := pool [(1, .class_ 2), (0, u "java/lang/Cloneable"), (0, .class_ 4), (0, u "java/lang/Object")] 2

/-- java/lang/Cloneable -/
def k12 : Class := { plain "java/lang/Cloneable" (some 0) with
  accessFlags := 1537
  interfaces := #[]
  cf := some (fileOf pool12 1 #[] #[] 1537 3 #[] #[])
  fields := #[]
  methods := #[]
  instanceTypes := #[]
  staticTypes := #[]
  resolved := Array.replicate 7 none
  statics := none }

def pool13 : Array CpInfo := pool [(2, .class_ 4), (1, u "java/lang/Object"), (0, u "<init>"), (0, u "()V"), (17, .class_ 26), (1, u "jdk/internal/util/Preconditions"), (28, .class_ 56), (0, u "jdk/internal/util/Preconditions$4"), (57, .class_ 115), (0, u "jdk/internal/util/Preconditions$1"), (7, u "SIOOBE_FORMATTER"), (0, u "Ljava/util/function/BiFunction;"), (0, .class_ 126), (0, u "jdk/internal/util/Preconditions$2"), (3, u "AIOOBE_FORMATTER"), (0, .class_ 132), (0, u "jdk/internal/util/Preconditions$3"), (3, u "IOOBE_FORMATTER")] 57

def k13m0 : Method := { name := "<init>", desc := "()V", sig := { parameters := [], returnType := none }, accessFlags := 1, code := none }
/-- jdk/internal/util/Preconditions -/
def k13 : Class := { plain "jdk/internal/util/Preconditions" (some 0) with
  accessFlags := 33
  interfaces := #[]
  cf := some (fileOf pool13 24 #[.nestMembers #[55, 131, 125, 114]] #[{ accessFlags := 1, nameIndex := 5, descriptorIndex := 6, attributes := #[] }] 33 2 #[] #[{ accessFlags := 25, nameIndex := 123, descriptorIndex := 124, attributes := #[] }, { accessFlags := 25, nameIndex := 130, descriptorIndex := 124, attributes := #[] }, { accessFlags := 25, nameIndex := 136, descriptorIndex := 124, attributes := #[] }])
  fields := #[{ name := "SIOOBE_FORMATTER", type := (.object "java/util/function/BiFunction"), accessFlags := 25, slot := 0, constantValue := 0 }, { name := "AIOOBE_FORMATTER", type := (.object "java/util/function/BiFunction"), accessFlags := 25, slot := 1, constantValue := 0 }, { name := "IOOBE_FORMATTER", type := (.object "java/util/function/BiFunction"), accessFlags := 25, slot := 2, constantValue := 0 }]
  methods := #[k13m0]
  instanceTypes := #[]
  staticTypes := #[(.object "java/util/function/BiFunction"), (.object "java/util/function/BiFunction"), (.object "java/util/function/BiFunction")]
  resolved := Array.replicate 194 none
  statics := some 2 }

def pool14 : Array CpInfo := pool [(9, u "<init>"), (6, .class_ 18), (1, u "java/lang/Object"), (0, u "()V"), (1, .class_ 23), (1, u "jdk/internal/util/ArraysSupport"), (0, u "LOG2_ARRAY_LONG_INDEX_SCALE"), (0, u "I"), (2, u "U"), (0, u "Ljdk/internal/misc/Unsafe;"), (8, u "BIG_ENDIAN"), (0, u "Z"), (8, u "LOG2_BYTE_BIT_SIZE"), (4, u "LOG2_ARRAY_INT_INDEX_SCALE"), (54, u "JLA"), (0, u "Ljdk/internal/access/JavaLangAccess;"), (11, u "LOG2_ARRAY_BOOLEAN_INDEX_SCALE"), (9, u "LOG2_ARRAY_BYTE_INDEX_SCALE"), (5, u "LOG2_ARRAY_CHAR_INDEX_SCALE"), (5, u "LOG2_ARRAY_SHORT_INDEX_SCALE"), (18, u "LOG2_ARRAY_FLOAT_INDEX_SCALE"), (24, u "LOG2_ARRAY_DOUBLE_INDEX_SCALE"), (89, u "T_BOOLEAN"), (2, u "T_CHAR"), (1, u "T_FLOAT"), (1, u "T_DOUBLE"), (1, u "T_BYTE"), (1, u "T_SHORT"), (1, u "T_INT"), (1, u "T_LONG"), (1, u "SOFT_MAX_ARRAY_LENGTH")] 83

def k14m0 : Method := { name := "<init>", desc := "()V", sig := { parameters := [], returnType := none }, accessFlags := 2, code := none }
/-- jdk/internal/util/ArraysSupport -/
def k14 : Class := { plain "jdk/internal/util/ArraysSupport" (some 0) with
  accessFlags := 33
  interfaces := #[]
  cf := some (fileOf pool14 21 #[] #[{ accessFlags := 2, nameIndex := 9, descriptorIndex := 19, attributes := #[] }] 33 16 #[] #[{ accessFlags := 24, nameIndex := 28, descriptorIndex := 29, attributes := #[] }, { accessFlags := 26, nameIndex := 38, descriptorIndex := 39, attributes := #[] }, { accessFlags := 25, nameIndex := 121, descriptorIndex := 25, attributes := #[] }, { accessFlags := 25, nameIndex := 131, descriptorIndex := 25, attributes := #[] }, { accessFlags := 25, nameIndex := 137, descriptorIndex := 25, attributes := #[] }, { accessFlags := 25, nameIndex := 143, descriptorIndex := 25, attributes := #[] }, { accessFlags := 25, nameIndex := 53, descriptorIndex := 25, attributes := #[] }, { accessFlags := 25, nameIndex := 24, descriptorIndex := 25, attributes := #[] }, { accessFlags := 25, nameIndex := 162, descriptorIndex := 25, attributes := #[] }, { accessFlags := 25, nameIndex := 187, descriptorIndex := 25, attributes := #[] }, { accessFlags := 26, nameIndex := 48, descriptorIndex := 25, attributes := #[] }, { accessFlags := 25, nameIndex := 277, descriptorIndex := 25, attributes := #[] }, { accessFlags := 25, nameIndex := 280, descriptorIndex := 25, attributes := #[] }, { accessFlags := 25, nameIndex := 282, descriptorIndex := 25, attributes := #[] }, { accessFlags := 25, nameIndex := 284, descriptorIndex := 25, attributes := #[] }, { accessFlags := 25, nameIndex := 286, descriptorIndex := 25, attributes := #[] }, { accessFlags := 25, nameIndex := 288, descriptorIndex := 25, attributes := #[] }, { accessFlags := 25, nameIndex := 290, descriptorIndex := 25, attributes := #[] }, { accessFlags := 25, nameIndex := 292, descriptorIndex := 25, attributes := #[] }, { accessFlags := 26, nameIndex := 108, descriptorIndex := 109, attributes := #[] }, { accessFlags := 25, nameIndex := 294, descriptorIndex := 25, attributes := #[] }])
  fields := #[{ name := "U", type := (.object "jdk/internal/misc/Unsafe"), accessFlags := 24, slot := 0, constantValue := 0 }, { name := "BIG_ENDIAN", type := .boolean, accessFlags := 26, slot := 1, constantValue := 0 }, { name := "LOG2_ARRAY_BOOLEAN_INDEX_SCALE", type := .int, accessFlags := 25, slot := 2, constantValue := 0 }, { name := "LOG2_ARRAY_BYTE_INDEX_SCALE", type := .int, accessFlags := 25, slot := 3, constantValue := 0 }, { name := "LOG2_ARRAY_CHAR_INDEX_SCALE", type := .int, accessFlags := 25, slot := 4, constantValue := 0 }, { name := "LOG2_ARRAY_SHORT_INDEX_SCALE", type := .int, accessFlags := 25, slot := 5, constantValue := 0 }, { name := "LOG2_ARRAY_INT_INDEX_SCALE", type := .int, accessFlags := 25, slot := 6, constantValue := 0 }, { name := "LOG2_ARRAY_LONG_INDEX_SCALE", type := .int, accessFlags := 25, slot := 7, constantValue := 0 }, { name := "LOG2_ARRAY_FLOAT_INDEX_SCALE", type := .int, accessFlags := 25, slot := 8, constantValue := 0 }, { name := "LOG2_ARRAY_DOUBLE_INDEX_SCALE", type := .int, accessFlags := 25, slot := 9, constantValue := 0 }, { name := "LOG2_BYTE_BIT_SIZE", type := .int, accessFlags := 26, slot := 10, constantValue := 0 }, { name := "T_BOOLEAN", type := .int, accessFlags := 25, slot := 11, constantValue := 0 }, { name := "T_CHAR", type := .int, accessFlags := 25, slot := 12, constantValue := 0 }, { name := "T_FLOAT", type := .int, accessFlags := 25, slot := 13, constantValue := 0 }, { name := "T_DOUBLE", type := .int, accessFlags := 25, slot := 14, constantValue := 0 }, { name := "T_BYTE", type := .int, accessFlags := 25, slot := 15, constantValue := 0 }, { name := "T_SHORT", type := .int, accessFlags := 25, slot := 16, constantValue := 0 }, { name := "T_INT", type := .int, accessFlags := 25, slot := 17, constantValue := 0 }, { name := "T_LONG", type := .int, accessFlags := 25, slot := 18, constantValue := 0 }, { name := "JLA", type := (.object "jdk/internal/access/JavaLangAccess"), accessFlags := 26, slot := 19, constantValue := 0 }, { name := "SOFT_MAX_ARRAY_LENGTH", type := .int, accessFlags := 25, slot := 20, constantValue := 0 }]
  methods := #[k14m0]
  instanceTypes := #[]
  staticTypes := #[(.object "jdk/internal/misc/Unsafe"), .boolean, .int, .int, .int, .int, .int, .int, .int, .int, .int, .int, .int, .int, .int, .int, .int, .int, .int, (.object "jdk/internal/access/JavaLangAccess"), .int]
  resolved := Array.replicate 378 none
  statics := none }

/-- the primitive byte -/
def k15 : Class := { plain "byte" none with kind := .primitive 'B', accessFlags := 0x411 }
/-- [B -/
def k16 : Class := { plain "[B" (some 0) with kind := .array 15 .byte, interfaces := #[12, 2], accessFlags := 1041 }

/-- the primitive char -/
def k17 : Class := { plain "char" none with kind := .primitive 'C', accessFlags := 0x411 }
/-- [C -/
def k18 : Class := { plain "[C" (some 0) with kind := .array 17 .char, interfaces := #[12, 2], accessFlags := 1041 }

/-- the primitive int -/
def k19 : Class := { plain "int" none with kind := .primitive 'I', accessFlags := 0x411 }
/-- [I -/
def k20 : Class := { plain "[I" (some 0) with kind := .array 19 .int, interfaces := #[12, 2], accessFlags := 1041 }

/-- [Lcom/example/tapline/tapline/rules/ReturnPeriod; -/
def k21 : Class := { plain "[Lcom/example/tapline/tapline/rules/ReturnPeriod;" (some 0) with kind := .array 11 (.object "com/example/tapline/tapline/rules/ReturnPeriod"), interfaces := #[12, 2], accessFlags := 1041 }

def heap : Heap := #[{ cls := 7, slots := #[.long 0, .int 1, .null, .int 0, .null, .int 0, .int 0], vm := .statics 7 },
  { cls := 11, slots := #[.ref 4, .ref 5, .ref 3], vm := .statics 11 },
  { cls := 13, slots := #[.null, .null, .null], vm := .statics 13 },
  { cls := 21, slots := #[.ref 4, .ref 5], vm := .none },
  { cls := 11, slots := #[.null, .int 0, .int 0, .ref 6, .int 1], vm := .none },
  { cls := 11, slots := #[.null, .int 1, .int 0, .ref 7, .int 3], vm := .none },
  { cls := 7, slots := #[.ref 8, .int 0, .int 0, .int 0], vm := .none },
  { cls := 7, slots := #[.ref 9, .int 0, .int 0, .int 0], vm := .none },
  { cls := 16, slots := #[.int 109, .int 111, .int 110, .int 116, .int 104], vm := .none },
  { cls := 16, slots := #[.int 113, .int 117, .int 97, .int 114, .int 116, .int 101, .int 114], vm := .none }]
def classes : Array Class := #[k0, k1, k2, k3, k4, k5, k6, k7, k8, k9, k10, k11, k12, k13, k14, k15, k16, k17, k18, k19, k20, k21]
def interned : List (Array UInt16 × Addr) := []
def slotsUsed : Nat := 45
def theMethod : MethodId := ⟨1, 2⟩
def args0 : Array Value := #[.int 5, .int 6, .int 7, .int 8, .int 9, .int 3]
def aboutOver (below : List Frame) : State where
  vm := { classes := classes, interned := interned.toArray }
  heap := heap
  slotsUsed := slotsUsed
  threads := #[{ frames := .invoking theMethod args0 :: below }]
def below0 : List Frame := [.native { method := ⟨0, 0⟩, args := #[] }]
def about1 : State := aboutOver below0
def p0 : Program := .bare "" "" ""
def e0 : Env := launch0.env 0 0 0
theorem w_frames : about1.frames = Frame.invoking theMethod args0 :: below0 := rfl
set_option maxRecDepth 65536 in
theorem w_args : argsFit about1.vm theMethod args0 = true := by decide +kernel
set_option maxRecDepth 65536 in
theorem w_heap : heapFits about1 = true := by decide +kernel
set_option maxRecDepth 65536 in
theorem w_runnable : about1.curStatus? = some .runnable := by decide +kernel
set_option maxRecDepth 65536 in
theorem w_alone : about1.alone = true := by decide +kernel
set_option maxRecDepth 65536 in
theorem w_named : about1.methodNamed? x = some theMethod := by decide +kernel
set_option maxRecDepth 65536 in
theorem w_hears : about1.hears theMethod below0 = true := by decide +kernel
set_option maxRecDepth 65536 in
theorem w_ripe : about1.ripe theMethod args0 below0 = true := by decide +kernel
theorem w_running : about1.status = .running := rfl
set_option maxRecDepth 65536 in
theorem w_room : about1.hasRoom e0.platform room_1 = true :=
  launch0.hasRoom_least _ room_1 (by decide +kernel) (by decide +kernel) (by decide +kernel) (by decide +kernel) (by decide +kernel) (by decide +kernel)
theorem allAtoms_all (ts : List Jvm.Cond) (a : Array Jvm.Value) (st : Jvm.State) : (allAtoms ts).before a st = ts.all (fun c => c.before a st) := by
  induction ts with
  | nil => rfl
  | cons c t ih =>
    show (Jvm.Cond.and c (allAtoms t)).before a st = _
    rw [Jvm.Cond.before_and, ih, List.all_cons]
def words1 : List Jvm.Cond := Jvm.Cond.code x code maxLocals ret :: tables_1
/-- a 'code' word, met by the world's own term for the bytes: nothing is compared byte by byte -/
theorem code_word {y : MethodName} {bytes : ByteArray} {mx : Nat} {rt : Option FieldType} {a : Array Value} {s : State} {m : MethodId} {meth : Method} {c : Code} (h1 : s.methodNamed? y = some m) (h2 : s.vm.method? m = some meth) (h3 : meth.code = some c) (h4 : c.code = bytes)
    (h5 : (c.maxLocals == mx && c.exceptionTable.isEmpty && decide (c.maxStack ≤ mostOperands) && decide (meth.sig.returnType = rt) && !meth.locks && decide (parseMethodDescriptor y.desc = some meth.sig)) = true) : (Jvm.Cond.code y bytes mx rt).before a s = true := by
  simp only [Bool.and_eq_true, beq_iff_eq, Bool.not_eq_true', decide_eq_true_eq] at h5
  obtain ⟨⟨⟨⟨⟨g1, g2⟩, g3⟩, g4⟩, g5⟩, g6⟩ := h5
  simp [Cond.before, Cond.holds, Cond.value, h1, h2, h3, h4, g1, g2, g3, g4, g5, g6]
def isCode : Jvm.Cond → Bool
  | .code _ _ _ _ => true
  | _ => false
theorem all_split {L : List Jvm.Cond} {P : Jvm.Cond → Bool} (h1 : L.all (fun c => isCode c || P c) = true) (h2 : ∀ c ∈ L.filter isCode, P c = true) : L.all P = true := by
  refine List.all_eq_true.mpr fun c hc => ?_
  have h := List.all_eq_true.mp h1 c hc
  rcases Bool.eq_false_or_eq_true (isCode c) with hi | hi
  · exact h2 c (List.mem_filter.mpr ⟨hc, hi⟩)
  · simpa [hi] using h
set_option maxRecDepth 65536 in
theorem w_c0 : (Jvm.Cond.code x code maxLocals ret).before args0 about1 = true := code_word (m := ⟨1, 2⟩) (meth := k1m2) (c := k1c2) (by decide +kernel) rfl rfl rfl (by decide +kernel)
set_option maxRecDepth 65536 in
theorem w_c1 : (Jvm.Cond.code ({ cls := "com/example/tapline/tapline/rules/ReturnPeriodByIdPinLaw", name := "str", desc := "([CI)Ljava/lang/String;" } : Jvm.MethodName) method_2_code (2 : Nat) (Option.some (Jvm.ClassFile.FieldType.object "java/lang/String"))).before args0 about1 = true := code_word (m := ⟨1, 1⟩) (meth := k1m1) (c := k1c1) (by decide +kernel) rfl rfl rfl (by decide +kernel)
set_option maxRecDepth 65536 in
theorem w_c2 : (Jvm.Cond.code ({ cls := "java/lang/String", name := "<init>", desc := "([C)V" } : Jvm.MethodName) jdk_42_method_3_code (2 : Nat) (Option.none : Option Jvm.ClassFile.FieldType)).before args0 about1 = true := code_word (m := ⟨7, 1⟩) (meth := k7m1) (c := k7c1) (by decide +kernel) rfl rfl rfl (by decide +kernel)
set_option maxRecDepth 65536 in
theorem w_c3 : (Jvm.Cond.code ({ cls := "java/lang/String", name := "<init>", desc := "([CIILjava/lang/Void;)V" } : Jvm.MethodName) jdk_42_method_149_code (6 : Nat) (Option.none : Option Jvm.ClassFile.FieldType)).before args0 about1 = true := code_word (m := ⟨7, 3⟩) (meth := k7m3) (c := k7c3) (by decide +kernel) rfl rfl rfl (by decide +kernel)
set_option maxRecDepth 65536 in
theorem w_c4 : (Jvm.Cond.code ({ cls := "java/lang/Object", name := "<init>", desc := "()V" } : Jvm.MethodName) object_method_1_code (1 : Nat) (Option.none : Option Jvm.ClassFile.FieldType)).before args0 about1 = true := code_word (m := ⟨0, 0⟩) (meth := k0m0) (c := k0c0) (by decide +kernel) rfl rfl rfl (by decide +kernel)
set_option maxRecDepth 65536 in
theorem w_c5 : (Jvm.Cond.code ({ cls := "java/lang/StringUTF16", name := "compress", desc := "([CII)[B" } : Jvm.MethodName) jdk_52_method_16_code (6 : Nat) (Option.some (Jvm.ClassFile.FieldType.array Jvm.ClassFile.FieldType.byte))).before args0 about1 = true := code_word (m := ⟨8, 2⟩) (meth := k8m2) (c := k8c2) (by decide +kernel) rfl rfl rfl (by decide +kernel)
set_option maxRecDepth 65536 in
theorem w_c6 : (Jvm.Cond.code ({ cls := "java/lang/StringUTF16", name := "compress", desc := "([CI[BII)I" } : Jvm.MethodName) jdk_52_method_21_code (7 : Nat) (Option.some Jvm.ClassFile.FieldType.int)).before args0 about1 = true := code_word (m := ⟨8, 3⟩) (meth := k8m3) (c := k8c3) (by decide +kernel) rfl rfl rfl (by decide +kernel)
set_option maxRecDepth 65536 in
theorem w_c7 : (Jvm.Cond.code ({ cls := "java/lang/StringUTF16", name := "coderFromArrayLen", desc := "([BI)B" } : Jvm.MethodName) jdk_52_method_15_code (2 : Nat) (Option.some Jvm.ClassFile.FieldType.byte)).before args0 about1 = true := code_word (m := ⟨8, 1⟩) (meth := k8m1) (c := k8c1) (by decide +kernel) rfl rfl rfl (by decide +kernel)
set_option maxRecDepth 65536 in
theorem w_c8 : (Jvm.Cond.code ({ cls := "java/lang/String", name := "equals", desc := "(Ljava/lang/Object;)Z" } : Jvm.MethodName) jdk_42_method_66_code (3 : Nat) (Option.some Jvm.ClassFile.FieldType.boolean)).before args0 about1 = true := code_word (m := ⟨7, 2⟩) (meth := k7m2) (c := k7c2) (by decide +kernel) rfl rfl rfl (by decide +kernel)
set_option maxRecDepth 65536 in
theorem w_c9 : (Jvm.Cond.code ({ cls := "java/lang/StringLatin1", name := "equals", desc := "([B[B)Z" } : Jvm.MethodName) jdk_43_method_13_code (3 : Nat) (Option.some Jvm.ClassFile.FieldType.boolean)).before args0 about1 = true := code_word (m := ⟨9, 1⟩) (meth := k9m1) (c := k9c1) (by decide +kernel) rfl rfl rfl (by decide +kernel)
set_option maxRecDepth 65536 in
theorem w_c10 : (Jvm.Cond.code ({ cls := "com/example/tapline/tapline/rules/ReturnPeriod", name := "byId", desc := "(Ljava/lang/String;)Lcom/example/tapline/tapline/rules/ReturnPeriod;" } : Jvm.MethodName) prog_74_method_7_code (6 : Nat) (Option.some (Jvm.ClassFile.FieldType.object "com/example/tapline/tapline/rules/ReturnPeriod"))).before args0 about1 = true := code_word (m := ⟨11, 1⟩) (meth := k11m1) (c := k11c1) (by decide +kernel) rfl rfl rfl (by decide +kernel)
set_option maxRecDepth 65536 in
theorem w_c11 : (Jvm.Cond.code ({ cls := "com/example/tapline/tapline/rules/ReturnPeriod", name := "values", desc := "()[Lcom/example/tapline/tapline/rules/ReturnPeriod;" } : Jvm.MethodName) prog_74_method_1_code (0 : Nat) (Option.some (Jvm.ClassFile.FieldType.array (Jvm.ClassFile.FieldType.object "com/example/tapline/tapline/rules/ReturnPeriod")))).before args0 about1 = true := code_word (m := ⟨11, 0⟩) (meth := k11m0) (c := k11c0) (by decide +kernel) rfl rfl rfl (by decide +kernel)
def codes1 : List Jvm.Cond := [Jvm.Cond.code x code maxLocals ret, Jvm.Cond.code ({ cls := "com/example/tapline/tapline/rules/ReturnPeriodByIdPinLaw", name := "str", desc := "([CI)Ljava/lang/String;" } : Jvm.MethodName) method_2_code (2 : Nat) (Option.some (Jvm.ClassFile.FieldType.object "java/lang/String")), Jvm.Cond.code ({ cls := "java/lang/String", name := "<init>", desc := "([C)V" } : Jvm.MethodName) jdk_42_method_3_code (2 : Nat) (Option.none : Option Jvm.ClassFile.FieldType), Jvm.Cond.code ({ cls := "java/lang/String", name := "<init>", desc := "([CIILjava/lang/Void;)V" } : Jvm.MethodName) jdk_42_method_149_code (6 : Nat) (Option.none : Option Jvm.ClassFile.FieldType), Jvm.Cond.code ({ cls := "java/lang/Object", name := "<init>", desc := "()V" } : Jvm.MethodName) object_method_1_code (1 : Nat) (Option.none : Option Jvm.ClassFile.FieldType), Jvm.Cond.code ({ cls := "java/lang/StringUTF16", name := "compress", desc := "([CII)[B" } : Jvm.MethodName) jdk_52_method_16_code (6 : Nat) (Option.some (Jvm.ClassFile.FieldType.array Jvm.ClassFile.FieldType.byte)), Jvm.Cond.code ({ cls := "java/lang/StringUTF16", name := "compress", desc := "([CI[BII)I" } : Jvm.MethodName) jdk_52_method_21_code (7 : Nat) (Option.some Jvm.ClassFile.FieldType.int), Jvm.Cond.code ({ cls := "java/lang/StringUTF16", name := "coderFromArrayLen", desc := "([BI)B" } : Jvm.MethodName) jdk_52_method_15_code (2 : Nat) (Option.some Jvm.ClassFile.FieldType.byte), Jvm.Cond.code ({ cls := "java/lang/String", name := "equals", desc := "(Ljava/lang/Object;)Z" } : Jvm.MethodName) jdk_42_method_66_code (3 : Nat) (Option.some Jvm.ClassFile.FieldType.boolean), Jvm.Cond.code ({ cls := "java/lang/StringLatin1", name := "equals", desc := "([B[B)Z" } : Jvm.MethodName) jdk_43_method_13_code (3 : Nat) (Option.some Jvm.ClassFile.FieldType.boolean), Jvm.Cond.code ({ cls := "com/example/tapline/tapline/rules/ReturnPeriod", name := "byId", desc := "(Ljava/lang/String;)Lcom/example/tapline/tapline/rules/ReturnPeriod;" } : Jvm.MethodName) prog_74_method_7_code (6 : Nat) (Option.some (Jvm.ClassFile.FieldType.object "com/example/tapline/tapline/rules/ReturnPeriod")), Jvm.Cond.code ({ cls := "com/example/tapline/tapline/rules/ReturnPeriod", name := "values", desc := "()[Lcom/example/tapline/tapline/rules/ReturnPeriod;" } : Jvm.MethodName) prog_74_method_1_code (0 : Nat) (Option.some (Jvm.ClassFile.FieldType.array (Jvm.ClassFile.FieldType.object "com/example/tapline/tapline/rules/ReturnPeriod")))]
set_option maxRecDepth 65536 in
theorem codes_eq : words1.filter isCode = codes1 := rfl
theorem w_codes : ∀ c ∈ words1.filter isCode, c.before args0 about1 = true := by
  rw [codes_eq]
  intro c hc
  simp only [codes1, List.mem_cons, List.not_mem_nil, or_false] at hc
  rcases hc with rfl | rfl | rfl | rfl | rfl | rfl | rfl | rfl | rfl | rfl | rfl | rfl
  · exact w_c0
  · exact w_c1
  · exact w_c2
  · exact w_c3
  · exact w_c4
  · exact w_c5
  · exact w_c6
  · exact w_c7
  · exact w_c8
  · exact w_c9
  · exact w_c10
  · exact w_c11
set_option maxRecDepth 65536 in
theorem w_t1 : (words1.take 24).all (fun c => isCode c || c.before args0 about1) = true := by decide +kernel
set_option maxRecDepth 65536 in
theorem w_t2 : ((words1.drop 24).take 24).all (fun c => isCode c || c.before args0 about1) = true := by decide +kernel
set_option maxRecDepth 65536 in
theorem w_t3 : (((words1.drop 24).drop 24).take 24).all (fun c => isCode c || c.before args0 about1) = true := by decide +kernel
set_option maxRecDepth 65536 in
theorem w_t4 : (((words1.drop 24).drop 24).drop 24).all (fun c => isCode c || c.before args0 about1) = true := by decide +kernel
theorem w_tables : (allAtoms (Jvm.Cond.code x code maxLocals ret :: tables_1)).before args0 about1 = true := by
  rw [allAtoms_all]
  show words1.all (fun c => c.before args0 about1) = true
  refine all_split ?_ w_codes
  rw [← List.take_append_drop 24 words1, List.all_append, w_t1, ← List.take_append_drop 24 (words1.drop 24), List.all_append, w_t2, ← List.take_append_drop 24 ((words1.drop 24).drop 24), List.all_append, w_t3, w_t4]
  rfl
set_option maxRecDepth 65536 in
theorem w_rest : rest_1_c.before args0 about1 = true := by decide +kernel
set_option maxRecDepth 65536 in
theorem w_case : (Jvm.Cond.and given_1 narrow_1).before args0 about1 = true := by decide +kernel
set_option maxRecDepth 65536 in
theorem w_consts : constsHeld consts_1 about1 := Jvm.Lit.constsHeldB_iff.mp (by decide +kernel)
theorem w_applies : (headSpec (Jvm.Cond.code x code maxLocals ret :: tables_1) room_1).applies x e0.platform about1 = true :=
  (Spec.applies_iff w_frames).mpr ⟨w_running, w_runnable, w_alone, w_named, w_hears, w_ripe, w_room, w_tables⟩
theorem atStart : AtStart classFile x code maxLocals ret World_1 tables_1 room_1 Calls_1 rest_1 Pre_1 launch0 p0 e0 about1 theMethod args0 below0 :=
  ⟨lists_1, trivial, launch0.admits_env _ _ _, launch0.least_env, fairChoices_fair.cas, fairChoices_fair.clock, w_frames, w_args, w_heap, w_applies, ⟨w_consts, trivial⟩, w_rest, w_case⟩
end start1
theorem witness_1 : WitnessClaimed_1 := ⟨start1.p0, start1.e0, start1.about1, start1.theMethod, start1.args0, start1.below0, start1.atStart⟩
end Jvm.Pilot.@@N@@
