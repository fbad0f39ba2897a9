import JvmDerived
import JvmDerived.Pilot.@@N@@Statement
import JvmDerived.Pilot.@@N@@Code
set_option linter.unusedVariables false
set_option linter.unusedSimpArgs false
namespace Jvm.OwnKit
open Jvm Jvm.ClassFile Sem Op Lib Jvm.Free Jvm.Stand Jvm.LawKit Jvm.RoadKit
section Walk
variable {p : Program} {l : Launch} {e : Env} {R : Room} {s : State} {m : MethodId} {args : Array Value} {below : List Frame} {meth : Method} {c : Code} {T T' : State} {locs : List Loc} {cells slots k n : Nat} {Q : Option Value → Heap → List Loc → Prop} {P : Option Value → State → List Loc → Prop} {g g' : JFrame}
/-- from T with the frame g on top the run comes home: it returns, and Q says of what it returned, the heap and the places written -/
def Home {p : Program} {e : Env} {below : List Frame} {P : Option Value → State → List Loc → Prop} (T : State) (g : JFrame) : Prop :=
  ∃ U o, Steps p.tables e below (T.setTop g) U ∧ U.status = .running ∧ Ended U below o ∧ ∃ v L, o = .returned v ∧ P v U L
/-- the end of a walk that has booked no text -/
abbrev End (s : State) (Q : Option Value → Heap → List Loc → Prop) (k n : Nat) : Option Value → State → List Loc → Prop := fun v U L => Q v U.heap L ∧ FrameEnd s (.returned v) U L k n
theorem Home.go (st : ∀ t, Steps p.tables e below (T'.setTop g') t → Steps p.tables e below (T.setTop g) t) (H : @Home p e below P T' g') : @Home p e below P T g := by
  obtain ⟨U, o, h1, h2⟩ := H
  exact ⟨U, o, st _ h1, h2⟩
section Cps
variable {S : State → Prop} {S2 : State → Heap → Prop} {W E A D M : Heap → Prop} {A2 : Heap → ClassId → Prop} {O : ClassId → Prop} {h : Heap}
theorem Home.st (q : ∃ T', S T' ∧ T'.heap = h ∧ ∀ t, Steps p.tables e below (T'.setTop g') t → Steps p.tables e below (T.setTop g) t) (H : ∀ T', S T' → T'.heap = h → @Home p e below P T' g') : @Home p e below P T g := by
  obtain ⟨T', x, y, st⟩ := q
  exact Home.go st (H T' x y)
theorem Home.wr (q : ∃ T' h', S T' ∧ T'.heap = h' ∧ W h' ∧ ∀ t, Steps p.tables e below (T'.setTop g') t → Steps p.tables e below (T.setTop g) t) (H : ∀ T' h', S T' → T'.heap = h' → W h' → @Home p e below P T' g') : @Home p e below P T g := by
  obtain ⟨T', h', x, y, z, st⟩ := q
  exact Home.go st (H T' h' x y z)
theorem Home.nw {B : Addr → Prop} {A3 D3 : Heap → Addr → Prop} {ga : Addr → JFrame} (q : ∃ T' h' b, B b ∧ S T' ∧ T'.heap = h' ∧ E h' ∧ A3 h' b ∧ D3 h' b ∧ ∀ t, Steps p.tables e below (T'.setTop (ga b)) t → Steps p.tables e below (T.setTop g) t) (H : ∀ T' h' b, B b → S T' → T'.heap = h' → E h' → A3 h' b → D3 h' b → @Home p e below P T' (ga b)) : @Home p e below P T g := by
  obtain ⟨T', h', b, i, x, y, z, u, v, st⟩ := q
  exact Home.go st (H T' h' b i x y z u v)
theorem Home.na {B : Addr → Prop} {A3 : Heap → ClassId → Addr → Prop} {ga : Addr → JFrame} (q : ∃ T' h' c' b, B b ∧ S T' ∧ T'.heap = h' ∧ E h' ∧ A3 h' c' b ∧ ∀ t, Steps p.tables e below (T'.setTop (ga b)) t → Steps p.tables e below (T.setTop g) t) (H : ∀ T' h' c' b, B b → S T' → T'.heap = h' → E h' → A3 h' c' b → @Home p e below P T' (ga b)) : @Home p e below P T g := by
  obtain ⟨T', h', c', b, i, x, y, z, u, st⟩ := q
  exact Home.go st (H T' h' c' b i x y z u)
theorem Home.cp {S4 : State → List Loc → Prop} {F4 : List Loc → Prop} {K4 V4 : Heap → Prop} (q : ∃ T' h' L, S4 T' L ∧ T'.heap = h' ∧ F4 L ∧ K4 h' ∧ V4 h' ∧ ∀ t, Steps p.tables e below (T'.setTop g') t → Steps p.tables e below (T.setTop g) t) (H : ∀ T' h' L, S4 T' L → T'.heap = h' → F4 L → K4 h' → V4 h' → @Home p e below P T' g') : @Home p e below P T g := by
  obtain ⟨T', h', L, i, x, y, z, u, st⟩ := q
  exact Home.go st (H T' h' L i x y z u)
theorem Home.call {S3 : State → List Loc → Prop} {Q3 : Option Value → State → List Loc → Prop} {gv : Option Value → JFrame} (q : ∃ v T' L, S3 T' L ∧ Q3 v T' L ∧ ∀ t, Steps p.tables e below (T'.setTop (gv v)) t → Steps p.tables e below (T.setTop g) t) (H : ∀ v T' L, S3 T' L → Q3 v T' L → @Home p e below P T' (gv v)) : @Home p e below P T g := by
  obtain ⟨v, T', L, x, y, st⟩ := q
  exact Home.go st (H v T' L x y)
end Cps
theorem hW0 {m : MethodId} {pc n : Nat} {L : Array Slot} {S : List Value} : 2 * (mkF m pc L S).monitorRoom + n ≤ n := by show 2 * 0 + n ≤ n; omega
theorem Home.enter (q : g = g') (H : @Home p e below P T g') : @Home p e below P T g := by
  subst q; exact H
theorem Home.retN (X : Stand p l e R s m args below meth c T locs cells slots) (hx : p.tables.exec = Jvm.exec) (hlk : meth.locks = false) {pc : Nat} {Ls : Array Slot} {z : Int32} {t : FieldType} {rest : List Value} (hret : meth.sig.returnType = some t) (ht : t = .boolean ∨ t = .byte ∨ t = .char ∨ t = .short)
    (hd : decode c.code pc = .ok (.ireturn, 1)) (hQ : Q (some (.int (nar t z))) T.heap locs) (hk : cells ≤ k) (hn : slots ≤ n) : @Home p e below (End s Q k n) T (mkF m pc Ls (.int z :: rest)) := by
  obtain ⟨fs, hr, hrun, hended, hW, hsame⟩ := X.leave (v := some (.int (nar t z))) (fun h => by rw [hret] at h; cases h) hlk
  exact ⟨_, _, Jvm.RoadKit.retN X hx hret ht hd hr, hrun, hended, _, _, rfl, hQ, ⟨_, rfl⟩, hW, hsame.mono hk hn⟩
theorem Home.ret (X : Stand p l e R s m args below meth c T locs cells slots) (hx : p.tables.exec = Jvm.exec) (hlk : meth.locks = false) {pc : Nat} {Ls : Array Slot} {w : Value} {t : FieldType} {i : Instr} {rest : List Value} (hret : meth.sig.returnType = some t) (hnn : narrow t w = w)
    (hi : (i = .ireturn ∧ (t = .int ∨ t = .boolean ∨ t = .byte ∨ t = .char ∨ t = .short) ∧ ∃ z, w = .int z) ∨ (i = .lreturn ∧ t = .long ∧ ∃ z, w = .long z) ∨ (i = .dreturn ∧ t = .double ∧ ∃ z, w = .double z) ∨ (i = .freturn ∧ t = .float ∧ ∃ z, w = .float z) ∨ (i = .areturn ∧ t.isReference = true ∧ w.isRef = true))
    (hd : decode c.code pc = .ok (i, 1)) (hQ : Q (some w) T.heap locs) (hk : cells ≤ k) (hn : slots ≤ n) : @Home p e below (End s Q k n) T (mkF m pc Ls (w :: rest)) := by
  obtain ⟨fs, hr, hrun, hended, hW, hsame⟩ := X.leave (v := some w) (fun h => by rw [hret] at h; cases h) hlk
  exact ⟨_, _, retOut X hx hret hnn hi hd hr, hrun, hended, _, _, rfl, hQ, ⟨_, rfl⟩, hW, hsame.mono hk hn⟩
theorem Home.retI (X : Stand p l e R s m args below meth c T locs cells slots) (hx : p.tables.exec = Jvm.exec) (hlk : meth.locks = false) {pc : Nat} {Ls : Array Slot} {z : Int32} {rest : List Value} (hret : meth.sig.returnType = some .int)
    (hd : decode c.code pc = .ok (.ireturn, 1)) (hQ : Q (some (.int z)) T.heap locs) (hk : cells ≤ k) (hn : slots ≤ n) : @Home p e below (End s Q k n) T (mkF m pc Ls (.int z :: rest)) :=
  Home.ret X hx hlk hret rfl (Or.inl ⟨rfl, Or.inl rfl, z, rfl⟩) hd hQ hk hn
theorem own_narrow_ref {t : FieldType} {w : Value} (hw : w.isRef = true) : narrow t w = w := by
  rcases ref_cases hw with rfl | ⟨a, rfl⟩ <;> cases t <;> rfl
theorem Home.retR (X : Stand p l e R s m args below meth c T locs cells slots) (hx : p.tables.exec = Jvm.exec) (hlk : meth.locks = false) {pc : Nat} {Ls : Array Slot} {w : Value} {t : FieldType} {rest : List Value} (hret : meth.sig.returnType = some t) (ht : t.isReference = true) (hw : w.isRef = true)
    (hd : decode c.code pc = .ok (.areturn, 1)) (hQ : Q (some w) T.heap locs) (hk : cells ≤ k) (hn : slots ≤ n) : @Home p e below (End s Q k n) T (mkF m pc Ls (w :: rest)) :=
  Home.ret X hx hlk hret (own_narrow_ref hw) (Or.inr (Or.inr (Or.inr (Or.inr ⟨rfl, ht, hw⟩)))) hd hQ hk hn
theorem Home.ret0 (X : Stand p l e R s m args below meth c T locs cells slots) (hx : p.tables.exec = Jvm.exec) (hlk : meth.locks = false) {pc : Nat} {Ls : Array Slot} (hret : meth.sig.returnType = none)
    (hd : decode c.code pc = .ok (.return_, 1)) (hQ : Q none T.heap locs) (hk : cells ≤ k) (hn : slots ≤ n) : @Home p e below (End s Q k n) T (mkF m pc Ls []) := by
  obtain ⟨fs, hr, hrun, hended, hW, hsame⟩ := X.leave (v := none) (fun _ => rfl) hlk
  exact ⟨_, _, X.returnOut hx hret hd hr, hrun, hended, _, _, rfl, hQ, ⟨_, rfl⟩, hW, hsame.mono hk hn⟩
end Walk
section New
variable {p : Program} {l : Launch} {e : Env} {R : Room} {s : State} {m : MethodId} {args : Array Value} {below : List Frame} {meth : Method} {c : Code} {T : State} {locs : List Loc} {cells slots : Nat} {Z : State} {a0 : Array Value} {h : Heap}
theorem own_newO (X : Stand p l e R s m args below meth c T locs cells slots) (hx : p.tables.exec = Jvm.exec) (hZ : Z.Warmed39 s.vm) {own C : String} {index n : Nat} (hown : s.vm.findClass own = some m.cls) (w : (Cond.classLink own index C).before a0 Z = true) (wi : (Cond.instantiable C n).before a0 Z = true) (wz : (Cond.initialized C).before a0 Z = true) (eT : T.heap = h)
    {g : JFrame} (hg : g.method = m) (hd : decode c.code g.pc = .ok (.new index, 3)) (hc : cells + 1 ≤ R.cells) (hl : slots + n ≤ R.slots) :
    ∃ T' h' b, b = h.size ∧ Stand p l e R s m args below meth c T' locs (cells + 1) (slots + n) ∧ T'.heap = h' ∧ Ext h h' ∧ Exa Z h' b C ∧ (∀ {O nm d : String} {ty : FieldType}, Laid Z a0 C O nm d → parseFieldDescriptor d = some ty → Fld Z h' b O nm d (defaultValue ty)) ∧
      ∀ target, Steps p.tables e below (T'.setTop { g with pc := g.pc + 3, stack := .ref b :: g.stack }) target → Steps p.tables e below (T.setTop g) target := by
  obtain ⟨T', h', X', e', E', A', D', -, st⟩ := newO X hx hZ hown w wi wz eT hg hd hc hl
  exact ⟨T', h', _, rfl, X', e', E', A', D', st⟩
theorem own_newP (X : Stand p l e R s m args below meth c T locs cells slots) (hx : p.tables.exec = Jvm.exec) (hZ : Z.Warmed39 s.vm) {aty : ArrayType} (w : (Cond.arrayClass (newarray.typeOf aty)).before a0 Z = true) (eT : T.heap = h) {g : JFrame} (hg : g.method = m) (hd : decode c.code g.pc = .ok (.newarray aty, 2)) {n : Int32} {rest : List Value} (hs : g.stack = .int n :: rest)
    (hn : ¬ n < 0) {cap : Nat} (hcap : n.toNatClampNeg ≤ cap) (hb : cap * 8 ≤ 536870912) (hc : cells + 1 ≤ R.cells) (hl : slots + cap ≤ R.slots) :
    ∃ T' h' cA b, b = h.size ∧ Stand p l e R s m args below meth c T' locs (cells + 1) (slots + cap) ∧ T'.heap = h' ∧ Ext h h' ∧ Arr Z h' b (newA cA (newarray.typeOf aty) n) (newarray.typeOf aty) ∧
      ∀ target, Steps p.tables e below (T'.setTop { g with pc := g.pc + 2, stack := .ref b :: rest }) target → Steps p.tables e below (T.setTop g) target := by
  obtain ⟨T', h', cA, X', e', E', A', st⟩ := newP X hx hZ w eT hg hd hs hn hcap hb hc hl
  exact ⟨T', h', cA, _, rfl, X', e', E', A', st⟩
end New
section Run
variable {p : Program} {l : Launch} {e : Env} {R : Room} {s : State} {m : MethodId} {args : Array Value} {below : List Frame} {meth : Method} {c : Code} {T : State} {locs : List Loc} {cells slots : Nat} {target : State}
def un32 (f : Int32 → Value) (S : List Value) : Option (List Value) := match S with | .int x :: r => some (f x :: r) | _ => none
def un64 (f : Int64 → Value) (S : List Value) : Option (List Value) := match S with | .long x :: r => some (f x :: r) | _ => none
def bi32 (f : Int32 → Int32 → Int32) (S : List Value) : Option (List Value) := match S with | .int y :: .int x :: r => some (.int (f x y) :: r) | _ => none
def bi64 (f : Int64 → Int64 → Value) (S : List Value) : Option (List Value) := match S with | .long y :: .long x :: r => some (f x y :: r) | _ => none
def sh64 (f : Int64 → Int32 → Int64) (S : List Value) : Option (List Value) := match S with | .int y :: .long x :: r => some (.long (f x y) :: r) | _ => none
/-- the stack behind an instruction that reads and writes the stack alone -/
def stk (i : Instr) (S : List Value) : Option (List Value) := match i with
  | .iconst k => some (.int (Int32.ofInt k) :: S)
  | .bipush k => some (.int (Int8.ofInt k).toInt32 :: S)
  | .sipush k => some (.int (Int16.ofInt k).toInt32 :: S)
  | .lconst k => some (.long (Int64.ofNat k) :: S)
  | .aconst_null => some (.null :: S)
  | .iadd => bi32 (· + ·) S
  | .isub => bi32 (· - ·) S
  | .imul => bi32 (· * ·) S
  | .iand => bi32 (· &&& ·) S
  | .ior => bi32 (· ||| ·) S
  | .ixor => bi32 (· ^^^ ·) S
  | .ishl => bi32 (fun x y => x <<< (y &&& 31)) S
  | .ishr => bi32 (fun x y => x >>> (y &&& 31)) S
  | .iushr => bi32 (fun x y => (x.toUInt32 >>> (y &&& 31).toUInt32).toInt32) S
  | .ladd => bi64 (fun x y => .long (x + y)) S
  | .lsub => bi64 (fun x y => .long (x - y)) S
  | .lmul => bi64 (fun x y => .long (x * y)) S
  | .land => bi64 (fun x y => .long (x &&& y)) S
  | .lor => bi64 (fun x y => .long (x ||| y)) S
  | .lxor => bi64 (fun x y => .long (x ^^^ y)) S
  | .lcmp => bi64 (fun x y => .int (if x > y then 1 else if x = y then 0 else -1)) S
  | .lshl => sh64 (fun x y => x <<< (y &&& 0x3f).toInt64) S
  | .lshr => sh64 (fun x y => x >>> (y &&& 0x3f).toInt64) S
  | .lushr => sh64 (fun x y => (x.toUInt64 >>> (y &&& 0x3f).toInt64.toUInt64).toInt64) S
  | .ineg => un32 (fun x => .int (-x)) S
  | .lneg => un64 (fun x => .long (-x)) S
  | .i2l => un32 (fun x => .long x.toInt64) S
  | .l2i => un64 (fun x => .int x.toInt32) S
  | .i2b => un32 (fun x => .int x.toInt8.toInt32) S
  | .i2c => un32 (fun x => .int x.toUInt32.toUInt16.toUInt32.toInt32) S
  | .i2s => un32 (fun x => .int x.toInt16.toInt32) S
  | .dup => match S with | x :: r => if x.category = 1 then some (x :: x :: r) else none | _ => none
  | .pop => match S with | x :: r => if x.category = 1 then some r else none | _ => none
  | .dup_x1 => match S with | x :: y :: r => if x.category = 1 ∧ y.category = 1 then some (x :: y :: x :: r) else none | _ => none
  | _ => none
theorem un32_s {f : Int32 → Value} {S S' : List Value} (h : un32 f S = some S') : ∃ x r, S = .int x :: r ∧ S' = f x :: r := by
  unfold un32 at h; split at h
  · cases h; exact ⟨_, _, rfl, rfl⟩
  · cases h
theorem un64_s {f : Int64 → Value} {S S' : List Value} (h : un64 f S = some S') : ∃ x r, S = .long x :: r ∧ S' = f x :: r := by
  unfold un64 at h; split at h
  · cases h; exact ⟨_, _, rfl, rfl⟩
  · cases h
theorem bi32_s {f : Int32 → Int32 → Int32} {S S' : List Value} (h : bi32 f S = some S') : ∃ x y r, S = .int y :: .int x :: r ∧ S' = .int (f x y) :: r := by
  unfold bi32 at h; split at h
  · cases h; exact ⟨_, _, _, rfl, rfl⟩
  · cases h
theorem bi64_s {f : Int64 → Int64 → Value} {S S' : List Value} (h : bi64 f S = some S') : ∃ x y r, S = .long y :: .long x :: r ∧ S' = f x y :: r := by
  unfold bi64 at h; split at h
  · cases h; exact ⟨_, _, _, rfl, rfl⟩
  · cases h
theorem sh64_s {f : Int64 → Int32 → Int64} {S S' : List Value} (h : sh64 f S = some S') : ∃ x y r, S = .int y :: .long x :: r ∧ S' = .long (f x y) :: r := by
  unfold sh64 at h; split at h
  · cases h; exact ⟨_, _, _, rfl, rfl⟩
  · cases h
def len1 (i : Instr) : Nat := match i with | .bipush _ => 2 | .sipush _ => 3 | _ => 1
theorem stk_s (X : Stand p l e R s m args below meth c T locs cells slots) (hx : p.tables.exec = Jvm.exec) {i : Instr} {n pc : Nat} {L : Array Slot} {S S' : List Value} (hd : decode c.code pc = .ok (i, n)) (hn : n = len1 i) (h : stk i S = some S')
    (H : Steps p.tables e below (T.setTop (mkF m (pc + n) L S')) target) : Steps p.tables e below (T.setTop (mkF m pc L S)) target := by
  subst hn
  unfold stk at h
  split at h <;> first
    | (cases h; first | exact XS.iconst X.here hx rfl hd H | exact XS.bipush X.here hx rfl hd H | exact XS.sipush X.here hx rfl hd H | exact XS.lconst X.here hx rfl hd H | exact XS.aconstNull X.here hx rfl hd H)
    | (obtain ⟨x, y, r, rfl, rfl⟩ := bi32_s h; first | exact XS.iadd X.here hx rfl hd rfl H | exact XS.isub X.here hx rfl hd rfl H | exact XS.imul X.here hx rfl hd rfl H | exact XS.iand X.here hx rfl hd rfl H | exact XS.ior X.here hx rfl hd rfl H | exact XS.ixor X.here hx rfl hd rfl H | exact XS.ishl X.here hx rfl hd rfl H | exact XS.ishr X.here hx rfl hd rfl H | exact XS.iushr X.here hx rfl hd rfl H)
    | (obtain ⟨x, y, r, rfl, rfl⟩ := bi64_s h; first | exact XS.ladd X.here hx rfl hd rfl H | exact XS.lsub X.here hx rfl hd rfl H | exact XS.lmul X.here hx rfl hd rfl H | exact XS.land X.here hx rfl hd rfl H | exact XS.lor X.here hx rfl hd rfl H | exact XS.lxor X.here hx rfl hd rfl H | exact XS.lcmp X.here hx rfl hd rfl H)
    | (obtain ⟨x, y, r, rfl, rfl⟩ := sh64_s h; first | exact XS.lshl X.here hx rfl hd rfl H | exact XS.lshr X.here hx rfl hd rfl H | exact XS.lushr X.here hx rfl hd rfl H)
    | (obtain ⟨x, r, rfl, rfl⟩ := un32_s h; first | exact XS.ineg X.here hx rfl hd rfl H | exact XS.i2l X.here hx rfl hd rfl H | exact XS.i2b X.here hx rfl hd rfl H | exact XS.i2c X.here hx rfl hd rfl H | exact XS.i2s X.here hx rfl hd rfl H)
    | (obtain ⟨x, r, rfl, rfl⟩ := un64_s h; first | exact XS.lneg X.here hx rfl hd rfl H | exact XS.l2i X.here hx rfl hd rfl H)
    | (split at h <;> (try split at h) <;> first | (cases h; done) | (rename_i q; cases h; first | exact XS.dup X.here hx rfl hd rfl q H | exact XS.pop X.here hx rfl hd rfl q H | exact XS.dupX1 X.here hx rfl hd rfl q.1 q.2 H))
    | cases h
def ldI (L : Array Slot) (S : List Value) (k : Nat) : Option (Array Slot × List Value) := match L[k]? with | some (.val (.int v)) => some (L, .int v :: S) | _ => none
def ldJ (L : Array Slot) (S : List Value) (k : Nat) : Option (Array Slot × List Value) := match L[k]? with | some (.val (.long v)) => some (L, .long v :: S) | _ => none
def ldA (L : Array Slot) (S : List Value) (k : Nat) : Option (Array Slot × List Value) := match L[k]? with | some (.val v) => if v.isRef = true then some (L, v :: S) else none | _ => none
def stI1 (L : Array Slot) (S : List Value) (k : Nat) : Option (Array Slot × List Value) := match S with | .int x :: r => (storeLocals L k (.int x)).map fun l' => (l', r) | _ => none
def stJ1 (L : Array Slot) (S : List Value) (k : Nat) : Option (Array Slot × List Value) := match S with | .long x :: r => (storeLocals L k (.long x)).map fun l' => (l', r) | _ => none
def stA1 (L : Array Slot) (S : List Value) (k : Nat) : Option (Array Slot × List Value) := match S with | x :: r => if x.isRef = true then (storeLocals L k x).map fun l' => (l', r) else none | _ => none
/-- what an instruction does to pc, locals and stack; nothing else is touched -/
def run1 (i : Instr) (n pc : Nat) (L : Array Slot) (S : List Value) : Option (Nat × Array Slot × List Value) := match i with
  | .iload_n k => if n = 1 then (ldI L S k.val).map (pc + n, ·) else none
  | .iload k => if n = 2 then (ldI L S k).map (pc + n, ·) else none
  | .lload_n k => if n = 1 then (ldJ L S k.val).map (pc + n, ·) else none
  | .lload k => if n = 2 then (ldJ L S k).map (pc + n, ·) else none
  | .aload_n k => if n = 1 then (ldA L S k.val).map (pc + n, ·) else none
  | .aload k => if n = 2 then (ldA L S k).map (pc + n, ·) else none
  | .istore_n k => if n = 1 then (stI1 L S k.val).map (pc + n, ·) else none
  | .istore k => if n = 2 then (stI1 L S k).map (pc + n, ·) else none
  | .lstore_n k => if n = 1 then (stJ1 L S k.val).map (pc + n, ·) else none
  | .lstore k => if n = 2 then (stJ1 L S k).map (pc + n, ·) else none
  | .astore_n k => if n = 1 then (stA1 L S k.val).map (pc + n, ·) else none
  | .astore k => if n = 2 then (stA1 L S k).map (pc + n, ·) else none
  | .iinc k cst => if n = 3 then (match L[k]? with | some (.val (.int x)) => (storeLocals L k (.int (x + Int32.ofInt cst))).map fun l' => (pc + n, l', S) | _ => none) else none
  | .goto o => if n = 3 then (if 0 ≤ (pc : Int) + o then some (((pc : Int) + o).toNat, L, S) else none) else none
  | i => if n = len1 i then (stk i S).map fun S' => (pc + n, L, S') else none
theorem ldI_s {L L' : Array Slot} {S S' : List Value} {k : Nat} (h : ldI L S k = some (L', S')) : ∃ v, L[k]? = some (.val (.int v)) ∧ L' = L ∧ S' = .int v :: S := by
  unfold ldI at h; split at h
  · cases h; exact ⟨_, by assumption, rfl, rfl⟩
  · cases h
theorem ldJ_s {L L' : Array Slot} {S S' : List Value} {k : Nat} (h : ldJ L S k = some (L', S')) : ∃ v, L[k]? = some (.val (.long v)) ∧ L' = L ∧ S' = .long v :: S := by
  unfold ldJ at h; split at h
  · cases h; exact ⟨_, by assumption, rfl, rfl⟩
  · cases h
theorem ldA_s {L L' : Array Slot} {S S' : List Value} {k : Nat} (h : ldA L S k = some (L', S')) : ∃ v, L[k]? = some (.val v) ∧ v.isRef = true ∧ L' = L ∧ S' = v :: S := by
  unfold ldA at h; split at h
  · split at h
    · cases h; exact ⟨_, by assumption, by assumption, rfl, rfl⟩
    · cases h
  · cases h
theorem stI1_s {L L' : Array Slot} {S S' : List Value} {k : Nat} (h : stI1 L S k = some (L', S')) : ∃ x, S = .int x :: S' ∧ storeLocals L k (.int x) = some L' := by
  unfold stI1 at h; split at h
  · rw [Option.map_eq_some_iff] at h; obtain ⟨l', h1, h2⟩ := h; cases h2; exact ⟨_, rfl, h1⟩
  · cases h
theorem stJ1_s {L L' : Array Slot} {S S' : List Value} {k : Nat} (h : stJ1 L S k = some (L', S')) : ∃ x, S = .long x :: S' ∧ storeLocals L k (.long x) = some L' := by
  unfold stJ1 at h; split at h
  · rw [Option.map_eq_some_iff] at h; obtain ⟨l', h1, h2⟩ := h; cases h2; exact ⟨_, rfl, h1⟩
  · cases h
theorem stA1_s {L L' : Array Slot} {S S' : List Value} {k : Nat} (h : stA1 L S k = some (L', S')) : ∃ x, S = x :: S' ∧ x.isRef = true ∧ storeLocals L k x = some L' := by
  unfold stA1 at h; split at h
  · split at h
    · rw [Option.map_eq_some_iff] at h; obtain ⟨l', h1, h2⟩ := h; cases h2; exact ⟨_, rfl, by assumption, h1⟩
    · cases h
  · cases h
theorem map_s {α β : Type} {o : Option α} {f : α → β} {y : β} (h : o.map f = some y) : ∃ x, o = some x ∧ f x = y := Option.map_eq_some_iff.mp h
theorem run1_s (X : Stand p l e R s m args below meth c T locs cells slots) (hx : p.tables.exec = Jvm.exec) {i : Instr} {n pc pc' : Nat} {L L' : Array Slot} {S S' : List Value} (hd : decode c.code pc = .ok (i, n)) (h : run1 i n pc L S = some (pc', L', S'))
    (H : Steps p.tables e below (T.setTop (mkF m pc' L' S')) target) : Steps p.tables e below (T.setTop (mkF m pc L S)) target := by
  unfold run1 at h
  split at h <;> split at h <;> first
    | (cases h; done)
    | (rename_i hn; subst hn; obtain ⟨⟨L1, S1⟩, h1, h2⟩ := map_s h; cases h2; first
        | (obtain ⟨v, q1, rfl, rfl⟩ := ldI_s h1; first | exact XS.iloadN X.here hx rfl hd q1 H | exact XS.iload X.here hx rfl hd q1 H)
        | (obtain ⟨v, q1, rfl, rfl⟩ := ldJ_s h1; first | exact XS.lloadN X.here hx rfl hd q1 H | exact XS.lload X.here hx rfl hd q1 H)
        | (obtain ⟨v, q1, q2, rfl, rfl⟩ := ldA_s h1; first | exact XS.aloadN X.here hx rfl hd q1 q2 H | exact XS.aload X.here hx rfl hd q1 q2 H)
        | (obtain ⟨x, rfl, q⟩ := stI1_s h1; first | exact XS.istoreN X.here hx rfl hd rfl q H | exact XS.istore X.here hx rfl hd rfl q H)
        | (obtain ⟨x, rfl, q⟩ := stJ1_s h1; first | exact XS.lstoreN X.here hx rfl hd rfl q H | exact XS.lstore X.here hx rfl hd rfl q H)
        | (obtain ⟨x, rfl, q1, q⟩ := stA1_s h1; first | exact XS.astoreN X.here hx rfl hd rfl q1 q H | exact XS.astore X.here hx rfl hd rfl q1 q H))
    | (rename_i hn; subst hn; split at h <;> first
        | (cases h; done)
        | (rename_i q; obtain ⟨l', h1, h2⟩ := map_s h; cases h2; exact XS.iinc X.here hx rfl hd q h1 H)
        | (rename_i q; cases h; exact XS.goto X.here hx rfl (pc0 := pc) rfl hd q rfl H))
    | (rename_i hn; obtain ⟨S1, h1, h2⟩ := map_s h; cases h2; exact stk_s X hx hd hn h1 H)
def runs : List (Nat × Instr × Nat) → Nat → Array Slot → List Value → Option (Nat × Array Slot × List Value)
  | [], pc, L, S => some (pc, L, S)
  | (q, i, n) :: is, pc, L, S => if q = pc then (match run1 i n pc L S with | some (pc', L', S') => runs is pc' L' S' | none => none) else none
def decs (code : ByteArray) : List (Nat × Instr × Nat) → Prop
  | [] => True
  | (q, i, n) :: is => decode code q = .ok (i, n) ∧ decs code is
theorem runs_s (X : Stand p l e R s m args below meth c T locs cells slots) (hx : p.tables.exec = Jvm.exec) {pc' : Nat} {L' : Array Slot} {S' : List Value} (H : Steps p.tables e below (T.setTop (mkF m pc' L' S')) target) :
    ∀ (is : List (Nat × Instr × Nat)) (pc : Nat) (L : Array Slot) (S : List Value), decs c.code is → runs is pc L S = some (pc', L', S') → Steps p.tables e below (T.setTop (mkF m pc L S)) target
  | [], pc, L, S, _, h => by cases h; exact H
  | (q, i, n) :: is, pc, L, S, hd, h => by
    unfold runs at h
    split at h
    · rename_i e1; subst e1
      split at h
      · rename_i pc1 L1 S1 h1
        exact run1_s X hx hd.1 h1 (runs_s X hx H is pc1 L1 S1 hd.2 h)
      · cases h
    · cases h
variable {P : Option Value → State → List Loc → Prop}
theorem Home.run (X : Stand p l e R s m args below meth c T locs cells slots) (hx : p.tables.exec = Jvm.exec) {bytes : ByteArray} (hby : c.code = bytes) {is : List (Nat × Instr × Nat)} (hd : decs bytes is) {pc pc' : Nat} {L L' : Array Slot} {S S' : List Value} (h : runs is pc L S = some (pc', L', S'))
    (H : @Home p e below P T (mkF m pc' L' S')) : @Home p e below P T (mkF m pc L S) :=
  Home.go (fun _ kt => runs_s X hx kt is pc L S (by rw [hby]; exact hd) h) H
end Run
section Calls
variable {p : Program} {l : Launch} {e : Env} {R : Room} {s : State} {m : MethodId} {args : Array Value} {below : List Frame} {meth : Method} {c : Code} {T : State} {locs : List Loc} {cells slots : Nat} {Z : State} {a0 : Array Value} {h : Heap} {y z : MethodName} {bytes : ByteArray} {maxL : Nat} {ret : Option FieldType} {rm : Room} {W : Nat} {as' : Array Value} {Q : Option Value → Heap → List Loc → Prop} {own C : String} {index : Nat}
/-- a body's contract, at one heap and one list of arguments -/
abbrev Con (l : Launch) (Z : State) (y : MethodName) (bytes : ByteArray) (maxL : Nat) (ret : Option FieldType) (ws : List Jvm.Cond) (rm : Room) (as' : Array Value) (h : Heap) (Q : Option Value → Heap → List Loc → Prop) : Prop :=
  MetFree l y (head1 (Jvm.Cond.code y bytes maxL ret :: ws) rm) (fun a U => a = as' ∧ Z.Warmed39 U.vm ∧ U.heap = h) (fun _ _ _ _ _ => True) (fun _ U o U' => ∃ v L, o = .returned v ∧ Q v U'.heap L ∧ FrameEnd U o U' L rm.cells rm.slots)
/-- it leaves the heap as it was -/
abbrev Pur (w : Option Value) (h0 : Heap) : Option Value → Heap → List Loc → Prop := fun v h L => v = w ∧ L = [] ∧ h = h0
/-- from a walk that comes home to the contract -/
theorem own_body {ws : List Jvm.Cond} {L0 : Array Slot} (pn : plainFor y = true) (ef : ∀ m, entryFrame m as' maxL = mkF m 0 L0 [])
    (body : ∀ (p : Program) (e : Env) (s : State) (m : MethodId) (below : List Frame) (meth : Method) (c : Code) (s₁ : State), p.tables.exec = Jvm.exec → c.code = bytes → meth.locks = false → c.maxLocals = maxL → meth.sig.returnType = ret → Z.Warmed39 s.vm → s.vm.findClass y.cls = some m.cls → meth.name = y.name →
      Stand p l e rm s m as' below meth c s₁ [] 0 0 → s₁.heap = h → @Home p e below (End s Q rm.cells rm.slots) s₁ (mkF m 0 L0 [])) : Con l Z y bytes maxL ret ws rm as' h Q := by
  refine MetFree.of_bodySF pn hisR ?_
  intro p e s m args below meth c s₁ Bd hml0 hP hK
  obtain ⟨rfl, hZ, hh⟩ := hP
  have H : @Home p e below (End s Q rm.cells rm.slots) s₁ (entryFrame m args maxL) := Home.enter (ef m) (body p e s m below meth c s₁ Bd.exec Bd.bytes (BodyLoose.notSynchronized Bd) hml0 Bd.returns hZ (findClass_of_methodNamed Bd.named) (name_of_methodNamed Bd.named Bd.method).1 (Stand.of_body Bd) (by rw [← hh, Bd.state]; rfl))
  obtain ⟨U, o, h1, h2, h3, v, L, rfl, h4, h5⟩ := H
  exact ⟨U, _, h1, h2, h3, v, L, rfl, h4, h5⟩
theorem own_static (X : Stand p l e R s m args below meth c T locs cells slots) (hx : p.tables.exec = Jvm.exec) (hZ : Z.Warmed39 s.vm) (hown : s.vm.findClass own = some m.cls)
    (w1 : (Cond.methodLink own index y).before a0 Z = true) (w2 : (Cond.static y).before a0 Z = true) (w3 : (Cond.initialized y.cls).before a0 Z = true) (w4 : (Cond.code y bytes maxL ret).before a0 Z = true)
    (hy : y.cls ≠ "java/lang/invoke/MethodHandle" ∧ y.cls ≠ "java/lang/invoke/VarHandle") (hM : Con l Z y bytes maxL ret [] rm as' h Q) (eT : T.heap = h)
    {g : JFrame} (hg : g.method = m) (hsize : g.locals.size = c.maxLocals) {argsL rest : List Value} (hlen : ∀ sig, parseMethodDescriptor y.desc = some sig → argsL.length = sig.parameters.length) (hstack : g.stack = argsL.reverse ++ rest) (ha : argsL.toArray = as')
    (hW : 2 * g.monitorRoom + (rest.map fun v => v.category).sum ≤ W) (hf : rm.frames + 1 ≤ R.frames) (hl : W + (maxL + 11) + rm.locals ≤ R.locals)
    (hdg : decode c.code g.pc = .ok (.invokestatic index, 3)) (hc : cells + rm.cells ≤ R.cells) (hs : slots + rm.slots ≤ R.slots) :
    ∃ v T' L, Stand p l e R s m args below meth c T' (locs ++ L) (cells + rm.cells) (slots + rm.slots) ∧ Q v T'.heap L ∧
      ∀ t, Steps p.tables e below (T'.setTop { g with pc := g.pc + 3, stack := v.toList ++ rest }) t → Steps p.tables e below (T.setTop g) t := by
  obtain ⟨v, _, ⟨T', L', k', n'⟩, -, X', ⟨L, hQ, l', y', z'⟩, st⟩ := Jvm.LawKit.callS X hx (y := y) hown (mvT hZ w1) (mvT hZ w2) (mvT hZ w3) (mvT hZ w4) hy (backOf (W := W) hM hZ w4 w3 hf hl) hg hsize hlen hstack hW hdg (fun _ _ => ⟨ha, eT, hc, hs⟩)
  dsimp only [Pt.U, Pt.locs, Pt.cells, Pt.slots] at X' l' y' z' st hQ
  subst l' y' z'
  exact ⟨v, T', L, X', hQ, st⟩
theorem own_special (X : Stand p l e R s m args below meth c T locs cells slots) (hx : p.tables.exec = Jvm.exec) (hZ : Z.Warmed39 s.vm) (hown : s.vm.findClass own = some m.cls) (hy1 : y.name = "<init>")
    (w1 : (Cond.methodLink own index y).before a0 Z = true) (w2 : (Cond.instanceMethod y).before a0 Z = true) (w3 : (Cond.initialized y.cls).before a0 Z = true) (w4 : (Cond.code y bytes maxL none).before a0 Z = true)
    (hy : y.cls ≠ "java/lang/invoke/MethodHandle" ∧ y.cls ≠ "java/lang/invoke/VarHandle") (hM : Con l Z y bytes maxL none [] rm as' h Q) (eT : T.heap = h)
    {g : JFrame} (hg : g.method = m) (hsize : g.locals.size = c.maxLocals) {a : Addr} {argsL rest : List Value} (hlen : ∀ sig, parseMethodDescriptor y.desc = some sig → argsL.length = sig.parameters.length) (hstack : g.stack = argsL.reverse ++ .ref a :: rest) (ha : (.ref a :: argsL).toArray = as')
    (hW : 2 * g.monitorRoom + (rest.map fun v => v.category).sum ≤ W) (hf : rm.frames + 1 ≤ R.frames) (hl : W + (maxL + 11) + rm.locals ≤ R.locals)
    (hdg : decode c.code g.pc = .ok (.invokespecial index, 3)) (hc : cells + rm.cells ≤ R.cells) (hs : slots + rm.slots ≤ R.slots) :
    ∃ v T' L, Stand p l e R s m args below meth c T' (locs ++ L) (cells + rm.cells) (slots + rm.slots) ∧ Q v T'.heap L ∧
      ∀ t, Steps p.tables e below (T'.setTop { g with pc := g.pc + 3, stack := v.toList ++ rest }) t → Steps p.tables e below (T.setTop g) t := by
  obtain ⟨v, _, ⟨T', L', k', n'⟩, -, X', ⟨L, hQ, l', y', z'⟩, st⟩ := X.specialBack hx (y := y) hy1 hown (mvT hZ w1) (mvT hZ w2) (mvT hZ w4) hy (backOf (W := W) hM hZ w4 w3 hf hl) hg hsize (Steps.refl _) (a := a) hlen hstack hW hdg (fun _ _ => ⟨ha, eT, hc, hs⟩)
  dsimp only [Pt.U, Pt.locs, Pt.cells, Pt.slots] at X' l' y' z' st hQ
  subst l' y' z'
  exact ⟨v, T', L, X', hQ, fun t k => st.trans k⟩
theorem own_super (X : Stand p l e R s m args below meth c T locs cells slots) (hx : p.tables.exec = Jvm.exec) (hZ : Z.Warmed39 s.vm) (hown : s.vm.findClass own = some m.cls)
    (w1 : (Cond.methodLink own index y).before a0 Z = true) (wm : (Cond.sameMethod y.cls y.cls y.name y.desc).before a0 Z = true) (w2 : (Cond.instanceMethod y).before a0 Z = true) (wu : (Cond.superclass own y.cls).before a0 Z = true) (hn : y.name ≠ "<init>") (w3 : (Cond.initialized y.cls).before a0 Z = true) (w4 : (Cond.code y bytes maxL ret).before a0 Z = true)
    (hM : Con l Z y bytes maxL ret [] rm as' h Q) (eT : T.heap = h) {a : Addr} {C : String} (E : Exa Z h a C)
    {g : JFrame} (hg : g.method = m) (hsize : g.locals.size = c.maxLocals) {argsL rest : List Value} (hlen : ∀ sig, parseMethodDescriptor y.desc = some sig → argsL.length = sig.parameters.length) (hstack : g.stack = argsL.reverse ++ .ref a :: rest) (ha : (.ref a :: argsL).toArray = as')
    (hW : 2 * g.monitorRoom + (rest.map fun v => v.category).sum ≤ W) (hf : rm.frames + 1 ≤ R.frames) (hl : W + (maxL + 11) + rm.locals ≤ R.locals)
    (hdg : decode c.code g.pc = .ok (.invokespecial index, 3)) (hc : cells + rm.cells ≤ R.cells) (hs : slots + rm.slots ≤ R.slots) :
    ∃ v T' L, Stand p l e R s m args below meth c T' (locs ++ L) (cells + rm.cells) (slots + rm.slots) ∧ Q v T'.heap L ∧
      ∀ t, Steps p.tables e below (T'.setTop { g with pc := g.pc + 3, stack := v.toList ++ rest }) t → Steps p.tables e below (T.setTop g) t := by
  obtain ⟨v, _, ⟨T', L', k', n'⟩, -, X', ⟨L, hQ, l', y', z'⟩, st⟩ := superBack X hx hZ hown w1 wm w2 wu hn (backOf (W := W) hM hZ w4 w3 hf hl) eT (Ins.self E) hg hsize w4 hlen hstack hW hdg (fun _ _ => ⟨ha, eT, hc, hs⟩)
  dsimp only [Pt.U, Pt.locs, Pt.cells, Pt.slots] at X' l' y' z' st hQ
  subst l' y' z'
  exact ⟨v, T', L, X', hQ, fun t k => st.trans k⟩
theorem own_virtual (X : Stand p l e R s m args below meth c T locs cells slots) (hx : p.tables.exec = Jvm.exec) (hZ : Z.Warmed39 s.vm) (hown : s.vm.findClass own = some m.cls)
    (w1 : (Cond.methodLink own index y).before a0 Z = true) (w2 : (Cond.declares y).before a0 Z = true) (hnf : NotFace s y) (w3 : (Cond.selects C y z).before a0 Z = true) (w4 : (Cond.instanceMethod z).before a0 Z = true) (w5 : (Cond.initialized z.cls).before a0 Z = true) (w6 : (Cond.code z bytes maxL ret).before a0 Z = true)
    (hy : y.cls ≠ "java/lang/invoke/MethodHandle" ∧ y.cls ≠ "java/lang/invoke/VarHandle") (hM : Con l Z z bytes maxL ret [] rm as' h Q) (eT : T.heap = h) {a : Addr} (E : Exa Z h a C)
    {g : JFrame} (hg : g.method = m) (hsize : g.locals.size = c.maxLocals) {argsL rest : List Value} (hlen : ∀ sig, parseMethodDescriptor y.desc = some sig → argsL.length = sig.parameters.length) (hstack : g.stack = argsL.reverse ++ .ref a :: rest) (ha : (.ref a :: argsL).toArray = as')
    (hW : 2 * g.monitorRoom + (rest.map fun v => v.category).sum ≤ W) (hf : rm.frames + 1 ≤ R.frames) (hl : W + (maxL + 11) + rm.locals ≤ R.locals)
    (hdg : decode c.code g.pc = .ok (.invokevirtual index, 3)) (hc : cells + rm.cells ≤ R.cells) (hs : slots + rm.slots ≤ R.slots) :
    ∃ v T' L, Stand p l e R s m args below meth c T' (locs ++ L) (cells + rm.cells) (slots + rm.slots) ∧ Q v T'.heap L ∧
      ∀ t, Steps p.tables e below (T'.setTop { g with pc := g.pc + 3, stack := v.toList ++ rest }) t → Steps p.tables e below (T.setTop g) t := by
  obtain ⟨cB, kB, q1, q2, q3⟩ := isOf hZ eT E
  obtain ⟨v, _, ⟨T', L', k', n'⟩, -, X', ⟨L, hQ, l', y', z'⟩, st⟩ := X.virtualBack hx (y := y) (z := z) hown (mvT hZ w1) (mvT hZ w2) hnf (mvT hZ w3) (mvT hZ w4) hy (backOf (W := W) hM hZ w6 w5 hf hl) q1 q3 hg hsize (Steps.refl _) hlen hstack hW hdg (fun _ _ => ⟨ha, eT, hc, hs⟩)
  dsimp only [Pt.U, Pt.locs, Pt.cells, Pt.slots] at X' l' y' z' st hQ
  subst l' y' z'
  exact ⟨v, T', L, X', hQ, fun t k => st.trans k⟩
theorem own_private (X : Stand p l e R s m args below meth c T locs cells slots) (hx : p.tables.exec = Jvm.exec) (hZ : Z.Warmed39 s.vm) (hown : s.vm.findClass own = some m.cls)
    (w1 : (Cond.methodLink own index y).before a0 Z = true) (w2 : (Cond.instanceMethod y).before a0 Z = true) (w3 : (Cond.selects y.cls y y).before a0 Z = true) (hp : s.PrivateAt y) (w5 : (Cond.initialized y.cls).before a0 Z = true) (w6 : (Cond.code y bytes maxL ret).before a0 Z = true)
    (hy : y.cls ≠ "java/lang/invoke/MethodHandle" ∧ y.cls ≠ "java/lang/invoke/VarHandle") (hM : Con l Z y bytes maxL ret [] rm as' h Q) (eT : T.heap = h) {a : Addr} (E : Exa Z h a C)
    {g : JFrame} (hg : g.method = m) (hsize : g.locals.size = c.maxLocals) {argsL rest : List Value} (hlen : ∀ sig, parseMethodDescriptor y.desc = some sig → argsL.length = sig.parameters.length) (hstack : g.stack = argsL.reverse ++ .ref a :: rest) (ha : (.ref a :: argsL).toArray = as')
    (hW : 2 * g.monitorRoom + (rest.map fun v => v.category).sum ≤ W) (hf : rm.frames + 1 ≤ R.frames) (hl : W + (maxL + 11) + rm.locals ≤ R.locals)
    (hdg : decode c.code g.pc = .ok (.invokevirtual index, 3)) (hc : cells + rm.cells ≤ R.cells) (hs : slots + rm.slots ≤ R.slots) :
    ∃ v T' L, Stand p l e R s m args below meth c T' (locs ++ L) (cells + rm.cells) (slots + rm.slots) ∧ Q v T'.heap L ∧
      ∀ t, Steps p.tables e below (T'.setTop { g with pc := g.pc + 3, stack := v.toList ++ rest }) t → Steps p.tables e below (T.setTop g) t := by
  obtain ⟨cq, q1, q2⟩ := E.cell
  obtain ⟨v, _, ⟨T', L', k', n'⟩, -, X', ⟨L, hQ, l', y', z'⟩, st⟩ := X.privateBack hx (y := y) hown (mvT hZ w1) (mvT hZ w2) (mvT hZ w3) hp (mvT hZ w6) hy (backOf (W := W) hM hZ w6 w5 hf hl) hg hsize (Steps.refl _) (a := a) (by rw [eT]; exact q1) q2 hlen hstack hW hdg (fun _ _ => ⟨ha, eT, hc, hs⟩)
  dsimp only [Pt.U, Pt.locs, Pt.cells, Pt.slots] at X' l' y' z' st hQ
  subst l' y' z'
  exact ⟨v, T', L, X', hQ, fun t k => st.trans k⟩
/-- a call that left the heap as it was -/
theorem own_pure {w : Option Value} {g : JFrame} {g' : Option Value → JFrame} (q : ∃ v T' L, Stand p l e R s m args below meth c T' (locs ++ L) (cells + rm.cells) (slots + rm.slots) ∧ Pur w h v T'.heap L ∧ ∀ t, Steps p.tables e below (T'.setTop (g' v)) t → Steps p.tables e below (T.setTop g) t)
    (hc : rm.cells = 0 := by rfl) (hs : rm.slots = 0 := by rfl) : ∃ T', Stand p l e R s m args below meth c T' locs cells slots ∧ T'.heap = h ∧ ∀ t, Steps p.tables e below (T'.setTop (g' w)) t → Steps p.tables e below (T.setTop g) t := by
  obtain ⟨v, T', L, X', ⟨rfl, rfl, hh⟩, st⟩ := q
  rw [List.append_nil, hc, hs] at X'
  exact ⟨T', X', hh, st⟩
end Calls
section Facts
variable {Z : State} {h h' : Heap} {a b : Addr} {C n d : String} {v : Value} {n0 : Nat}
theorem Old.le (O : Old Z n0 h) : n0 ≤ h.size := O.1 ▸ O.2.1
end Facts
end Jvm.OwnKit
namespace Jvm.OwnKit
open Jvm Jvm.ClassFile Sem Op Lib Jvm.Free Jvm.Stand Jvm.LawKit Jvm.RoadKit
section Arrays
variable {p : Program} {l : Launch} {e : Env} {R : Room} {s : State} {m : MethodId} {args : Array Value} {below : List Frame} {meth : Method} {c : Code} {T : State} {locs : List Loc} {cells slots : Nat} {Z : State} {h : Heap}
theorem own_alen (X : Stand p l e R s m args below meth c T locs cells slots) (hx : p.tables.exec = Jvm.exec) (hZ : Z.Warmed39 s.vm) (eT : T.heap = h) {a : Addr} {cl : Cell} {ty : FieldType} {z : Int32} (A : Arr Z h a cl ty) (S : cl.slots.size = z.toNatClampNeg) (M : ¬ z < 0)
    {g : JFrame} (hg : g.method = m) {rest : List Value} (hs : g.stack = .ref a :: rest) (hd : decode c.code g.pc = .ok (.arraylength, 1)) :
    ∀ t, Steps p.tables e below (T.setTop { g with pc := g.pc + 1, stack := .int z :: rest }) t → Steps p.tables e below (T.setTop g) t := fun t k =>
  X.arraylength hx (by rw [eT]; exact A.1) (State.isArrayOf_alike hZ.alike A.2.1) hg hs hd _ (by rw [len_of S M]; exact k)
theorem own_neAV {a b : Addr} {C : String} {a0 : Array Value} {k : Nat} {kc : ClassId} {ty : FieldType} {z : Int32} {vs : List Value} {dv : Value} (F : Exa Z h a C) (wi : (Cond.instantiable C k).before a0 Z = true) (G : Arv Z h b kc ty z vs dv) : a ≠ b := by obtain ⟨cl, A, -⟩ := G; exact ne_arr F wi A
theorem own_selp {Z : State} {a0 : Array Value} {C : String} {y : MethodName} (w : (Cond.selects C y y).before a0 Z = true) (wp : (Cond.privateMethod y).before a0 Z = true) (wi : (Cond.instanceMethod y).before a0 Z = true) (hy : y.cls ≠ "java/lang/invoke/MethodHandle" ∧ y.cls ≠ "java/lang/invoke/VarHandle") : (Cond.selects y.cls y y).before a0 Z = true := by
  obtain ⟨c2, r2, m2, q1, q2, q3, q4, kP, hkP, hkPi⟩ := Cond.selects_spec w
  exact selects_self_of_private (findClass_of_methodNamed q3) hkP hkPi (Cond.privateMethod_at wp) wi hy
theorem own_samem {Z : State} {a0 : Array Value} {C : String} {y z : MethodName} (wi : (Cond.instanceMethod y).before a0 Z = true) (ws : (Cond.selects C z z).before a0 Z = true) (e : y.cls = z.cls) (hy : y.cls ≠ "java/lang/invoke/MethodHandle" ∧ y.cls ≠ "java/lang/invoke/VarHandle") : (Cond.sameMethod y.cls y.cls y.name y.desc).before a0 Z = true := by
  obtain ⟨mk, methM, hnamed, -, -, -⟩ := Cond.instanceMethod_spec wi
  obtain ⟨c2, r2, m2, q1, q2, q3, q4, kP, hkP, hkPi⟩ := Cond.selects_spec ws
  have hc := findClass_of_methodNamed hnamed
  have hf := State.methodFound?_of_named hnamed hy
  have hz := findClass_of_methodNamed q3
  rw [← e, hc] at hz
  have hk : Z.vm.classes[mk.cls]? = some kP := by rw [Option.some.inj hz]; exact hkP
  have hn : Z.methodNamed? ⟨y.cls, y.name, y.desc⟩ = some mk := hnamed
  simp [Cond.before, Cond.holds, Cond.value, hc, hf, hn, hk, hkPi]
theorem own_nfz {args : Array Value} {s : State} {C : String} {y z : MethodName} (hsel : (Cond.selects C z z).before args s = true) (e : y.cls = z.cls) : NotFace s y := fun r0 h0 => by
  obtain ⟨c2, r2, m2, q1, q2, q3, q4, kP, hkP, hkPi⟩ := Cond.selects_spec hsel
  have a := findClass_of_methodNamed h0
  have b := findClass_of_methodNamed q3
  rw [e] at a
  exact ⟨kP, by rw [Option.some.inj (a.symm.trans b)]; exact hkP, hkPi⟩
/-- what stands at a place that is a number -/
def own_at (vs : List Int32) (j : Int32) : Int32 := vs.getD j.toNatClampNeg 0
theorem own_getD (vs : List Int32) (i : Nat) : (vs.map Value.int).getD i (.int 0) = .int (vs.getD i 0) := by
  simp only [List.getD_eq_getElem?_getD, List.getElem?_map]
  cases vs[i]? <;> rfl
end Arrays
end Jvm.OwnKit
namespace Jvm.OwnKit
open Jvm Jvm.ClassFile Sem Op Lib Jvm.Free Jvm.Stand Jvm.LawKit Jvm.RoadKit
theorem Ins.keep {Z : State} {h h' : Heap} {a : Addr} {C : String} {b : Bool} {ws : List Addr} (F : Ins Z h a C b) (K : Keep h h' ws) : Ins Z h' a C b := by
  obtain ⟨cell, cT, h1, h2, h3⟩ := F
  obtain ⟨c', e1, e2, e3, -⟩ := K.2.2 _ _ h1
  exact ⟨c', cT, e1, h2, by rw [e2, e3]; exact h3⟩
section Bounds
variable {x y a b c d : Int32}
theorem bnd_ite {c : Prop} [Decidable c] {a b lo hi : Int32} (ha : ¬ a < lo ∧ ¬ hi < a) (hb : ¬ b < lo ∧ ¬ hi < b) : ¬ (if c then a else b) < lo ∧ ¬ hi < (if c then a else b) := by
  split
  · exact ha
  · exact hb
theorem bnd_and (x m : Int32) (h : 0 ≤ m.toInt) : ¬ (x &&& m) < (0 : Int32) ∧ ¬ m < (x &&& m) := by
  have q := c_and x m h
  have e : (0 : Int32).toInt = 0 := rfl
  rw [Int32.lt_iff_toInt_lt, Int32.lt_iff_toInt_lt, e]; omega
theorem bnd_mono (h : ¬ x < a ∧ ¬ b < x) (h1 : c.toInt ≤ a.toInt) (h2 : b.toInt ≤ d.toInt) : ¬ x < c ∧ ¬ d < x := by
  simp only [Int32.lt_iff_toInt_lt] at *; omega
theorem bnd_lt (h : ¬ x < a ∧ ¬ b < x) (k : ¬ y < c ∧ ¬ d < y) (q : b.toInt < c.toInt) : x < y := by
  simp only [Int32.lt_iff_toInt_lt] at *; omega
theorem bnd_nlt (h : ¬ x < a ∧ ¬ b < x) (k : ¬ y < c ∧ ¬ d < y) (q : d.toInt ≤ a.toInt) : ¬ x < y := by
  simp only [Int32.lt_iff_toInt_lt] at *; omega
theorem bnd_ne (h : ¬ x < a ∧ ¬ b < x) (k : ¬ y < c ∧ ¬ d < y) (q : b.toInt < c.toInt ∨ d.toInt < a.toInt) : ¬ x = y := by
  intro e; subst e
  simp only [Int32.lt_iff_toInt_lt] at *; omega
theorem own_shl0 (x : Int32) : x <<< ((0 : Int32) &&& 31) = x := by
  rw [show ((0 : Int32) &&& 31) = 0 from by decide]; simp
theorem own_sub0 (x : Int32) : x - (0 : Int32) = x := by simp
theorem own_capb {n hi lo : Int32} {cap : Nat} (h : ¬ n < lo ∧ ¬ hi < n) (q : hi.toInt ≤ cap) : n.toNatClampNeg ≤ cap := by
  have h2 := h.2; rw [Int32.lt_iff_toInt_lt] at h2; simp only [Int32.toNatClampNeg]; omega
theorem own_shr0 (x : Int32) : x >>> ((0 : Int32) &&& 31) = x := by
  rw [show ((0 : Int32) &&& 31) = 0 from by decide]; simp
theorem bnd_sub {lo hi : Int32} (h : ¬ x < a ∧ ¬ b < x) (k : ¬ y < c ∧ ¬ d < y) (q1 : lo.toInt = a.toInt - d.toInt) (q2 : hi.toInt = b.toInt - c.toInt) (q3 : -2147483648 ≤ a.toInt - d.toInt) (q4 : b.toInt - c.toInt < 2147483648) : ¬ (x - y) < lo ∧ ¬ hi < (x - y) := by
  have e := c_isub x y
  have r := rng32 (x - y)
  simp only [Int32.lt_iff_toInt_lt] at *
  omega
theorem bnd_i2c (x : Int32) : ¬ (x.toUInt32.toUInt16.toUInt32.toInt32) < (0 : Int32) ∧ ¬ (65535 : Int32) < (x.toUInt32.toUInt16.toUInt32.toInt32) := by
  have q := c_i2c x
  have e : (0 : Int32).toInt = 0 := rfl
  have e1 : (65535 : Int32).toInt = 65535 := rfl
  simp only [Int32.lt_iff_toInt_lt, e, e1]; omega
theorem bnd_i2b (x : Int32) : ¬ (x.toInt8.toInt32) < (-128 : Int32) ∧ ¬ (127 : Int32) < (x.toInt8.toInt32) := by
  have q := c_i2b x
  have e : (-128 : Int32).toInt = -128 := rfl
  have e1 : (127 : Int32).toInt = 127 := rfl
  simp only [Int32.lt_iff_toInt_lt, e, e1]; omega
theorem i2c_id (h : ¬ x < a ∧ ¬ b < x) (h1 : 0 ≤ a.toInt) (h2 : b.toInt ≤ 65535) : x.toUInt32.toUInt16.toUInt32.toInt32 = x := by
  have q := c_i2c x
  simp only [Int32.lt_iff_toInt_lt] at h
  apply Int32.toInt_inj.mp; omega
theorem i2b_id (h : ¬ x < a ∧ ¬ b < x) (h1 : -128 ≤ a.toInt) (h2 : b.toInt ≤ 127) : x.toInt8.toInt32 = x := by
  have q := c_i2b x
  simp only [Int32.lt_iff_toInt_lt] at h
  apply Int32.toInt_inj.mp; omega
theorem bnd_lit (k : Int32) : ¬ k < k ∧ ¬ k < k := by
  simp only [Int32.lt_iff_toInt_lt]; omega
theorem bnd_dn (h : x < c) (q : d.toInt = c.toInt - 1) : ¬ d < x := by
  simp only [Int32.lt_iff_toInt_lt] at *; omega
theorem bnd_lt2 (h : x < y) (k : ¬ c < y) (q : d.toInt = c.toInt - 1) : ¬ d < x := by
  simp only [Int32.lt_iff_toInt_lt] at *; omega
theorem bnd_eql (h : x = c) : ¬ x < c := by
  subst h; simp only [Int32.lt_iff_toInt_lt]; omega
theorem bnd_eqr (h : x = c) : ¬ c < x := by
  subst h; simp only [Int32.lt_iff_toInt_lt]; omega
theorem bnd_nel (h : ¬ x < c) (k : ¬ x = c) (q : d.toInt = c.toInt + 1) : ¬ x < d := by
  rw [← Int32.toInt_inj] at k; simp only [Int32.lt_iff_toInt_lt] at *; omega
theorem bnd_fix (h : ¬ x < c ∧ ¬ c < x) : x = c := by
  rw [← Int32.toInt_inj]; simp only [Int32.lt_iff_toInt_lt] at *; omega
theorem nar_char_id (h : ¬ x < a ∧ ¬ b < x) (h1 : 0 ≤ a.toInt) (h2 : b.toInt ≤ 65535) : nar .char x = x := i2c_id h h1 h2
theorem nar_byte_id (h : ¬ x < a ∧ ¬ b < x) (h1 : -128 ≤ a.toInt) (h2 : b.toInt ≤ 127) : nar .byte x = x := i2b_id h h1 h2
theorem nar_i2c (x : Int32) : nar .char (x.toUInt32.toUInt16.toUInt32.toInt32) = x.toUInt32.toUInt16.toUInt32.toInt32 := nar_char_id (bnd_i2c x) (by decide) (by decide)
theorem nar_i2b (x : Int32) : nar .byte (x.toInt8.toInt32) = x.toInt8.toInt32 := nar_byte_id (bnd_i2b x) (by decide) (by decide)
theorem nar_bool_id (h : ¬ x < a ∧ ¬ b < x) (h1 : 0 ≤ a.toInt) (h2 : b.toInt ≤ 1) : nar .boolean x = x := by
  simp only [Int32.lt_iff_toInt_lt] at h
  have hx : x.toInt = 0 ∨ x.toInt = 1 := by omega
  rcases hx with q | q
  · have : x = 0 := Int32.toInt_inj.mp q
    subst this; rfl
  · have : x = 1 := Int32.toInt_inj.mp q
    subst this; rfl
end Bounds
theorem Wr.to {h h' : Heap} {a : Addr} {sl : Nat} {v w : Value} (W : Wr h h' a sl v) (q : v = w) : Wr h h' a sl w := q ▸ W
theorem fits_char_b {x a b : Int32} (h : ¬ x < a ∧ ¬ b < x) (h1 : 0 ≤ a.toInt) (h2 : b.toInt ≤ 65535) : fits .char (.int x) = true := by
  have q := fits_nar_char x
  rw [nar_char_id h h1 h2] at q; exact q
theorem fits_byte_b {x a b : Int32} (h : ¬ x < a ∧ ¬ b < x) (h1 : -128 ≤ a.toInt) (h2 : b.toInt ≤ 127) : fits .byte (.int x) = true := by
  have q := fits_nar_byte x
  rw [i2b_id h h1 h2] at q; exact q
/-- null, or an object of exactly that class -/
def Nul (Z : State) (h : Heap) (x : Value) (C : String) : Prop := x = .null ∨ ∃ a, x = .ref a ∧ Exa Z h a C
section Nulls
variable {Z : State} {h h' : Heap} {x : Value} {C : String}
theorem Nul.null (Z : State) (h : Heap) (C : String) : Nul Z h .null C := Or.inl rfl
theorem Nul.of {a : Addr} (E : Exa Z h a C) : Nul Z h (.ref a) C := Or.inr ⟨a, rfl, E⟩
theorem Nul.ext (N : Nul Z h x C) (E : Ext h h') : Nul Z h' x C := N.imp id fun ⟨a, e, F⟩ => ⟨a, e, F.ext E⟩
theorem Nul.wr {a : Addr} {sl : Nat} {v : Value} (N : Nul Z h x C) (W : Wr h h' a sl v) : Nul Z h' x C := N.imp id fun ⟨a, e, F⟩ => ⟨a, e, F.wr W⟩
theorem Nul.keep {ws : List Addr} (N : Nul Z h x C) (K : Keep h h' ws) : Nul Z h' x C := N.imp id fun ⟨a, e, F⟩ => ⟨a, e, F.keep K⟩
theorem Nul.isRef (N : Nul Z h x C) : x.isRef = true := by rcases N with rfl | ⟨a, rfl, -⟩ <;> rfl
end Nulls
section NotSub
variable {Z : State} {a0 : Array Value} {C S O K : String} {nn : Nat}
end NotSub
theorem Fld.to {Z : State} {h : Heap} {a : Addr} {C n d : String} {v w : Value} (F : Fld Z h a C n d v) (q : v = w) : Fld Z h a C n d w := q ▸ F
end Jvm.OwnKit
namespace Jvm.OwnKit
open Jvm Jvm.ClassFile Sem Op Lib Jvm.Free Jvm.Stand Jvm.LawKit Jvm.RoadKit
section Lists
variable {p : Program} {l : Launch} {e : Env} {R : Room} {s : State} {m : MethodId} {args : Array Value} {below : List Frame} {meth : Method} {c : Code} {T : State} {locs : List Loc} {cells slots : Nat} {Z : State} {h : Heap}
def own_n (cs : List Int32) : Int32 := Int32.ofNat cs.length
theorem own_n_app (a b : List Int32) : own_n a + own_n b = own_n (a ++ b) := by
  unfold own_n; rw [List.length_append, Int32.ofNat_add]
theorem own_n_int {l : List Int32} (h : l.length < 2147483648) : (own_n l).toInt = l.length := Int32.toInt_ofNat_small h
theorem own_n_nat {l : List Int32} (h : l.length < 2147483648) : (own_n l).toNatClampNeg = l.length := by
  simp only [Int32.toNatClampNeg, own_n_int h]; omega
theorem own_n_b {l : List Int32} {a b : Nat} {lo hi : Int32} (h : a ≤ l.length ∧ l.length ≤ b) (h1 : lo.toInt = a) (h2 : hi.toInt = b) (h3 : b < 2147483648) : ¬ own_n l < lo ∧ ¬ hi < own_n l := by
  have e := own_n_int (l := l) (by omega)
  rw [Int32.lt_iff_toInt_lt, Int32.lt_iff_toInt_lt, e]; omega
theorem own_len_lit {l : List Int32} {n : Nat} (h : l.length = n) : n ≤ l.length ∧ l.length ≤ n := ⟨Nat.le_of_eq h.symm, Nat.le_of_eq h⟩
theorem own_len_le {l : List Int32} {n : Nat} (h : l.length ≤ n) : 0 ≤ l.length ∧ l.length ≤ n := ⟨Nat.zero_le _, h⟩
theorem own_len_app {a b : List Int32} {p q r s : Nat} (h : p ≤ a.length ∧ a.length ≤ q) (k : r ≤ b.length ∧ b.length ≤ s) : p + r ≤ (a ++ b).length ∧ (a ++ b).length ≤ q + s := by
  rw [List.length_append]; omega
theorem own_n_le {l : List Int32} {a b : Nat} (h : a ≤ l.length ∧ l.length ≤ b) (hb : b < 2147483648 := by decide) : l.length ≤ (own_n l).toNatClampNeg := by
  rw [own_n_nat (by omega)]; exact Nat.le_refl _
theorem Arv.lst {a : Addr} {k : ClassId} {ty : FieldType} {n : Int32} {vs : List Value} {d : Value} (F : Arv Z h a k ty n vs d) {cs cs' : List Int32} (q : cs = cs') (e1 : vs = cs.map Value.int) (e2 : n = own_n cs) : Arv Z h a k ty (own_n cs') (cs'.map Value.int) d := by
  subst q; subst e1; subst e2; exact F
theorem own_cpS (X0 : Stand p l e R s m args below meth c T locs cells slots) (hx : p.tables.exec = Jvm.exec) (hZ : Z.Warmed39 s.vm) {a0 : Array Value} {own : String} {index : Nat} (hown : s.vm.findClass own = some m.cls)
    (w1 : (Cond.methodLink own index Jvm.Stand.acN).before a0 Z = true) (w2 : (Cond.native Jvm.Stand.acN).before a0 Z = true) (w3 : (Cond.static Jvm.Stand.acN).before a0 Z = true) (w4 : (Cond.initialized "java/lang/System").before a0 Z = true) (eT : T.heap = h)
    {a b : Addr} {k k' : ClassId} {z z' : Int32} {Y X : List Int32} (A : Arv Z h a k .byte z (X.map Value.int) (.int 0)) (B : Arv Z h b k' .byte z' (Y.map Value.int) (.int 0))
    (h4 : X.length ≤ z.toNatClampNeg) (h5 : Y.length + X.length ≤ z'.toNatClampNeg) (hb : (Y ++ X).length < 2147483648) {dp : Int32} (ed : dp = own_n Y) {n0 : Nat} (N : Fr n0 locs) (ge : n0 ≤ b)
    {g : JFrame} (hg : g.method = m) (hsize : g.locals.size = c.maxLocals) {rest : List Value} (hs : g.stack = .int (own_n X) :: .int dp :: .ref b :: .int 0 :: .ref a :: rest) (hd : decode c.code g.pc = .ok (.invokestatic index, 3))
    (hf : 1 ≤ R.frames) {W : Nat} (hW : 2 * g.monitorRoom + (rest.map fun v => v.category).sum ≤ W) (hlo : W + (nativeFrameWords "java/lang/System" "arraycopy" 5 + 11) ≤ R.locals) :
    ∃ T' h' L, Stand p l e R s m args below meth c T' L cells slots ∧ T'.heap = h' ∧ Fr n0 L ∧ Keep h h' [b] ∧ Arv Z h' b k' .byte z' ((Y ++ X).map Value.int) (.int 0) ∧
      ∀ target, Steps p.tables e below (T'.setTop { g with pc := g.pc + 3, stack := rest }) target → Steps p.tables e below (T.setTop g) target := by
  subst ed
  rw [List.length_append] at hb
  have lx : (own_n X).toNatClampNeg = X.length := own_n_nat (by omega)
  have ly : (own_n Y).toNatClampNeg = Y.length := own_n_nat (by omega)
  have e0 : (0 : Int32).toNatClampNeg = 0 := rfl
  have nn : ∀ {u : List Int32}, u.length < 2147483648 → ¬ own_n u < 0 := fun {u} q => by rw [Int32.lt_iff_toInt_lt, own_n_int q]; have : (0 : Int32).toInt = 0 := rfl; omega
  have B' := B.pad (pad_rep (Y.map Value.int) (.int 0) X.length)
  have hus : X.map Value.int = (List.range (own_n X).toNatClampNeg).map fun i => (X.map Value.int).getD ((0 : Int32).toNatClampNeg + i) (.int 0) := by
    rw [lx, e0]
    apply List.ext_getElem?
    intro i
    simp only [List.getElem?_map, Nat.zero_add, own_getD]
    by_cases q : i < X.length
    · rw [List.getElem?_eq_getElem q, List.getElem?_range q]; simp [List.getD_eq_getElem?_getD, List.getElem?_eq_getElem q]
    · rw [List.getElem?_eq_none (by omega), List.getElem?_eq_none (by simpa using q)]; rfl
  obtain ⟨T', h', L, q1, q2, q3, q4, q5, q6⟩ := cpA X0 hx hZ hown w1 w2 w3 w4 eT A B' (sp := 0) (dp := own_n Y) (nn := own_n X) (us := X.map Value.int) (Or.inl ⟨rfl, rfl⟩) (by decide) (nn (by omega)) (nn (by omega)) (by rw [lx, e0]; omega) (by rw [lx, ly]; exact h5) hus (by rw [lx, ly]; simp) N ge hg hsize hs hd hf hW hlo
  refine ⟨T', h', L, q1, q2, q3, q4, ?_, q6⟩
  rw [lx, ly] at q5
  have e : (Y.map Value.int ++ List.replicate X.length (Value.int 0)).take Y.length ++ X.map Value.int ++ (Y.map Value.int ++ List.replicate X.length (Value.int 0)).drop (Y.length + X.length) = (Y ++ X).map Value.int := by
    rw [List.take_append_of_le_length (by simp), List.take_of_length_le (by simp), List.drop_of_length_le (by simp), List.append_nil, List.map_append]
  rw [e] at q5; exact q5
end Lists
end Jvm.OwnKit
namespace Jvm.OwnKit
open Jvm Jvm.ClassFile Sem Op Lib Bundle Jvm.Free Jvm.Stand Jvm.LawKit Jvm.RoadKit
section Cold
variable {p : Program} {l : Launch} {e : Env} {R : Room} {s : State} {m : MethodId} {args : Array Value} {below : List Frame} {meth : Method} {c : Code} {T : State} {locs : List Loc} {cells slots k n : Nat} {Z : State} {a0 : Array Value} {h h' : Heap} {y z : MethodName} {bytes : ByteArray} {maxL : Nat} {rt : Option FieldType} {rm : Room} {W : Nat} {as' : Array Value} {Q : Option Value → Heap → List Loc → Prop} {own C : String} {index : Nat} {EL : List (String × Nat)} {vm0 vm1 : Vm} {xs : List Addr} {sf : Bool}
/-- what a walk that may book texts knows of its tables: they came of the start's, what is booked of EL is read, xs are none of the booked cells -/
def Cold (Z : State) (EL : List (String × Nat)) (s : State) (xs : List Addr) (vm0 : Vm) (h : Heap) : Prop := (∃ k0, s.Since vm0 k0 ∧ k0 ≤ h.size) ∧ CHr Z EL s.vm s.heap vm0 h ∧ ∀ x ∈ xs, Safe Z EL vm0 h x ∧ x < h.size
theorem Cold.go (H : Cold Z EL s xs vm0 h) (hs : ∃ k0, s.Since vm1 k0 ∧ k0 ≤ h'.size) (q : CHr Z EL vm0 h vm1 h') : Cold Z EL s xs vm1 h' :=
  ⟨hs, H.2.1.trans q, fun x hx => ⟨q.safe (H.2.2 x hx).2 (H.2.2 x hx).1, Nat.lt_of_lt_of_le (H.2.2 x hx).2 q.2.1⟩⟩
theorem Cold.same (H : Cold Z EL s xs vm0 h) (q : CHr Z EL vm0 h vm0 h') : Cold Z EL s xs vm0 h' := H.go (by obtain ⟨⟨k0, a, b⟩, -⟩ := H; exact ⟨k0, a, Nat.le_trans b q.2.1⟩) q
theorem Cold.ext (H : Cold Z EL s xs vm0 h) (E : Ext h h') : Cold Z EL s xs vm0 h' := H.same (CHr.ext E H.2.1.1)
theorem Cold.keep {ws : List Addr} (H : Cold Z EL s xs vm0 h) (K : Keep h h' ws) (hs : ∀ x ∈ ws, Safe Z EL vm0 h x) : Cold Z EL s xs vm0 h' := H.same (CHr.keep K hs H.2.1.1)
theorem Cold.wr {a : Addr} {sl : Nat} {v : Value} (H : Cold Z EL s xs vm0 h) (w : Wr h h' a sl v) (S : Safe Z EL vm0 h a) : Cold Z EL s xs vm0 h' := H.same (CHr.wr w S H.2.1.1)
theorem Cold.add {b : Addr} (H : Cold Z EL s xs vm0 h) (E : Ext h h') (hb : h.size ≤ b) (hb' : b < h'.size) : Cold Z EL s (b :: xs) vm0 h' := by
  have H' := H.ext E
  refine ⟨H'.1, H'.2.1, fun x hx => ?_⟩
  rcases List.mem_cons.mp hx with rfl | hx
  · exact ⟨Safe.ext E H.2.1.1 (Safe.new hb), hb'⟩
  · exact H'.2.2 x hx
theorem Cold.safe {x : Addr} (H : Cold Z EL s xs vm0 h) (hx : x ∈ xs) : Safe Z EL vm0 h x := (H.2.2 x hx).1
theorem Cold.start (H : CHv Z EL s.vm s.heap) : Cold Z EL s [] s.vm s.heap := ⟨⟨_, (State.WarmedH.refl s).since _, Nat.le_refl _⟩, CHr.refl H, fun _ hx => nomatch hx⟩
theorem Cold.put {b : Addr} (H : Cold Z EL s xs vm0 h) (q : Safe Z EL vm0 h b ∧ b < h.size) : Cold Z EL s (b :: xs) vm0 h := ⟨H.1, H.2.1, fun x hx => (List.mem_cons.mp hx).elim (fun e => e ▸ q) (H.2.2 x)⟩
/-- what is returned is none of the booked cells -/
def SafeR (sf : Bool) (Z : State) (EL : List (String × Nat)) (vm : Vm) (h : Heap) (v : Option Value) : Prop := sf = true → ∀ a, v = some (.ref a) → Safe Z EL vm h a ∧ a < h.size
/-- the contract of a body that may book texts -/
abbrev ConW (l : Launch) (Z : State) (EL : List (String × Nat)) (xs : List Addr) (sf : Bool) (y : MethodName) (bytes : ByteArray) (maxL : Nat) (rt : Option FieldType) (ws : List Jvm.Cond) (rm : Room) (as' : Array Value) (h : Heap) (Q : Option Value → Heap → List Loc → Prop) : Prop :=
  MetFree l y (head1 (Jvm.Cond.code y bytes maxL rt :: ws) rm) (fun a U => a = as' ∧ Z.Warmed39 U.vm ∧ U.heap = h ∧ CHv Z EL U.vm h ∧ ∀ x ∈ xs, Safe Z EL U.vm h x ∧ x < h.size) (fun _ _ _ _ _ => True) (fun _ U o U' => ∃ v L, o = .returned v ∧ Q v U'.heap L ∧ CHr Z EL U.vm U.heap U'.vm U'.heap ∧ SafeR sf Z EL U'.vm U'.heap v ∧ ReturnedEndW U o U' L rm.cells rm.slots)
abbrev EndW (s : State) (Z : State) (EL : List (String × Nat)) (sf : Bool) (Q : Option Value → Heap → List Loc → Prop) (k n : Nat) : Option Value → State → List Loc → Prop := fun v U L => Q v U.heap L ∧ CHr Z EL s.vm s.heap U.vm U.heap ∧ SafeR sf Z EL U.vm U.heap v ∧ ReturnedEndW s (.returned v) U L k n
theorem retW_mono {o : Outcome} {t : State} {L : List Loc} {k n k' n' : Nat} (h : ReturnedEndW s o t L k n) (hk : k ≤ k') (hn : n ≤ n') : ReturnedEndW s o t L k' n' := ⟨h.1, h.2.1, h.2.2.1, h.2.2.2.mono hk hn⟩
theorem HomeW.retN (X : Stand p l e R (s.setVm vm0) m args below meth c T locs cells slots) (hx : p.tables.exec = Jvm.exec) (hlk : meth.locks = false) (hZ : Z.Warmed39 (s.setVm vm0).vm) (hEL : EW Z a0 EL) (eT : T.heap = h) (H : Cold Z EL s xs vm0 h)
    {pc : Nat} {Ls : Array Slot} {z : Int32} {t : FieldType} {rest : List Value} (hret : meth.sig.returnType = some t) (ht : t = .boolean ∨ t = .byte ∨ t = .char ∨ t = .short)
    (hd : decode c.code pc = .ok (.ireturn, 1)) (hQ : Q (some (.int (nar t z))) T.heap locs) (hk : cells ≤ k) (hn : slots ≤ n) : @Home p e below (EndW s Z EL sf Q k n) T (mkF m pc Ls (.int z :: rest)) := by
  subst eT
  obtain ⟨⟨k0, hS, hk0⟩, CR, -⟩ := H
  obtain ⟨fs, hr, hrun, hended, hW⟩ := X.leaveW hS hk0 (v := some (.int (nar t z))) (fun h => by rw [hret] at h; cases h) hlk
  have q : CHr Z EL s.vm s.heap T.vm T.heap := CR.trans (CHv.at X hZ hEL CR.1)
  exact ⟨_, _, Jvm.RoadKit.retN X hx hret ht hd hr, hrun, hended, _, _, rfl, hQ, q, (fun _ _ z => by cases z), retW_mono hW hk hn⟩
theorem HomeW.ret (X : Stand p l e R (s.setVm vm0) m args below meth c T locs cells slots) (hx : p.tables.exec = Jvm.exec) (hlk : meth.locks = false) (hZ : Z.Warmed39 (s.setVm vm0).vm) (hEL : EW Z a0 EL) (eT : T.heap = h) (H : Cold Z EL s xs vm0 h) {w : Value} (hsr : sf = true → ∀ a, w = .ref a → a ∈ xs)
    {pc : Nat} {Ls : Array Slot} {t : FieldType} {i : Instr} {rest : List Value} (hret : meth.sig.returnType = some t) (hnn : narrow t w = w)
    (hi : (i = .ireturn ∧ (t = .int ∨ t = .boolean ∨ t = .byte ∨ t = .char ∨ t = .short) ∧ ∃ z, w = .int z) ∨ (i = .lreturn ∧ t = .long ∧ ∃ z, w = .long z) ∨ (i = .dreturn ∧ t = .double ∧ ∃ z, w = .double z) ∨ (i = .freturn ∧ t = .float ∧ ∃ z, w = .float z) ∨ (i = .areturn ∧ t.isReference = true ∧ w.isRef = true))
    (hd : decode c.code pc = .ok (i, 1)) (hQ : Q (some w) T.heap locs) (hk : cells ≤ k) (hn : slots ≤ n) : @Home p e below (EndW s Z EL sf Q k n) T (mkF m pc Ls (w :: rest)) := by
  subst eT
  obtain ⟨⟨k0, hS, hk0⟩, CR, hxs⟩ := H
  obtain ⟨fs, hr, hrun, hended, hW⟩ := X.leaveW hS hk0 (v := some w) (fun h => by rw [hret] at h; cases h) hlk
  have q : CHr Z EL s.vm s.heap T.vm T.heap := CR.trans (CHv.at X hZ hEL CR.1)
  exact ⟨_, _, retOut X hx hret hnn hi hd hr, hrun, hended, _, _, rfl, hQ, q, (fun z a ha => ⟨(CHv.at X hZ hEL CR.1).safe (hxs a (hsr z a (Option.some.inj ha))).2 (hxs a (hsr z a (Option.some.inj ha))).1, (hxs a (hsr z a (Option.some.inj ha))).2⟩), retW_mono hW hk hn⟩
theorem HomeW.retI (X : Stand p l e R (s.setVm vm0) m args below meth c T locs cells slots) (hx : p.tables.exec = Jvm.exec) (hlk : meth.locks = false) (hZ : Z.Warmed39 (s.setVm vm0).vm) (hEL : EW Z a0 EL) (eT : T.heap = h) (H : Cold Z EL s xs vm0 h)
    {pc : Nat} {Ls : Array Slot} {z : Int32} {rest : List Value} (hret : meth.sig.returnType = some .int)
    (hd : decode c.code pc = .ok (.ireturn, 1)) (hQ : Q (some (.int z)) T.heap locs) (hk : cells ≤ k) (hn : slots ≤ n) : @Home p e below (EndW s Z EL sf Q k n) T (mkF m pc Ls (.int z :: rest)) := HomeW.ret X hx hlk hZ hEL eT H (fun _ _ z => by cases z) hret rfl (Or.inl ⟨rfl, Or.inl rfl, _, rfl⟩) hd hQ hk hn
theorem HomeW.retR (X : Stand p l e R (s.setVm vm0) m args below meth c T locs cells slots) (hx : p.tables.exec = Jvm.exec) (hlk : meth.locks = false) (hZ : Z.Warmed39 (s.setVm vm0).vm) (hEL : EW Z a0 EL) (eT : T.heap = h) (H : Cold Z EL s xs vm0 h) {w : Value} (hsr : sf = true → ∀ a, w = .ref a → a ∈ xs)
    {pc : Nat} {Ls : Array Slot} {t : FieldType} {rest : List Value} (hret : meth.sig.returnType = some t) (ht : t.isReference = true) (hw : w.isRef = true)
    (hd : decode c.code pc = .ok (.areturn, 1)) (hQ : Q (some w) T.heap locs) (hk : cells ≤ k) (hn : slots ≤ n) : @Home p e below (EndW s Z EL sf Q k n) T (mkF m pc Ls (w :: rest)) := HomeW.ret X hx hlk hZ hEL eT H hsr hret (own_narrow_ref hw) (Or.inr (Or.inr (Or.inr (Or.inr ⟨rfl, ht, hw⟩)))) hd hQ hk hn
theorem HomeW.ret0 (X : Stand p l e R (s.setVm vm0) m args below meth c T locs cells slots) (hx : p.tables.exec = Jvm.exec) (hlk : meth.locks = false) (hZ : Z.Warmed39 (s.setVm vm0).vm) (hEL : EW Z a0 EL) (eT : T.heap = h) (H : Cold Z EL s xs vm0 h)
    {pc : Nat} {Ls : Array Slot} (hret : meth.sig.returnType = none)
    (hd : decode c.code pc = .ok (.return_, 1)) (hQ : Q none T.heap locs) (hk : cells ≤ k) (hn : slots ≤ n) : @Home p e below (EndW s Z EL sf Q k n) T (mkF m pc Ls []) := by
  subst eT
  obtain ⟨⟨k0, hS, hk0⟩, CR, -⟩ := H
  obtain ⟨fs, hr, hrun, hended, hW⟩ := X.leaveW hS hk0 (v := none) (fun _ => rfl) hlk
  have q : CHr Z EL s.vm s.heap T.vm T.heap := CR.trans (CHv.at X hZ hEL CR.1)
  exact ⟨_, _, X.returnOut hx hret hd hr, hrun, hended, _, _, rfl, hQ, q, (fun _ _ z => by cases z), retW_mono hW hk hn⟩
theorem own_bodyW {ws : List Jvm.Cond} {L0 : Array Slot} (pn : plainFor y = true) (ef : ∀ m, entryFrame m as' maxL = mkF m 0 L0 [])
    (body : ∀ (p : Program) (e : Env) (s : State) (m : MethodId) (below : List Frame) (meth : Method) (c : Code) (s₁ : State), p.tables.exec = Jvm.exec → c.code = bytes → meth.locks = false → c.maxLocals = maxL → meth.sig.returnType = rt → Z.Warmed39 (s.setVm s.vm).vm → (s.setVm s.vm).vm.findClass y.cls = some m.cls → meth.name = y.name →
      Stand p l e rm (s.setVm s.vm) m as' below meth c s₁ [] 0 0 → s₁.heap = h → Cold Z EL s xs s.vm h → @Home p e below (EndW s Z EL sf Q rm.cells rm.slots) s₁ (mkF m 0 L0 [])) : ConW l Z EL xs sf y bytes maxL rt ws rm as' h Q := by
  refine MetFree.of_bodySF pn hisR ?_
  intro p e s m args below meth c s₁ Bd hml0 hP hK
  obtain ⟨rfl, hZ, rfl, hH, hxs⟩ := hP
  have hc : Cold Z EL s xs s.vm s.heap := ⟨(Cold.start hH).1, CHr.refl hH, hxs⟩
  have H : @Home p e below (EndW s Z EL sf Q rm.cells rm.slots) s₁ (entryFrame m args maxL) := Home.enter (ef m) (body p e s m below meth c s₁ Bd.exec Bd.bytes (BodyLoose.notSynchronized Bd) hml0 Bd.returns hZ (findClass_of_methodNamed Bd.named) (name_of_methodNamed Bd.named Bd.method).1 (Stand.of_body Bd) (by rw [Bd.state]; rfl) hc)
  obtain ⟨U, o, h1, h2, h3, v, L, rfl, h4, h5, h6⟩ := H
  exact ⟨U, _, h1, h2, h3, v, L, rfl, h4, h5, h6⟩
theorem own_warmW {U : State} (hZ : Z.Warmed39 (s.setVm vm0).vm) (hS : (s.setVm vm0).Since U.vm n) : Z.Warmed39 (s.setVm U.vm).vm := State.Warmed39.trans (t := s.setVm vm0) hZ hS.1
theorem own_ownW {U : State} (hS : (s.setVm vm0).Since U.vm n) (hown : (s.setVm vm0).vm.findClass own = some m.cls) : (s.setVm U.vm).vm.findClass own = some m.cls := by rw [show (s.setVm U.vm).vm.findClass own = (s.setVm vm0).vm.findClass own from hS.1.alike.findClass _ _]; exact hown
theorem own_backW {len : Nat} (hM : ConW l Z EL xs sf y bytes maxL rt [] rm as' h Q) (hZ : Z.Warmed39 (s.setVm vm0).vm) (hEL : EW Z a0 EL) (wc : (Cond.code y bytes maxL rt).before a0 Z = true) (wz : (Cond.initialized y.cls).before a0 Z = true) (hf : rm.frames + 1 ≤ R.frames) (hl : W + (maxL + 11) + rm.locals ≤ R.locals) (H : CHv Z EL vm0 h) (hxs : ∀ x ∈ xs, Safe Z EL vm0 h x ∧ x < h.size) :
    BackS l R p e below (s.setVm vm0) args y len W (fun A a => a = as' ∧ A.U.heap = h ∧ A.cells + rm.cells ≤ R.cells ∧ A.slots + rm.slots ≤ R.slots) (fun A _ v B => ∃ L, Q v B.U.heap L ∧ B.locs = A.locs ++ L ∧ B.cells = A.cells + rm.cells ∧ B.slots = A.slots + rm.slots ∧ CHr Z EL vm0 h B.U.vm B.U.heap ∧ SafeR sf Z EL B.U.vm B.U.heap v) := by
  refine BackS.of_freeW (bytes := bytes) (maxL := maxL) (ret := rt) (E := fun _ first o t L k n => k = rm.cells ∧ n = rm.slots ∧ (∃ v, o = .returned v ∧ Q v t.heap L ∧ SafeR sf Z EL t.vm t.heap v) ∧ CHr Z EL first.vm first.heap t.vm t.heap) hM hf hl ?_ ?_ (fun _ _ _ _ _ _ _ _ _ => trivial) ?_ ?_
  · intro m meth c A a Y hp
    have hU : Z.Warmed39 A.U.vm := wtrans (s := s.setVm vm0) hZ Y.warmed
    exact ⟨by show (Cond.and _ .tt).before a A.U = true; rw [Cond.before_and, mv hU wc]; rfl, mv hU wc, mv hU wz, hp.2.2⟩
  · intro m meth c A a g mk Y hp
    have q := CHv.at Y hZ hEL H
    exact ⟨hp.1, wtrans (s := s.setVm vm0) hZ Y.warmed, hp.2.1, q.1, fun x hx => ⟨q.safe (hxs x hx).2 (hxs x hx).1, (hxs x hx).2⟩⟩
  · rintro _ _ _ _ ⟨v, L, h1, h2, h3, h5, h4⟩
    exact ⟨L, _, _, h4, rfl, rfl, ⟨v, h1, h2, h5⟩, h3⟩
  · intro m meth c A a g mk v t L k n Y hp _ _ hE
    obtain ⟨rfl, rfl, ⟨v', e3, e4, e7⟩, e5⟩ := hE
    cases e3
    have e6 : CHr Z EL A.U.vm h t.vm t.heap := hp.2.1 ▸ e5
    exact ⟨L, e4, rfl, rfl, rfl, (CHv.at Y hZ hEL H).trans e6, e7⟩
theorem own_staticW (X : Stand p l e R (s.setVm vm0) m args below meth c T locs cells slots) (hx : p.tables.exec = Jvm.exec) (hZ : Z.Warmed39 (s.setVm vm0).vm) (hown : (s.setVm vm0).vm.findClass own = some m.cls) (hEL : EW Z a0 EL) {xs0 : List Addr} (H : Cold Z EL s xs0 vm0 h) (hsub : ∀ x ∈ xs, x ∈ xs0)
    (w1 : (Cond.methodLink own index y).before a0 Z = true) (w2 : (Cond.static y).before a0 Z = true) (w3 : (Cond.initialized y.cls).before a0 Z = true) (w4 : (Cond.code y bytes maxL rt).before a0 Z = true)
    (hy : y.cls ≠ "java/lang/invoke/MethodHandle" ∧ y.cls ≠ "java/lang/invoke/VarHandle") (hM : ConW l Z EL xs sf y bytes maxL rt [] rm as' h Q) (eT : T.heap = h)
    {g : JFrame} (hg : g.method = m) (hsize : g.locals.size = c.maxLocals) {argsL rest : List Value} (hlen : ∀ sig, parseMethodDescriptor y.desc = some sig → argsL.length = sig.parameters.length) (hstack : g.stack = argsL.reverse ++ rest) (ha : argsL.toArray = as')
    (hW : 2 * g.monitorRoom + (rest.map fun v => v.category).sum ≤ W) (hf : rm.frames + 1 ≤ R.frames) (hl : W + (maxL + 11) + rm.locals ≤ R.locals)
    (hdg : decode c.code g.pc = .ok (.invokestatic index, 3)) (hc : cells + rm.cells ≤ R.cells) (hs : slots + rm.slots ≤ R.slots) :
    ∃ v T' L, Stand p l e R (s.setVm T'.vm) m args below meth c T' (locs ++ L) (cells + rm.cells) (slots + rm.slots) ∧ (Q v T'.heap L ∧ Z.Warmed39 (s.setVm T'.vm).vm ∧ (s.setVm T'.vm).vm.findClass own = some m.cls ∧ Cold Z EL s xs0 T'.vm T'.heap ∧ SafeR sf Z EL T'.vm T'.heap v) ∧
      ∀ t, Steps p.tables e below (T'.setTop { g with pc := g.pc + 3, stack := v.toList ++ rest }) t → Steps p.tables e below (T.setTop g) t := by
  obtain ⟨v, _, ⟨T', L', k', n'⟩, -, X', hS, hg', ⟨L, hQ, l', y', z', hC, hR⟩, st⟩ := Jvm.RoadKit.callSS X hx (y := y) hown (mvT hZ w1) (mvT hZ w2) (mvT hZ w3) (mvT hZ w4) hy (own_backW (W := W) hM hZ hEL w4 w3 hf hl H.2.1.1 (fun x hx => H.2.2 x (hsub x hx))) hg hsize hlen hstack hW hdg (fun _ _ => ⟨ha, eT, hc, hs⟩)
  dsimp only [Pt.U, Pt.locs, Pt.cells, Pt.slots] at X' l' y' z' st hQ hS hg' hC hR
  subst l' y' z'
  exact ⟨v, T', L, X', ⟨hQ, own_warmW hZ hS, own_ownW hS hown, H.go (by obtain ⟨⟨k0, a, b⟩, -⟩ := H; exact ⟨_, Jvm.RoadKit.foldS (T := T) a (by rw [eT]; exact b) hS hg', Nat.le_refl _⟩) hC, hR⟩, fun t k => st.trans k⟩
theorem own_virtualW (X : Stand p l e R (s.setVm vm0) m args below meth c T locs cells slots) (hx : p.tables.exec = Jvm.exec) (hZ : Z.Warmed39 (s.setVm vm0).vm) (hown : (s.setVm vm0).vm.findClass own = some m.cls) (hEL : EW Z a0 EL) {xs0 : List Addr} (H : Cold Z EL s xs0 vm0 h) (hsub : ∀ x ∈ xs, x ∈ xs0)
    (w1 : (Cond.methodLink own index y).before a0 Z = true) (w2 : (Cond.declares y).before a0 Z = true) (hnf : NotFace (s.setVm vm0) y) (w3 : (Cond.selects C y z).before a0 Z = true) (w4 : (Cond.instanceMethod z).before a0 Z = true) (w5 : (Cond.initialized z.cls).before a0 Z = true) (w6 : (Cond.code z bytes maxL rt).before a0 Z = true)
    (hy : y.cls ≠ "java/lang/invoke/MethodHandle" ∧ y.cls ≠ "java/lang/invoke/VarHandle") (hM : ConW l Z EL xs sf z bytes maxL rt [] rm as' h Q) (eT : T.heap = h) {a : Addr} (E : Exa Z h a C)
    {g : JFrame} (hg : g.method = m) (hsize : g.locals.size = c.maxLocals) {argsL rest : List Value} (hlen : ∀ sig, parseMethodDescriptor y.desc = some sig → argsL.length = sig.parameters.length) (hstack : g.stack = argsL.reverse ++ .ref a :: rest) (ha : (.ref a :: argsL).toArray = as')
    (hW : 2 * g.monitorRoom + (rest.map fun v => v.category).sum ≤ W) (hf : rm.frames + 1 ≤ R.frames) (hl : W + (maxL + 11) + rm.locals ≤ R.locals)
    (hdg : decode c.code g.pc = .ok (.invokevirtual index, 3)) (hc : cells + rm.cells ≤ R.cells) (hs : slots + rm.slots ≤ R.slots) :
    ∃ v T' L, Stand p l e R (s.setVm T'.vm) m args below meth c T' (locs ++ L) (cells + rm.cells) (slots + rm.slots) ∧ (Q v T'.heap L ∧ Z.Warmed39 (s.setVm T'.vm).vm ∧ (s.setVm T'.vm).vm.findClass own = some m.cls ∧ Cold Z EL s xs0 T'.vm T'.heap ∧ SafeR sf Z EL T'.vm T'.heap v) ∧
      ∀ t, Steps p.tables e below (T'.setTop { g with pc := g.pc + 3, stack := v.toList ++ rest }) t → Steps p.tables e below (T.setTop g) t := by
  obtain ⟨cB, kB, q1, q2, q3⟩ := isOf hZ eT E
  obtain ⟨v, _, ⟨T', L', k', n'⟩, -, X', hS, hg', ⟨L, hQ, l', y', z', hC, hR⟩, st⟩ := X.virtualBackS hx (y := y) (z := z) hown (mvT hZ w1) (mvT hZ w2) hnf (mvT hZ w3) (mvT hZ w4) hy (own_backW (W := W) hM hZ hEL w6 w5 hf hl H.2.1.1 (fun x hx => H.2.2 x (hsub x hx))) q1 q3 hg hsize (Steps.refl _) hlen hstack hW hdg (fun _ _ => ⟨ha, eT, hc, hs⟩)
  dsimp only [Pt.U, Pt.locs, Pt.cells, Pt.slots] at X' l' y' z' st hQ hS hg' hC hR
  subst l' y' z'
  exact ⟨v, T', L, X', ⟨hQ, own_warmW hZ hS, own_ownW hS hown, H.go (by obtain ⟨⟨k0, a, b⟩, -⟩ := H; exact ⟨_, Jvm.RoadKit.foldS (T := T) a (by rw [eT]; exact b) hS hg', Nat.le_refl _⟩) hC, hR⟩, fun t k => st.trans k⟩
/-- ldc of a text of EL: its cells are there -/
theorem own_ldcW {text : String} (X : Stand p l e R (s.setVm vm0) m args below meth c T locs cells slots) (hx : p.tables.exec = Jvm.exec) (hZ : Z.Warmed39 (s.setVm vm0).vm) (hown : (s.setVm vm0).vm.findClass own = some m.cls) (hEL : EW Z a0 EL) (H : Cold Z EL s xs vm0 h) (w : (Cond.stringLink own index text).before a0 Z = true) (wS : ∀ a ∈ Bundle.stringAtoms, a.before a0 Z = true)
    (eT : T.heap = h) (hmem : (own, index) ∈ EL) {vs : List Value} {z : Int32} (ht : (∀ c ∈ text.toList, c.toNat < 256) ∧ text.toList.map (fun c => Value.int (Jvm.Lit.byteI c.toNat.toUInt16)) = vs) (hz : ¬ z < 0) (hl : z.toNatClampNeg = vs.length)
    {g : JFrame} (hg : g.method = m) (hd : decode c.code g.pc = .ok (.ldc index, 2)) {n : Nat} (hn : 4 * text.toList.length ≤ n) (hbig : n ≤ 536870912) (hc : cells + 2 ≤ R.cells) (hl' : slots + (n + 4) ≤ R.slots) :
    ∃ (a b : Addr) (k : ClassId) (T' : State) (h' : Heap), Stand p l e R (s.setVm T'.vm) m args below meth c T' locs (cells + 2) (slots + (n + 4)) ∧ T'.heap = h' ∧ Ext h h' ∧ Z.Warmed39 (s.setVm T'.vm).vm ∧ (s.setVm T'.vm).vm.findClass own = some m.cls ∧ Cold Z EL s xs T'.vm h' ∧
      Exa Z h' a "java/lang/String" ∧ Fld Z h' a "java/lang/String" "coder" "B" (.int 0) ∧ Fld Z h' a "java/lang/String" "value" "[B" (.ref b) ∧ Arv Z h' b k .byte z vs (.int 0) ∧ a < h'.size ∧ b < h'.size ∧ (∀ x ∈ xs, x ≠ a ∧ x ≠ b) ∧
      ∀ t, Steps p.tables e below (T'.setTop { g with pc := g.pc + 2, stack := .ref a :: g.stack }) t → Steps p.tables e below (T.setTop g) t := by
  obtain ⟨k0, hS, hk⟩ := H.1
  obtain ⟨a, T', h', k1, b, k, X', e1, E, hS', hk', hZ', ho', f1, f2, f3, f4, f5, f6, hC, -, hne, st⟩ := ldcCH X hx hZ hown w wS eT hS hk hEL hmem H.2.1.1 ht hz hl hg hd hn hbig hc hl'
  have H' := H.go ⟨k1, hS', hk'⟩ hC
  exact ⟨a, b, k, T', h', X', e1, E, hZ', ho', H', f1, f2, f3, f4, f5, f6, fun x hx => hne x (H'.safe hx), st⟩
end Cold
end Jvm.OwnKit
namespace Jvm.OwnKit
end Jvm.OwnKit
namespace Jvm.Pilot.@@N@@
open Jvm Jvm.ClassFile Sem Op Lib Jvm.Free Jvm.Stand Jvm.LawKit Jvm.RoadKit Jvm.OwnKit Bundle Jvm.Pilot.@@N@@.Jvm.D
set_option maxRecDepth 65536
set_option maxHeartbeats 40000000
abbrev HW (a0 : Array Value) (Z : State) : Prop := ∀ d ∈ tables_1, d.before a0 Z = true
theorem own_lenk {Z : State} {args : Array Value} {t : Term} {a : Addr} {c : Cell} {ty : FieldType} {k : Int32} (ev : t.eval args Z none [] Z = some (.ref a)) (A : Arr Z Z.heap a c ty) (h : (Jvm.Cond.eq (Jvm.Term.length t) (Jvm.Term.int k)).value args Z none Z [] = some true) : c.slots.size < 2 ^ 31 ∧ c.slots.size.toInt32 = k := by
  have e := eqv_i (Term.int_eval k) h
  have ha := A.fin (U := Z) (Vm.Alike.refl _)
  by_cases q : c.slots.size < 2 ^ 31
  · have e2 := len_f (first := Z) (o := none) (idx := []) (args := args) ev ha q
    rw [e] at e2
    exact ⟨q, by injection e2 with e3; injection e3 with e4; exact e4.symm⟩
  · exfalso
    simp [Term.eval, ev, ha, q] at e
theorem sg0_0_6 : decs code [(0, .iload_n 0, 1), (1, .bipush 24, 2), (3, .iushr, 1), (4, .iconst 3, 1), (5, .iand, 1), (6, .istore_n 2, 1)] := ⟨at_0, at_1, at_3, at_4, at_5, at_6, trivial⟩
theorem sg0_7_6 : decs code [(7, .iload_n 1, 1), (8, .bipush 24, 2), (10, .iushr, 1), (11, .iconst 3, 1), (12, .iand, 1), (13, .istore_n 3, 1)] := ⟨at_7, at_8, at_10, at_11, at_12, at_13, trivial⟩
theorem sg0_14_1 : decs code [(14, .iconst 3, 1)] := ⟨at_14, trivial⟩
theorem own_w0 {Z : State} {a0 : Array Value} (hw : HW a0 Z) : (Cond.arrayClass Jvm.ClassFile.FieldType.char).before a0 Z = true := hw _ (List.mem_of_getElem? (i := 0) rfl)
theorem sg0_17_6 : decs code [(17, .dup, 1), (18, .iconst 0, 1), (19, .iload_n 0, 1), (20, .sipush 255, 3), (23, .iand, 1), (24, .i2c, 1)] := ⟨at_17, at_18, at_19, at_20, at_23, at_24, trivial⟩
theorem sg0_26_8 : decs code [(26, .dup, 1), (27, .iconst 1, 1), (28, .iload_n 0, 1), (29, .bipush 8, 2), (31, .iushr, 1), (32, .sipush 255, 3), (35, .iand, 1), (36, .i2c, 1)] := ⟨at_26, at_27, at_28, at_29, at_31, at_32, at_35, at_36, trivial⟩
theorem sg0_38_8 : decs code [(38, .dup, 1), (39, .iconst 2, 1), (40, .iload_n 0, 1), (41, .bipush 16, 2), (43, .iushr, 1), (44, .sipush 255, 3), (47, .iand, 1), (48, .i2c, 1)] := ⟨at_38, at_39, at_40, at_41, at_43, at_44, at_47, at_48, trivial⟩
theorem sg0_50_2 : decs code [(50, .astore 4, 2), (52, .iconst 3, 1)] := ⟨at_50, at_52, trivial⟩
theorem sg0_55_6 : decs code [(55, .dup, 1), (56, .iconst 0, 1), (57, .iload_n 1, 1), (58, .sipush 255, 3), (61, .iand, 1), (62, .i2c, 1)] := ⟨at_55, at_56, at_57, at_58, at_61, at_62, trivial⟩
theorem sg0_64_8 : decs code [(64, .dup, 1), (65, .iconst 1, 1), (66, .iload_n 1, 1), (67, .bipush 8, 2), (69, .iushr, 1), (70, .sipush 255, 3), (73, .iand, 1), (74, .i2c, 1)] := ⟨at_64, at_65, at_66, at_67, at_69, at_70, at_73, at_74, trivial⟩
theorem sg0_76_8 : decs code [(76, .dup, 1), (77, .iconst 2, 1), (78, .iload_n 1, 1), (79, .bipush 16, 2), (81, .iushr, 1), (82, .sipush 255, 3), (85, .iand, 1), (86, .i2c, 1)] := ⟨at_76, at_77, at_78, at_79, at_81, at_82, at_85, at_86, trivial⟩
theorem sg0_88_1 : decs code [(88, .astore 5, 2)] := ⟨at_88, trivial⟩
theorem own_w1 {Z : State} {a0 : Array Value} (hw : HW a0 Z) : (Cond.classLink "com/example/wary_meter/warymeter/RefusalMessagePinLaw" 32 "com/example/wary_meter/warymeter/Refusal").before a0 Z = true := hw _ (List.mem_of_getElem? (i := 1) rfl)
theorem own_w2 {Z : State} {a0 : Array Value} (hw : HW a0 Z) : (Cond.instantiable "com/example/wary_meter/warymeter/Refusal" 2).before a0 Z = true := hw _ (List.mem_of_getElem? (i := 2) rfl)
theorem own_w3 {Z : State} {a0 : Array Value} (hw : HW a0 Z) : (Cond.initialized "com/example/wary_meter/warymeter/Refusal").before a0 Z = true := hw _ (List.mem_of_getElem? (i := 3) rfl)
theorem own_w28 {Z : State} {a0 : Array Value} (hw : HW a0 Z) : (Cond.laysFinal "com/example/wary_meter/warymeter/Refusal" "com/example/wary_meter/warymeter/Refusal" "where" "Ljava/lang/String;").before a0 Z = true := hw _ (List.mem_of_getElem? (i := 28) rfl)
theorem own_w30 {Z : State} {a0 : Array Value} (hw : HW a0 Z) : (Cond.laysFinal "com/example/wary_meter/warymeter/Refusal" "com/example/wary_meter/warymeter/Refusal" "problem" "Ljava/lang/String;").before a0 Z = true := hw _ (List.mem_of_getElem? (i := 30) rfl)
theorem own_w4 {Z : State} {a0 : Array Value} (hw : HW a0 Z) : (Cond.methodLink "com/example/wary_meter/warymeter/RefusalMessagePinLaw" 34 ⟨"com/example/wary_meter/warymeter/RefusalMessagePinLaw", "mk", "(I[C)Ljava/lang/String;"⟩).before a0 Z = true := hw _ (List.mem_of_getElem? (i := 4) rfl)
theorem sg0_93_3 : decs code [(93, .dup, 1), (94, .iload_n 2, 1), (95, .aload 4, 2)] := ⟨at_93, at_94, at_95, trivial⟩
theorem d1_0 : decode method_2_code 0 = .ok (.iload_n 0, 1) := by decide +kernel
theorem sg1_0_1 : decs method_2_code [(0, .iload_n 0, 1)] := ⟨d1_0, trivial⟩
theorem d1_1 : decode method_2_code 1 = .ok (.ifCond .ne 6, 3) := by decide +kernel
theorem d1_4 : decode method_2_code 4 = .ok (.ldc 7, 2) := by decide +kernel
theorem own_w8 {Z : State} {a0 : Array Value} (hw : HW a0 Z) : (Cond.stringLink "com/example/wary_meter/warymeter/RefusalMessagePinLaw" 7 "").before a0 Z = true := hw _ (List.mem_of_getElem? (i := 8) rfl)
theorem d1_6 : decode method_2_code 6 = .ok (.areturn, 1) := by decide +kernel
theorem ef_rm1_0 (m : MethodId) (x0 : Int32) (x1 : Addr) : entryFrame m #[(.int x0), (.ref x1)] 2 = mkF m 0 #[.val (.int x0), .val (.ref x1)] [] := by first | (simp [entryFrame, mkF, argsToLocals, Value.category]; done) | rfl
theorem own_pn0 : plainName "com/example/wary_meter/warymeter/RefusalMessagePinLaw" = true := by first | (simp [plainName, overriddenIn]; done) | decide +kernel
theorem own_w7 {Z : State} {a0 : Array Value} (hw : HW a0 Z) : (Cond.code ⟨"com/example/wary_meter/warymeter/RefusalMessagePinLaw", "mk", "(I[C)Ljava/lang/String;"⟩ method_2_code 2 (Option.some (Jvm.ClassFile.FieldType.object "java/lang/String"))).before a0 Z = true := hw _ (List.mem_of_getElem? (i := 7) rfl)
theorem own_w6 {Z : State} {a0 : Array Value} (hw : HW a0 Z) : (Cond.initialized "com/example/wary_meter/warymeter/RefusalMessagePinLaw").before a0 Z = true := hw _ (List.mem_of_getElem? (i := 6) rfl)
theorem own_pd0 : parseMethodDescriptor "(I[C)Ljava/lang/String;" = some ⟨[.int, (.array .char)], some (.object "java/lang/String")⟩ := by decide +kernel
theorem own_w5 {Z : State} {a0 : Array Value} (hw : HW a0 Z) : (Cond.static ⟨"com/example/wary_meter/warymeter/RefusalMessagePinLaw", "mk", "(I[C)Ljava/lang/String;"⟩).before a0 Z = true := hw _ (List.mem_of_getElem? (i := 5) rfl)
theorem sg0_100_2 : decs code [(100, .iload_n 3, 1), (101, .aload 5, 2)] := ⟨at_100, at_101, trivial⟩
theorem d1_7 : decode method_2_code 7 = .ok (.iload_n 0, 1) := by decide +kernel
theorem d1_8 : decode method_2_code 8 = .ok (.iconst 1, 1) := by decide +kernel
theorem sg1_7_2 : decs method_2_code [(7, .iload_n 0, 1), (8, .iconst 1, 1)] := ⟨d1_7, d1_8, trivial⟩
theorem d1_9 : decode method_2_code 9 = .ok (.if_icmp .ne 10, 3) := by decide +kernel
theorem d1_12 : decode method_2_code 12 = .ok (.aload_n 1, 1) := by decide +kernel
theorem d1_13 : decode method_2_code 13 = .ok (.iconst 0, 1) := by decide +kernel
theorem sg1_12_2 : decs method_2_code [(12, .aload_n 1, 1), (13, .iconst 0, 1)] := ⟨d1_12, d1_13, trivial⟩
theorem d1_14 : decode method_2_code 14 = .ok (.caload, 1) := by decide +kernel
theorem own_w181 {Z : State} {a0 : Array Value} (hw : HW a0 Z) : (Cond.methodLink "com/example/wary_meter/warymeter/RefusalMessagePinLaw" 9 ⟨"java/lang/String", "valueOf", "(C)Ljava/lang/String;"⟩).before a0 Z = true := hw _ (List.mem_of_getElem? (i := 181) rfl)
theorem d1_15 : decode method_2_code 15 = .ok (.invokestatic 9, 3) := by decide +kernel
theorem d34_0 : decode jdk_42_method_139_code 0 = .ok (.getstatic 38, 3) := by decide +kernel
theorem own_w75 {Z : State} {a0 : Array Value} (hw : HW a0 Z) : (Cond.fieldLink "java/lang/String" 38 "java/lang/String" "COMPACT_STRINGS" "Z").before a0 Z = true := hw _ (List.mem_of_getElem? (i := 75) rfl)
theorem d34_3 : decode jdk_42_method_139_code 3 = .ok (.ifCond .eq 23, 3) := by decide +kernel
theorem d34_6 : decode jdk_42_method_139_code 6 = .ok (.iload_n 0, 1) := by decide +kernel
theorem own_w184 {Z : State} {a0 : Array Value} (hw : HW a0 Z) : (Cond.methodLink "java/lang/String" 1015 ⟨"java/lang/StringLatin1", "canEncode", "(C)Z"⟩).before a0 Z = true := hw _ (List.mem_of_getElem? (i := 184) rfl)
theorem sg34_6_1 : decs jdk_42_method_139_code [(6, .iload_n 0, 1)] := ⟨d34_6, trivial⟩
theorem d34_7 : decode jdk_42_method_139_code 7 = .ok (.invokestatic 1015, 3) := by decide +kernel
theorem d35_0 : decode jdk_43_method_3_code 0 = .ok (.iload_n 0, 1) := by decide +kernel
theorem d35_1 : decode jdk_43_method_3_code 1 = .ok (.sipush 255, 3) := by decide +kernel
theorem sg35_0_2 : decs jdk_43_method_3_code [(0, .iload_n 0, 1), (1, .sipush 255, 3)] := ⟨d35_0, d35_1, trivial⟩
theorem d35_4 : decode jdk_43_method_3_code 4 = .ok (.if_icmp .gt 7, 3) := by decide +kernel
theorem d35_7 : decode jdk_43_method_3_code 7 = .ok (.iconst 1, 1) := by decide +kernel
theorem d35_8 : decode jdk_43_method_3_code 8 = .ok (.goto 4, 3) := by decide +kernel
theorem sg35_7_2 : decs jdk_43_method_3_code [(7, .iconst 1, 1), (8, .goto 4, 3)] := ⟨d35_7, d35_8, trivial⟩
theorem d35_12 : decode jdk_43_method_3_code 12 = .ok (.ireturn, 1) := by decide +kernel
theorem ef_rm35_0 (m : MethodId) (x0 : Int32) : entryFrame m #[(.int x0)] 1 = mkF m 0 #[.val (.int x0)] [] := by first | (simp [entryFrame, mkF, argsToLocals, Value.category]; done) | rfl
theorem own_pn1 : plainName "java/lang/StringLatin1" = true := by first | (simp [plainName, overriddenIn]; done) | decide +kernel
theorem own_w186 {Z : State} {a0 : Array Value} (hw : HW a0 Z) : (Cond.code ⟨"java/lang/StringLatin1", "canEncode", "(C)Z"⟩ jdk_43_method_3_code 1 (Option.some Jvm.ClassFile.FieldType.boolean)).before a0 Z = true := hw _ (List.mem_of_getElem? (i := 186) rfl)
theorem own_w168 {Z : State} {a0 : Array Value} (hw : HW a0 Z) : (Cond.initialized "java/lang/StringLatin1").before a0 Z = true := hw _ (List.mem_of_getElem? (i := 168) rfl)
theorem own_pd1 : parseMethodDescriptor "(C)Z" = some ⟨[.char], some .boolean⟩ := by decide +kernel
theorem own_w185 {Z : State} {a0 : Array Value} (hw : HW a0 Z) : (Cond.static ⟨"java/lang/StringLatin1", "canEncode", "(C)Z"⟩).before a0 Z = true := hw _ (List.mem_of_getElem? (i := 185) rfl)
theorem d34_10 : decode jdk_42_method_139_code 10 = .ok (.ifCond .eq 16, 3) := by decide +kernel
theorem d34_13 : decode jdk_42_method_139_code 13 = .ok (.new 10, 3) := by decide +kernel
theorem own_w187 {Z : State} {a0 : Array Value} (hw : HW a0 Z) : (Cond.classLink "java/lang/String" 10 "java/lang/String").before a0 Z = true := hw _ (List.mem_of_getElem? (i := 187) rfl)
theorem own_w10 {Z : State} {a0 : Array Value} (hw : HW a0 Z) : (Cond.instantiable "java/lang/String" 4).before a0 Z = true := hw _ (List.mem_of_getElem? (i := 10) rfl)
theorem own_w9 {Z : State} {a0 : Array Value} (hw : HW a0 Z) : (Cond.initialized "java/lang/String").before a0 Z = true := hw _ (List.mem_of_getElem? (i := 9) rfl)
theorem own_w12 {Z : State} {a0 : Array Value} (hw : HW a0 Z) : (Cond.laysFinal "java/lang/String" "java/lang/String" "value" "[B").before a0 Z = true := hw _ (List.mem_of_getElem? (i := 12) rfl)
theorem own_w13 {Z : State} {a0 : Array Value} (hw : HW a0 Z) : (Cond.laysFinal "java/lang/String" "java/lang/String" "coder" "B").before a0 Z = true := hw _ (List.mem_of_getElem? (i := 13) rfl)
theorem d34_16 : decode jdk_42_method_139_code 16 = .ok (.dup, 1) := by decide +kernel
theorem d34_17 : decode jdk_42_method_139_code 17 = .ok (.iload_n 0, 1) := by decide +kernel
theorem own_w188 {Z : State} {a0 : Array Value} (hw : HW a0 Z) : (Cond.methodLink "java/lang/String" 1018 ⟨"java/lang/StringLatin1", "toBytes", "(C)[B"⟩).before a0 Z = true := hw _ (List.mem_of_getElem? (i := 188) rfl)
theorem sg34_16_2 : decs jdk_42_method_139_code [(16, .dup, 1), (17, .iload_n 0, 1)] := ⟨d34_16, d34_17, trivial⟩
theorem d34_18 : decode jdk_42_method_139_code 18 = .ok (.invokestatic 1018, 3) := by decide +kernel
theorem d36_0 : decode jdk_43_method_46_code 0 = .ok (.iconst 1, 1) := by decide +kernel
theorem sg36_0_1 : decs jdk_43_method_46_code [(0, .iconst 1, 1)] := ⟨d36_0, trivial⟩
theorem d36_1 : decode jdk_43_method_46_code 1 = .ok (.newarray .byte, 2) := by decide +kernel
theorem own_w11 {Z : State} {a0 : Array Value} (hw : HW a0 Z) : (Cond.arrayClass Jvm.ClassFile.FieldType.byte).before a0 Z = true := hw _ (List.mem_of_getElem? (i := 11) rfl)
theorem d36_3 : decode jdk_43_method_46_code 3 = .ok (.dup, 1) := by decide +kernel
theorem d36_4 : decode jdk_43_method_46_code 4 = .ok (.iconst 0, 1) := by decide +kernel
theorem d36_5 : decode jdk_43_method_46_code 5 = .ok (.iload_n 0, 1) := by decide +kernel
theorem d36_6 : decode jdk_43_method_46_code 6 = .ok (.i2b, 1) := by decide +kernel
theorem sg36_3_4 : decs jdk_43_method_46_code [(3, .dup, 1), (4, .iconst 0, 1), (5, .iload_n 0, 1), (6, .i2b, 1)] := ⟨d36_3, d36_4, d36_5, d36_6, trivial⟩
theorem d36_7 : decode jdk_43_method_46_code 7 = .ok (.bastore, 1) := by decide +kernel
theorem d36_8 : decode jdk_43_method_46_code 8 = .ok (.areturn, 1) := by decide +kernel
theorem ef_rm36_0 (m : MethodId) (x0 : Int32) : entryFrame m #[(.int x0)] 1 = mkF m 0 #[.val (.int x0)] [] := by first | (simp [entryFrame, mkF, argsToLocals, Value.category]; done) | rfl
theorem own_w190 {Z : State} {a0 : Array Value} (hw : HW a0 Z) : (Cond.code ⟨"java/lang/StringLatin1", "toBytes", "(C)[B"⟩ jdk_43_method_46_code 1 (Option.some (Jvm.ClassFile.FieldType.array Jvm.ClassFile.FieldType.byte))).before a0 Z = true := hw _ (List.mem_of_getElem? (i := 190) rfl)
theorem own_pd2 : parseMethodDescriptor "(C)[B" = some ⟨[.char], some (.array .byte)⟩ := by decide +kernel
theorem own_w189 {Z : State} {a0 : Array Value} (hw : HW a0 Z) : (Cond.static ⟨"java/lang/StringLatin1", "toBytes", "(C)[B"⟩).before a0 Z = true := hw _ (List.mem_of_getElem? (i := 189) rfl)
theorem d34_21 : decode jdk_42_method_139_code 21 = .ok (.iconst 0, 1) := by decide +kernel
theorem own_w191 {Z : State} {a0 : Array Value} (hw : HW a0 Z) : (Cond.methodLink "java/lang/String" 209 ⟨"java/lang/String", "<init>", "([BB)V"⟩).before a0 Z = true := hw _ (List.mem_of_getElem? (i := 191) rfl)
theorem sg34_21_1 : decs jdk_42_method_139_code [(21, .iconst 0, 1)] := ⟨d34_21, trivial⟩
theorem d34_22 : decode jdk_42_method_139_code 22 = .ok (.invokespecial 209, 3) := by decide +kernel
theorem d37_0 : decode jdk_42_method_151_code 0 = .ok (.aload_n 0, 1) := by decide +kernel
theorem own_w118 {Z : State} {a0 : Array Value} (hw : HW a0 Z) : (Cond.methodLink "java/lang/String" 1 ⟨"java/lang/Object", "<init>", "()V"⟩).before a0 Z = true := hw _ (List.mem_of_getElem? (i := 118) rfl)
theorem sg37_0_1 : decs jdk_42_method_151_code [(0, .aload_n 0, 1)] := ⟨d37_0, trivial⟩
theorem d37_1 : decode jdk_42_method_151_code 1 = .ok (.invokespecial 1, 3) := by decide +kernel
theorem own_w26 {Z : State} {a0 : Array Value} (hw : HW a0 Z) : (Cond.code ⟨"java/lang/Object", "<init>", "()V"⟩ object_method_1_code 1 (Option.none : Option Jvm.ClassFile.FieldType)).before a0 Z = true := hw _ (List.mem_of_getElem? (i := 26) rfl)
theorem own_w25 {Z : State} {a0 : Array Value} (hw : HW a0 Z) : (Cond.instanceMethod ⟨"java/lang/Object", "<init>", "()V"⟩).before a0 Z = true := hw _ (List.mem_of_getElem? (i := 25) rfl)
theorem d37_4 : decode jdk_42_method_151_code 4 = .ok (.aload_n 0, 1) := by decide +kernel
theorem d37_5 : decode jdk_42_method_151_code 5 = .ok (.aload_n 1, 1) := by decide +kernel
theorem sg37_4_2 : decs jdk_42_method_151_code [(4, .aload_n 0, 1), (5, .aload_n 1, 1)] := ⟨d37_4, d37_5, trivial⟩
theorem d37_6 : decode jdk_42_method_151_code 6 = .ok (.putfield 9, 3) := by decide +kernel
theorem own_w69 {Z : State} {a0 : Array Value} (hw : HW a0 Z) : (Cond.fieldLink "java/lang/String" 9 "java/lang/String" "value" "[B").before a0 Z = true := hw _ (List.mem_of_getElem? (i := 69) rfl)
theorem d37_9 : decode jdk_42_method_151_code 9 = .ok (.aload_n 0, 1) := by decide +kernel
theorem d37_10 : decode jdk_42_method_151_code 10 = .ok (.iload_n 2, 1) := by decide +kernel
theorem sg37_9_2 : decs jdk_42_method_151_code [(9, .aload_n 0, 1), (10, .iload_n 2, 1)] := ⟨d37_9, d37_10, trivial⟩
theorem d37_11 : decode jdk_42_method_151_code 11 = .ok (.putfield 15, 3) := by decide +kernel
theorem own_w76 {Z : State} {a0 : Array Value} (hw : HW a0 Z) : (Cond.fieldLink "java/lang/String" 15 "java/lang/String" "coder" "B").before a0 Z = true := hw _ (List.mem_of_getElem? (i := 76) rfl)
theorem d37_14 : decode jdk_42_method_151_code 14 = .ok (.return_, 1) := by decide +kernel
theorem ef_rm37_0 (m : MethodId) (x0 : Addr) (x1 : Addr) (x2 : Int32) : entryFrame m #[(.ref x0), (.ref x1), (.int x2)] 3 = mkF m 0 #[.val (.ref x0), .val (.ref x1), .val (.int x2)] [] := by first | (simp [entryFrame, mkF, argsToLocals, Value.category]; done) | rfl
theorem own_pn2 : plainName "java/lang/String" = true := by first | (simp [plainName, overriddenIn]; done) | decide +kernel
theorem own_w193 {Z : State} {a0 : Array Value} (hw : HW a0 Z) : (Cond.code ⟨"java/lang/String", "<init>", "([BB)V"⟩ jdk_42_method_151_code 3 (Option.none : Option Jvm.ClassFile.FieldType)).before a0 Z = true := hw _ (List.mem_of_getElem? (i := 193) rfl)
theorem own_pd3 : parseMethodDescriptor "([BB)V" = some ⟨[(.array .byte), .byte], none⟩ := by decide +kernel
theorem own_w192 {Z : State} {a0 : Array Value} (hw : HW a0 Z) : (Cond.instanceMethod ⟨"java/lang/String", "<init>", "([BB)V"⟩).before a0 Z = true := hw _ (List.mem_of_getElem? (i := 192) rfl)
theorem d34_25 : decode jdk_42_method_139_code 25 = .ok (.areturn, 1) := by decide +kernel
theorem ef_rm34_0 (m : MethodId) (x0 : Int32) : entryFrame m #[(.int x0)] 1 = mkF m 0 #[.val (.int x0)] [] := by first | (simp [entryFrame, mkF, argsToLocals, Value.category]; done) | rfl
theorem own_w183 {Z : State} {a0 : Array Value} (hw : HW a0 Z) : (Cond.code ⟨"java/lang/String", "valueOf", "(C)Ljava/lang/String;"⟩ jdk_42_method_139_code 1 (Option.some (Jvm.ClassFile.FieldType.object "java/lang/String"))).before a0 Z = true := hw _ (List.mem_of_getElem? (i := 183) rfl)
theorem own_pd4 : parseMethodDescriptor "(C)Ljava/lang/String;" = some ⟨[.char], some (.object "java/lang/String")⟩ := by decide +kernel
theorem own_w182 {Z : State} {a0 : Array Value} (hw : HW a0 Z) : (Cond.static ⟨"java/lang/String", "valueOf", "(C)Ljava/lang/String;"⟩).before a0 Z = true := hw _ (List.mem_of_getElem? (i := 182) rfl)
theorem d1_18 : decode method_2_code 18 = .ok (.areturn, 1) := by decide +kernel
theorem d1_19 : decode method_2_code 19 = .ok (.iload_n 0, 1) := by decide +kernel
theorem d1_20 : decode method_2_code 20 = .ok (.iconst 2, 1) := by decide +kernel
theorem sg1_19_2 : decs method_2_code [(19, .iload_n 0, 1), (20, .iconst 2, 1)] := ⟨d1_19, d1_20, trivial⟩
theorem d1_21 : decode method_2_code 21 = .ok (.if_icmp .ne 26, 3) := by decide +kernel
theorem d1_24 : decode method_2_code 24 = .ok (.new 10, 3) := by decide +kernel
theorem own_w194 {Z : State} {a0 : Array Value} (hw : HW a0 Z) : (Cond.classLink "com/example/wary_meter/warymeter/RefusalMessagePinLaw" 10 "java/lang/String").before a0 Z = true := hw _ (List.mem_of_getElem? (i := 194) rfl)
theorem d1_27 : decode method_2_code 27 = .ok (.dup, 1) := by decide +kernel
theorem d1_28 : decode method_2_code 28 = .ok (.iconst 2, 1) := by decide +kernel
theorem sg1_27_2 : decs method_2_code [(27, .dup, 1), (28, .iconst 2, 1)] := ⟨d1_27, d1_28, trivial⟩
theorem d1_29 : decode method_2_code 29 = .ok (.newarray .char, 2) := by decide +kernel
theorem d1_31 : decode method_2_code 31 = .ok (.dup, 1) := by decide +kernel
theorem d1_32 : decode method_2_code 32 = .ok (.iconst 0, 1) := by decide +kernel
theorem d1_33 : decode method_2_code 33 = .ok (.aload_n 1, 1) := by decide +kernel
theorem d1_34 : decode method_2_code 34 = .ok (.iconst 0, 1) := by decide +kernel
theorem sg1_31_4 : decs method_2_code [(31, .dup, 1), (32, .iconst 0, 1), (33, .aload_n 1, 1), (34, .iconst 0, 1)] := ⟨d1_31, d1_32, d1_33, d1_34, trivial⟩
theorem d1_35 : decode method_2_code 35 = .ok (.caload, 1) := by decide +kernel
theorem d1_36 : decode method_2_code 36 = .ok (.castore, 1) := by decide +kernel
theorem d1_37 : decode method_2_code 37 = .ok (.dup, 1) := by decide +kernel
theorem d1_38 : decode method_2_code 38 = .ok (.iconst 1, 1) := by decide +kernel
theorem d1_39 : decode method_2_code 39 = .ok (.aload_n 1, 1) := by decide +kernel
theorem d1_40 : decode method_2_code 40 = .ok (.iconst 1, 1) := by decide +kernel
theorem sg1_37_4 : decs method_2_code [(37, .dup, 1), (38, .iconst 1, 1), (39, .aload_n 1, 1), (40, .iconst 1, 1)] := ⟨d1_37, d1_38, d1_39, d1_40, trivial⟩
theorem d1_41 : decode method_2_code 41 = .ok (.caload, 1) := by decide +kernel
theorem d1_42 : decode method_2_code 42 = .ok (.castore, 1) := by decide +kernel
theorem own_w195 {Z : State} {a0 : Array Value} (hw : HW a0 Z) : (Cond.methodLink "com/example/wary_meter/warymeter/RefusalMessagePinLaw" 15 ⟨"java/lang/String", "<init>", "([C)V"⟩).before a0 Z = true := hw _ (List.mem_of_getElem? (i := 195) rfl)
theorem d1_43 : decode method_2_code 43 = .ok (.invokespecial 15, 3) := by decide +kernel
theorem d38_0 : decode jdk_42_method_3_code 0 = .ok (.aload_n 0, 1) := by decide +kernel
theorem d38_1 : decode jdk_42_method_3_code 1 = .ok (.aload_n 1, 1) := by decide +kernel
theorem d38_2 : decode jdk_42_method_3_code 2 = .ok (.iconst 0, 1) := by decide +kernel
theorem d38_3 : decode jdk_42_method_3_code 3 = .ok (.aload_n 1, 1) := by decide +kernel
theorem sg38_0_4 : decs jdk_42_method_3_code [(0, .aload_n 0, 1), (1, .aload_n 1, 1), (2, .iconst 0, 1), (3, .aload_n 1, 1)] := ⟨d38_0, d38_1, d38_2, d38_3, trivial⟩
theorem d38_4 : decode jdk_42_method_3_code 4 = .ok (.arraylength, 1) := by decide +kernel
theorem d38_5 : decode jdk_42_method_3_code 5 = .ok (.aconst_null, 1) := by decide +kernel
theorem own_w198 {Z : State} {a0 : Array Value} (hw : HW a0 Z) : (Cond.methodLink "java/lang/String" 27 ⟨"java/lang/String", "<init>", "([CIILjava/lang/Void;)V"⟩).before a0 Z = true := hw _ (List.mem_of_getElem? (i := 198) rfl)
theorem sg38_5_1 : decs jdk_42_method_3_code [(5, .aconst_null, 1)] := ⟨d38_5, trivial⟩
theorem d38_6 : decode jdk_42_method_3_code 6 = .ok (.invokespecial 27, 3) := by decide +kernel
theorem d39_0 : decode jdk_42_method_149_code 0 = .ok (.aload_n 0, 1) := by decide +kernel
theorem sg39_0_1 : decs jdk_42_method_149_code [(0, .aload_n 0, 1)] := ⟨d39_0, trivial⟩
theorem d39_1 : decode jdk_42_method_149_code 1 = .ok (.invokespecial 1, 3) := by decide +kernel
theorem d39_4 : decode jdk_42_method_149_code 4 = .ok (.iload_n 3, 1) := by decide +kernel
theorem sg39_4_1 : decs jdk_42_method_149_code [(4, .iload_n 3, 1)] := ⟨d39_4, trivial⟩
theorem d39_5 : decode jdk_42_method_149_code 5 = .ok (.ifCond .ne 22, 3) := by decide +kernel
theorem d39_27 : decode jdk_42_method_149_code 27 = .ok (.getstatic 38, 3) := by decide +kernel
theorem d39_30 : decode jdk_42_method_149_code 30 = .ok (.ifCond .eq 28, 3) := by decide +kernel
theorem d39_33 : decode jdk_42_method_149_code 33 = .ok (.aload_n 1, 1) := by decide +kernel
theorem d39_34 : decode jdk_42_method_149_code 34 = .ok (.iload_n 2, 1) := by decide +kernel
theorem d39_35 : decode jdk_42_method_149_code 35 = .ok (.iload_n 3, 1) := by decide +kernel
theorem own_w201 {Z : State} {a0 : Array Value} (hw : HW a0 Z) : (Cond.methodLink "java/lang/String" 177 ⟨"java/lang/StringUTF16", "compress", "([CII)[B"⟩).before a0 Z = true := hw _ (List.mem_of_getElem? (i := 201) rfl)
theorem sg39_33_3 : decs jdk_42_method_149_code [(33, .aload_n 1, 1), (34, .iload_n 2, 1), (35, .iload_n 3, 1)] := ⟨d39_33, d39_34, d39_35, trivial⟩
theorem d39_36 : decode jdk_42_method_149_code 36 = .ok (.invokestatic 177, 3) := by decide +kernel
theorem d40_0 : decode jdk_52_method_16_code 0 = .ok (.iload_n 2, 1) := by decide +kernel
theorem sg40_0_1 : decs jdk_52_method_16_code [(0, .iload_n 2, 1)] := ⟨d40_0, trivial⟩
theorem d40_1 : decode jdk_52_method_16_code 1 = .ok (.newarray .byte, 2) := by decide +kernel
theorem d40_3 : decode jdk_52_method_16_code 3 = .ok (.astore_n 3, 1) := by decide +kernel
theorem d40_4 : decode jdk_52_method_16_code 4 = .ok (.aload_n 0, 1) := by decide +kernel
theorem d40_5 : decode jdk_52_method_16_code 5 = .ok (.iload_n 1, 1) := by decide +kernel
theorem d40_6 : decode jdk_52_method_16_code 6 = .ok (.aload_n 3, 1) := by decide +kernel
theorem d40_7 : decode jdk_52_method_16_code 7 = .ok (.iconst 0, 1) := by decide +kernel
theorem d40_8 : decode jdk_52_method_16_code 8 = .ok (.iload_n 2, 1) := by decide +kernel
theorem own_w205 {Z : State} {a0 : Array Value} (hw : HW a0 Z) : (Cond.methodLink "java/lang/StringUTF16" 115 ⟨"java/lang/StringUTF16", "compress", "([CI[BII)I"⟩).before a0 Z = true := hw _ (List.mem_of_getElem? (i := 205) rfl)
theorem sg40_3_6 : decs jdk_52_method_16_code [(3, .astore_n 3, 1), (4, .aload_n 0, 1), (5, .iload_n 1, 1), (6, .aload_n 3, 1), (7, .iconst 0, 1), (8, .iload_n 2, 1)] := ⟨d40_3, d40_4, d40_5, d40_6, d40_7, d40_8, trivial⟩
theorem d40_9 : decode jdk_52_method_16_code 9 = .ok (.invokestatic 115, 3) := by decide +kernel
theorem d41_0 : decode jdk_52_method_21_code 0 = .ok (.iconst 0, 1) := by decide +kernel
theorem d41_1 : decode jdk_52_method_21_code 1 = .ok (.istore 5, 2) := by decide +kernel
theorem d41_3 : decode jdk_52_method_21_code 3 = .ok (.iload 5, 2) := by decide +kernel
theorem d41_5 : decode jdk_52_method_21_code 5 = .ok (.iload 4, 2) := by decide +kernel
theorem sg41_0_4 : decs jdk_52_method_21_code [(0, .iconst 0, 1), (1, .istore 5, 2), (3, .iload 5, 2), (5, .iload 4, 2)] := ⟨d41_0, d41_1, d41_3, d41_5, trivial⟩
theorem d41_7 : decode jdk_52_method_21_code 7 = .ok (.if_icmp .ge 37, 3) := by decide +kernel
theorem d41_10 : decode jdk_52_method_21_code 10 = .ok (.aload_n 0, 1) := by decide +kernel
theorem d41_11 : decode jdk_52_method_21_code 11 = .ok (.iload_n 1, 1) := by decide +kernel
theorem sg41_10_2 : decs jdk_52_method_21_code [(10, .aload_n 0, 1), (11, .iload_n 1, 1)] := ⟨d41_10, d41_11, trivial⟩
theorem d41_12 : decode jdk_52_method_21_code 12 = .ok (.caload, 1) := by decide +kernel
theorem d41_13 : decode jdk_52_method_21_code 13 = .ok (.istore 6, 2) := by decide +kernel
theorem d41_15 : decode jdk_52_method_21_code 15 = .ok (.iload 6, 2) := by decide +kernel
theorem d41_17 : decode jdk_52_method_21_code 17 = .ok (.sipush 255, 3) := by decide +kernel
theorem sg41_13_3 : decs jdk_52_method_21_code [(13, .istore 6, 2), (15, .iload 6, 2), (17, .sipush 255, 3)] := ⟨d41_13, d41_15, d41_17, trivial⟩
theorem d41_20 : decode jdk_52_method_21_code 20 = .ok (.if_icmp .le 6, 3) := by decide +kernel
theorem d41_26 : decode jdk_52_method_21_code 26 = .ok (.aload_n 2, 1) := by decide +kernel
theorem d41_27 : decode jdk_52_method_21_code 27 = .ok (.iload_n 3, 1) := by decide +kernel
theorem d41_28 : decode jdk_52_method_21_code 28 = .ok (.iload 6, 2) := by decide +kernel
theorem d41_30 : decode jdk_52_method_21_code 30 = .ok (.i2b, 1) := by decide +kernel
theorem sg41_26_4 : decs jdk_52_method_21_code [(26, .aload_n 2, 1), (27, .iload_n 3, 1), (28, .iload 6, 2), (30, .i2b, 1)] := ⟨d41_26, d41_27, d41_28, d41_30, trivial⟩
theorem d41_31 : decode jdk_52_method_21_code 31 = .ok (.bastore, 1) := by decide +kernel
theorem d41_32 : decode jdk_52_method_21_code 32 = .ok (.iinc 1 1, 3) := by decide +kernel
theorem d41_35 : decode jdk_52_method_21_code 35 = .ok (.iinc 3 1, 3) := by decide +kernel
theorem d41_38 : decode jdk_52_method_21_code 38 = .ok (.iinc 5 1, 3) := by decide +kernel
theorem d41_41 : decode jdk_52_method_21_code 41 = .ok (.goto (-38), 3) := by decide +kernel
theorem sg41_32_6 : decs jdk_52_method_21_code [(32, .iinc 1 1, 3), (35, .iinc 3 1, 3), (38, .iinc 5 1, 3), (41, .goto (-38), 3), (3, .iload 5, 2), (5, .iload 4, 2)] := ⟨d41_32, d41_35, d41_38, d41_41, d41_3, d41_5, trivial⟩
theorem d41_44 : decode jdk_52_method_21_code 44 = .ok (.iload 4, 2) := by decide +kernel
theorem sg41_44_1 : decs jdk_52_method_21_code [(44, .iload 4, 2)] := ⟨d41_44, trivial⟩
theorem d41_46 : decode jdk_52_method_21_code 46 = .ok (.ireturn, 1) := by decide +kernel
theorem ef_rm41_0 (m : MethodId) (x0 : Addr) (x1 : Int32) (x2 : Addr) (x4 : Int32) : entryFrame m #[(.ref x0), (.int x1), (.ref x2), (.int x1), (.int x4)] 7 = mkF m 0 #[.val (.ref x0), .val (.int x1), .val (.ref x2), .val (.int x1), .val (.int x4), .unset, .unset] [] := by first | (simp [entryFrame, mkF, argsToLocals, Value.category]; done) | rfl
theorem own_pn3 : plainName "java/lang/StringUTF16" = true := by first | (simp [plainName, overriddenIn]; done) | decide +kernel
theorem own_w207 {Z : State} {a0 : Array Value} (hw : HW a0 Z) : (Cond.code ⟨"java/lang/StringUTF16", "compress", "([CI[BII)I"⟩ jdk_52_method_21_code 7 (Option.some Jvm.ClassFile.FieldType.int)).before a0 Z = true := hw _ (List.mem_of_getElem? (i := 207) rfl)
theorem own_w203 {Z : State} {a0 : Array Value} (hw : HW a0 Z) : (Cond.initialized "java/lang/StringUTF16").before a0 Z = true := hw _ (List.mem_of_getElem? (i := 203) rfl)
theorem own_pd5 : parseMethodDescriptor "([CI[BII)I" = some ⟨[(.array .char), .int, (.array .byte), .int, .int], some .int⟩ := by decide +kernel
theorem own_w206 {Z : State} {a0 : Array Value} (hw : HW a0 Z) : (Cond.static ⟨"java/lang/StringUTF16", "compress", "([CI[BII)I"⟩).before a0 Z = true := hw _ (List.mem_of_getElem? (i := 206) rfl)
theorem d40_12 : decode jdk_52_method_16_code 12 = .ok (.istore 4, 2) := by decide +kernel
theorem d40_14 : decode jdk_52_method_16_code 14 = .ok (.iload 4, 2) := by decide +kernel
theorem d40_16 : decode jdk_52_method_16_code 16 = .ok (.iload_n 2, 1) := by decide +kernel
theorem sg40_12_3 : decs jdk_52_method_16_code [(12, .istore 4, 2), (14, .iload 4, 2), (16, .iload_n 2, 1)] := ⟨d40_12, d40_14, d40_16, trivial⟩
theorem d40_17 : decode jdk_52_method_16_code 17 = .ok (.if_icmp .eq 40, 3) := by decide +kernel
theorem d40_57 : decode jdk_52_method_16_code 57 = .ok (.aload_n 3, 1) := by decide +kernel
theorem sg40_57_1 : decs jdk_52_method_16_code [(57, .aload_n 3, 1)] := ⟨d40_57, trivial⟩
theorem d40_58 : decode jdk_52_method_16_code 58 = .ok (.areturn, 1) := by decide +kernel
theorem ef_rm40_0 (m : MethodId) (x0 : Addr) (x1 : Int32) (x2 : Int32) : entryFrame m #[(.ref x0), (.int x1), (.int x2)] 6 = mkF m 0 #[.val (.ref x0), .val (.int x1), .val (.int x2), .unset, .unset, .unset] [] := by first | (simp [entryFrame, mkF, argsToLocals, Value.category]; done) | rfl
theorem own_w204 {Z : State} {a0 : Array Value} (hw : HW a0 Z) : (Cond.code ⟨"java/lang/StringUTF16", "compress", "([CII)[B"⟩ jdk_52_method_16_code 6 (Option.some (Jvm.ClassFile.FieldType.array Jvm.ClassFile.FieldType.byte))).before a0 Z = true := hw _ (List.mem_of_getElem? (i := 204) rfl)
theorem own_pd6 : parseMethodDescriptor "([CII)[B" = some ⟨[(.array .char), .int, .int], some (.array .byte)⟩ := by decide +kernel
theorem own_w202 {Z : State} {a0 : Array Value} (hw : HW a0 Z) : (Cond.static ⟨"java/lang/StringUTF16", "compress", "([CII)[B"⟩).before a0 Z = true := hw _ (List.mem_of_getElem? (i := 202) rfl)
theorem d39_39 : decode jdk_42_method_149_code 39 = .ok (.astore 5, 2) := by decide +kernel
theorem d39_41 : decode jdk_42_method_149_code 41 = .ok (.aload_n 0, 1) := by decide +kernel
theorem d39_42 : decode jdk_42_method_149_code 42 = .ok (.aload 5, 2) := by decide +kernel
theorem d39_44 : decode jdk_42_method_149_code 44 = .ok (.iload_n 3, 1) := by decide +kernel
theorem own_w208 {Z : State} {a0 : Array Value} (hw : HW a0 Z) : (Cond.methodLink "java/lang/String" 47 ⟨"java/lang/StringUTF16", "coderFromArrayLen", "([BI)B"⟩).before a0 Z = true := hw _ (List.mem_of_getElem? (i := 208) rfl)
theorem sg39_39_4 : decs jdk_42_method_149_code [(39, .astore 5, 2), (41, .aload_n 0, 1), (42, .aload 5, 2), (44, .iload_n 3, 1)] := ⟨d39_39, d39_41, d39_42, d39_44, trivial⟩
theorem d39_45 : decode jdk_42_method_149_code 45 = .ok (.invokestatic 47, 3) := by decide +kernel
theorem d42_0 : decode jdk_52_method_15_code 0 = .ok (.iload_n 1, 1) := by decide +kernel
theorem d42_1 : decode jdk_52_method_15_code 1 = .ok (.aload_n 0, 1) := by decide +kernel
theorem sg42_0_2 : decs jdk_52_method_15_code [(0, .iload_n 1, 1), (1, .aload_n 0, 1)] := ⟨d42_0, d42_1, trivial⟩
theorem d42_2 : decode jdk_52_method_15_code 2 = .ok (.arraylength, 1) := by decide +kernel
theorem d42_3 : decode jdk_52_method_15_code 3 = .ok (.isub, 1) := by decide +kernel
theorem d42_4 : decode jdk_52_method_15_code 4 = .ok (.bipush 31, 2) := by decide +kernel
theorem d42_6 : decode jdk_52_method_15_code 6 = .ok (.iushr, 1) := by decide +kernel
theorem d42_7 : decode jdk_52_method_15_code 7 = .ok (.i2b, 1) := by decide +kernel
theorem sg42_3_4 : decs jdk_52_method_15_code [(3, .isub, 1), (4, .bipush 31, 2), (6, .iushr, 1), (7, .i2b, 1)] := ⟨d42_3, d42_4, d42_6, d42_7, trivial⟩
theorem d42_8 : decode jdk_52_method_15_code 8 = .ok (.ireturn, 1) := by decide +kernel
theorem ef_rm42_0 (m : MethodId) (x0 : Addr) (x1 : Int32) : entryFrame m #[(.ref x0), (.int x1)] 2 = mkF m 0 #[.val (.ref x0), .val (.int x1)] [] := by first | (simp [entryFrame, mkF, argsToLocals, Value.category]; done) | rfl
theorem own_w210 {Z : State} {a0 : Array Value} (hw : HW a0 Z) : (Cond.code ⟨"java/lang/StringUTF16", "coderFromArrayLen", "([BI)B"⟩ jdk_52_method_15_code 2 (Option.some Jvm.ClassFile.FieldType.byte)).before a0 Z = true := hw _ (List.mem_of_getElem? (i := 210) rfl)
theorem own_pd7 : parseMethodDescriptor "([BI)B" = some ⟨[(.array .byte), .int], some .byte⟩ := by decide +kernel
theorem own_w209 {Z : State} {a0 : Array Value} (hw : HW a0 Z) : (Cond.static ⟨"java/lang/StringUTF16", "coderFromArrayLen", "([BI)B"⟩).before a0 Z = true := hw _ (List.mem_of_getElem? (i := 209) rfl)
theorem d39_48 : decode jdk_42_method_149_code 48 = .ok (.putfield 15, 3) := by decide +kernel
theorem d39_51 : decode jdk_42_method_149_code 51 = .ok (.aload_n 0, 1) := by decide +kernel
theorem d39_52 : decode jdk_42_method_149_code 52 = .ok (.aload 5, 2) := by decide +kernel
theorem sg39_51_2 : decs jdk_42_method_149_code [(51, .aload_n 0, 1), (52, .aload 5, 2)] := ⟨d39_51, d39_52, trivial⟩
theorem d39_54 : decode jdk_42_method_149_code 54 = .ok (.putfield 9, 3) := by decide +kernel
theorem d39_57 : decode jdk_42_method_149_code 57 = .ok (.return_, 1) := by decide +kernel
theorem ef_rm39_0 (m : MethodId) (x0 : Addr) (x1 : Addr) (x2 : Int32) (x3 : Int32) : entryFrame m #[(.ref x0), (.ref x1), (.int x2), (.int x3), .null] 6 = mkF m 0 #[.val (.ref x0), .val (.ref x1), .val (.int x2), .val (.int x3), .val .null, .unset] [] := by first | (simp [entryFrame, mkF, argsToLocals, Value.category]; done) | rfl
theorem own_w200 {Z : State} {a0 : Array Value} (hw : HW a0 Z) : (Cond.code ⟨"java/lang/String", "<init>", "([CIILjava/lang/Void;)V"⟩ jdk_42_method_149_code 6 (Option.none : Option Jvm.ClassFile.FieldType)).before a0 Z = true := hw _ (List.mem_of_getElem? (i := 200) rfl)
theorem own_pd8 : parseMethodDescriptor "([CIILjava/lang/Void;)V" = some ⟨[(.array .char), .int, .int, (.object "java/lang/Void")], none⟩ := by decide +kernel
theorem own_w199 {Z : State} {a0 : Array Value} (hw : HW a0 Z) : (Cond.instanceMethod ⟨"java/lang/String", "<init>", "([CIILjava/lang/Void;)V"⟩).before a0 Z = true := hw _ (List.mem_of_getElem? (i := 199) rfl)
theorem d38_9 : decode jdk_42_method_3_code 9 = .ok (.return_, 1) := by decide +kernel
theorem ef_rm38_0 (m : MethodId) (x0 : Addr) (x1 : Addr) : entryFrame m #[(.ref x0), (.ref x1)] 2 = mkF m 0 #[.val (.ref x0), .val (.ref x1)] [] := by first | (simp [entryFrame, mkF, argsToLocals, Value.category]; done) | rfl
theorem own_w197 {Z : State} {a0 : Array Value} (hw : HW a0 Z) : (Cond.code ⟨"java/lang/String", "<init>", "([C)V"⟩ jdk_42_method_3_code 2 (Option.none : Option Jvm.ClassFile.FieldType)).before a0 Z = true := hw _ (List.mem_of_getElem? (i := 197) rfl)
theorem own_pd9 : parseMethodDescriptor "([C)V" = some ⟨[(.array .char)], none⟩ := by decide +kernel
theorem own_w196 {Z : State} {a0 : Array Value} (hw : HW a0 Z) : (Cond.instanceMethod ⟨"java/lang/String", "<init>", "([C)V"⟩).before a0 Z = true := hw _ (List.mem_of_getElem? (i := 196) rfl)
theorem d1_46 : decode method_2_code 46 = .ok (.areturn, 1) := by decide +kernel
theorem d1_47 : decode method_2_code 47 = .ok (.new 10, 3) := by decide +kernel
theorem d1_50 : decode method_2_code 50 = .ok (.dup, 1) := by decide +kernel
theorem d1_51 : decode method_2_code 51 = .ok (.iconst 3, 1) := by decide +kernel
theorem sg1_50_2 : decs method_2_code [(50, .dup, 1), (51, .iconst 3, 1)] := ⟨d1_50, d1_51, trivial⟩
theorem d1_52 : decode method_2_code 52 = .ok (.newarray .char, 2) := by decide +kernel
theorem d1_54 : decode method_2_code 54 = .ok (.dup, 1) := by decide +kernel
theorem d1_55 : decode method_2_code 55 = .ok (.iconst 0, 1) := by decide +kernel
theorem d1_56 : decode method_2_code 56 = .ok (.aload_n 1, 1) := by decide +kernel
theorem d1_57 : decode method_2_code 57 = .ok (.iconst 0, 1) := by decide +kernel
theorem sg1_54_4 : decs method_2_code [(54, .dup, 1), (55, .iconst 0, 1), (56, .aload_n 1, 1), (57, .iconst 0, 1)] := ⟨d1_54, d1_55, d1_56, d1_57, trivial⟩
theorem d1_58 : decode method_2_code 58 = .ok (.caload, 1) := by decide +kernel
theorem d1_59 : decode method_2_code 59 = .ok (.castore, 1) := by decide +kernel
theorem d1_60 : decode method_2_code 60 = .ok (.dup, 1) := by decide +kernel
theorem d1_61 : decode method_2_code 61 = .ok (.iconst 1, 1) := by decide +kernel
theorem d1_62 : decode method_2_code 62 = .ok (.aload_n 1, 1) := by decide +kernel
theorem d1_63 : decode method_2_code 63 = .ok (.iconst 1, 1) := by decide +kernel
theorem sg1_60_4 : decs method_2_code [(60, .dup, 1), (61, .iconst 1, 1), (62, .aload_n 1, 1), (63, .iconst 1, 1)] := ⟨d1_60, d1_61, d1_62, d1_63, trivial⟩
theorem d1_64 : decode method_2_code 64 = .ok (.caload, 1) := by decide +kernel
theorem d1_65 : decode method_2_code 65 = .ok (.castore, 1) := by decide +kernel
theorem d1_66 : decode method_2_code 66 = .ok (.dup, 1) := by decide +kernel
theorem d1_67 : decode method_2_code 67 = .ok (.iconst 2, 1) := by decide +kernel
theorem d1_68 : decode method_2_code 68 = .ok (.aload_n 1, 1) := by decide +kernel
theorem d1_69 : decode method_2_code 69 = .ok (.iconst 2, 1) := by decide +kernel
theorem sg1_66_4 : decs method_2_code [(66, .dup, 1), (67, .iconst 2, 1), (68, .aload_n 1, 1), (69, .iconst 2, 1)] := ⟨d1_66, d1_67, d1_68, d1_69, trivial⟩
theorem d1_70 : decode method_2_code 70 = .ok (.caload, 1) := by decide +kernel
theorem d1_71 : decode method_2_code 71 = .ok (.castore, 1) := by decide +kernel
theorem d1_72 : decode method_2_code 72 = .ok (.invokespecial 15, 3) := by decide +kernel
theorem ef_rm41_1 (m : MethodId) (x0 : Addr) (x1 : Int32) (x2 : Addr) (x4 : Int32) : entryFrame m #[(.ref x0), (.int x1), (.ref x2), (.int x1), (.int x4)] 7 = mkF m 0 #[.val (.ref x0), .val (.int x1), .val (.ref x2), .val (.int x1), .val (.int x4), .unset, .unset] [] := by first | (simp [entryFrame, mkF, argsToLocals, Value.category]; done) | rfl
theorem ef_rm40_1 (m : MethodId) (x0 : Addr) (x1 : Int32) (x2 : Int32) : entryFrame m #[(.ref x0), (.int x1), (.int x2)] 6 = mkF m 0 #[.val (.ref x0), .val (.int x1), .val (.int x2), .unset, .unset, .unset] [] := by first | (simp [entryFrame, mkF, argsToLocals, Value.category]; done) | rfl
theorem ef_rm42_1 (m : MethodId) (x0 : Addr) (x1 : Int32) : entryFrame m #[(.ref x0), (.int x1)] 2 = mkF m 0 #[.val (.ref x0), .val (.int x1)] [] := by first | (simp [entryFrame, mkF, argsToLocals, Value.category]; done) | rfl
theorem ef_rm39_1 (m : MethodId) (x0 : Addr) (x1 : Addr) (x2 : Int32) (x3 : Int32) : entryFrame m #[(.ref x0), (.ref x1), (.int x2), (.int x3), .null] 6 = mkF m 0 #[.val (.ref x0), .val (.ref x1), .val (.int x2), .val (.int x3), .val .null, .unset] [] := by first | (simp [entryFrame, mkF, argsToLocals, Value.category]; done) | rfl
theorem ef_rm38_1 (m : MethodId) (x0 : Addr) (x1 : Addr) : entryFrame m #[(.ref x0), (.ref x1)] 2 = mkF m 0 #[.val (.ref x0), .val (.ref x1)] [] := by first | (simp [entryFrame, mkF, argsToLocals, Value.category]; done) | rfl
theorem d1_75 : decode method_2_code 75 = .ok (.areturn, 1) := by decide +kernel
def cs_rm1_1 (i0 u1 u2 u3 : Int32) : List Int32 := (if i0 = (0 : Int32) then [] else (if i0 = (1 : Int32) then [(u1.toInt8.toInt32)] else (if i0 = (2 : Int32) then [(u1.toInt8.toInt32), (u2.toInt8.toInt32)] else [(u1.toInt8.toInt32), (u2.toInt8.toInt32), (u3.toInt8.toInt32)])))
theorem cs_rm1_1_short (i0 u1 u2 u3 : Int32) : (cs_rm1_1 i0 u1 u2 u3).length ≤ 3 := by unfold cs_rm1_1; (repeat' split) <;> simp
theorem ef_rm1_1 (m : MethodId) (x0 : Int32) (x1 : Addr) : entryFrame m #[(.int x0), (.ref x1)] 2 = mkF m 0 #[.val (.int x0), .val (.ref x1)] [] := by first | (simp [entryFrame, mkF, argsToLocals, Value.category]; done) | rfl
theorem own_w16 {Z : State} {a0 : Array Value} (hw : HW a0 Z) : (Cond.methodLink "com/example/wary_meter/warymeter/RefusalMessagePinLaw" 38 ⟨"com/example/wary_meter/warymeter/Refusal", "<init>", "(Ljava/lang/String;Ljava/lang/String;)V"⟩).before a0 Z = true := hw _ (List.mem_of_getElem? (i := 16) rfl)
theorem d2_0 : decode prog_10_method_1_code 0 = .ok (.aload_n 0, 1) := by decide +kernel
theorem own_w19 {Z : State} {a0 : Array Value} (hw : HW a0 Z) : (Cond.methodLink "com/example/wary_meter/warymeter/Refusal" 1 ⟨"java/lang/Record", "<init>", "()V"⟩).before a0 Z = true := hw _ (List.mem_of_getElem? (i := 19) rfl)
theorem sg2_0_1 : decs prog_10_method_1_code [(0, .aload_n 0, 1)] := ⟨d2_0, trivial⟩
theorem d2_1 : decode prog_10_method_1_code 1 = .ok (.invokespecial 1, 3) := by decide +kernel
theorem d3_0 : decode jdk_30_method_1_code 0 = .ok (.aload_n 0, 1) := by decide +kernel
theorem own_w24 {Z : State} {a0 : Array Value} (hw : HW a0 Z) : (Cond.methodLink "java/lang/Record" 1 ⟨"java/lang/Object", "<init>", "()V"⟩).before a0 Z = true := hw _ (List.mem_of_getElem? (i := 24) rfl)
theorem sg3_0_1 : decs jdk_30_method_1_code [(0, .aload_n 0, 1)] := ⟨d3_0, trivial⟩
theorem d3_1 : decode jdk_30_method_1_code 1 = .ok (.invokespecial 1, 3) := by decide +kernel
theorem d3_4 : decode jdk_30_method_1_code 4 = .ok (.return_, 1) := by decide +kernel
theorem ef_rm3_0 (m : MethodId) (x0 : Addr) : entryFrame m #[(.ref x0)] 1 = mkF m 0 #[.val (.ref x0)] [] := by first | (simp [entryFrame, mkF, argsToLocals, Value.category]; done) | rfl
theorem own_pn4 : plainName "java/lang/Record" = true := by first | (simp [plainName, overriddenIn]; done) | decide +kernel
theorem own_w23 {Z : State} {a0 : Array Value} (hw : HW a0 Z) : (Cond.code ⟨"java/lang/Record", "<init>", "()V"⟩ jdk_30_method_1_code 1 (Option.none : Option Jvm.ClassFile.FieldType)).before a0 Z = true := hw _ (List.mem_of_getElem? (i := 23) rfl)
theorem own_w22 {Z : State} {a0 : Array Value} (hw : HW a0 Z) : (Cond.initialized "java/lang/Record").before a0 Z = true := hw _ (List.mem_of_getElem? (i := 22) rfl)
theorem own_pd10 : parseMethodDescriptor "()V" = some ⟨[], none⟩ := by decide +kernel
theorem own_w20 {Z : State} {a0 : Array Value} (hw : HW a0 Z) : (Cond.instanceMethod ⟨"java/lang/Record", "<init>", "()V"⟩).before a0 Z = true := hw _ (List.mem_of_getElem? (i := 20) rfl)
theorem d2_4 : decode prog_10_method_1_code 4 = .ok (.aload_n 0, 1) := by decide +kernel
theorem d2_5 : decode prog_10_method_1_code 5 = .ok (.aload_n 1, 1) := by decide +kernel
theorem sg2_4_2 : decs prog_10_method_1_code [(4, .aload_n 0, 1), (5, .aload_n 1, 1)] := ⟨d2_4, d2_5, trivial⟩
theorem d2_6 : decode prog_10_method_1_code 6 = .ok (.putfield 7, 3) := by decide +kernel
theorem own_w27 {Z : State} {a0 : Array Value} (hw : HW a0 Z) : (Cond.fieldLink "com/example/wary_meter/warymeter/Refusal" 7 "com/example/wary_meter/warymeter/Refusal" "where" "Ljava/lang/String;").before a0 Z = true := hw _ (List.mem_of_getElem? (i := 27) rfl)
theorem d2_9 : decode prog_10_method_1_code 9 = .ok (.aload_n 0, 1) := by decide +kernel
theorem d2_10 : decode prog_10_method_1_code 10 = .ok (.aload_n 2, 1) := by decide +kernel
theorem sg2_9_2 : decs prog_10_method_1_code [(9, .aload_n 0, 1), (10, .aload_n 2, 1)] := ⟨d2_9, d2_10, trivial⟩
theorem d2_11 : decode prog_10_method_1_code 11 = .ok (.putfield 13, 3) := by decide +kernel
theorem own_w29 {Z : State} {a0 : Array Value} (hw : HW a0 Z) : (Cond.fieldLink "com/example/wary_meter/warymeter/Refusal" 13 "com/example/wary_meter/warymeter/Refusal" "problem" "Ljava/lang/String;").before a0 Z = true := hw _ (List.mem_of_getElem? (i := 29) rfl)
theorem d2_14 : decode prog_10_method_1_code 14 = .ok (.return_, 1) := by decide +kernel
theorem ef_rm2_0 (m : MethodId) (x0 : Addr) (x1 : Addr) (x2 : Addr) : entryFrame m #[(.ref x0), (.ref x1), (.ref x2)] 3 = mkF m 0 #[.val (.ref x0), .val (.ref x1), .val (.ref x2)] [] := by first | (simp [entryFrame, mkF, argsToLocals, Value.category]; done) | rfl
theorem own_pn5 : plainName "com/example/wary_meter/warymeter/Refusal" = true := by first | (simp [plainName, overriddenIn]; done) | decide +kernel
theorem own_w18 {Z : State} {a0 : Array Value} (hw : HW a0 Z) : (Cond.code ⟨"com/example/wary_meter/warymeter/Refusal", "<init>", "(Ljava/lang/String;Ljava/lang/String;)V"⟩ prog_10_method_1_code 3 (Option.none : Option Jvm.ClassFile.FieldType)).before a0 Z = true := hw _ (List.mem_of_getElem? (i := 18) rfl)
theorem own_pd11 : parseMethodDescriptor "(Ljava/lang/String;Ljava/lang/String;)V" = some ⟨[(.object "java/lang/String"), (.object "java/lang/String")], none⟩ := by decide +kernel
theorem own_w17 {Z : State} {a0 : Array Value} (hw : HW a0 Z) : (Cond.instanceMethod ⟨"com/example/wary_meter/warymeter/Refusal", "<init>", "(Ljava/lang/String;Ljava/lang/String;)V"⟩).before a0 Z = true := hw _ (List.mem_of_getElem? (i := 17) rfl)
theorem own_w31 {Z : State} {a0 : Array Value} (hw : HW a0 Z) : (Cond.methodLink "com/example/wary_meter/warymeter/RefusalMessagePinLaw" 41 ⟨"com/example/wary_meter/warymeter/Refusal", "message", "()Ljava/lang/String;"⟩).before a0 Z = true := hw _ (List.mem_of_getElem? (i := 31) rfl)
theorem d5_0 : decode prog_10_method_2_code 0 = .ok (.new 16, 3) := by decide +kernel
theorem own_w36 {Z : State} {a0 : Array Value} (hw : HW a0 Z) : (Cond.classLink "com/example/wary_meter/warymeter/Refusal" 16 "java/lang/StringBuilder").before a0 Z = true := hw _ (List.mem_of_getElem? (i := 36) rfl)
theorem own_w37 {Z : State} {a0 : Array Value} (hw : HW a0 Z) : (Cond.instantiable "java/lang/StringBuilder" 4).before a0 Z = true := hw _ (List.mem_of_getElem? (i := 37) rfl)
theorem own_w38 {Z : State} {a0 : Array Value} (hw : HW a0 Z) : (Cond.initialized "java/lang/StringBuilder").before a0 Z = true := hw _ (List.mem_of_getElem? (i := 38) rfl)
theorem own_w51 {Z : State} {a0 : Array Value} (hw : HW a0 Z) : (Cond.lays "java/lang/StringBuilder" "java/lang/AbstractStringBuilder" "value" "[B").before a0 Z = true := hw _ (List.mem_of_getElem? (i := 51) rfl)
theorem own_w53 {Z : State} {a0 : Array Value} (hw : HW a0 Z) : (Cond.lays "java/lang/StringBuilder" "java/lang/AbstractStringBuilder" "coder" "B").before a0 Z = true := hw _ (List.mem_of_getElem? (i := 53) rfl)
theorem own_w78 {Z : State} {a0 : Array Value} (hw : HW a0 Z) : (Cond.lays "java/lang/StringBuilder" "java/lang/AbstractStringBuilder" "count" "I").before a0 Z = true := hw _ (List.mem_of_getElem? (i := 78) rfl)
theorem d5_3 : decode prog_10_method_2_code 3 = .ok (.dup, 1) := by decide +kernel
theorem own_w39 {Z : State} {a0 : Array Value} (hw : HW a0 Z) : (Cond.methodLink "com/example/wary_meter/warymeter/Refusal" 18 ⟨"java/lang/StringBuilder", "<init>", "()V"⟩).before a0 Z = true := hw _ (List.mem_of_getElem? (i := 39) rfl)
theorem sg5_3_1 : decs prog_10_method_2_code [(3, .dup, 1)] := ⟨d5_3, trivial⟩
theorem d5_4 : decode prog_10_method_2_code 4 = .ok (.invokespecial 18, 3) := by decide +kernel
theorem d6_0 : decode jdk_67_method_1_code 0 = .ok (.aload_n 0, 1) := by decide +kernel
theorem d6_1 : decode jdk_67_method_1_code 1 = .ok (.bipush 16, 2) := by decide +kernel
theorem own_w42 {Z : State} {a0 : Array Value} (hw : HW a0 Z) : (Cond.methodLink "java/lang/StringBuilder" 1 ⟨"java/lang/AbstractStringBuilder", "<init>", "(I)V"⟩).before a0 Z = true := hw _ (List.mem_of_getElem? (i := 42) rfl)
theorem sg6_0_2 : decs jdk_67_method_1_code [(0, .aload_n 0, 1), (1, .bipush 16, 2)] := ⟨d6_0, d6_1, trivial⟩
theorem d6_3 : decode jdk_67_method_1_code 3 = .ok (.invokespecial 1, 3) := by decide +kernel
theorem d7_0 : decode jdk_68_method_2_code 0 = .ok (.aload_n 0, 1) := by decide +kernel
theorem own_w48 {Z : State} {a0 : Array Value} (hw : HW a0 Z) : (Cond.methodLink "java/lang/AbstractStringBuilder" 3 ⟨"java/lang/Object", "<init>", "()V"⟩).before a0 Z = true := hw _ (List.mem_of_getElem? (i := 48) rfl)
theorem sg7_0_1 : decs jdk_68_method_2_code [(0, .aload_n 0, 1)] := ⟨d7_0, trivial⟩
theorem d7_1 : decode jdk_68_method_2_code 1 = .ok (.invokespecial 3, 3) := by decide +kernel
theorem d7_4 : decode jdk_68_method_2_code 4 = .ok (.getstatic 18, 3) := by decide +kernel
theorem own_w49 {Z : State} {a0 : Array Value} (hw : HW a0 Z) : (Cond.fieldLink "java/lang/AbstractStringBuilder" 18 "java/lang/String" "COMPACT_STRINGS" "Z").before a0 Z = true := hw _ (List.mem_of_getElem? (i := 49) rfl)
theorem d7_7 : decode jdk_68_method_2_code 7 = .ok (.ifCond .eq 18, 3) := by decide +kernel
theorem d7_10 : decode jdk_68_method_2_code 10 = .ok (.aload_n 0, 1) := by decide +kernel
theorem d7_11 : decode jdk_68_method_2_code 11 = .ok (.iload_n 1, 1) := by decide +kernel
theorem sg7_10_2 : decs jdk_68_method_2_code [(10, .aload_n 0, 1), (11, .iload_n 1, 1)] := ⟨d7_10, d7_11, trivial⟩
theorem d7_12 : decode jdk_68_method_2_code 12 = .ok (.newarray .byte, 2) := by decide +kernel
theorem d7_14 : decode jdk_68_method_2_code 14 = .ok (.putfield 15, 3) := by decide +kernel
theorem own_w50 {Z : State} {a0 : Array Value} (hw : HW a0 Z) : (Cond.fieldLink "java/lang/AbstractStringBuilder" 15 "java/lang/AbstractStringBuilder" "value" "[B").before a0 Z = true := hw _ (List.mem_of_getElem? (i := 50) rfl)
theorem d7_17 : decode jdk_68_method_2_code 17 = .ok (.aload_n 0, 1) := by decide +kernel
theorem d7_18 : decode jdk_68_method_2_code 18 = .ok (.iconst 0, 1) := by decide +kernel
theorem sg7_17_2 : decs jdk_68_method_2_code [(17, .aload_n 0, 1), (18, .iconst 0, 1)] := ⟨d7_17, d7_18, trivial⟩
theorem d7_19 : decode jdk_68_method_2_code 19 = .ok (.putfield 22, 3) := by decide +kernel
theorem own_w52 {Z : State} {a0 : Array Value} (hw : HW a0 Z) : (Cond.fieldLink "java/lang/AbstractStringBuilder" 22 "java/lang/AbstractStringBuilder" "coder" "B").before a0 Z = true := hw _ (List.mem_of_getElem? (i := 52) rfl)
theorem d7_22 : decode jdk_68_method_2_code 22 = .ok (.goto 16, 3) := by decide +kernel
theorem sg7_22_1 : decs jdk_68_method_2_code [(22, .goto 16, 3)] := ⟨d7_22, trivial⟩
theorem d7_38 : decode jdk_68_method_2_code 38 = .ok (.return_, 1) := by decide +kernel
theorem ef_rm7_0 (m : MethodId) (x0 : Addr) (x1 : Int32) : entryFrame m #[(.ref x0), (.int x1)] 2 = mkF m 0 #[.val (.ref x0), .val (.int x1)] [] := by first | (simp [entryFrame, mkF, argsToLocals, Value.category]; done) | rfl
theorem own_pn6 : plainName "java/lang/AbstractStringBuilder" = true := by first | (simp [plainName, overriddenIn]; done) | decide +kernel
theorem own_w47 {Z : State} {a0 : Array Value} (hw : HW a0 Z) : (Cond.code ⟨"java/lang/AbstractStringBuilder", "<init>", "(I)V"⟩ jdk_68_method_2_code 2 (Option.none : Option Jvm.ClassFile.FieldType)).before a0 Z = true := hw _ (List.mem_of_getElem? (i := 47) rfl)
theorem own_w46 {Z : State} {a0 : Array Value} (hw : HW a0 Z) : (Cond.initialized "java/lang/AbstractStringBuilder").before a0 Z = true := hw _ (List.mem_of_getElem? (i := 46) rfl)
theorem own_pd12 : parseMethodDescriptor "(I)V" = some ⟨[.int], none⟩ := by decide +kernel
theorem own_w43 {Z : State} {a0 : Array Value} (hw : HW a0 Z) : (Cond.instanceMethod ⟨"java/lang/AbstractStringBuilder", "<init>", "(I)V"⟩).before a0 Z = true := hw _ (List.mem_of_getElem? (i := 43) rfl)
theorem d6_6 : decode jdk_67_method_1_code 6 = .ok (.return_, 1) := by decide +kernel
theorem ef_rm6_0 (m : MethodId) (x0 : Addr) : entryFrame m #[(.ref x0)] 1 = mkF m 0 #[.val (.ref x0)] [] := by first | (simp [entryFrame, mkF, argsToLocals, Value.category]; done) | rfl
theorem own_pn7 : plainName "java/lang/StringBuilder" = true := by first | (simp [plainName, overriddenIn]; done) | decide +kernel
theorem own_w41 {Z : State} {a0 : Array Value} (hw : HW a0 Z) : (Cond.code ⟨"java/lang/StringBuilder", "<init>", "()V"⟩ jdk_67_method_1_code 1 (Option.none : Option Jvm.ClassFile.FieldType)).before a0 Z = true := hw _ (List.mem_of_getElem? (i := 41) rfl)
theorem own_w40 {Z : State} {a0 : Array Value} (hw : HW a0 Z) : (Cond.instanceMethod ⟨"java/lang/StringBuilder", "<init>", "()V"⟩).before a0 Z = true := hw _ (List.mem_of_getElem? (i := 40) rfl)
theorem d5_7 : decode prog_10_method_2_code 7 = .ok (.aload_n 0, 1) := by decide +kernel
theorem sg5_7_1 : decs prog_10_method_2_code [(7, .aload_n 0, 1)] := ⟨d5_7, trivial⟩
theorem d5_8 : decode prog_10_method_2_code 8 = .ok (.getfield 7, 3) := by decide +kernel
theorem own_w54 {Z : State} {a0 : Array Value} (hw : HW a0 Z) : (Cond.methodLink "com/example/wary_meter/warymeter/Refusal" 19 ⟨"java/lang/StringBuilder", "append", "(Ljava/lang/String;)Ljava/lang/StringBuilder;"⟩).before a0 Z = true := hw _ (List.mem_of_getElem? (i := 54) rfl)
theorem d5_11 : decode prog_10_method_2_code 11 = .ok (.invokevirtual 19, 3) := by decide +kernel
theorem d8_0 : decode jdk_67_method_7_code 0 = .ok (.aload_n 0, 1) := by decide +kernel
theorem d8_1 : decode jdk_67_method_7_code 1 = .ok (.aload_n 1, 1) := by decide +kernel
theorem own_w59 {Z : State} {a0 : Array Value} (hw : HW a0 Z) : (Cond.methodLink "java/lang/StringBuilder" 29 ⟨"java/lang/AbstractStringBuilder", "append", "(Ljava/lang/String;)Ljava/lang/AbstractStringBuilder;"⟩).before a0 Z = true := hw _ (List.mem_of_getElem? (i := 59) rfl)
theorem sg8_0_2 : decs jdk_67_method_7_code [(0, .aload_n 0, 1), (1, .aload_n 1, 1)] := ⟨d8_0, d8_1, trivial⟩
theorem d8_2 : decode jdk_67_method_7_code 2 = .ok (.invokespecial 29, 3) := by decide +kernel
theorem d9_0 : decode jdk_68_method_22_code 0 = .ok (.aload_n 1, 1) := by decide +kernel
theorem sg9_0_1 : decs jdk_68_method_22_code [(0, .aload_n 1, 1)] := ⟨d9_0, trivial⟩
theorem d9_1 : decode jdk_68_method_22_code 1 = .ok (.ifnonnull 8, 3) := by decide +kernel
theorem d9_9 : decode jdk_68_method_22_code 9 = .ok (.aload_n 1, 1) := by decide +kernel
theorem own_w64 {Z : State} {a0 : Array Value} (hw : HW a0 Z) : (Cond.methodLink "java/lang/AbstractStringBuilder" 32 ⟨"java/lang/String", "length", "()I"⟩).before a0 Z = true := hw _ (List.mem_of_getElem? (i := 64) rfl)
theorem sg9_9_1 : decs jdk_68_method_22_code [(9, .aload_n 1, 1)] := ⟨d9_9, trivial⟩
theorem d9_10 : decode jdk_68_method_22_code 10 = .ok (.invokevirtual 32, 3) := by decide +kernel
theorem d10_0 : decode jdk_42_method_54_code 0 = .ok (.aload_n 0, 1) := by decide +kernel
theorem sg10_0_1 : decs jdk_42_method_54_code [(0, .aload_n 0, 1)] := ⟨d10_0, trivial⟩
theorem d10_1 : decode jdk_42_method_54_code 1 = .ok (.getfield 9, 3) := by decide +kernel
theorem d10_4 : decode jdk_42_method_54_code 4 = .ok (.arraylength, 1) := by decide +kernel
theorem d10_5 : decode jdk_42_method_54_code 5 = .ok (.aload_n 0, 1) := by decide +kernel
theorem own_w70 {Z : State} {a0 : Array Value} (hw : HW a0 Z) : (Cond.methodLink "java/lang/String" 335 ⟨"java/lang/String", "coder", "()B"⟩).before a0 Z = true := hw _ (List.mem_of_getElem? (i := 70) rfl)
theorem sg10_5_1 : decs jdk_42_method_54_code [(5, .aload_n 0, 1)] := ⟨d10_5, trivial⟩
theorem d10_6 : decode jdk_42_method_54_code 6 = .ok (.invokevirtual 335, 3) := by decide +kernel
theorem d11_0 : decode jdk_42_method_152_code 0 = .ok (.getstatic 38, 3) := by decide +kernel
theorem d11_3 : decode jdk_42_method_152_code 3 = .ok (.ifCond .eq 10, 3) := by decide +kernel
theorem d11_6 : decode jdk_42_method_152_code 6 = .ok (.aload_n 0, 1) := by decide +kernel
theorem sg11_6_1 : decs jdk_42_method_152_code [(6, .aload_n 0, 1)] := ⟨d11_6, trivial⟩
theorem d11_7 : decode jdk_42_method_152_code 7 = .ok (.getfield 15, 3) := by decide +kernel
theorem d11_10 : decode jdk_42_method_152_code 10 = .ok (.goto 4, 3) := by decide +kernel
theorem sg11_10_1 : decs jdk_42_method_152_code [(10, .goto 4, 3)] := ⟨d11_10, trivial⟩
theorem d11_14 : decode jdk_42_method_152_code 14 = .ok (.ireturn, 1) := by decide +kernel
theorem ef_rm11_0 (m : MethodId) (x0 : Addr) : entryFrame m #[(.ref x0)] 1 = mkF m 0 #[.val (.ref x0)] [] := by first | (simp [entryFrame, mkF, argsToLocals, Value.category]; done) | rfl
theorem own_w74 {Z : State} {a0 : Array Value} (hw : HW a0 Z) : (Cond.code ⟨"java/lang/String", "coder", "()B"⟩ jdk_42_method_152_code 1 (Option.some Jvm.ClassFile.FieldType.byte)).before a0 Z = true := hw _ (List.mem_of_getElem? (i := 74) rfl)
theorem own_pd13 : parseMethodDescriptor "()B" = some ⟨[], some .byte⟩ := by decide +kernel
theorem own_w73 {Z : State} {a0 : Array Value} (hw : HW a0 Z) : (Cond.selects "java/lang/String" ⟨"java/lang/String", "coder", "()B"⟩ ⟨"java/lang/String", "coder", "()B"⟩).before a0 Z = true := hw _ (List.mem_of_getElem? (i := 73) rfl)
theorem own_w71 {Z : State} {a0 : Array Value} (hw : HW a0 Z) : (Cond.declares ⟨"java/lang/String", "coder", "()B"⟩).before a0 Z = true := hw _ (List.mem_of_getElem? (i := 71) rfl)
theorem own_w72 {Z : State} {a0 : Array Value} (hw : HW a0 Z) : (Cond.instanceMethod ⟨"java/lang/String", "coder", "()B"⟩).before a0 Z = true := hw _ (List.mem_of_getElem? (i := 72) rfl)
theorem d10_9 : decode jdk_42_method_54_code 9 = .ok (.ishr, 1) := by decide +kernel
theorem sg10_9_1 : decs jdk_42_method_54_code [(9, .ishr, 1)] := ⟨d10_9, trivial⟩
theorem d10_10 : decode jdk_42_method_54_code 10 = .ok (.ireturn, 1) := by decide +kernel
theorem ef_rm10_0 (m : MethodId) (x0 : Addr) : entryFrame m #[(.ref x0)] 1 = mkF m 0 #[.val (.ref x0)] [] := by first | (simp [entryFrame, mkF, argsToLocals, Value.category]; done) | rfl
theorem own_w68 {Z : State} {a0 : Array Value} (hw : HW a0 Z) : (Cond.code ⟨"java/lang/String", "length", "()I"⟩ jdk_42_method_54_code 1 (Option.some Jvm.ClassFile.FieldType.int)).before a0 Z = true := hw _ (List.mem_of_getElem? (i := 68) rfl)
theorem own_pd14 : parseMethodDescriptor "()I" = some ⟨[], some .int⟩ := by decide +kernel
theorem own_w67 {Z : State} {a0 : Array Value} (hw : HW a0 Z) : (Cond.selects "java/lang/String" ⟨"java/lang/String", "length", "()I"⟩ ⟨"java/lang/String", "length", "()I"⟩).before a0 Z = true := hw _ (List.mem_of_getElem? (i := 67) rfl)
theorem own_w65 {Z : State} {a0 : Array Value} (hw : HW a0 Z) : (Cond.declares ⟨"java/lang/String", "length", "()I"⟩).before a0 Z = true := hw _ (List.mem_of_getElem? (i := 65) rfl)
theorem own_w66 {Z : State} {a0 : Array Value} (hw : HW a0 Z) : (Cond.instanceMethod ⟨"java/lang/String", "length", "()I"⟩).before a0 Z = true := hw _ (List.mem_of_getElem? (i := 66) rfl)
theorem d9_13 : decode jdk_68_method_22_code 13 = .ok (.istore_n 2, 1) := by decide +kernel
theorem d9_14 : decode jdk_68_method_22_code 14 = .ok (.aload_n 0, 1) := by decide +kernel
theorem d9_15 : decode jdk_68_method_22_code 15 = .ok (.aload_n 0, 1) := by decide +kernel
theorem sg9_13_3 : decs jdk_68_method_22_code [(13, .istore_n 2, 1), (14, .aload_n 0, 1), (15, .aload_n 0, 1)] := ⟨d9_13, d9_14, d9_15, trivial⟩
theorem d9_16 : decode jdk_68_method_22_code 16 = .ok (.getfield 79, 3) := by decide +kernel
theorem own_w77 {Z : State} {a0 : Array Value} (hw : HW a0 Z) : (Cond.fieldLink "java/lang/AbstractStringBuilder" 79 "java/lang/AbstractStringBuilder" "count" "I").before a0 Z = true := hw _ (List.mem_of_getElem? (i := 77) rfl)
theorem d9_19 : decode jdk_68_method_22_code 19 = .ok (.iload_n 2, 1) := by decide +kernel
theorem d9_20 : decode jdk_68_method_22_code 20 = .ok (.iadd, 1) := by decide +kernel
theorem sg9_19_2 : decs jdk_68_method_22_code [(19, .iload_n 2, 1), (20, .iadd, 1)] := ⟨d9_19, d9_20, trivial⟩
theorem own_w79 {Z : State} {a0 : Array Value} (hw : HW a0 Z) : (Cond.methodLink "java/lang/AbstractStringBuilder" 100 ⟨"java/lang/AbstractStringBuilder", "ensureCapacityInternal", "(I)V"⟩).before a0 Z = true := hw _ (List.mem_of_getElem? (i := 79) rfl)
theorem d9_21 : decode jdk_68_method_22_code 21 = .ok (.invokevirtual 100, 3) := by decide +kernel
theorem d12_0 : decode jdk_68_method_9_code 0 = .ok (.aload_n 0, 1) := by decide +kernel
theorem sg12_0_1 : decs jdk_68_method_9_code [(0, .aload_n 0, 1)] := ⟨d12_0, trivial⟩
theorem d12_1 : decode jdk_68_method_9_code 1 = .ok (.getfield 15, 3) := by decide +kernel
theorem d12_4 : decode jdk_68_method_9_code 4 = .ok (.arraylength, 1) := by decide +kernel
theorem d12_5 : decode jdk_68_method_9_code 5 = .ok (.aload_n 0, 1) := by decide +kernel
theorem sg12_5_1 : decs jdk_68_method_9_code [(5, .aload_n 0, 1)] := ⟨d12_5, trivial⟩
theorem d12_6 : decode jdk_68_method_9_code 6 = .ok (.getfield 22, 3) := by decide +kernel
theorem d12_9 : decode jdk_68_method_9_code 9 = .ok (.ishr, 1) := by decide +kernel
theorem d12_10 : decode jdk_68_method_9_code 10 = .ok (.istore_n 2, 1) := by decide +kernel
theorem d12_11 : decode jdk_68_method_9_code 11 = .ok (.iload_n 1, 1) := by decide +kernel
theorem d12_12 : decode jdk_68_method_9_code 12 = .ok (.iload_n 2, 1) := by decide +kernel
theorem d12_13 : decode jdk_68_method_9_code 13 = .ok (.isub, 1) := by decide +kernel
theorem sg12_9_5 : decs jdk_68_method_9_code [(9, .ishr, 1), (10, .istore_n 2, 1), (11, .iload_n 1, 1), (12, .iload_n 2, 1), (13, .isub, 1)] := ⟨d12_9, d12_10, d12_11, d12_12, d12_13, trivial⟩
theorem d12_14 : decode jdk_68_method_9_code 14 = .ok (.ifCond .le 24, 3) := by decide +kernel
theorem d12_38 : decode jdk_68_method_9_code 38 = .ok (.return_, 1) := by decide +kernel
theorem ef_rm12_0 (m : MethodId) (x0 : Addr) (x1 : Int32) : entryFrame m #[(.ref x0), (.int x1)] 3 = mkF m 0 #[.val (.ref x0), .val (.int x1), .unset] [] := by first | (simp [entryFrame, mkF, argsToLocals, Value.category]; done) | rfl
theorem own_w83 {Z : State} {a0 : Array Value} (hw : HW a0 Z) : (Cond.code ⟨"java/lang/AbstractStringBuilder", "ensureCapacityInternal", "(I)V"⟩ jdk_68_method_9_code 3 (Option.none : Option Jvm.ClassFile.FieldType)).before a0 Z = true := hw _ (List.mem_of_getElem? (i := 83) rfl)
theorem own_w82 {Z : State} {a0 : Array Value} (hw : HW a0 Z) : (Cond.selects "java/lang/StringBuilder" ⟨"java/lang/AbstractStringBuilder", "ensureCapacityInternal", "(I)V"⟩ ⟨"java/lang/AbstractStringBuilder", "ensureCapacityInternal", "(I)V"⟩).before a0 Z = true := hw _ (List.mem_of_getElem? (i := 82) rfl)
theorem own_w81 {Z : State} {a0 : Array Value} (hw : HW a0 Z) : (Cond.privateMethod ⟨"java/lang/AbstractStringBuilder", "ensureCapacityInternal", "(I)V"⟩).before a0 Z = true := hw _ (List.mem_of_getElem? (i := 81) rfl)
theorem own_w80 {Z : State} {a0 : Array Value} (hw : HW a0 Z) : (Cond.instanceMethod ⟨"java/lang/AbstractStringBuilder", "ensureCapacityInternal", "(I)V"⟩).before a0 Z = true := hw _ (List.mem_of_getElem? (i := 80) rfl)
theorem d9_24 : decode jdk_68_method_22_code 24 = .ok (.aload_n 0, 1) := by decide +kernel
theorem d9_25 : decode jdk_68_method_22_code 25 = .ok (.aload_n 0, 1) := by decide +kernel
theorem sg9_24_2 : decs jdk_68_method_22_code [(24, .aload_n 0, 1), (25, .aload_n 0, 1)] := ⟨d9_24, d9_25, trivial⟩
theorem d9_26 : decode jdk_68_method_22_code 26 = .ok (.getfield 79, 3) := by decide +kernel
theorem d9_29 : decode jdk_68_method_22_code 29 = .ok (.aload_n 1, 1) := by decide +kernel
theorem own_w84 {Z : State} {a0 : Array Value} (hw : HW a0 Z) : (Cond.methodLink "java/lang/AbstractStringBuilder" 208 ⟨"java/lang/AbstractStringBuilder", "putStringAt", "(ILjava/lang/String;)V"⟩).before a0 Z = true := hw _ (List.mem_of_getElem? (i := 84) rfl)
theorem sg9_29_1 : decs jdk_68_method_22_code [(29, .aload_n 1, 1)] := ⟨d9_29, trivial⟩
theorem d9_30 : decode jdk_68_method_22_code 30 = .ok (.invokevirtual 208, 3) := by decide +kernel
theorem d13_0 : decode jdk_68_method_73_code 0 = .ok (.aload_n 0, 1) := by decide +kernel
theorem d13_1 : decode jdk_68_method_73_code 1 = .ok (.aload_n 2, 1) := by decide +kernel
theorem own_w89 {Z : State} {a0 : Array Value} (hw : HW a0 Z) : (Cond.methodLink "java/lang/AbstractStringBuilder" 397 ⟨"java/lang/AbstractStringBuilder", "inflateIfNeededFor", "(Ljava/lang/String;)V"⟩).before a0 Z = true := hw _ (List.mem_of_getElem? (i := 89) rfl)
theorem sg13_0_2 : decs jdk_68_method_73_code [(0, .aload_n 0, 1), (1, .aload_n 2, 1)] := ⟨d13_0, d13_1, trivial⟩
theorem d13_2 : decode jdk_68_method_73_code 2 = .ok (.invokevirtual 397, 3) := by decide +kernel
theorem d14_0 : decode jdk_68_method_71_code 0 = .ok (.getstatic 18, 3) := by decide +kernel
theorem d14_3 : decode jdk_68_method_71_code 3 = .ok (.ifCond .eq 18, 3) := by decide +kernel
theorem d14_6 : decode jdk_68_method_71_code 6 = .ok (.aload_n 0, 1) := by decide +kernel
theorem sg14_6_1 : decs jdk_68_method_71_code [(6, .aload_n 0, 1)] := ⟨d14_6, trivial⟩
theorem d14_7 : decode jdk_68_method_71_code 7 = .ok (.getfield 22, 3) := by decide +kernel
theorem d14_10 : decode jdk_68_method_71_code 10 = .ok (.aload_n 1, 1) := by decide +kernel
theorem own_w94 {Z : State} {a0 : Array Value} (hw : HW a0 Z) : (Cond.methodLink "java/lang/AbstractStringBuilder" 40 ⟨"java/lang/String", "coder", "()B"⟩).before a0 Z = true := hw _ (List.mem_of_getElem? (i := 94) rfl)
theorem sg14_10_1 : decs jdk_68_method_71_code [(10, .aload_n 1, 1)] := ⟨d14_10, trivial⟩
theorem d14_11 : decode jdk_68_method_71_code 11 = .ok (.invokevirtual 40, 3) := by decide +kernel
theorem d14_14 : decode jdk_68_method_71_code 14 = .ok (.if_icmp .eq 7, 3) := by decide +kernel
theorem d14_21 : decode jdk_68_method_71_code 21 = .ok (.return_, 1) := by decide +kernel
theorem ef_rm14_0 (m : MethodId) (x0 : Addr) (x1 : Addr) : entryFrame m #[(.ref x0), (.ref x1)] 2 = mkF m 0 #[.val (.ref x0), .val (.ref x1)] [] := by first | (simp [entryFrame, mkF, argsToLocals, Value.category]; done) | rfl
theorem own_w93 {Z : State} {a0 : Array Value} (hw : HW a0 Z) : (Cond.code ⟨"java/lang/AbstractStringBuilder", "inflateIfNeededFor", "(Ljava/lang/String;)V"⟩ jdk_68_method_71_code 2 (Option.none : Option Jvm.ClassFile.FieldType)).before a0 Z = true := hw _ (List.mem_of_getElem? (i := 93) rfl)
theorem own_pd15 : parseMethodDescriptor "(Ljava/lang/String;)V" = some ⟨[(.object "java/lang/String")], none⟩ := by decide +kernel
theorem own_w92 {Z : State} {a0 : Array Value} (hw : HW a0 Z) : (Cond.selects "java/lang/StringBuilder" ⟨"java/lang/AbstractStringBuilder", "inflateIfNeededFor", "(Ljava/lang/String;)V"⟩ ⟨"java/lang/AbstractStringBuilder", "inflateIfNeededFor", "(Ljava/lang/String;)V"⟩).before a0 Z = true := hw _ (List.mem_of_getElem? (i := 92) rfl)
theorem own_w91 {Z : State} {a0 : Array Value} (hw : HW a0 Z) : (Cond.privateMethod ⟨"java/lang/AbstractStringBuilder", "inflateIfNeededFor", "(Ljava/lang/String;)V"⟩).before a0 Z = true := hw _ (List.mem_of_getElem? (i := 91) rfl)
theorem own_w90 {Z : State} {a0 : Array Value} (hw : HW a0 Z) : (Cond.instanceMethod ⟨"java/lang/AbstractStringBuilder", "inflateIfNeededFor", "(Ljava/lang/String;)V"⟩).before a0 Z = true := hw _ (List.mem_of_getElem? (i := 90) rfl)
theorem d13_5 : decode jdk_68_method_73_code 5 = .ok (.aload_n 2, 1) := by decide +kernel
theorem d13_6 : decode jdk_68_method_73_code 6 = .ok (.aload_n 0, 1) := by decide +kernel
theorem sg13_5_2 : decs jdk_68_method_73_code [(5, .aload_n 2, 1), (6, .aload_n 0, 1)] := ⟨d13_5, d13_6, trivial⟩
theorem d13_7 : decode jdk_68_method_73_code 7 = .ok (.getfield 15, 3) := by decide +kernel
theorem d13_10 : decode jdk_68_method_73_code 10 = .ok (.iload_n 1, 1) := by decide +kernel
theorem d13_11 : decode jdk_68_method_73_code 11 = .ok (.aload_n 0, 1) := by decide +kernel
theorem sg13_10_2 : decs jdk_68_method_73_code [(10, .iload_n 1, 1), (11, .aload_n 0, 1)] := ⟨d13_10, d13_11, trivial⟩
theorem d13_12 : decode jdk_68_method_73_code 12 = .ok (.getfield 22, 3) := by decide +kernel
theorem own_w95 {Z : State} {a0 : Array Value} (hw : HW a0 Z) : (Cond.methodLink "java/lang/AbstractStringBuilder" 399 ⟨"java/lang/String", "getBytes", "([BIB)V"⟩).before a0 Z = true := hw _ (List.mem_of_getElem? (i := 95) rfl)
theorem d13_15 : decode jdk_68_method_73_code 15 = .ok (.invokevirtual 399, 3) := by decide +kernel
theorem d15_0 : decode jdk_42_method_147_code 0 = .ok (.aload_n 0, 1) := by decide +kernel
theorem sg15_0_1 : decs jdk_42_method_147_code [(0, .aload_n 0, 1)] := ⟨d15_0, trivial⟩
theorem d15_1 : decode jdk_42_method_147_code 1 = .ok (.invokevirtual 335, 3) := by decide +kernel
theorem d15_4 : decode jdk_42_method_147_code 4 = .ok (.iload_n 3, 1) := by decide +kernel
theorem sg15_4_1 : decs jdk_42_method_147_code [(4, .iload_n 3, 1)] := ⟨d15_4, trivial⟩
theorem d15_5 : decode jdk_42_method_147_code 5 = .ok (.if_icmp .ne 23, 3) := by decide +kernel
theorem d15_8 : decode jdk_42_method_147_code 8 = .ok (.aload_n 0, 1) := by decide +kernel
theorem sg15_8_1 : decs jdk_42_method_147_code [(8, .aload_n 0, 1)] := ⟨d15_8, trivial⟩
theorem d15_9 : decode jdk_42_method_147_code 9 = .ok (.getfield 9, 3) := by decide +kernel
theorem d15_12 : decode jdk_42_method_147_code 12 = .ok (.iconst 0, 1) := by decide +kernel
theorem d15_13 : decode jdk_42_method_147_code 13 = .ok (.aload_n 1, 1) := by decide +kernel
theorem d15_14 : decode jdk_42_method_147_code 14 = .ok (.iload_n 2, 1) := by decide +kernel
theorem d15_15 : decode jdk_42_method_147_code 15 = .ok (.iload_n 3, 1) := by decide +kernel
theorem d15_16 : decode jdk_42_method_147_code 16 = .ok (.ishl, 1) := by decide +kernel
theorem sg15_12_5 : decs jdk_42_method_147_code [(12, .iconst 0, 1), (13, .aload_n 1, 1), (14, .iload_n 2, 1), (15, .iload_n 3, 1), (16, .ishl, 1)] := ⟨d15_12, d15_13, d15_14, d15_15, d15_16, trivial⟩
theorem d15_17 : decode jdk_42_method_147_code 17 = .ok (.aload_n 0, 1) := by decide +kernel
theorem sg15_17_1 : decs jdk_42_method_147_code [(17, .aload_n 0, 1)] := ⟨d15_17, trivial⟩
theorem d15_18 : decode jdk_42_method_147_code 18 = .ok (.getfield 9, 3) := by decide +kernel
theorem d15_21 : decode jdk_42_method_147_code 21 = .ok (.arraylength, 1) := by decide +kernel
theorem own_w100 {Z : State} {a0 : Array Value} (hw : HW a0 Z) : (Cond.methodLink "java/lang/String" 212 ⟨"java/lang/System", "arraycopy", "(Ljava/lang/Object;ILjava/lang/Object;II)V"⟩).before a0 Z = true := hw _ (List.mem_of_getElem? (i := 100) rfl)
theorem d15_22 : decode jdk_42_method_147_code 22 = .ok (.invokestatic 212, 3) := by decide +kernel
theorem own_w103 {Z : State} {a0 : Array Value} (hw : HW a0 Z) : (Cond.native ⟨"java/lang/System", "arraycopy", "(Ljava/lang/Object;ILjava/lang/Object;II)V"⟩).before a0 Z = true := hw _ (List.mem_of_getElem? (i := 103) rfl)
theorem own_w101 {Z : State} {a0 : Array Value} (hw : HW a0 Z) : (Cond.static ⟨"java/lang/System", "arraycopy", "(Ljava/lang/Object;ILjava/lang/Object;II)V"⟩).before a0 Z = true := hw _ (List.mem_of_getElem? (i := 101) rfl)
theorem own_w102 {Z : State} {a0 : Array Value} (hw : HW a0 Z) : (Cond.initialized "java/lang/System").before a0 Z = true := hw _ (List.mem_of_getElem? (i := 102) rfl)
theorem d15_25 : decode jdk_42_method_147_code 25 = .ok (.goto 18, 3) := by decide +kernel
theorem sg15_25_1 : decs jdk_42_method_147_code [(25, .goto 18, 3)] := ⟨d15_25, trivial⟩
theorem d15_43 : decode jdk_42_method_147_code 43 = .ok (.return_, 1) := by decide +kernel
theorem ef_rm15_0 (m : MethodId) (x0 : Addr) (x1 : Addr) (x2 : Int32) (x3 : Int32) : entryFrame m #[(.ref x0), (.ref x1), (.int x2), (.int x3)] 4 = mkF m 0 #[.val (.ref x0), .val (.ref x1), .val (.int x2), .val (.int x3)] [] := by first | (simp [entryFrame, mkF, argsToLocals, Value.category]; done) | rfl
theorem own_w99 {Z : State} {a0 : Array Value} (hw : HW a0 Z) : (Cond.code ⟨"java/lang/String", "getBytes", "([BIB)V"⟩ jdk_42_method_147_code 4 (Option.none : Option Jvm.ClassFile.FieldType)).before a0 Z = true := hw _ (List.mem_of_getElem? (i := 99) rfl)
theorem own_pd16 : parseMethodDescriptor "([BIB)V" = some ⟨[(.array .byte), .int, .byte], none⟩ := by decide +kernel
theorem own_w98 {Z : State} {a0 : Array Value} (hw : HW a0 Z) : (Cond.selects "java/lang/String" ⟨"java/lang/String", "getBytes", "([BIB)V"⟩ ⟨"java/lang/String", "getBytes", "([BIB)V"⟩).before a0 Z = true := hw _ (List.mem_of_getElem? (i := 98) rfl)
theorem own_w96 {Z : State} {a0 : Array Value} (hw : HW a0 Z) : (Cond.declares ⟨"java/lang/String", "getBytes", "([BIB)V"⟩).before a0 Z = true := hw _ (List.mem_of_getElem? (i := 96) rfl)
theorem own_w97 {Z : State} {a0 : Array Value} (hw : HW a0 Z) : (Cond.instanceMethod ⟨"java/lang/String", "getBytes", "([BIB)V"⟩).before a0 Z = true := hw _ (List.mem_of_getElem? (i := 97) rfl)
theorem d13_18 : decode jdk_68_method_73_code 18 = .ok (.return_, 1) := by decide +kernel
theorem ef_rm13_0 (m : MethodId) (x0 : Addr) (x1 : Int32) (x2 : Addr) : entryFrame m #[(.ref x0), (.int x1), (.ref x2)] 3 = mkF m 0 #[.val (.ref x0), .val (.int x1), .val (.ref x2)] [] := by first | (simp [entryFrame, mkF, argsToLocals, Value.category]; done) | rfl
theorem own_w88 {Z : State} {a0 : Array Value} (hw : HW a0 Z) : (Cond.code ⟨"java/lang/AbstractStringBuilder", "putStringAt", "(ILjava/lang/String;)V"⟩ jdk_68_method_73_code 3 (Option.none : Option Jvm.ClassFile.FieldType)).before a0 Z = true := hw _ (List.mem_of_getElem? (i := 88) rfl)
theorem own_pd17 : parseMethodDescriptor "(ILjava/lang/String;)V" = some ⟨[.int, (.object "java/lang/String")], none⟩ := by decide +kernel
theorem own_w87 {Z : State} {a0 : Array Value} (hw : HW a0 Z) : (Cond.selects "java/lang/StringBuilder" ⟨"java/lang/AbstractStringBuilder", "putStringAt", "(ILjava/lang/String;)V"⟩ ⟨"java/lang/AbstractStringBuilder", "putStringAt", "(ILjava/lang/String;)V"⟩).before a0 Z = true := hw _ (List.mem_of_getElem? (i := 87) rfl)
theorem own_w86 {Z : State} {a0 : Array Value} (hw : HW a0 Z) : (Cond.privateMethod ⟨"java/lang/AbstractStringBuilder", "putStringAt", "(ILjava/lang/String;)V"⟩).before a0 Z = true := hw _ (List.mem_of_getElem? (i := 86) rfl)
theorem own_w85 {Z : State} {a0 : Array Value} (hw : HW a0 Z) : (Cond.instanceMethod ⟨"java/lang/AbstractStringBuilder", "putStringAt", "(ILjava/lang/String;)V"⟩).before a0 Z = true := hw _ (List.mem_of_getElem? (i := 85) rfl)
theorem d9_33 : decode jdk_68_method_22_code 33 = .ok (.aload_n 0, 1) := by decide +kernel
theorem d9_34 : decode jdk_68_method_22_code 34 = .ok (.dup, 1) := by decide +kernel
theorem sg9_33_2 : decs jdk_68_method_22_code [(33, .aload_n 0, 1), (34, .dup, 1)] := ⟨d9_33, d9_34, trivial⟩
theorem d9_35 : decode jdk_68_method_22_code 35 = .ok (.getfield 79, 3) := by decide +kernel
theorem d9_38 : decode jdk_68_method_22_code 38 = .ok (.iload_n 2, 1) := by decide +kernel
theorem d9_39 : decode jdk_68_method_22_code 39 = .ok (.iadd, 1) := by decide +kernel
theorem sg9_38_2 : decs jdk_68_method_22_code [(38, .iload_n 2, 1), (39, .iadd, 1)] := ⟨d9_38, d9_39, trivial⟩
theorem d9_40 : decode jdk_68_method_22_code 40 = .ok (.putfield 79, 3) := by decide +kernel
theorem d9_43 : decode jdk_68_method_22_code 43 = .ok (.aload_n 0, 1) := by decide +kernel
theorem sg9_43_1 : decs jdk_68_method_22_code [(43, .aload_n 0, 1)] := ⟨d9_43, trivial⟩
theorem d9_44 : decode jdk_68_method_22_code 44 = .ok (.areturn, 1) := by decide +kernel
theorem ef_rm9_0 (m : MethodId) (x0 : Addr) (x1 : Addr) : entryFrame m #[(.ref x0), (.ref x1)] 3 = mkF m 0 #[.val (.ref x0), .val (.ref x1), .unset] [] := by first | (simp [entryFrame, mkF, argsToLocals, Value.category]; done) | rfl
theorem own_w63 {Z : State} {a0 : Array Value} (hw : HW a0 Z) : (Cond.code ⟨"java/lang/AbstractStringBuilder", "append", "(Ljava/lang/String;)Ljava/lang/AbstractStringBuilder;"⟩ jdk_68_method_22_code 3 (Option.some (Jvm.ClassFile.FieldType.object "java/lang/AbstractStringBuilder"))).before a0 Z = true := hw _ (List.mem_of_getElem? (i := 63) rfl)
theorem own_pd18 : parseMethodDescriptor "(Ljava/lang/String;)Ljava/lang/AbstractStringBuilder;" = some ⟨[(.object "java/lang/String")], some (.object "java/lang/AbstractStringBuilder")⟩ := by decide +kernel
theorem own_w60 {Z : State} {a0 : Array Value} (hw : HW a0 Z) : (Cond.instanceMethod ⟨"java/lang/AbstractStringBuilder", "append", "(Ljava/lang/String;)Ljava/lang/AbstractStringBuilder;"⟩).before a0 Z = true := hw _ (List.mem_of_getElem? (i := 60) rfl)
theorem own_w61 {Z : State} {a0 : Array Value} (hw : HW a0 Z) : (Cond.superclass "java/lang/StringBuilder" "java/lang/AbstractStringBuilder").before a0 Z = true := hw _ (List.mem_of_getElem? (i := 61) rfl)
theorem d8_5 : decode jdk_67_method_7_code 5 = .ok (.pop, 1) := by decide +kernel
theorem d8_6 : decode jdk_67_method_7_code 6 = .ok (.aload_n 0, 1) := by decide +kernel
theorem sg8_5_2 : decs jdk_67_method_7_code [(5, .pop, 1), (6, .aload_n 0, 1)] := ⟨d8_5, d8_6, trivial⟩
theorem d8_7 : decode jdk_67_method_7_code 7 = .ok (.areturn, 1) := by decide +kernel
theorem ef_rm8_0 (m : MethodId) (x0 : Addr) (x1 : Addr) : entryFrame m #[(.ref x0), (.ref x1)] 2 = mkF m 0 #[.val (.ref x0), .val (.ref x1)] [] := by first | (simp [entryFrame, mkF, argsToLocals, Value.category]; done) | rfl
theorem own_w58 {Z : State} {a0 : Array Value} (hw : HW a0 Z) : (Cond.code ⟨"java/lang/StringBuilder", "append", "(Ljava/lang/String;)Ljava/lang/StringBuilder;"⟩ jdk_67_method_7_code 2 (Option.some (Jvm.ClassFile.FieldType.object "java/lang/StringBuilder"))).before a0 Z = true := hw _ (List.mem_of_getElem? (i := 58) rfl)
theorem own_pd19 : parseMethodDescriptor "(Ljava/lang/String;)Ljava/lang/StringBuilder;" = some ⟨[(.object "java/lang/String")], some (.object "java/lang/StringBuilder")⟩ := by decide +kernel
theorem own_w57 {Z : State} {a0 : Array Value} (hw : HW a0 Z) : (Cond.selects "java/lang/StringBuilder" ⟨"java/lang/StringBuilder", "append", "(Ljava/lang/String;)Ljava/lang/StringBuilder;"⟩ ⟨"java/lang/StringBuilder", "append", "(Ljava/lang/String;)Ljava/lang/StringBuilder;"⟩).before a0 Z = true := hw _ (List.mem_of_getElem? (i := 57) rfl)
theorem own_w55 {Z : State} {a0 : Array Value} (hw : HW a0 Z) : (Cond.declares ⟨"java/lang/StringBuilder", "append", "(Ljava/lang/String;)Ljava/lang/StringBuilder;"⟩).before a0 Z = true := hw _ (List.mem_of_getElem? (i := 55) rfl)
theorem own_w56 {Z : State} {a0 : Array Value} (hw : HW a0 Z) : (Cond.instanceMethod ⟨"java/lang/StringBuilder", "append", "(Ljava/lang/String;)Ljava/lang/StringBuilder;"⟩).before a0 Z = true := hw _ (List.mem_of_getElem? (i := 56) rfl)
theorem d5_14 : decode prog_10_method_2_code 14 = .ok (.ldc 23, 2) := by decide +kernel
theorem own_w104 {Z : State} {a0 : Array Value} (hw : HW a0 Z) : (Cond.stringLink "com/example/wary_meter/warymeter/Refusal" 23 ": ").before a0 Z = true := hw _ (List.mem_of_getElem? (i := 104) rfl)
theorem d5_16 : decode prog_10_method_2_code 16 = .ok (.invokevirtual 19, 3) := by decide +kernel
theorem d5_19 : decode prog_10_method_2_code 19 = .ok (.aload_n 0, 1) := by decide +kernel
theorem sg5_19_1 : decs prog_10_method_2_code [(19, .aload_n 0, 1)] := ⟨d5_19, trivial⟩
theorem d5_20 : decode prog_10_method_2_code 20 = .ok (.getfield 13, 3) := by decide +kernel
theorem d5_23 : decode prog_10_method_2_code 23 = .ok (.invokevirtual 19, 3) := by decide +kernel
theorem ef_rm12_1 (m : MethodId) (x0 : Addr) (x1 : Int32) : entryFrame m #[(.ref x0), (.int x1)] 3 = mkF m 0 #[.val (.ref x0), .val (.int x1), .unset] [] := by first | (simp [entryFrame, mkF, argsToLocals, Value.category]; done) | rfl
theorem ef_rm15_1 (m : MethodId) (x0 : Addr) (x1 : Addr) (x2 : Int32) (x3 : Int32) : entryFrame m #[(.ref x0), (.ref x1), (.int x2), (.int x3)] 4 = mkF m 0 #[.val (.ref x0), .val (.ref x1), .val (.int x2), .val (.int x3)] [] := by first | (simp [entryFrame, mkF, argsToLocals, Value.category]; done) | rfl
theorem ef_rm13_1 (m : MethodId) (x0 : Addr) (x1 : Int32) (x2 : Addr) : entryFrame m #[(.ref x0), (.int x1), (.ref x2)] 3 = mkF m 0 #[.val (.ref x0), .val (.int x1), .val (.ref x2)] [] := by first | (simp [entryFrame, mkF, argsToLocals, Value.category]; done) | rfl
theorem ef_rm9_1 (m : MethodId) (x0 : Addr) (x1 : Addr) : entryFrame m #[(.ref x0), (.ref x1)] 3 = mkF m 0 #[.val (.ref x0), .val (.ref x1), .unset] [] := by first | (simp [entryFrame, mkF, argsToLocals, Value.category]; done) | rfl
theorem ef_rm8_1 (m : MethodId) (x0 : Addr) (x1 : Addr) : entryFrame m #[(.ref x0), (.ref x1)] 2 = mkF m 0 #[.val (.ref x0), .val (.ref x1)] [] := by first | (simp [entryFrame, mkF, argsToLocals, Value.category]; done) | rfl
theorem own_w105 {Z : State} {a0 : Array Value} (hw : HW a0 Z) : (Cond.methodLink "com/example/wary_meter/warymeter/Refusal" 25 ⟨"java/lang/StringBuilder", "toString", "()Ljava/lang/String;"⟩).before a0 Z = true := hw _ (List.mem_of_getElem? (i := 105) rfl)
theorem d5_26 : decode prog_10_method_2_code 26 = .ok (.invokevirtual 25, 3) := by decide +kernel
theorem d16_0 : decode jdk_67_method_42_code 0 = .ok (.new 18, 3) := by decide +kernel
theorem own_w110 {Z : State} {a0 : Array Value} (hw : HW a0 Z) : (Cond.classLink "java/lang/StringBuilder" 18 "java/lang/String").before a0 Z = true := hw _ (List.mem_of_getElem? (i := 110) rfl)
theorem d16_3 : decode jdk_67_method_42_code 3 = .ok (.dup, 1) := by decide +kernel
theorem d16_4 : decode jdk_67_method_42_code 4 = .ok (.aload_n 0, 1) := by decide +kernel
theorem own_w111 {Z : State} {a0 : Array Value} (hw : HW a0 Z) : (Cond.methodLink "java/lang/StringBuilder" 137 ⟨"java/lang/String", "<init>", "(Ljava/lang/StringBuilder;)V"⟩).before a0 Z = true := hw _ (List.mem_of_getElem? (i := 111) rfl)
theorem sg16_3_2 : decs jdk_67_method_42_code [(3, .dup, 1), (4, .aload_n 0, 1)] := ⟨d16_3, d16_4, trivial⟩
theorem d16_5 : decode jdk_67_method_42_code 5 = .ok (.invokespecial 137, 3) := by decide +kernel
theorem d17_0 : decode jdk_42_method_53_code 0 = .ok (.aload_n 0, 1) := by decide +kernel
theorem d17_1 : decode jdk_42_method_53_code 1 = .ok (.aload_n 1, 1) := by decide +kernel
theorem d17_2 : decode jdk_42_method_53_code 2 = .ok (.aconst_null, 1) := by decide +kernel
theorem own_w115 {Z : State} {a0 : Array Value} (hw : HW a0 Z) : (Cond.methodLink "java/lang/String" 489 ⟨"java/lang/String", "<init>", "(Ljava/lang/AbstractStringBuilder;Ljava/lang/Void;)V"⟩).before a0 Z = true := hw _ (List.mem_of_getElem? (i := 115) rfl)
theorem sg17_0_3 : decs jdk_42_method_53_code [(0, .aload_n 0, 1), (1, .aload_n 1, 1), (2, .aconst_null, 1)] := ⟨d17_0, d17_1, d17_2, trivial⟩
theorem d17_3 : decode jdk_42_method_53_code 3 = .ok (.invokespecial 489, 3) := by decide +kernel
theorem d18_0 : decode jdk_42_method_150_code 0 = .ok (.aload_n 0, 1) := by decide +kernel
theorem sg18_0_1 : decs jdk_42_method_150_code [(0, .aload_n 0, 1)] := ⟨d18_0, trivial⟩
theorem d18_1 : decode jdk_42_method_150_code 1 = .ok (.invokespecial 1, 3) := by decide +kernel
theorem d18_4 : decode jdk_42_method_150_code 4 = .ok (.aload_n 1, 1) := by decide +kernel
theorem own_w119 {Z : State} {a0 : Array Value} (hw : HW a0 Z) : (Cond.methodLink "java/lang/String" 552 ⟨"java/lang/AbstractStringBuilder", "getValue", "()[B"⟩).before a0 Z = true := hw _ (List.mem_of_getElem? (i := 119) rfl)
theorem sg18_4_1 : decs jdk_42_method_150_code [(4, .aload_n 1, 1)] := ⟨d18_4, trivial⟩
theorem d18_5 : decode jdk_42_method_150_code 5 = .ok (.invokevirtual 552, 3) := by decide +kernel
theorem d19_0 : decode jdk_68_method_64_code 0 = .ok (.aload_n 0, 1) := by decide +kernel
theorem sg19_0_1 : decs jdk_68_method_64_code [(0, .aload_n 0, 1)] := ⟨d19_0, trivial⟩
theorem d19_1 : decode jdk_68_method_64_code 1 = .ok (.getfield 15, 3) := by decide +kernel
theorem d19_4 : decode jdk_68_method_64_code 4 = .ok (.areturn, 1) := by decide +kernel
theorem ef_rm19_0 (m : MethodId) (x0 : Addr) : entryFrame m #[(.ref x0)] 1 = mkF m 0 #[.val (.ref x0)] [] := by first | (simp [entryFrame, mkF, argsToLocals, Value.category]; done) | rfl
theorem own_w123 {Z : State} {a0 : Array Value} (hw : HW a0 Z) : (Cond.code ⟨"java/lang/AbstractStringBuilder", "getValue", "()[B"⟩ jdk_68_method_64_code 1 (Option.some (Jvm.ClassFile.FieldType.array Jvm.ClassFile.FieldType.byte))).before a0 Z = true := hw _ (List.mem_of_getElem? (i := 123) rfl)
theorem own_pd20 : parseMethodDescriptor "()[B" = some ⟨[], some (.array .byte)⟩ := by decide +kernel
theorem own_w122 {Z : State} {a0 : Array Value} (hw : HW a0 Z) : (Cond.selects "java/lang/StringBuilder" ⟨"java/lang/AbstractStringBuilder", "getValue", "()[B"⟩ ⟨"java/lang/AbstractStringBuilder", "getValue", "()[B"⟩).before a0 Z = true := hw _ (List.mem_of_getElem? (i := 122) rfl)
theorem own_w120 {Z : State} {a0 : Array Value} (hw : HW a0 Z) : (Cond.declares ⟨"java/lang/AbstractStringBuilder", "getValue", "()[B"⟩).before a0 Z = true := hw _ (List.mem_of_getElem? (i := 120) rfl)
theorem own_w121 {Z : State} {a0 : Array Value} (hw : HW a0 Z) : (Cond.instanceMethod ⟨"java/lang/AbstractStringBuilder", "getValue", "()[B"⟩).before a0 Z = true := hw _ (List.mem_of_getElem? (i := 121) rfl)
theorem d18_8 : decode jdk_42_method_150_code 8 = .ok (.astore_n 3, 1) := by decide +kernel
theorem d18_9 : decode jdk_42_method_150_code 9 = .ok (.aload_n 1, 1) := by decide +kernel
theorem own_w124 {Z : State} {a0 : Array Value} (hw : HW a0 Z) : (Cond.methodLink "java/lang/String" 549 ⟨"java/lang/AbstractStringBuilder", "length", "()I"⟩).before a0 Z = true := hw _ (List.mem_of_getElem? (i := 124) rfl)
theorem sg18_8_2 : decs jdk_42_method_150_code [(8, .astore_n 3, 1), (9, .aload_n 1, 1)] := ⟨d18_8, d18_9, trivial⟩
theorem d18_10 : decode jdk_42_method_150_code 10 = .ok (.invokevirtual 549, 3) := by decide +kernel
theorem d20_0 : decode jdk_67_method_93_code 0 = .ok (.aload_n 0, 1) := by decide +kernel
theorem own_w130 {Z : State} {a0 : Array Value} (hw : HW a0 Z) : (Cond.methodLink "java/lang/StringBuilder" 343 ⟨"java/lang/AbstractStringBuilder", "length", "()I"⟩).before a0 Z = true := hw _ (List.mem_of_getElem? (i := 130) rfl)
theorem sg20_0_1 : decs jdk_67_method_93_code [(0, .aload_n 0, 1)] := ⟨d20_0, trivial⟩
theorem d20_1 : decode jdk_67_method_93_code 1 = .ok (.invokespecial 343, 3) := by decide +kernel
theorem d21_0 : decode jdk_68_method_6_code 0 = .ok (.aload_n 0, 1) := by decide +kernel
theorem sg21_0_1 : decs jdk_68_method_6_code [(0, .aload_n 0, 1)] := ⟨d21_0, trivial⟩
theorem d21_1 : decode jdk_68_method_6_code 1 = .ok (.getfield 79, 3) := by decide +kernel
theorem d21_4 : decode jdk_68_method_6_code 4 = .ok (.ireturn, 1) := by decide +kernel
theorem ef_rm21_0 (m : MethodId) (x0 : Addr) : entryFrame m #[(.ref x0)] 1 = mkF m 0 #[.val (.ref x0)] [] := by first | (simp [entryFrame, mkF, argsToLocals, Value.category]; done) | rfl
theorem own_w131 {Z : State} {a0 : Array Value} (hw : HW a0 Z) : (Cond.code ⟨"java/lang/AbstractStringBuilder", "length", "()I"⟩ jdk_68_method_6_code 1 (Option.some Jvm.ClassFile.FieldType.int)).before a0 Z = true := hw _ (List.mem_of_getElem? (i := 131) rfl)
theorem own_w126 {Z : State} {a0 : Array Value} (hw : HW a0 Z) : (Cond.instanceMethod ⟨"java/lang/AbstractStringBuilder", "length", "()I"⟩).before a0 Z = true := hw _ (List.mem_of_getElem? (i := 126) rfl)
theorem d20_4 : decode jdk_67_method_93_code 4 = .ok (.ireturn, 1) := by decide +kernel
theorem ef_rm20_0 (m : MethodId) (x0 : Addr) : entryFrame m #[(.ref x0)] 1 = mkF m 0 #[.val (.ref x0)] [] := by first | (simp [entryFrame, mkF, argsToLocals, Value.category]; done) | rfl
theorem own_w129 {Z : State} {a0 : Array Value} (hw : HW a0 Z) : (Cond.code ⟨"java/lang/StringBuilder", "length", "()I"⟩ jdk_67_method_93_code 1 (Option.some Jvm.ClassFile.FieldType.int)).before a0 Z = true := hw _ (List.mem_of_getElem? (i := 129) rfl)
theorem own_w127 {Z : State} {a0 : Array Value} (hw : HW a0 Z) : (Cond.selects "java/lang/StringBuilder" ⟨"java/lang/AbstractStringBuilder", "length", "()I"⟩ ⟨"java/lang/StringBuilder", "length", "()I"⟩).before a0 Z = true := hw _ (List.mem_of_getElem? (i := 127) rfl)
theorem own_w125 {Z : State} {a0 : Array Value} (hw : HW a0 Z) : (Cond.declares ⟨"java/lang/AbstractStringBuilder", "length", "()I"⟩).before a0 Z = true := hw _ (List.mem_of_getElem? (i := 125) rfl)
theorem own_w128 {Z : State} {a0 : Array Value} (hw : HW a0 Z) : (Cond.instanceMethod ⟨"java/lang/StringBuilder", "length", "()I"⟩).before a0 Z = true := hw _ (List.mem_of_getElem? (i := 128) rfl)
theorem d18_13 : decode jdk_42_method_150_code 13 = .ok (.istore 4, 2) := by decide +kernel
theorem d18_15 : decode jdk_42_method_150_code 15 = .ok (.aload_n 1, 1) := by decide +kernel
theorem own_w132 {Z : State} {a0 : Array Value} (hw : HW a0 Z) : (Cond.methodLink "java/lang/String" 1047 ⟨"java/lang/AbstractStringBuilder", "isLatin1", "()Z"⟩).before a0 Z = true := hw _ (List.mem_of_getElem? (i := 132) rfl)
theorem sg18_13_2 : decs jdk_42_method_150_code [(13, .istore 4, 2), (15, .aload_n 1, 1)] := ⟨d18_13, d18_15, trivial⟩
theorem d18_16 : decode jdk_42_method_150_code 16 = .ok (.invokevirtual 1047, 3) := by decide +kernel
theorem d22_0 : decode jdk_68_method_68_code 0 = .ok (.getstatic 18, 3) := by decide +kernel
theorem d22_3 : decode jdk_68_method_68_code 3 = .ok (.ifCond .eq 14, 3) := by decide +kernel
theorem d22_6 : decode jdk_68_method_68_code 6 = .ok (.aload_n 0, 1) := by decide +kernel
theorem sg22_6_1 : decs jdk_68_method_68_code [(6, .aload_n 0, 1)] := ⟨d22_6, trivial⟩
theorem d22_7 : decode jdk_68_method_68_code 7 = .ok (.getfield 22, 3) := by decide +kernel
theorem d22_10 : decode jdk_68_method_68_code 10 = .ok (.ifCond .ne 7, 3) := by decide +kernel
theorem d22_13 : decode jdk_68_method_68_code 13 = .ok (.iconst 1, 1) := by decide +kernel
theorem d22_14 : decode jdk_68_method_68_code 14 = .ok (.goto 4, 3) := by decide +kernel
theorem sg22_13_2 : decs jdk_68_method_68_code [(13, .iconst 1, 1), (14, .goto 4, 3)] := ⟨d22_13, d22_14, trivial⟩
theorem d22_18 : decode jdk_68_method_68_code 18 = .ok (.ireturn, 1) := by decide +kernel
theorem ef_rm22_0 (m : MethodId) (x0 : Addr) : entryFrame m #[(.ref x0)] 1 = mkF m 0 #[.val (.ref x0)] [] := by first | (simp [entryFrame, mkF, argsToLocals, Value.category]; done) | rfl
theorem own_w136 {Z : State} {a0 : Array Value} (hw : HW a0 Z) : (Cond.code ⟨"java/lang/AbstractStringBuilder", "isLatin1", "()Z"⟩ jdk_68_method_68_code 1 (Option.some Jvm.ClassFile.FieldType.boolean)).before a0 Z = true := hw _ (List.mem_of_getElem? (i := 136) rfl)
theorem own_pd21 : parseMethodDescriptor "()Z" = some ⟨[], some .boolean⟩ := by decide +kernel
theorem own_w135 {Z : State} {a0 : Array Value} (hw : HW a0 Z) : (Cond.selects "java/lang/StringBuilder" ⟨"java/lang/AbstractStringBuilder", "isLatin1", "()Z"⟩ ⟨"java/lang/AbstractStringBuilder", "isLatin1", "()Z"⟩).before a0 Z = true := hw _ (List.mem_of_getElem? (i := 135) rfl)
theorem own_w133 {Z : State} {a0 : Array Value} (hw : HW a0 Z) : (Cond.declares ⟨"java/lang/AbstractStringBuilder", "isLatin1", "()Z"⟩).before a0 Z = true := hw _ (List.mem_of_getElem? (i := 133) rfl)
theorem own_w134 {Z : State} {a0 : Array Value} (hw : HW a0 Z) : (Cond.instanceMethod ⟨"java/lang/AbstractStringBuilder", "isLatin1", "()Z"⟩).before a0 Z = true := hw _ (List.mem_of_getElem? (i := 134) rfl)
theorem d18_19 : decode jdk_42_method_150_code 19 = .ok (.ifCond .eq 22, 3) := by decide +kernel
theorem d18_22 : decode jdk_42_method_150_code 22 = .ok (.aload_n 0, 1) := by decide +kernel
theorem d18_23 : decode jdk_42_method_150_code 23 = .ok (.iconst 0, 1) := by decide +kernel
theorem sg18_22_2 : decs jdk_42_method_150_code [(22, .aload_n 0, 1), (23, .iconst 0, 1)] := ⟨d18_22, d18_23, trivial⟩
theorem d18_24 : decode jdk_42_method_150_code 24 = .ok (.putfield 15, 3) := by decide +kernel
theorem d18_27 : decode jdk_42_method_150_code 27 = .ok (.aload_n 0, 1) := by decide +kernel
theorem d18_28 : decode jdk_42_method_150_code 28 = .ok (.aload_n 3, 1) := by decide +kernel
theorem d18_29 : decode jdk_42_method_150_code 29 = .ok (.iconst 0, 1) := by decide +kernel
theorem d18_30 : decode jdk_42_method_150_code 30 = .ok (.iload 4, 2) := by decide +kernel
theorem own_w137 {Z : State} {a0 : Array Value} (hw : HW a0 Z) : (Cond.methodLink "java/lang/String" 54 ⟨"java/util/Arrays", "copyOfRange", "([BII)[B"⟩).before a0 Z = true := hw _ (List.mem_of_getElem? (i := 137) rfl)
theorem sg18_27_4 : decs jdk_42_method_150_code [(27, .aload_n 0, 1), (28, .aload_n 3, 1), (29, .iconst 0, 1), (30, .iload 4, 2)] := ⟨d18_27, d18_28, d18_29, d18_30, trivial⟩
theorem d18_32 : decode jdk_42_method_150_code 32 = .ok (.invokestatic 54, 3) := by decide +kernel
theorem d23_0 : decode jdk_65_method_132_code 0 = .ok (.iload_n 1, 1) := by decide +kernel
theorem sg23_0_1 : decs jdk_65_method_132_code [(0, .iload_n 1, 1)] := ⟨d23_0, trivial⟩
theorem d23_1 : decode jdk_65_method_132_code 1 = .ok (.ifCond .ne 9, 3) := by decide +kernel
theorem d23_4 : decode jdk_65_method_132_code 4 = .ok (.iload_n 2, 1) := by decide +kernel
theorem d23_5 : decode jdk_65_method_132_code 5 = .ok (.aload_n 0, 1) := by decide +kernel
theorem sg23_4_2 : decs jdk_65_method_132_code [(4, .iload_n 2, 1), (5, .aload_n 0, 1)] := ⟨d23_4, d23_5, trivial⟩
theorem d23_6 : decode jdk_65_method_132_code 6 = .ok (.arraylength, 1) := by decide +kernel
theorem d23_7 : decode jdk_65_method_132_code 7 = .ok (.if_icmp .eq 10, 3) := by decide +kernel
theorem d23_10 : decode jdk_65_method_132_code 10 = .ok (.aload_n 0, 1) := by decide +kernel
theorem d23_11 : decode jdk_65_method_132_code 11 = .ok (.iload_n 1, 1) := by decide +kernel
theorem d23_12 : decode jdk_65_method_132_code 12 = .ok (.iload_n 2, 1) := by decide +kernel
theorem own_w141 {Z : State} {a0 : Array Value} (hw : HW a0 Z) : (Cond.methodLink "java/util/Arrays" 339 ⟨"java/util/Arrays", "copyOfRangeByte", "([BII)[B"⟩).before a0 Z = true := hw _ (List.mem_of_getElem? (i := 141) rfl)
theorem sg23_10_3 : decs jdk_65_method_132_code [(10, .aload_n 0, 1), (11, .iload_n 1, 1), (12, .iload_n 2, 1)] := ⟨d23_10, d23_11, d23_12, trivial⟩
theorem d23_13 : decode jdk_65_method_132_code 13 = .ok (.invokestatic 339, 3) := by decide +kernel
theorem d24_0 : decode jdk_65_method_133_code 0 = .ok (.iload_n 1, 1) := by decide +kernel
theorem d24_1 : decode jdk_65_method_133_code 1 = .ok (.iload_n 2, 1) := by decide +kernel
theorem own_w144 {Z : State} {a0 : Array Value} (hw : HW a0 Z) : (Cond.methodLink "java/util/Arrays" 343 ⟨"java/util/Arrays", "checkLength", "(II)V"⟩).before a0 Z = true := hw _ (List.mem_of_getElem? (i := 144) rfl)
theorem sg24_0_2 : decs jdk_65_method_133_code [(0, .iload_n 1, 1), (1, .iload_n 2, 1)] := ⟨d24_0, d24_1, trivial⟩
theorem d24_2 : decode jdk_65_method_133_code 2 = .ok (.invokestatic 343, 3) := by decide +kernel
theorem d25_0 : decode jdk_65_method_131_code 0 = .ok (.iload_n 1, 1) := by decide +kernel
theorem d25_1 : decode jdk_65_method_131_code 1 = .ok (.iload_n 0, 1) := by decide +kernel
theorem sg25_0_2 : decs jdk_65_method_131_code [(0, .iload_n 1, 1), (1, .iload_n 0, 1)] := ⟨d25_0, d25_1, trivial⟩
theorem d25_2 : decode jdk_65_method_131_code 2 = .ok (.if_icmp .ge 35, 3) := by decide +kernel
theorem d25_37 : decode jdk_65_method_131_code 37 = .ok (.return_, 1) := by decide +kernel
theorem ef_rm25_0 (m : MethodId) (x0 : Int32) (x1 : Int32) : entryFrame m #[(.int x0), (.int x1)] 2 = mkF m 0 #[.val (.int x0), .val (.int x1)] [] := by first | (simp [entryFrame, mkF, argsToLocals, Value.category]; done) | rfl
theorem own_pn8 : plainName "java/util/Arrays" = true := by first | (simp [plainName, overriddenIn]; done) | decide +kernel
theorem own_w146 {Z : State} {a0 : Array Value} (hw : HW a0 Z) : (Cond.code ⟨"java/util/Arrays", "checkLength", "(II)V"⟩ jdk_65_method_131_code 2 (Option.none : Option Jvm.ClassFile.FieldType)).before a0 Z = true := hw _ (List.mem_of_getElem? (i := 146) rfl)
theorem own_w139 {Z : State} {a0 : Array Value} (hw : HW a0 Z) : (Cond.initialized "java/util/Arrays").before a0 Z = true := hw _ (List.mem_of_getElem? (i := 139) rfl)
theorem own_pd22 : parseMethodDescriptor "(II)V" = some ⟨[.int, .int], none⟩ := by decide +kernel
theorem own_w145 {Z : State} {a0 : Array Value} (hw : HW a0 Z) : (Cond.static ⟨"java/util/Arrays", "checkLength", "(II)V"⟩).before a0 Z = true := hw _ (List.mem_of_getElem? (i := 145) rfl)
theorem d24_5 : decode jdk_65_method_133_code 5 = .ok (.iload_n 2, 1) := by decide +kernel
theorem d24_6 : decode jdk_65_method_133_code 6 = .ok (.iload_n 1, 1) := by decide +kernel
theorem d24_7 : decode jdk_65_method_133_code 7 = .ok (.isub, 1) := by decide +kernel
theorem sg24_5_3 : decs jdk_65_method_133_code [(5, .iload_n 2, 1), (6, .iload_n 1, 1), (7, .isub, 1)] := ⟨d24_5, d24_6, d24_7, trivial⟩
theorem d24_8 : decode jdk_65_method_133_code 8 = .ok (.istore_n 3, 1) := by decide +kernel
theorem d24_9 : decode jdk_65_method_133_code 9 = .ok (.iload_n 3, 1) := by decide +kernel
theorem sg24_8_2 : decs jdk_65_method_133_code [(8, .istore_n 3, 1), (9, .iload_n 3, 1)] := ⟨d24_8, d24_9, trivial⟩
theorem d24_10 : decode jdk_65_method_133_code 10 = .ok (.newarray .byte, 2) := by decide +kernel
theorem d24_12 : decode jdk_65_method_133_code 12 = .ok (.astore 4, 2) := by decide +kernel
theorem d24_14 : decode jdk_65_method_133_code 14 = .ok (.aload_n 0, 1) := by decide +kernel
theorem d24_15 : decode jdk_65_method_133_code 15 = .ok (.iload_n 1, 1) := by decide +kernel
theorem d24_16 : decode jdk_65_method_133_code 16 = .ok (.aload 4, 2) := by decide +kernel
theorem d24_18 : decode jdk_65_method_133_code 18 = .ok (.iconst 0, 1) := by decide +kernel
theorem d24_19 : decode jdk_65_method_133_code 19 = .ok (.aload_n 0, 1) := by decide +kernel
theorem sg24_12_6 : decs jdk_65_method_133_code [(12, .astore 4, 2), (14, .aload_n 0, 1), (15, .iload_n 1, 1), (16, .aload 4, 2), (18, .iconst 0, 1), (19, .aload_n 0, 1)] := ⟨d24_12, d24_14, d24_15, d24_16, d24_18, d24_19, trivial⟩
theorem d24_20 : decode jdk_65_method_133_code 20 = .ok (.arraylength, 1) := by decide +kernel
theorem d24_21 : decode jdk_65_method_133_code 21 = .ok (.iload_n 1, 1) := by decide +kernel
theorem d24_22 : decode jdk_65_method_133_code 22 = .ok (.isub, 1) := by decide +kernel
theorem d24_23 : decode jdk_65_method_133_code 23 = .ok (.iload_n 3, 1) := by decide +kernel
theorem own_w147 {Z : State} {a0 : Array Value} (hw : HW a0 Z) : (Cond.methodLink "java/util/Arrays" 304 ⟨"java/lang/Math", "min", "(II)I"⟩).before a0 Z = true := hw _ (List.mem_of_getElem? (i := 147) rfl)
theorem sg24_21_3 : decs jdk_65_method_133_code [(21, .iload_n 1, 1), (22, .isub, 1), (23, .iload_n 3, 1)] := ⟨d24_21, d24_22, d24_23, trivial⟩
theorem d24_24 : decode jdk_65_method_133_code 24 = .ok (.invokestatic 304, 3) := by decide +kernel
theorem d26_0 : decode jdk_29_method_69_code 0 = .ok (.iload_n 0, 1) := by decide +kernel
theorem d26_1 : decode jdk_29_method_69_code 1 = .ok (.iload_n 1, 1) := by decide +kernel
theorem sg26_0_2 : decs jdk_29_method_69_code [(0, .iload_n 0, 1), (1, .iload_n 1, 1)] := ⟨d26_0, d26_1, trivial⟩
theorem d26_2 : decode jdk_29_method_69_code 2 = .ok (.if_icmp .gt 7, 3) := by decide +kernel
theorem d26_9 : decode jdk_29_method_69_code 9 = .ok (.iload_n 1, 1) := by decide +kernel
theorem sg26_9_1 : decs jdk_29_method_69_code [(9, .iload_n 1, 1)] := ⟨d26_9, trivial⟩
theorem d26_10 : decode jdk_29_method_69_code 10 = .ok (.ireturn, 1) := by decide +kernel
theorem ef_rm26_0 (m : MethodId) (x0 : Int32) (x1 : Int32) : entryFrame m #[(.int x0), (.int x1)] 2 = mkF m 0 #[.val (.int x0), .val (.int x1)] [] := by first | (simp [entryFrame, mkF, argsToLocals, Value.category]; done) | rfl
theorem own_w150 {Z : State} {a0 : Array Value} (hw : HW a0 Z) : (Cond.code ⟨"java/lang/Math", "min", "(II)I"⟩ jdk_29_method_69_code 2 (Option.some Jvm.ClassFile.FieldType.int)).before a0 Z = true := hw _ (List.mem_of_getElem? (i := 150) rfl)
theorem own_w149 {Z : State} {a0 : Array Value} (hw : HW a0 Z) : (Cond.initialized "java/lang/Math").before a0 Z = true := hw _ (List.mem_of_getElem? (i := 149) rfl)
theorem own_pd23 : parseMethodDescriptor "(II)I" = some ⟨[.int, .int], some .int⟩ := by decide +kernel
theorem own_w148 {Z : State} {a0 : Array Value} (hw : HW a0 Z) : (Cond.static ⟨"java/lang/Math", "min", "(II)I"⟩).before a0 Z = true := hw _ (List.mem_of_getElem? (i := 148) rfl)
theorem own_w151 {Z : State} {a0 : Array Value} (hw : HW a0 Z) : (Cond.methodLink "java/util/Arrays" 150 ⟨"java/lang/System", "arraycopy", "(Ljava/lang/Object;ILjava/lang/Object;II)V"⟩).before a0 Z = true := hw _ (List.mem_of_getElem? (i := 151) rfl)
theorem d24_27 : decode jdk_65_method_133_code 27 = .ok (.invokestatic 150, 3) := by decide +kernel
theorem d24_30 : decode jdk_65_method_133_code 30 = .ok (.aload 4, 2) := by decide +kernel
theorem sg24_30_1 : decs jdk_65_method_133_code [(30, .aload 4, 2)] := ⟨d24_30, trivial⟩
theorem d24_32 : decode jdk_65_method_133_code 32 = .ok (.areturn, 1) := by decide +kernel
theorem ef_rm24_0 (m : MethodId) (x0 : Addr) (x1 : Int32) (x2 : Int32) : entryFrame m #[(.ref x0), (.int x1), (.int x2)] 5 = mkF m 0 #[.val (.ref x0), .val (.int x1), .val (.int x2), .unset, .unset] [] := by first | (simp [entryFrame, mkF, argsToLocals, Value.category]; done) | rfl
theorem own_w143 {Z : State} {a0 : Array Value} (hw : HW a0 Z) : (Cond.code ⟨"java/util/Arrays", "copyOfRangeByte", "([BII)[B"⟩ jdk_65_method_133_code 5 (Option.some (Jvm.ClassFile.FieldType.array Jvm.ClassFile.FieldType.byte))).before a0 Z = true := hw _ (List.mem_of_getElem? (i := 143) rfl)
theorem own_pd24 : parseMethodDescriptor "([BII)[B" = some ⟨[(.array .byte), .int, .int], some (.array .byte)⟩ := by decide +kernel
theorem own_w142 {Z : State} {a0 : Array Value} (hw : HW a0 Z) : (Cond.static ⟨"java/util/Arrays", "copyOfRangeByte", "([BII)[B"⟩).before a0 Z = true := hw _ (List.mem_of_getElem? (i := 142) rfl)
theorem d23_16 : decode jdk_65_method_132_code 16 = .ok (.areturn, 1) := by decide +kernel
theorem ef_rm23_0 (m : MethodId) (x0 : Addr) (x1 : Int32) (x2 : Int32) : entryFrame m #[(.ref x0), (.int x1), (.int x2)] 3 = mkF m 0 #[.val (.ref x0), .val (.int x1), .val (.int x2)] [] := by first | (simp [entryFrame, mkF, argsToLocals, Value.category]; done) | rfl
theorem own_w140 {Z : State} {a0 : Array Value} (hw : HW a0 Z) : (Cond.code ⟨"java/util/Arrays", "copyOfRange", "([BII)[B"⟩ jdk_65_method_132_code 3 (Option.some (Jvm.ClassFile.FieldType.array Jvm.ClassFile.FieldType.byte))).before a0 Z = true := hw _ (List.mem_of_getElem? (i := 140) rfl)
theorem own_w138 {Z : State} {a0 : Array Value} (hw : HW a0 Z) : (Cond.static ⟨"java/util/Arrays", "copyOfRange", "([BII)[B"⟩).before a0 Z = true := hw _ (List.mem_of_getElem? (i := 138) rfl)
theorem d18_35 : decode jdk_42_method_150_code 35 = .ok (.putfield 9, 3) := by decide +kernel
theorem d18_38 : decode jdk_42_method_150_code 38 = .ok (.goto 59, 3) := by decide +kernel
theorem sg18_38_1 : decs jdk_42_method_150_code [(38, .goto 59, 3)] := ⟨d18_38, trivial⟩
theorem d18_97 : decode jdk_42_method_150_code 97 = .ok (.return_, 1) := by decide +kernel
theorem ef_rm18_0 (m : MethodId) (x0 : Addr) (x1 : Addr) : entryFrame m #[(.ref x0), (.ref x1), .null] 5 = mkF m 0 #[.val (.ref x0), .val (.ref x1), .val .null, .unset, .unset] [] := by first | (simp [entryFrame, mkF, argsToLocals, Value.category]; done) | rfl
theorem own_w117 {Z : State} {a0 : Array Value} (hw : HW a0 Z) : (Cond.code ⟨"java/lang/String", "<init>", "(Ljava/lang/AbstractStringBuilder;Ljava/lang/Void;)V"⟩ jdk_42_method_150_code 5 (Option.none : Option Jvm.ClassFile.FieldType)).before a0 Z = true := hw _ (List.mem_of_getElem? (i := 117) rfl)
theorem own_pd25 : parseMethodDescriptor "(Ljava/lang/AbstractStringBuilder;Ljava/lang/Void;)V" = some ⟨[(.object "java/lang/AbstractStringBuilder"), (.object "java/lang/Void")], none⟩ := by decide +kernel
theorem own_w116 {Z : State} {a0 : Array Value} (hw : HW a0 Z) : (Cond.instanceMethod ⟨"java/lang/String", "<init>", "(Ljava/lang/AbstractStringBuilder;Ljava/lang/Void;)V"⟩).before a0 Z = true := hw _ (List.mem_of_getElem? (i := 116) rfl)
theorem d17_6 : decode jdk_42_method_53_code 6 = .ok (.return_, 1) := by decide +kernel
theorem ef_rm17_0 (m : MethodId) (x0 : Addr) (x1 : Addr) : entryFrame m #[(.ref x0), (.ref x1)] 2 = mkF m 0 #[.val (.ref x0), .val (.ref x1)] [] := by first | (simp [entryFrame, mkF, argsToLocals, Value.category]; done) | rfl
theorem own_w114 {Z : State} {a0 : Array Value} (hw : HW a0 Z) : (Cond.code ⟨"java/lang/String", "<init>", "(Ljava/lang/StringBuilder;)V"⟩ jdk_42_method_53_code 2 (Option.none : Option Jvm.ClassFile.FieldType)).before a0 Z = true := hw _ (List.mem_of_getElem? (i := 114) rfl)
theorem own_pd26 : parseMethodDescriptor "(Ljava/lang/StringBuilder;)V" = some ⟨[(.object "java/lang/StringBuilder")], none⟩ := by decide +kernel
theorem own_w112 {Z : State} {a0 : Array Value} (hw : HW a0 Z) : (Cond.instanceMethod ⟨"java/lang/String", "<init>", "(Ljava/lang/StringBuilder;)V"⟩).before a0 Z = true := hw _ (List.mem_of_getElem? (i := 112) rfl)
theorem d16_8 : decode jdk_67_method_42_code 8 = .ok (.areturn, 1) := by decide +kernel
theorem ef_rm16_0 (m : MethodId) (x0 : Addr) : entryFrame m #[(.ref x0)] 1 = mkF m 0 #[.val (.ref x0)] [] := by first | (simp [entryFrame, mkF, argsToLocals, Value.category]; done) | rfl
theorem own_w109 {Z : State} {a0 : Array Value} (hw : HW a0 Z) : (Cond.code ⟨"java/lang/StringBuilder", "toString", "()Ljava/lang/String;"⟩ jdk_67_method_42_code 1 (Option.some (Jvm.ClassFile.FieldType.object "java/lang/String"))).before a0 Z = true := hw _ (List.mem_of_getElem? (i := 109) rfl)
theorem own_pd27 : parseMethodDescriptor "()Ljava/lang/String;" = some ⟨[], some (.object "java/lang/String")⟩ := by decide +kernel
theorem own_w108 {Z : State} {a0 : Array Value} (hw : HW a0 Z) : (Cond.selects "java/lang/StringBuilder" ⟨"java/lang/StringBuilder", "toString", "()Ljava/lang/String;"⟩ ⟨"java/lang/StringBuilder", "toString", "()Ljava/lang/String;"⟩).before a0 Z = true := hw _ (List.mem_of_getElem? (i := 108) rfl)
theorem own_w106 {Z : State} {a0 : Array Value} (hw : HW a0 Z) : (Cond.declares ⟨"java/lang/StringBuilder", "toString", "()Ljava/lang/String;"⟩).before a0 Z = true := hw _ (List.mem_of_getElem? (i := 106) rfl)
theorem own_w107 {Z : State} {a0 : Array Value} (hw : HW a0 Z) : (Cond.instanceMethod ⟨"java/lang/StringBuilder", "toString", "()Ljava/lang/String;"⟩).before a0 Z = true := hw _ (List.mem_of_getElem? (i := 107) rfl)
theorem d5_29 : decode prog_10_method_2_code 29 = .ok (.areturn, 1) := by decide +kernel
theorem ef_rm5_0 (m : MethodId) (x0 : Addr) : entryFrame m #[(.ref x0)] 1 = mkF m 0 #[.val (.ref x0)] [] := by first | (simp [entryFrame, mkF, argsToLocals, Value.category]; done) | rfl
theorem own_w35 {Z : State} {a0 : Array Value} (hw : HW a0 Z) : (Cond.code ⟨"com/example/wary_meter/warymeter/Refusal", "message", "()Ljava/lang/String;"⟩ prog_10_method_2_code 1 (Option.some (Jvm.ClassFile.FieldType.object "java/lang/String"))).before a0 Z = true := hw _ (List.mem_of_getElem? (i := 35) rfl)
theorem own_w34 {Z : State} {a0 : Array Value} (hw : HW a0 Z) : (Cond.selects "com/example/wary_meter/warymeter/Refusal" ⟨"com/example/wary_meter/warymeter/Refusal", "message", "()Ljava/lang/String;"⟩ ⟨"com/example/wary_meter/warymeter/Refusal", "message", "()Ljava/lang/String;"⟩).before a0 Z = true := hw _ (List.mem_of_getElem? (i := 34) rfl)
theorem own_w32 {Z : State} {a0 : Array Value} (hw : HW a0 Z) : (Cond.declares ⟨"com/example/wary_meter/warymeter/Refusal", "message", "()Ljava/lang/String;"⟩).before a0 Z = true := hw _ (List.mem_of_getElem? (i := 32) rfl)
theorem own_w33 {Z : State} {a0 : Array Value} (hw : HW a0 Z) : (Cond.instanceMethod ⟨"com/example/wary_meter/warymeter/Refusal", "message", "()Ljava/lang/String;"⟩).before a0 Z = true := hw _ (List.mem_of_getElem? (i := 33) rfl)
theorem own_w152 {Z : State} {a0 : Array Value} (hw : HW a0 Z) : (Cond.methodLink "com/example/wary_meter/warymeter/RefusalMessagePinLaw" 18 ⟨"java/lang/String", "length", "()I"⟩).before a0 Z = true := hw _ (List.mem_of_getElem? (i := 152) rfl)
theorem sg0_112_2 : decs code [(112, .astore 6, 2), (114, .aload 6, 2)] := ⟨at_112, at_114, trivial⟩
theorem ef_rm10_1 (m : MethodId) (x0 : Addr) : entryFrame m #[(.ref x0)] 1 = mkF m 0 #[.val (.ref x0)] [] := by first | (simp [entryFrame, mkF, argsToLocals, Value.category]; done) | rfl
theorem sg0_119_5 : decs code [(119, .iload_n 2, 1), (120, .iconst 2, 1), (121, .iadd, 1), (122, .iload_n 3, 1), (123, .iadd, 1)] := ⟨at_119, at_120, at_121, at_122, at_123, trivial⟩
theorem own_w153 {Z : State} {a0 : Array Value} (hw : HW a0 Z) : (Cond.methodLink "com/example/wary_meter/warymeter/RefusalMessagePinLaw" 45 ⟨"com/example/wary_meter/warymeter/RefusalMessagePinLaw", "ok", "(Ljava/lang/String;II[C[C)Z"⟩).before a0 Z = true := hw _ (List.mem_of_getElem? (i := 153) rfl)
theorem sg0_129_5 : decs code [(129, .aload 6, 2), (131, .iconst 0, 1), (132, .iload_n 2, 1), (133, .aload 4, 2), (135, .aload 5, 2)] := ⟨at_129, at_131, at_132, at_133, at_135, trivial⟩
theorem d27_0 : decode method_4_code 0 = .ok (.iload_n 1, 1) := by decide +kernel
theorem d27_1 : decode method_4_code 1 = .ok (.aload_n 0, 1) := by decide +kernel
theorem sg27_0_2 : decs method_4_code [(0, .iload_n 1, 1), (1, .aload_n 0, 1)] := ⟨d27_0, d27_1, trivial⟩
theorem d27_2 : decode method_4_code 2 = .ok (.invokevirtual 18, 3) := by decide +kernel
theorem d27_5 : decode method_4_code 5 = .ok (.if_icmp .lt 5, 3) := by decide +kernel
theorem d27_10 : decode method_4_code 10 = .ok (.aload_n 0, 1) := by decide +kernel
theorem d27_11 : decode method_4_code 11 = .ok (.iload_n 1, 1) := by decide +kernel
theorem own_w156 {Z : State} {a0 : Array Value} (hw : HW a0 Z) : (Cond.methodLink "com/example/wary_meter/warymeter/RefusalMessagePinLaw" 22 ⟨"java/lang/String", "charAt", "(I)C"⟩).before a0 Z = true := hw _ (List.mem_of_getElem? (i := 156) rfl)
theorem d28_0 : decode jdk_42_method_56_code 0 = .ok (.aload_n 0, 1) := by decide +kernel
theorem own_w161 {Z : State} {a0 : Array Value} (hw : HW a0 Z) : (Cond.methodLink "java/lang/String" 492 ⟨"java/lang/String", "isLatin1", "()Z"⟩).before a0 Z = true := hw _ (List.mem_of_getElem? (i := 161) rfl)
theorem sg28_0_1 : decs jdk_42_method_56_code [(0, .aload_n 0, 1)] := ⟨d28_0, trivial⟩
theorem d28_1 : decode jdk_42_method_56_code 1 = .ok (.invokevirtual 492, 3) := by decide +kernel
theorem d29_0 : decode jdk_42_method_154_code 0 = .ok (.getstatic 38, 3) := by decide +kernel
theorem d29_3 : decode jdk_42_method_154_code 3 = .ok (.ifCond .eq 14, 3) := by decide +kernel
theorem d29_6 : decode jdk_42_method_154_code 6 = .ok (.aload_n 0, 1) := by decide +kernel
theorem sg29_6_1 : decs jdk_42_method_154_code [(6, .aload_n 0, 1)] := ⟨d29_6, trivial⟩
theorem d29_7 : decode jdk_42_method_154_code 7 = .ok (.getfield 15, 3) := by decide +kernel
theorem d29_10 : decode jdk_42_method_154_code 10 = .ok (.ifCond .ne 7, 3) := by decide +kernel
theorem d29_13 : decode jdk_42_method_154_code 13 = .ok (.iconst 1, 1) := by decide +kernel
theorem d29_14 : decode jdk_42_method_154_code 14 = .ok (.goto 4, 3) := by decide +kernel
theorem sg29_13_2 : decs jdk_42_method_154_code [(13, .iconst 1, 1), (14, .goto 4, 3)] := ⟨d29_13, d29_14, trivial⟩
theorem d29_18 : decode jdk_42_method_154_code 18 = .ok (.ireturn, 1) := by decide +kernel
theorem ef_rm29_0 (m : MethodId) (x0 : Addr) : entryFrame m #[(.ref x0)] 1 = mkF m 0 #[.val (.ref x0)] [] := by first | (simp [entryFrame, mkF, argsToLocals, Value.category]; done) | rfl
theorem own_w165 {Z : State} {a0 : Array Value} (hw : HW a0 Z) : (Cond.code ⟨"java/lang/String", "isLatin1", "()Z"⟩ jdk_42_method_154_code 1 (Option.some Jvm.ClassFile.FieldType.boolean)).before a0 Z = true := hw _ (List.mem_of_getElem? (i := 165) rfl)
theorem own_w164 {Z : State} {a0 : Array Value} (hw : HW a0 Z) : (Cond.selects "java/lang/String" ⟨"java/lang/String", "isLatin1", "()Z"⟩ ⟨"java/lang/String", "isLatin1", "()Z"⟩).before a0 Z = true := hw _ (List.mem_of_getElem? (i := 164) rfl)
theorem own_w162 {Z : State} {a0 : Array Value} (hw : HW a0 Z) : (Cond.declares ⟨"java/lang/String", "isLatin1", "()Z"⟩).before a0 Z = true := hw _ (List.mem_of_getElem? (i := 162) rfl)
theorem own_w163 {Z : State} {a0 : Array Value} (hw : HW a0 Z) : (Cond.instanceMethod ⟨"java/lang/String", "isLatin1", "()Z"⟩).before a0 Z = true := hw _ (List.mem_of_getElem? (i := 163) rfl)
theorem d28_4 : decode jdk_42_method_56_code 4 = .ok (.ifCond .eq 12, 3) := by decide +kernel
theorem d28_7 : decode jdk_42_method_56_code 7 = .ok (.aload_n 0, 1) := by decide +kernel
theorem sg28_7_1 : decs jdk_42_method_56_code [(7, .aload_n 0, 1)] := ⟨d28_7, trivial⟩
theorem d28_8 : decode jdk_42_method_56_code 8 = .ok (.getfield 9, 3) := by decide +kernel
theorem d28_11 : decode jdk_42_method_56_code 11 = .ok (.iload_n 1, 1) := by decide +kernel
theorem own_w166 {Z : State} {a0 : Array Value} (hw : HW a0 Z) : (Cond.methodLink "java/lang/String" 495 ⟨"java/lang/StringLatin1", "charAt", "([BI)C"⟩).before a0 Z = true := hw _ (List.mem_of_getElem? (i := 166) rfl)
theorem d30_0 : decode jdk_43_method_2_code 0 = .ok (.iload_n 1, 1) := by decide +kernel
theorem d30_1 : decode jdk_43_method_2_code 1 = .ok (.aload_n 0, 1) := by decide +kernel
theorem sg30_0_2 : decs jdk_43_method_2_code [(0, .iload_n 1, 1), (1, .aload_n 0, 1)] := ⟨d30_0, d30_1, trivial⟩
theorem d30_2 : decode jdk_43_method_2_code 2 = .ok (.arraylength, 1) := by decide +kernel
theorem own_w170 {Z : State} {a0 : Array Value} (hw : HW a0 Z) : (Cond.methodLink "java/lang/StringLatin1" 9 ⟨"java/lang/String", "checkIndex", "(II)V"⟩).before a0 Z = true := hw _ (List.mem_of_getElem? (i := 170) rfl)
theorem d31_0 : decode jdk_42_method_155_code 0 = .ok (.iload_n 0, 1) := by decide +kernel
theorem d31_1 : decode jdk_42_method_155_code 1 = .ok (.iload_n 1, 1) := by decide +kernel
theorem sg31_0_2 : decs jdk_42_method_155_code [(0, .iload_n 0, 1), (1, .iload_n 1, 1)] := ⟨d31_0, d31_1, trivial⟩
theorem d31_2 : decode jdk_42_method_155_code 2 = .ok (.getstatic 1053, 3) := by decide +kernel
theorem own_w173 {Z : State} {a0 : Array Value} (hw : HW a0 Z) : (Cond.fieldLink "java/lang/String" 1053 "jdk/internal/util/Preconditions" "SIOOBE_FORMATTER" "Ljava/util/function/BiFunction;").before a0 Z = true := hw _ (List.mem_of_getElem? (i := 173) rfl)
theorem own_w175 {Z : State} {a0 : Array Value} (hw : HW a0 Z) : (Cond.methodLink "java/lang/String" 1059 ⟨"jdk/internal/util/Preconditions", "checkIndex", "(IILjava/util/function/BiFunction;)I"⟩).before a0 Z = true := hw _ (List.mem_of_getElem? (i := 175) rfl)
theorem d32_0 : decode jdk_41_method_11_code 0 = .ok (.iload_n 0, 1) := by decide +kernel
theorem sg32_0_1 : decs jdk_41_method_11_code [(0, .iload_n 0, 1)] := ⟨d32_0, trivial⟩
theorem d32_1 : decode jdk_41_method_11_code 1 = .ok (.ifCond .lt 8, 3) := by decide +kernel
theorem d32_4 : decode jdk_41_method_11_code 4 = .ok (.iload_n 0, 1) := by decide +kernel
theorem d32_5 : decode jdk_41_method_11_code 5 = .ok (.iload_n 1, 1) := by decide +kernel
theorem sg32_4_2 : decs jdk_41_method_11_code [(4, .iload_n 0, 1), (5, .iload_n 1, 1)] := ⟨d32_4, d32_5, trivial⟩
theorem d32_6 : decode jdk_41_method_11_code 6 = .ok (.if_icmp .lt 10, 3) := by decide +kernel
theorem d32_16 : decode jdk_41_method_11_code 16 = .ok (.iload_n 0, 1) := by decide +kernel
theorem sg32_16_1 : decs jdk_41_method_11_code [(16, .iload_n 0, 1)] := ⟨d32_16, trivial⟩
theorem d32_17 : decode jdk_41_method_11_code 17 = .ok (.ireturn, 1) := by decide +kernel
theorem d32_9 : decode jdk_41_method_11_code 9 = .ok (.aload_n 2, 1) := by decide +kernel
theorem d32_10 : decode jdk_41_method_11_code 10 = .ok (.iload_n 0, 1) := by decide +kernel
theorem d32_11 : decode jdk_41_method_11_code 11 = .ok (.iload_n 1, 1) := by decide +kernel
theorem sg32_10_2 : decs jdk_41_method_11_code [(10, .iload_n 0, 1), (11, .iload_n 1, 1)] := ⟨d32_10, d32_11, trivial⟩
theorem d32_12 : decode jdk_41_method_11_code 12 = .ok (.invokestatic 95, 3) := by decide +kernel
theorem d31_5 : decode jdk_42_method_155_code 5 = .ok (.invokestatic 1059, 3) := by decide +kernel
theorem ef_rm32_0 (m : MethodId) (x0 : Int32) (x1 : Int32) (x2 : Value) (hx2 : x2.isRef = true) : entryFrame m #[(.int x0), (.int x1), x2] 3 = mkF m 0 #[.val (.int x0), .val (.int x1), .val x2] [] := by rcases ref_cases hx2 with rfl | ⟨ax2, rfl⟩ <;> first | (simp [entryFrame, mkF, argsToLocals, Value.category]; done) | rfl
theorem own_pn9 : plainName "jdk/internal/util/Preconditions" = true := by first | (simp [plainName, overriddenIn]; done) | decide +kernel
theorem own_w177 {Z : State} {a0 : Array Value} (hw : HW a0 Z) : (Cond.code ⟨"jdk/internal/util/Preconditions", "checkIndex", "(IILjava/util/function/BiFunction;)I"⟩ jdk_41_method_11_code 3 (Option.some Jvm.ClassFile.FieldType.int)).before a0 Z = true := hw _ (List.mem_of_getElem? (i := 177) rfl)
theorem own_w174 {Z : State} {a0 : Array Value} (hw : HW a0 Z) : (Cond.initialized "jdk/internal/util/Preconditions").before a0 Z = true := hw _ (List.mem_of_getElem? (i := 174) rfl)
theorem own_pd28 : parseMethodDescriptor "(IILjava/util/function/BiFunction;)I" = some ⟨[.int, .int, (.object "java/util/function/BiFunction")], some .int⟩ := by decide +kernel
theorem own_w176 {Z : State} {a0 : Array Value} (hw : HW a0 Z) : (Cond.static ⟨"jdk/internal/util/Preconditions", "checkIndex", "(IILjava/util/function/BiFunction;)I"⟩).before a0 Z = true := hw _ (List.mem_of_getElem? (i := 176) rfl)
theorem d31_8 : decode jdk_42_method_155_code 8 = .ok (.pop, 1) := by decide +kernel
theorem sg31_8_1 : decs jdk_42_method_155_code [(8, .pop, 1)] := ⟨d31_8, trivial⟩
theorem d31_9 : decode jdk_42_method_155_code 9 = .ok (.return_, 1) := by decide +kernel
theorem d30_3 : decode jdk_43_method_2_code 3 = .ok (.invokestatic 9, 3) := by decide +kernel
theorem ef_rm31_0 (m : MethodId) (x0 : Int32) (x1 : Int32) : entryFrame m #[(.int x0), (.int x1)] 2 = mkF m 0 #[.val (.int x0), .val (.int x1)] [] := by first | (simp [entryFrame, mkF, argsToLocals, Value.category]; done) | rfl
theorem own_w172 {Z : State} {a0 : Array Value} (hw : HW a0 Z) : (Cond.code ⟨"java/lang/String", "checkIndex", "(II)V"⟩ jdk_42_method_155_code 2 (Option.none : Option Jvm.ClassFile.FieldType)).before a0 Z = true := hw _ (List.mem_of_getElem? (i := 172) rfl)
theorem own_w171 {Z : State} {a0 : Array Value} (hw : HW a0 Z) : (Cond.static ⟨"java/lang/String", "checkIndex", "(II)V"⟩).before a0 Z = true := hw _ (List.mem_of_getElem? (i := 171) rfl)
theorem d30_6 : decode jdk_43_method_2_code 6 = .ok (.aload_n 0, 1) := by decide +kernel
theorem d30_7 : decode jdk_43_method_2_code 7 = .ok (.iload_n 1, 1) := by decide +kernel
theorem sg30_6_2 : decs jdk_43_method_2_code [(6, .aload_n 0, 1), (7, .iload_n 1, 1)] := ⟨d30_6, d30_7, trivial⟩
theorem d30_8 : decode jdk_43_method_2_code 8 = .ok (.baload, 1) := by decide +kernel
theorem d30_9 : decode jdk_43_method_2_code 9 = .ok (.sipush 255, 3) := by decide +kernel
theorem d30_12 : decode jdk_43_method_2_code 12 = .ok (.iand, 1) := by decide +kernel
theorem d30_13 : decode jdk_43_method_2_code 13 = .ok (.i2c, 1) := by decide +kernel
theorem sg30_9_3 : decs jdk_43_method_2_code [(9, .sipush 255, 3), (12, .iand, 1), (13, .i2c, 1)] := ⟨d30_9, d30_12, d30_13, trivial⟩
theorem d30_14 : decode jdk_43_method_2_code 14 = .ok (.ireturn, 1) := by decide +kernel
theorem sg28_11_1 : decs jdk_42_method_56_code [(11, .iload_n 1, 1)] := ⟨d28_11, trivial⟩
theorem d28_12 : decode jdk_42_method_56_code 12 = .ok (.invokestatic 495, 3) := by decide +kernel
theorem ef_rm30_0 (m : MethodId) (x0 : Addr) (x1 : Int32) : entryFrame m #[(.ref x0), (.int x1)] 2 = mkF m 0 #[.val (.ref x0), .val (.int x1)] [] := by first | (simp [entryFrame, mkF, argsToLocals, Value.category]; done) | rfl
theorem own_w169 {Z : State} {a0 : Array Value} (hw : HW a0 Z) : (Cond.code ⟨"java/lang/StringLatin1", "charAt", "([BI)C"⟩ jdk_43_method_2_code 2 (Option.some Jvm.ClassFile.FieldType.char)).before a0 Z = true := hw _ (List.mem_of_getElem? (i := 169) rfl)
theorem own_pd29 : parseMethodDescriptor "([BI)C" = some ⟨[(.array .byte), .int], some .char⟩ := by decide +kernel
theorem own_w167 {Z : State} {a0 : Array Value} (hw : HW a0 Z) : (Cond.static ⟨"java/lang/StringLatin1", "charAt", "([BI)C"⟩).before a0 Z = true := hw _ (List.mem_of_getElem? (i := 167) rfl)
theorem d28_15 : decode jdk_42_method_56_code 15 = .ok (.ireturn, 1) := by decide +kernel
theorem sg27_10_2 : decs method_4_code [(10, .aload_n 0, 1), (11, .iload_n 1, 1)] := ⟨d27_10, d27_11, trivial⟩
theorem d27_12 : decode method_4_code 12 = .ok (.invokevirtual 22, 3) := by decide +kernel
theorem ef_rm28_0 (m : MethodId) (x0 : Addr) (x1 : Int32) : entryFrame m #[(.ref x0), (.int x1)] 2 = mkF m 0 #[.val (.ref x0), .val (.int x1)] [] := by first | (simp [entryFrame, mkF, argsToLocals, Value.category]; done) | rfl
theorem own_w160 {Z : State} {a0 : Array Value} (hw : HW a0 Z) : (Cond.code ⟨"java/lang/String", "charAt", "(I)C"⟩ jdk_42_method_56_code 2 (Option.some Jvm.ClassFile.FieldType.char)).before a0 Z = true := hw _ (List.mem_of_getElem? (i := 160) rfl)
theorem own_pd30 : parseMethodDescriptor "(I)C" = some ⟨[.int], some .char⟩ := by decide +kernel
theorem own_w159 {Z : State} {a0 : Array Value} (hw : HW a0 Z) : (Cond.selects "java/lang/String" ⟨"java/lang/String", "charAt", "(I)C"⟩ ⟨"java/lang/String", "charAt", "(I)C"⟩).before a0 Z = true := hw _ (List.mem_of_getElem? (i := 159) rfl)
theorem own_w157 {Z : State} {a0 : Array Value} (hw : HW a0 Z) : (Cond.declares ⟨"java/lang/String", "charAt", "(I)C"⟩).before a0 Z = true := hw _ (List.mem_of_getElem? (i := 157) rfl)
theorem own_w158 {Z : State} {a0 : Array Value} (hw : HW a0 Z) : (Cond.instanceMethod ⟨"java/lang/String", "charAt", "(I)C"⟩).before a0 Z = true := hw _ (List.mem_of_getElem? (i := 158) rfl)
theorem d27_15 : decode method_4_code 15 = .ok (.iload_n 1, 1) := by decide +kernel
theorem d27_16 : decode method_4_code 16 = .ok (.iload_n 2, 1) := by decide +kernel
theorem d27_17 : decode method_4_code 17 = .ok (.aload_n 3, 1) := by decide +kernel
theorem d27_18 : decode method_4_code 18 = .ok (.aload 4, 2) := by decide +kernel
theorem own_w178 {Z : State} {a0 : Array Value} (hw : HW a0 Z) : (Cond.methodLink "com/example/wary_meter/warymeter/RefusalMessagePinLaw" 26 ⟨"com/example/wary_meter/warymeter/RefusalMessagePinLaw", "exp", "(II[C[C)C"⟩).before a0 Z = true := hw _ (List.mem_of_getElem? (i := 178) rfl)
theorem sg27_15_4 : decs method_4_code [(15, .iload_n 1, 1), (16, .iload_n 2, 1), (17, .aload_n 3, 1), (18, .aload 4, 2)] := ⟨d27_15, d27_16, d27_17, d27_18, trivial⟩
theorem d27_20 : decode method_4_code 20 = .ok (.invokestatic 26, 3) := by decide +kernel
theorem d33_0 : decode method_3_code 0 = .ok (.iload_n 0, 1) := by decide +kernel
theorem d33_1 : decode method_3_code 1 = .ok (.iload_n 1, 1) := by decide +kernel
theorem sg33_0_2 : decs method_3_code [(0, .iload_n 0, 1), (1, .iload_n 1, 1)] := ⟨d33_0, d33_1, trivial⟩
theorem d33_2 : decode method_3_code 2 = .ok (.if_icmp .ge 7, 3) := by decide +kernel
theorem d33_9 : decode method_3_code 9 = .ok (.iload_n 0, 1) := by decide +kernel
theorem d33_10 : decode method_3_code 10 = .ok (.iload_n 1, 1) := by decide +kernel
theorem sg33_9_2 : decs method_3_code [(9, .iload_n 0, 1), (10, .iload_n 1, 1)] := ⟨d33_9, d33_10, trivial⟩
theorem d33_11 : decode method_3_code 11 = .ok (.if_icmp .ne 6, 3) := by decide +kernel
theorem d33_14 : decode method_3_code 14 = .ok (.bipush 58, 2) := by decide +kernel
theorem sg33_14_1 : decs method_3_code [(14, .bipush 58, 2)] := ⟨d33_14, trivial⟩
theorem d33_16 : decode method_3_code 16 = .ok (.ireturn, 1) := by decide +kernel
theorem d33_17 : decode method_3_code 17 = .ok (.iload_n 0, 1) := by decide +kernel
theorem d33_18 : decode method_3_code 18 = .ok (.iload_n 1, 1) := by decide +kernel
theorem d33_19 : decode method_3_code 19 = .ok (.iconst 1, 1) := by decide +kernel
theorem d33_20 : decode method_3_code 20 = .ok (.iadd, 1) := by decide +kernel
theorem sg33_17_4 : decs method_3_code [(17, .iload_n 0, 1), (18, .iload_n 1, 1), (19, .iconst 1, 1), (20, .iadd, 1)] := ⟨d33_17, d33_18, d33_19, d33_20, trivial⟩
theorem d33_21 : decode method_3_code 21 = .ok (.if_icmp .ne 6, 3) := by decide +kernel
theorem d33_24 : decode method_3_code 24 = .ok (.bipush 32, 2) := by decide +kernel
theorem sg33_24_1 : decs method_3_code [(24, .bipush 32, 2)] := ⟨d33_24, trivial⟩
theorem d33_26 : decode method_3_code 26 = .ok (.ireturn, 1) := by decide +kernel
theorem d33_27 : decode method_3_code 27 = .ok (.aload_n 3, 1) := by decide +kernel
theorem d33_28 : decode method_3_code 28 = .ok (.iload_n 0, 1) := by decide +kernel
theorem d33_29 : decode method_3_code 29 = .ok (.iload_n 1, 1) := by decide +kernel
theorem d33_30 : decode method_3_code 30 = .ok (.isub, 1) := by decide +kernel
theorem sg33_27_4 : decs method_3_code [(27, .aload_n 3, 1), (28, .iload_n 0, 1), (29, .iload_n 1, 1), (30, .isub, 1)] := ⟨d33_27, d33_28, d33_29, d33_30, trivial⟩
theorem d33_31 : decode method_3_code 31 = .ok (.iconst 2, 1) := by decide +kernel
theorem d33_32 : decode method_3_code 32 = .ok (.isub, 1) := by decide +kernel
theorem sg33_31_2 : decs method_3_code [(31, .iconst 2, 1), (32, .isub, 1)] := ⟨d33_31, d33_32, trivial⟩
theorem d33_33 : decode method_3_code 33 = .ok (.caload, 1) := by decide +kernel
theorem d33_34 : decode method_3_code 34 = .ok (.ireturn, 1) := by decide +kernel
def f_rm33_0 (i0 u4 u5 u6 : Int32) : Int32 := (if i0 = (0 : Int32) then (58 : Int32) else (if i0 = (1 : Int32) then (32 : Int32) else (nar .char (own_at [u4, u5, u6] (i0 - (2 : Int32))))))
theorem ef_rm33_0 (m : MethodId) (x0 : Int32) (x1 : Int32) (x2 : Addr) (x3 : Addr) : entryFrame m #[(.int x0), (.int x1), (.ref x2), (.ref x3)] 4 = mkF m 0 #[.val (.int x0), .val (.int x1), .val (.ref x2), .val (.ref x3)] [] := by first | (simp [entryFrame, mkF, argsToLocals, Value.category]; done) | rfl
theorem own_w180 {Z : State} {a0 : Array Value} (hw : HW a0 Z) : (Cond.code ⟨"com/example/wary_meter/warymeter/RefusalMessagePinLaw", "exp", "(II[C[C)C"⟩ method_3_code 4 (Option.some Jvm.ClassFile.FieldType.char)).before a0 Z = true := hw _ (List.mem_of_getElem? (i := 180) rfl)
theorem own_pd31 : parseMethodDescriptor "(II[C[C)C" = some ⟨[.int, .int, (.array .char), (.array .char)], some .char⟩ := by decide +kernel
theorem own_w179 {Z : State} {a0 : Array Value} (hw : HW a0 Z) : (Cond.static ⟨"com/example/wary_meter/warymeter/RefusalMessagePinLaw", "exp", "(II[C[C)C"⟩).before a0 Z = true := hw _ (List.mem_of_getElem? (i := 179) rfl)
theorem d27_23 : decode method_4_code 23 = .ok (.if_icmp .ne 7, 3) := by decide +kernel
theorem d27_26 : decode method_4_code 26 = .ok (.iconst 1, 1) := by decide +kernel
theorem d27_27 : decode method_4_code 27 = .ok (.goto 4, 3) := by decide +kernel
theorem sg27_26_2 : decs method_4_code [(26, .iconst 1, 1), (27, .goto 4, 3)] := ⟨d27_26, d27_27, trivial⟩
theorem d27_30 : decode method_4_code 30 = .ok (.iconst 0, 1) := by decide +kernel
theorem sg27_30_1 : decs method_4_code [(30, .iconst 0, 1)] := ⟨d27_30, trivial⟩
theorem d27_31 : decode method_4_code 31 = .ok (.ireturn, 1) := by decide +kernel
theorem d27_8 : decode method_4_code 8 = .ok (.iconst 1, 1) := by decide +kernel
theorem sg27_8_1 : decs method_4_code [(8, .iconst 1, 1)] := ⟨d27_8, trivial⟩
theorem d27_9 : decode method_4_code 9 = .ok (.ireturn, 1) := by decide +kernel
def f_rm27_0 (i1 : Int32) (l_7 : List Int32) (u4 u5 u6 : Int32) : Int32 := (if i1 < (own_n l_7) then (if ((own_at l_7 i1) &&& (255 : Int32)) = (f_rm33_0 i1 u4 u5 u6) then (1 : Int32) else (0 : Int32)) else (1 : Int32))
theorem ef_rm27_0 (m : MethodId) (x0 : Addr) (x1 : Int32) (x2 : Int32) (x3 : Addr) (x4 : Addr) : entryFrame m #[(.ref x0), (.int x1), (.int x2), (.ref x3), (.ref x4)] 5 = mkF m 0 #[.val (.ref x0), .val (.int x1), .val (.int x2), .val (.ref x3), .val (.ref x4)] [] := by first | (simp [entryFrame, mkF, argsToLocals, Value.category]; done) | rfl
theorem own_w155 {Z : State} {a0 : Array Value} (hw : HW a0 Z) : (Cond.code ⟨"com/example/wary_meter/warymeter/RefusalMessagePinLaw", "ok", "(Ljava/lang/String;II[C[C)Z"⟩ method_4_code 5 (Option.some Jvm.ClassFile.FieldType.boolean)).before a0 Z = true := hw _ (List.mem_of_getElem? (i := 155) rfl)
theorem own_pd32 : parseMethodDescriptor "(Ljava/lang/String;II[C[C)Z" = some ⟨[(.object "java/lang/String"), .int, .int, (.array .char), (.array .char)], some .boolean⟩ := by decide +kernel
theorem own_w154 {Z : State} {a0 : Array Value} (hw : HW a0 Z) : (Cond.static ⟨"com/example/wary_meter/warymeter/RefusalMessagePinLaw", "ok", "(Ljava/lang/String;II[C[C)Z"⟩).before a0 Z = true := hw _ (List.mem_of_getElem? (i := 154) rfl)
theorem sg0_247_1 : decs code [(247, .iconst 0, 1)] := ⟨at_247, trivial⟩
theorem sg0_143_5 : decs code [(143, .aload 6, 2), (145, .iconst 1, 1), (146, .iload_n 2, 1), (147, .aload 4, 2), (149, .aload 5, 2)] := ⟨at_143, at_145, at_146, at_147, at_149, trivial⟩
theorem sg0_157_5 : decs code [(157, .aload 6, 2), (159, .iconst 2, 1), (160, .iload_n 2, 1), (161, .aload 4, 2), (163, .aload 5, 2)] := ⟨at_157, at_159, at_160, at_161, at_163, trivial⟩
theorem sg0_171_5 : decs code [(171, .aload 6, 2), (173, .iconst 3, 1), (174, .iload_n 2, 1), (175, .aload 4, 2), (177, .aload 5, 2)] := ⟨at_171, at_173, at_174, at_175, at_177, trivial⟩
theorem sg0_185_5 : decs code [(185, .aload 6, 2), (187, .iconst 4, 1), (188, .iload_n 2, 1), (189, .aload 4, 2), (191, .aload 5, 2)] := ⟨at_185, at_187, at_188, at_189, at_191, trivial⟩
theorem sg0_199_5 : decs code [(199, .aload 6, 2), (201, .iconst 5, 1), (202, .iload_n 2, 1), (203, .aload 4, 2), (205, .aload 5, 2)] := ⟨at_199, at_201, at_202, at_203, at_205, trivial⟩
theorem sg0_213_5 : decs code [(213, .aload 6, 2), (215, .bipush 6, 2), (217, .iload_n 2, 1), (218, .aload 4, 2), (220, .aload 5, 2)] := ⟨at_213, at_215, at_217, at_218, at_220, trivial⟩
theorem sg0_228_5 : decs code [(228, .aload 6, 2), (230, .bipush 7, 2), (232, .iload_n 2, 1), (233, .aload 4, 2), (235, .aload 5, 2)] := ⟨at_228, at_230, at_232, at_233, at_235, trivial⟩
theorem sg0_243_2 : decs code [(243, .iconst 1, 1), (244, .goto 4, 3)] := ⟨at_243, at_244, trivial⟩
theorem sg0_127_1 : decs code [(127, .iconst 0, 1)] := ⟨at_127, trivial⟩
theorem ef_rm1_2 (m : MethodId) (x0 : Int32) (x1 : Addr) : entryFrame m #[(.int x0), (.ref x1)] 2 = mkF m 0 #[.val (.int x0), .val (.ref x1)] [] := by first | (simp [entryFrame, mkF, argsToLocals, Value.category]; done) | rfl
theorem ef_rm10_2 (m : MethodId) (x0 : Addr) : entryFrame m #[(.ref x0)] 1 = mkF m 0 #[.val (.ref x0)] [] := by first | (simp [entryFrame, mkF, argsToLocals, Value.category]; done) | rfl
theorem ef_rm32_1 (m : MethodId) (x0 : Int32) (x1 : Int32) (x2 : Value) (hx2 : x2.isRef = true) : entryFrame m #[(.int x0), (.int x1), x2] 3 = mkF m 0 #[.val (.int x0), .val (.int x1), .val x2] [] := by rcases ref_cases hx2 with rfl | ⟨ax2, rfl⟩ <;> first | (simp [entryFrame, mkF, argsToLocals, Value.category]; done) | rfl
theorem ef_rm31_1 (m : MethodId) (x0 : Int32) (x1 : Int32) : entryFrame m #[(.int x0), (.int x1)] 2 = mkF m 0 #[.val (.int x0), .val (.int x1)] [] := by first | (simp [entryFrame, mkF, argsToLocals, Value.category]; done) | rfl
theorem ef_rm30_1 (m : MethodId) (x0 : Addr) (x1 : Int32) : entryFrame m #[(.ref x0), (.int x1)] 2 = mkF m 0 #[.val (.ref x0), .val (.int x1)] [] := by first | (simp [entryFrame, mkF, argsToLocals, Value.category]; done) | rfl
theorem ef_rm28_1 (m : MethodId) (x0 : Addr) (x1 : Int32) : entryFrame m #[(.ref x0), (.int x1)] 2 = mkF m 0 #[.val (.ref x0), .val (.int x1)] [] := by first | (simp [entryFrame, mkF, argsToLocals, Value.category]; done) | rfl
theorem d33_5 : decode method_3_code 5 = .ok (.aload_n 2, 1) := by decide +kernel
theorem d33_6 : decode method_3_code 6 = .ok (.iload_n 0, 1) := by decide +kernel
theorem sg33_5_2 : decs method_3_code [(5, .aload_n 2, 1), (6, .iload_n 0, 1)] := ⟨d33_5, d33_6, trivial⟩
theorem d33_7 : decode method_3_code 7 = .ok (.caload, 1) := by decide +kernel
theorem d33_8 : decode method_3_code 8 = .ok (.ireturn, 1) := by decide +kernel
theorem sg33_27_6 : decs method_3_code [(27, .aload_n 3, 1), (28, .iload_n 0, 1), (29, .iload_n 1, 1), (30, .isub, 1), (31, .iconst 2, 1), (32, .isub, 1)] := ⟨d33_27, d33_28, d33_29, d33_30, d33_31, d33_32, trivial⟩
def f_rm33_1 (i0 u1 u2 u3 u4 u5 u6 : Int32) : Int32 := (if i0 < (1 : Int32) then (nar .char (own_at [u1, u2, u3] i0)) else (if i0 = (1 : Int32) then (58 : Int32) else (if i0 = (2 : Int32) then (32 : Int32) else (nar .char (own_at [u4, u5, u6] ((i0 - (1 : Int32)) - (2 : Int32)))))))
theorem ef_rm33_1 (m : MethodId) (x0 : Int32) (x1 : Int32) (x2 : Addr) (x3 : Addr) : entryFrame m #[(.int x0), (.int x1), (.ref x2), (.ref x3)] 4 = mkF m 0 #[.val (.int x0), .val (.int x1), .val (.ref x2), .val (.ref x3)] [] := by first | (simp [entryFrame, mkF, argsToLocals, Value.category]; done) | rfl
def f_rm27_1 (i1 : Int32) (l_7 : List Int32) (u1 u2 u3 u4 u5 u6 : Int32) : Int32 := (if i1 < (own_n l_7) then (if ((own_at l_7 i1) &&& (255 : Int32)) = (f_rm33_1 i1 u1 u2 u3 u4 u5 u6) then (1 : Int32) else (0 : Int32)) else (1 : Int32))
theorem ef_rm27_1 (m : MethodId) (x0 : Addr) (x1 : Int32) (x2 : Int32) (x3 : Addr) (x4 : Addr) : entryFrame m #[(.ref x0), (.int x1), (.int x2), (.ref x3), (.ref x4)] 5 = mkF m 0 #[.val (.ref x0), .val (.int x1), .val (.int x2), .val (.ref x3), .val (.ref x4)] [] := by first | (simp [entryFrame, mkF, argsToLocals, Value.category]; done) | rfl
theorem ef_rm1_3 (m : MethodId) (x0 : Int32) (x1 : Addr) : entryFrame m #[(.int x0), (.ref x1)] 2 = mkF m 0 #[.val (.int x0), .val (.ref x1)] [] := by first | (simp [entryFrame, mkF, argsToLocals, Value.category]; done) | rfl
theorem ef_rm10_3 (m : MethodId) (x0 : Addr) : entryFrame m #[(.ref x0)] 1 = mkF m 0 #[.val (.ref x0)] [] := by first | (simp [entryFrame, mkF, argsToLocals, Value.category]; done) | rfl
theorem ef_rm32_2 (m : MethodId) (x0 : Int32) (x1 : Int32) (x2 : Value) (hx2 : x2.isRef = true) : entryFrame m #[(.int x0), (.int x1), x2] 3 = mkF m 0 #[.val (.int x0), .val (.int x1), .val x2] [] := by rcases ref_cases hx2 with rfl | ⟨ax2, rfl⟩ <;> first | (simp [entryFrame, mkF, argsToLocals, Value.category]; done) | rfl
theorem ef_rm31_2 (m : MethodId) (x0 : Int32) (x1 : Int32) : entryFrame m #[(.int x0), (.int x1)] 2 = mkF m 0 #[.val (.int x0), .val (.int x1)] [] := by first | (simp [entryFrame, mkF, argsToLocals, Value.category]; done) | rfl
theorem ef_rm30_2 (m : MethodId) (x0 : Addr) (x1 : Int32) : entryFrame m #[(.ref x0), (.int x1)] 2 = mkF m 0 #[.val (.ref x0), .val (.int x1)] [] := by first | (simp [entryFrame, mkF, argsToLocals, Value.category]; done) | rfl
theorem ef_rm28_2 (m : MethodId) (x0 : Addr) (x1 : Int32) : entryFrame m #[(.ref x0), (.int x1)] 2 = mkF m 0 #[.val (.ref x0), .val (.int x1)] [] := by first | (simp [entryFrame, mkF, argsToLocals, Value.category]; done) | rfl
def f_rm33_2 (i0 u1 u2 u3 u4 u5 u6 : Int32) : Int32 := (if i0 < (2 : Int32) then (nar .char (own_at [u1, u2, u3] i0)) else (if i0 = (2 : Int32) then (58 : Int32) else (if i0 = (3 : Int32) then (32 : Int32) else (nar .char (own_at [u4, u5, u6] ((i0 - (2 : Int32)) - (2 : Int32)))))))
theorem ef_rm33_2 (m : MethodId) (x0 : Int32) (x1 : Int32) (x2 : Addr) (x3 : Addr) : entryFrame m #[(.int x0), (.int x1), (.ref x2), (.ref x3)] 4 = mkF m 0 #[.val (.int x0), .val (.int x1), .val (.ref x2), .val (.ref x3)] [] := by first | (simp [entryFrame, mkF, argsToLocals, Value.category]; done) | rfl
def f_rm27_2 (i1 : Int32) (l_7 : List Int32) (u1 u2 u3 u4 u5 u6 : Int32) : Int32 := (if i1 < (own_n l_7) then (if ((own_at l_7 i1) &&& (255 : Int32)) = (f_rm33_2 i1 u1 u2 u3 u4 u5 u6) then (1 : Int32) else (0 : Int32)) else (1 : Int32))
theorem ef_rm27_2 (m : MethodId) (x0 : Addr) (x1 : Int32) (x2 : Int32) (x3 : Addr) (x4 : Addr) : entryFrame m #[(.ref x0), (.int x1), (.int x2), (.ref x3), (.ref x4)] 5 = mkF m 0 #[.val (.ref x0), .val (.int x1), .val (.int x2), .val (.ref x3), .val (.ref x4)] [] := by first | (simp [entryFrame, mkF, argsToLocals, Value.category]; done) | rfl
theorem ef_rm1_4 (m : MethodId) (x0 : Int32) (x1 : Addr) : entryFrame m #[(.int x0), (.ref x1)] 2 = mkF m 0 #[.val (.int x0), .val (.ref x1)] [] := by first | (simp [entryFrame, mkF, argsToLocals, Value.category]; done) | rfl
theorem ef_rm10_4 (m : MethodId) (x0 : Addr) : entryFrame m #[(.ref x0)] 1 = mkF m 0 #[.val (.ref x0)] [] := by first | (simp [entryFrame, mkF, argsToLocals, Value.category]; done) | rfl
theorem ef_rm32_3 (m : MethodId) (x0 : Int32) (x1 : Int32) (x2 : Value) (hx2 : x2.isRef = true) : entryFrame m #[(.int x0), (.int x1), x2] 3 = mkF m 0 #[.val (.int x0), .val (.int x1), .val x2] [] := by rcases ref_cases hx2 with rfl | ⟨ax2, rfl⟩ <;> first | (simp [entryFrame, mkF, argsToLocals, Value.category]; done) | rfl
theorem ef_rm31_3 (m : MethodId) (x0 : Int32) (x1 : Int32) : entryFrame m #[(.int x0), (.int x1)] 2 = mkF m 0 #[.val (.int x0), .val (.int x1)] [] := by first | (simp [entryFrame, mkF, argsToLocals, Value.category]; done) | rfl
theorem ef_rm30_3 (m : MethodId) (x0 : Addr) (x1 : Int32) : entryFrame m #[(.ref x0), (.int x1)] 2 = mkF m 0 #[.val (.ref x0), .val (.int x1)] [] := by first | (simp [entryFrame, mkF, argsToLocals, Value.category]; done) | rfl
theorem ef_rm28_3 (m : MethodId) (x0 : Addr) (x1 : Int32) : entryFrame m #[(.ref x0), (.int x1)] 2 = mkF m 0 #[.val (.ref x0), .val (.int x1)] [] := by first | (simp [entryFrame, mkF, argsToLocals, Value.category]; done) | rfl
def f_rm33_3 (i0 u1 u2 u3 u4 u5 u6 : Int32) : Int32 := (if i0 < (3 : Int32) then (nar .char (own_at [u1, u2, u3] i0)) else (if i0 = (3 : Int32) then (58 : Int32) else (if i0 = (4 : Int32) then (32 : Int32) else (nar .char (own_at [u4, u5, u6] ((i0 - (3 : Int32)) - (2 : Int32)))))))
theorem ef_rm33_3 (m : MethodId) (x0 : Int32) (x1 : Int32) (x2 : Addr) (x3 : Addr) : entryFrame m #[(.int x0), (.int x1), (.ref x2), (.ref x3)] 4 = mkF m 0 #[.val (.int x0), .val (.int x1), .val (.ref x2), .val (.ref x3)] [] := by first | (simp [entryFrame, mkF, argsToLocals, Value.category]; done) | rfl
def f_rm27_3 (i1 : Int32) (l_7 : List Int32) (u1 u2 u3 u4 u5 u6 : Int32) : Int32 := (if i1 < (own_n l_7) then (if ((own_at l_7 i1) &&& (255 : Int32)) = (f_rm33_3 i1 u1 u2 u3 u4 u5 u6) then (1 : Int32) else (0 : Int32)) else (1 : Int32))
theorem ef_rm27_3 (m : MethodId) (x0 : Addr) (x1 : Int32) (x2 : Int32) (x3 : Addr) (x4 : Addr) : entryFrame m #[(.ref x0), (.int x1), (.int x2), (.ref x3), (.ref x4)] 5 = mkF m 0 #[.val (.ref x0), .val (.int x1), .val (.int x2), .val (.ref x3), .val (.ref x4)] [] := by first | (simp [entryFrame, mkF, argsToLocals, Value.category]; done) | rfl
theorem ef_rm0 (m : MethodId) (x0 : Int32) (x1 : Int32) : entryFrame m #[(.int x0), (.int x1)] maxLocals = mkF m 0 #[.val (.int x0), .val (.int x1), .unset, .unset, .unset, .unset, .unset] [] := by first | (simp [entryFrame, mkF, argsToLocals, Value.category, maxLocals]; done) | rfl
abbrev own_EL : List (String × Nat) := [("com/example/wary_meter/warymeter/Refusal", 23), ("com/example/wary_meter/warymeter/RefusalMessagePinLaw", 7)]
theorem own_hEL {Z : State} {a0 : Array Value} (hw : HW a0 Z) : EW Z a0 own_EL := (EW.cons (own_w104 hw) (by decide) (EW.cons (own_w8 hw) (by decide) EW.nil))
theorem own_wS0 : ∀ a ∈ Bundle.stringAtoms, a ∈ tables_1 := by decide +kernel
theorem own_wS {Z : State} {a0 : Array Value} (hw : HW a0 Z) : ∀ a ∈ Bundle.stringAtoms, a.before a0 Z = true := fun a ha => hw a (own_wS0 a ha)
theorem rm1_0 (l : Launch) (Z : State) (a0 : Array Value) (hw : HW a0 Z) (ws : List Jvm.Cond) (o1 : Addr) (h0 : Heap) (n0 : Nat) (O0 : Old Z n0 h0) :
    ConW l Z own_EL ([] : List Addr) false (⟨"com/example/wary_meter/warymeter/RefusalMessagePinLaw", "mk", "(I[C)Ljava/lang/String;"⟩ : MethodName) method_2_code 2 (some (.object "java/lang/String")) ws ({ frames := 0, cells := 2, slots := 4, locals := 0 } : Room) #[(.int (0 : Int32)), (.ref o1)] h0 (fun v h L => ∃ (ad1 : Jvm.Addr), ∃ (b1 : Jvm.Addr), ∃ (k1 : ClassId), v = some (.ref ad1) ∧ Fr n0 L ∧ Keep h0 h [] ∧ Exa Z h ad1 "java/lang/String" ∧ Fld Z h ad1 "java/lang/String" "coder" "B" (.int (0 : Int32)) ∧ Fld Z h ad1 "java/lang/String" "value" "[B" (.ref b1) ∧ Arv Z h b1 k1 .byte (0 : Int32) [] (.int (0 : Int32))) := by
 refine own_bodyW (plainFor_of_name own_pn0) (fun m => ef_rm1_0 m (0 : Int32) o1) ?_
 intro p e s m below meth c s₁ hx hby hlk hml hret hZ hown hnm X0 e0 Cd0
 have N0 := Fr.nil n0
 refine Home.run X0 hx hby sg1_0_1 (pc' := 1) (L' := #[.val (.int (0 : Int32)), .val (.ref o1)]) (S' := [(.int (0 : Int32))]) rfl ?_
 refine Home.go (fun _ => XS.ifNo X0.here hx rfl (hb hby d1_1) rfl ((if0 _ _).trans (teq (by decide)).2)) ?_
 obtain ⟨ad1, b1, k1, T1, h1, X1, e1, E1, hZ, hown, Cd1, Ea1, Fc1, Fv1, V1, la1, lb1, hne1, st1⟩ := own_ldcW X0 hx hZ hown (own_hEL hw) Cd0 (own_w8 hw) (own_wS hw) e0 (List.mem_of_getElem? (i := 1) rfl) (vs := []) (z := (0 : Int32)) ⟨by decide, by rfl⟩ (by decide) (by decide) (g := (mkF m 4 #[.val (.int (0 : Int32)), .val (.ref o1)] [])) rfl (hb hby d1_4) (n := 0) (by decide) (by decide) (by decide) (by decide)
 refine Home.go st1 ?_
 have O1 := O0.ext E1
 have K1 : Keep h0 h1 ([] : List Addr) := Keep.ext (Keep.refl h0 ([] : List Addr)) E1
 exact HomeW.retR X1 hx hlk hZ (own_hEL hw) e1 Cd1 (by intro q; cases q) hret rfl rfl (hb hby d1_6) (by rw [show T1.heap = h1 from e1]; exact ⟨ad1, b1, k1, rfl, N0, K1, Ea1, Fc1, Fv1, V1⟩) (by decide) (by decide)
theorem rm35_0 (l : Launch) (Z : State) (a0 : Array Value) (hw : HW a0 Z) (ws : List Jvm.Cond) (i0 : Int32) (h0 : Heap) (n0 : Nat) (O0 : Old Z n0 h0) (bnd_i0 : ¬ i0 < (0 : Int32) ∧ ¬ (255 : Int32) < i0) :
    Con l Z (⟨"java/lang/StringLatin1", "canEncode", "(C)Z"⟩ : MethodName) jdk_43_method_3_code 1 (some .boolean) ws ({ frames := 0, cells := 0, slots := 0, locals := 0 } : Room) #[(.int i0)] h0 (Pur (some (.int (1 : Int32))) h0) := by
 refine own_body (plainFor_of_name own_pn1) (fun m => ef_rm35_0 m i0) ?_
 intro p e s m below meth c s₁ hx hby hlk hml hret hZ hown hnm X0 e0
 have N0 := Fr.nil n0
 refine Home.run X0 hx hby sg35_0_2 (pc' := 4) (L' := #[.val (.int i0)]) (S' := [(.int (255 : Int32)), (.int i0)]) rfl ?_
 refine Home.go (fun _ => XS.icmpNo X0.here hx rfl (hb hby d35_4) rfl (flt (bnd_nlt (bnd_lit (255 : Int32)) bnd_i0 (by decide +kernel))).2.2.1) ?_
 refine Home.run X0 hx hby sg35_7_2 (pc' := 12) (L' := #[.val (.int i0)]) (S' := [(.int (1 : Int32))]) rfl ?_
 exact Home.retN X0 hx hlk (t := .boolean) hret (by simp) (hb hby d35_12) ⟨congrArg some (congrArg Value.int (by first | rfl | exact nar_i2c _ | exact nar_i2b _)), rfl, e0⟩ (by decide) (by decide)
theorem rm36_0 (l : Launch) (Z : State) (a0 : Array Value) (hw : HW a0 Z) (ws : List Jvm.Cond) (i0 : Int32) (h0 : Heap) (n0 : Nat) (O0 : Old Z n0 h0) (bnd_i0 : ¬ i0 < (0 : Int32) ∧ ¬ (255 : Int32) < i0) :
    Con l Z (⟨"java/lang/StringLatin1", "toBytes", "(C)[B"⟩ : MethodName) jdk_43_method_46_code 1 (some (.array .byte)) ws ({ frames := 0, cells := 1, slots := 1, locals := 0 } : Room) #[(.int i0)] h0 (fun v h L => ∃ (b1 : Addr), ∃ (k1 : ClassId), v = some (.ref b1) ∧ Fr n0 L ∧ h0.size ≤ b1 ∧ Keep h0 h [] ∧ Arv Z h b1 k1 .byte (1 : Int32) [(.int (i0.toInt8.toInt32))] (.int (0 : Int32))) := by
 refine own_body (plainFor_of_name own_pn1) (fun m => ef_rm36_0 m i0) ?_
 intro p e s m below meth c s₁ hx hby hlk hml hret hZ hown hnm X0 e0
 have N0 := Fr.nil n0
 refine Home.run X0 hx hby sg36_0_1 (pc' := 1) (L' := #[.val (.int i0)]) (S' := [(.int (1 : Int32))]) rfl ?_
 refine Home.na (own_newP (aty := .byte) X0 hx hZ (own_w11 hw) e0 (g := (mkF m 1 #[.val (.int i0)] [(.int (1 : Int32))])) rfl (hb hby d36_1) rfl (by decide) (cap := 1) (by decide) (by decide) (by decide) (by decide)) fun T1 h1 k1 b1 g1 X1 e1 E1 A1 => ?_
 have g_b1 : n0 ≤ b1 := Nat.le_trans (Old.le O0) (Nat.le_of_eq g1.symm)
 have V1 : Arv Z h1 b1 k1 .byte (1 : Int32) [(.int (0 : Int32))] (.int (0 : Int32)) := (Arv.new A1 (by decide)).pad (pad_rep [] (.int (0 : Int32)) 1)
 have O1 := O0.ext E1
 have K1 : Keep h0 h1 ([] : List Addr) := Keep.ext (Keep.refl h0 ([] : List Addr)) E1
 refine Home.run X1 hx hby sg36_3_4 (pc' := 7) (L' := #[.val (.int i0)]) (S' := [(.int (i0.toInt8.toInt32)), (.int (0 : Int32)), (.ref b1), (.ref b1)]) rfl ?_
 obtain ⟨cl2, Ar2, q2, S2, M2, H2, G2⟩ := id V1
 refine Home.wr (stB X1 hx hZ e1 Ar2 (j := (0 : Int32)) (inb_of S2 ⟨by decide, by decide⟩) rfl rfl (hb hby d36_7)) fun T2 h2 X2 e2 W2 => ?_
 have W2' := Wr.to W2 (congrArg Value.int (nar_byte_id (bnd_i2b i0) (by decide +kernel) (by decide +kernel)))
 have V2 : Arv Z h2 b1 k1 .byte (1 : Int32) [(.int (i0.toInt8.toInt32))] (.int (0 : Int32)) := Arv.set Ar2 q2 S2 M2 H2 G2 (fits_byte_b (bnd_i2b i0) (by decide +kernel) (by decide +kernel)) W2' 0 rfl (Nat.le_of_ble_eq_true rfl)
 have O2 := O1.wr W2 g_b1
 have K2 : Keep h0 h2 ([] : List Addr) := Keep.wr K1 W2 (Or.inr (Nat.le_trans (Nat.le_refl _) (Nat.le_of_eq g1.symm)))
 have N2 := Fr.snoc X2 N0 g_b1
 show Home T2 (mkF m 8 #[.val (.int i0)] [(.ref b1)])
 exact Home.retR X2 hx hlk hret rfl rfl (hb hby d36_8) (by rw [show T2.heap = h2 from e2]; exact ⟨b1, k1, rfl, N2, (Nat.le_trans (Nat.le_refl _) (Nat.le_of_eq g1.symm)), K2, V2⟩) (by decide) (by decide)
theorem rm37_0 (l : Launch) (Z : State) (a0 : Array Value) (hw : HW a0 Z) (ws : List Jvm.Cond) (o0 o1 : Addr) (h0 : Heap) (n0 : Nat) (O0 : Old Z n0 h0) (E_o0 : Exa Z h0 o0 "java/lang/String") (F_value_o0 : Fld Z h0 o0 "java/lang/String" "value" "[B" .null) (g_o0 : n0 ≤ o0) (F_coder_o0 : Fld Z h0 o0 "java/lang/String" "coder" "B" (.int (0 : Int32))) :
    Con l Z (⟨"java/lang/String", "<init>", "([BB)V"⟩ : MethodName) jdk_42_method_151_code 3 none ws ({ frames := 1, cells := 0, slots := 0, locals := 12 } : Room) #[(.ref o0), (.ref o1), (.int (0 : Int32))] h0 (fun v h L => v = none ∧ Fr n0 L ∧ Keep h0 h [o0] ∧ Exa Z h o0 "java/lang/String" ∧ Fld Z h o0 "java/lang/String" "value" "[B" (.ref o1) ∧ Fld Z h o0 "java/lang/String" "coder" "B" (.int (0 : Int32))) := by
 refine own_body (plainFor_of_name own_pn2) (fun m => ef_rm37_0 m o0 o1 (0 : Int32)) ?_
 intro p e s m below meth c s₁ hx hby hlk hml hret hZ hown hnm X0 e0
 have N0 := Fr.nil n0
 refine Home.run X0 hx hby sg37_0_1 (pc' := 1) (L' := #[.val (.ref o0), .val (.ref o1), .val (.int (0 : Int32))]) (S' := [(.ref o0)]) rfl ?_
 refine Home.st (initO X0 hx hZ hown (own_w118 hw) (own_w25 hw) (own_w26 hw) e0 rfl (by rw [hml]; rfl) rfl (hb hby d37_1) (by decide) (W := 0) (by exact hW0) (by decide)) fun T1 X1 e1 => ?_
 refine Home.run X1 hx hby sg37_4_2 (pc' := 6) (L' := #[.val (.ref o0), .val (.ref o1), .val (.int (0 : Int32))]) (S' := [(.ref o1), (.ref o0)]) rfl ?_
 refine Home.wr (putF X1 hx hZ hown (host := "") (Or.inl (own_w69 hw)) Via.refl e1 F_value_o0 E_o0 (Or.inr ⟨(own_w12 hw), rfl, hnm⟩) (own_w10 hw) (ty := (.array .byte)) (by decide) rfl rfl rfl rfl (hb hby d37_6)) fun T2 h2 X2 e2 W2 => ?_
 have Fw2 := F_value_o0.same W2
 have O2 := O0.wr W2 g_o0
 have K2 : Keep h0 h2 ([o0] : List Addr) := Keep.wr (Keep.refl h0 ([o0] : List Addr)) W2 (Or.inl (List.mem_of_getElem? (i := 0) rfl))
 have N2 := Fr.snoc X2 N0 g_o0
 show Home T2 (mkF m 9 #[.val (.ref o0), .val (.ref o1), .val (.int (0 : Int32))] [])
 refine Home.run X2 hx hby sg37_9_2 (pc' := 11) (L' := #[.val (.ref o0), .val (.ref o1), .val (.int (0 : Int32))]) (S' := [(.int (0 : Int32)), (.ref o0)]) rfl ?_
 have q3 := (F_coder_o0.other W2 (Or.inr (slot_ne (Or.inr (own_w13 hw)) (Or.inr (own_w12 hw)) (by decide) (t := .byte) (t' := (.array .byte)) (by decide) (by decide))))
 refine Home.wr (putFN X2 hx hZ hown (own_w76 hw) Via.refl e2 q3 (E_o0.keep K2) (Or.inr ⟨(own_w13 hw), rfl, hnm⟩) (own_w10 hw) (ty := .byte) (v := (.int (0 : Int32))) (v' := (.int (0 : Int32))) (by decide) rfl rfl rfl rfl (hb hby d37_11)) fun T4 h4 X4 e4 W4 => ?_
 have Fw4 := q3.same W4
 have O4 := O2.wr W4 g_o0
 have K4 : Keep h0 h4 ([o0] : List Addr) := Keep.wr K2 W4 (Or.inl (List.mem_of_getElem? (i := 0) rfl))
 have N4 := Fr.snoc X4 N2 g_o0
 have q5 := (Fw2.other W4 (Or.inr (slot_ne (Or.inr (own_w12 hw)) (Or.inr (own_w13 hw)) (by decide) (t := (.array .byte)) (t' := .byte) (by decide) (by decide))))
 exact Home.ret0 X4 hx hlk hret (hb hby d37_14) (by rw [show T4.heap = h4 from e4]; exact ⟨rfl, N4, K4, (E_o0.keep K4), q5, Fw4⟩) (by decide) (by decide)
theorem rm34_0 (l : Launch) (Z : State) (a0 : Array Value) (hw : HW a0 Z) (ws : List Jvm.Cond) (i0 sv_COMPACT_STRINGS : Int32) (h0 : Heap) (n0 : Nat) (O0 : Old Z n0 h0) (bnd_i0 : ¬ i0 < (0 : Int32) ∧ ¬ (255 : Int32) < i0) (S_COMPACT_STRINGS : Sta Z Z.heap "java/lang/String" "COMPACT_STRINGS" "Z" (.int sv_COMPACT_STRINGS)) (hCS : ¬ (sv_COMPACT_STRINGS = (0 : Int32))) :
    Con l Z (⟨"java/lang/String", "valueOf", "(C)Ljava/lang/String;"⟩ : MethodName) jdk_42_method_139_code 1 (some (.object "java/lang/String")) ws ({ frames := 2, cells := 2, slots := 5, locals := 27 } : Room) #[(.int i0)] h0 (fun v h L => ∃ (b3 : Addr), ∃ (b1_4 : Addr), ∃ (k1_4 : ClassId), v = some (.ref b3) ∧ Fr n0 L ∧ h0.size ≤ b3 ∧ h0.size ≤ b1_4 ∧ Keep h0 h [] ∧ Exa Z h b3 "java/lang/String" ∧ Fld Z h b3 "java/lang/String" "value" "[B" (.ref b1_4) ∧ Fld Z h b3 "java/lang/String" "coder" "B" (.int (0 : Int32)) ∧ Arv Z h b1_4 k1_4 .byte (1 : Int32) [(.int (i0.toInt8.toInt32))] (.int (0 : Int32))) := by
 refine own_body (plainFor_of_name own_pn2) (fun m => ef_rm34_0 m i0) ?_
 intro p e s m below meth c s₁ hx hby hlk hml hret hZ hown hnm X0 e0
 have N0 := Fr.nil n0
 refine Home.st (getS2 X0 hx hZ hown (host := "") (Or.inl (own_w75 hw)) Via.refl e0 (S_COMPACT_STRINGS.ext O0.2) rfl (hb hby d34_0)) fun T1 X1 e1 => ?_
 refine Home.go (fun _ => XS.ifNo X1.here hx rfl (hb hby d34_3) rfl ((if0 _ _).trans (feq hCS).1)) ?_
 refine Home.run X1 hx hby sg34_6_1 (pc' := 7) (L' := #[.val (.int i0)]) (S' := [(.int i0)]) rfl ?_
 refine Home.st (own_pure (own_static X1 hx hZ hown (own_w184 hw) (own_w185 hw) (own_w168 hw) (own_w186 hw) (by decide) (rm35_0 l Z a0 hw [] i0 h0 n0 O0 bnd_i0) e1 rfl (by rw [hml]; rfl) (argsL := [(.int i0)]) (rest := []) (lenOf own_pd1 rfl) rfl rfl (W := 0) (by exact hW0) (by decide) (by decide) (hb hby d34_7) (by decide) (by decide))) fun T2 X2 e2 => ?_
 refine Home.go (fun _ => XS.ifNo X2.here hx rfl (hb hby d34_10) rfl ((if0 _ _).trans (feq (by decide)).1)) ?_
 refine Home.nw (own_newO X2 hx hZ hown (own_w187 hw) (own_w10 hw) (own_w9 hw) e2 rfl (hb hby d34_13) (by decide) (by decide)) fun T3 h3 b3 g3 X3 e3 E3 A3 D3 => ?_
 have g_b3 : n0 ≤ b3 := Nat.le_trans (Old.le O0) (Nat.le_of_eq g3.symm)
 have F_value_b3 : Fld Z h3 b3 "java/lang/String" "value" "[B" .null := D3 (Or.inr (own_w12 hw)) (ty := (.array .byte)) (by decide)
 have F_coder_b3 : Fld Z h3 b3 "java/lang/String" "coder" "B" (.int (0 : Int32)) := D3 (Or.inr (own_w13 hw)) (ty := .byte) (by decide)
 have O3 := O0.ext E3
 have K3 : Keep h0 h3 ([] : List Addr) := Keep.ext (Keep.refl h0 ([] : List Addr)) E3
 show Home T3 (mkF m 16 #[.val (.int i0)] [(.ref b3)])
 refine Home.run X3 hx hby sg34_16_2 (pc' := 18) (L' := #[.val (.int i0)]) (S' := [(.int i0), (.ref b3), (.ref b3)]) rfl ?_
 refine Home.call (own_static X3 hx hZ hown (own_w188 hw) (own_w189 hw) (own_w168 hw) (own_w190 hw) (by decide) (rm36_0 l Z a0 hw [] i0 h3 n0 O3 bnd_i0) e3 rfl (by rw [hml]; rfl) (argsL := [(.int i0)]) (rest := [(.ref b3), (.ref b3)]) (lenOf own_pd2 rfl) rfl rfl (W := 2) (by exact hW0) (by decide) (by decide) (hb hby d34_18) (by decide) (by decide)) ?_
 rintro _ T4 L4 X4 ⟨b1_4, k1_4, rfl, N4q, sz_b1_4, K4q, P4_0⟩
 have g_b1_4 : n0 ≤ b1_4 := Nat.le_trans (Old.le O3) sz_b1_4
 have O4 := Old.keep O3 K4q all0
 have K4 : Keep h0 T4.heap ([] : List Addr) := Keep.trans K3 K4q all0
 have N4 := Fr.app N0 N4q
 refine Home.run X4 hx hby sg34_21_1 (pc' := 22) (L' := #[.val (.int i0)]) (S' := [(.int (0 : Int32)), (.ref b1_4), (.ref b3), (.ref b3)]) rfl ?_
 have q5 := (A3.keep K4q)
 have q6 := (F_value_b3.keep K4q nin0)
 have q7 := (F_coder_b3.keep K4q nin0)
 refine Home.call (own_special X4 hx hZ hown rfl (own_w191 hw) (own_w192 hw) (own_w9 hw) (own_w193 hw) (by decide) (rm37_0 l Z a0 hw [] b3 b1_4 T4.heap n0 O4 q5 q6 g_b3 q7) rfl rfl (by rw [hml]; rfl) (a := b3) (argsL := [(.ref b1_4), (.int (0 : Int32))]) (rest := [(.ref b3)]) (lenOf own_pd3 rfl) rfl rfl (W := 1) (by exact hW0) (by decide) (by decide) (hb hby d34_22) (by decide) (by decide)) ?_
 rintro _ T8 L8 X8 ⟨rfl, N8q, K8q, P8_0, P8_1, P8_2⟩
 have O8 := Old.keep O4 K8q (allS g_b3 all0)
 have K8 : Keep h0 T8.heap ([] : List Addr) := Keep.trans K4 K8q (allS (Or.inr (Nat.le_trans (Nat.le_refl _) (Nat.le_of_eq g3.symm))) all0)
 have N8 := Fr.app N4 N8q
 show Home T8 (mkF m 25 #[.val (.int i0)] [(.ref b3)])
 have ne9 : b1_4 ≠ b3 := (Ne.symm (Nat.ne_of_lt (Nat.lt_of_lt_of_le A3.lt (Nat.le_trans (Nat.le_refl _) sz_b1_4))))
 have q10 := (P4_0.keep K8q (ninS ne9 nin0))
 exact Home.retR X8 hx hlk hret rfl rfl (hb hby d34_25) ⟨b3, b1_4, k1_4, rfl, N8, (Nat.le_trans (Nat.le_refl _) (Nat.le_of_eq g3.symm)), (Nat.le_trans E3.1 sz_b1_4), K8, P8_0, P8_1, P8_2, q10⟩ (by decide) (by decide)
theorem rm41_0 (l : Launch) (Z : State) (a0 : Array Value) (hw : HW a0 Z) (ws : List Jvm.Cond) (o0 o2 : Addr) (k_o0 : ClassId) (u1 u2 : Int32) (k_o2 : ClassId) (h0 : Heap) (n0 : Nat) (O0 : Old Z n0 h0) (V_o0 : Arv Z h0 o0 k_o0 .char (2 : Int32) [(.int u1), (.int u2)] (.int (0 : Int32))) (bnd_u1 : ¬ u1 < (0 : Int32) ∧ ¬ (255 : Int32) < u1) (V_o2 : Arv Z h0 o2 k_o2 .byte (2 : Int32) [(.int (0 : Int32)), (.int (0 : Int32))] (.int (0 : Int32))) (g_o2 : n0 ≤ o2) (ne_o0_o2 : o0 ≠ o2) (bnd_u2 : ¬ u2 < (0 : Int32) ∧ ¬ (255 : Int32) < u2) :
    Con l Z (⟨"java/lang/StringUTF16", "compress", "([CI[BII)I"⟩ : MethodName) jdk_52_method_21_code 7 (some .int) ws ({ frames := 0, cells := 0, slots := 0, locals := 0 } : Room) #[(.ref o0), (.int (0 : Int32)), (.ref o2), (.int (0 : Int32)), (.int (2 : Int32))] h0 (fun v h L => v = some (.int (2 : Int32)) ∧ Fr n0 L ∧ Keep h0 h [o2] ∧ Arv Z h o2 k_o2 .byte (2 : Int32) [(.int (u1.toInt8.toInt32)), (.int (u2.toInt8.toInt32))] (.int (0 : Int32))) := by
 refine own_body (plainFor_of_name own_pn3) (fun m => ef_rm41_0 m o0 (0 : Int32) o2 (2 : Int32)) ?_
 intro p e s m below meth c s₁ hx hby hlk hml hret hZ hown hnm X0 e0
 have N0 := Fr.nil n0
 refine Home.run X0 hx hby sg41_0_4 (pc' := 7) (L' := #[.val (.ref o0), .val (.int (0 : Int32)), .val (.ref o2), .val (.int (0 : Int32)), .val (.int (2 : Int32)), .val (.int (0 : Int32)), .unset]) (S' := [(.int (2 : Int32)), (.int (0 : Int32))]) rfl ?_
 refine Home.go (fun _ => XS.icmpNo X0.here hx rfl (hb hby d41_7) rfl (tlt (by decide)).2.1) ?_
 refine Home.run X0 hx hby sg41_10_2 (pc' := 12) (L' := #[.val (.ref o0), .val (.int (0 : Int32)), .val (.ref o2), .val (.int (0 : Int32)), .val (.int (2 : Int32)), .val (.int (0 : Int32)), .unset]) (S' := [(.int (0 : Int32)), (.ref o0)]) rfl ?_
 obtain ⟨cl1, Ar1, q1, S1, M1, H1, G1⟩ := id V_o0
 have ib1 : ¬ ((0 : Int32) < 0 ∨ cl1.slots.size ≤ ((0 : Int32)).toNatClampNeg) := inb_of S1 ⟨by decide, by decide⟩
 refine Home.go (X0.caload hx (j := (0 : Int32)) (v := (.int u1)) (by rw [e0]; exact Ar1.1) (State.isArrayOf_alike hZ.alike Ar1.2.1) Ar1.2.2 ib1 (Has.at H1 ib1 rfl) rfl rfl (hb hby d41_12)) ?_
 refine Home.run X0 hx hby sg41_13_3 (pc' := 20) (L' := #[.val (.ref o0), .val (.int (0 : Int32)), .val (.ref o2), .val (.int (0 : Int32)), .val (.int (2 : Int32)), .val (.int (0 : Int32)), .val (.int u1)]) (S' := [(.int (255 : Int32)), (.int u1)]) rfl ?_
 refine Home.go (fun _ => XS.icmpYes X0.here hx rfl (pc0 := 20) (pc' := 26) rfl (hb hby d41_20) rfl (flt (bnd_nlt (bnd_lit (255 : Int32)) bnd_u1 (by decide +kernel))).2.2.2 (by decide) (by decide)) ?_
 refine Home.run X0 hx hby sg41_26_4 (pc' := 31) (L' := #[.val (.ref o0), .val (.int (0 : Int32)), .val (.ref o2), .val (.int (0 : Int32)), .val (.int (2 : Int32)), .val (.int (0 : Int32)), .val (.int u1)]) (S' := [(.int (u1.toInt8.toInt32)), (.int (0 : Int32)), (.ref o2)]) rfl ?_
 obtain ⟨cl2, Ar2, q2, S2, M2, H2, G2⟩ := id V_o2
 refine Home.wr (stB X0 hx hZ e0 Ar2 (j := (0 : Int32)) (inb_of S2 ⟨by decide, by decide⟩) rfl rfl (hb hby d41_31)) fun T2 h2 X2 e2 W2 => ?_
 have W2' := Wr.to W2 (congrArg Value.int (nar_byte_id (bnd_i2b u1) (by decide +kernel) (by decide +kernel)))
 have V2 : Arv Z h2 o2 k_o2 .byte (2 : Int32) [(.int (u1.toInt8.toInt32)), (.int (0 : Int32))] (.int (0 : Int32)) := Arv.set Ar2 q2 S2 M2 H2 G2 (fits_byte_b (bnd_i2b u1) (by decide +kernel) (by decide +kernel)) W2' 0 rfl (Nat.le_of_ble_eq_true rfl)
 have O2 := O0.wr W2 g_o2
 have K2 : Keep h0 h2 ([o2] : List Addr) := Keep.wr (Keep.refl h0 ([o2] : List Addr)) W2 (Or.inl (List.mem_of_getElem? (i := 0) rfl))
 have N2 := Fr.snoc X2 N0 g_o2
 show Home T2 (mkF m 32 #[.val (.ref o0), .val (.int (0 : Int32)), .val (.ref o2), .val (.int (0 : Int32)), .val (.int (2 : Int32)), .val (.int (0 : Int32)), .val (.int u1)] [])
 refine Home.run X2 hx hby sg41_32_6 (pc' := 7) (L' := #[.val (.ref o0), .val (.int (1 : Int32)), .val (.ref o2), .val (.int (1 : Int32)), .val (.int (2 : Int32)), .val (.int (1 : Int32)), .val (.int u1)]) (S' := [(.int (2 : Int32)), (.int (1 : Int32))]) rfl ?_
 refine Home.go (fun _ => XS.icmpNo X2.here hx rfl (hb hby d41_7) rfl (tlt (by decide)).2.1) ?_
 refine Home.run X2 hx hby sg41_10_2 (pc' := 12) (L' := #[.val (.ref o0), .val (.int (1 : Int32)), .val (.ref o2), .val (.int (1 : Int32)), .val (.int (2 : Int32)), .val (.int (1 : Int32)), .val (.int u1)]) (S' := [(.int (1 : Int32)), (.ref o0)]) rfl ?_
 have q3 := (V_o0.other W2 ne_o0_o2)
 obtain ⟨cl4, Ar4, q4, S4, M4, H4, G4⟩ := id q3
 have ib4 : ¬ ((1 : Int32) < 0 ∨ cl4.slots.size ≤ ((1 : Int32)).toNatClampNeg) := inb_of S4 ⟨by decide, by decide⟩
 refine Home.go (X2.caload hx (j := (1 : Int32)) (v := (.int u2)) (by rw [e2]; exact Ar4.1) (State.isArrayOf_alike hZ.alike Ar4.2.1) Ar4.2.2 ib4 (Has.at H4 ib4 rfl) rfl rfl (hb hby d41_12)) ?_
 refine Home.run X2 hx hby sg41_13_3 (pc' := 20) (L' := #[.val (.ref o0), .val (.int (1 : Int32)), .val (.ref o2), .val (.int (1 : Int32)), .val (.int (2 : Int32)), .val (.int (1 : Int32)), .val (.int u2)]) (S' := [(.int (255 : Int32)), (.int u2)]) rfl ?_
 refine Home.go (fun _ => XS.icmpYes X2.here hx rfl (pc0 := 20) (pc' := 26) rfl (hb hby d41_20) rfl (flt (bnd_nlt (bnd_lit (255 : Int32)) bnd_u2 (by decide +kernel))).2.2.2 (by decide) (by decide)) ?_
 refine Home.run X2 hx hby sg41_26_4 (pc' := 31) (L' := #[.val (.ref o0), .val (.int (1 : Int32)), .val (.ref o2), .val (.int (1 : Int32)), .val (.int (2 : Int32)), .val (.int (1 : Int32)), .val (.int u2)]) (S' := [(.int (u2.toInt8.toInt32)), (.int (1 : Int32)), (.ref o2)]) rfl ?_
 obtain ⟨cl5, Ar5, q5, S5, M5, H5, G5⟩ := id V2
 refine Home.wr (stB X2 hx hZ e2 Ar5 (j := (1 : Int32)) (inb_of S5 ⟨by decide, by decide⟩) rfl rfl (hb hby d41_31)) fun T5 h5 X5 e5 W5 => ?_
 have W5' := Wr.to W5 (congrArg Value.int (nar_byte_id (bnd_i2b u2) (by decide +kernel) (by decide +kernel)))
 have V5 : Arv Z h5 o2 k_o2 .byte (2 : Int32) [(.int (u1.toInt8.toInt32)), (.int (u2.toInt8.toInt32))] (.int (0 : Int32)) := Arv.set Ar5 q5 S5 M5 H5 G5 (fits_byte_b (bnd_i2b u2) (by decide +kernel) (by decide +kernel)) W5' 1 rfl (Nat.le_of_ble_eq_true rfl)
 have O5 := O2.wr W5 g_o2
 have K5 : Keep h0 h5 ([o2] : List Addr) := Keep.wr K2 W5 (Or.inl (List.mem_of_getElem? (i := 0) rfl))
 have N5 := Fr.snoc X5 N2 g_o2
 show Home T5 (mkF m 32 #[.val (.ref o0), .val (.int (1 : Int32)), .val (.ref o2), .val (.int (1 : Int32)), .val (.int (2 : Int32)), .val (.int (1 : Int32)), .val (.int u2)] [])
 refine Home.run X5 hx hby sg41_32_6 (pc' := 7) (L' := #[.val (.ref o0), .val (.int (2 : Int32)), .val (.ref o2), .val (.int (2 : Int32)), .val (.int (2 : Int32)), .val (.int (2 : Int32)), .val (.int u2)]) (S' := [(.int (2 : Int32)), (.int (2 : Int32))]) rfl ?_
 refine Home.go (fun _ => XS.icmpYes X5.here hx rfl (pc0 := 7) (pc' := 44) rfl (hb hby d41_7) rfl (flt (by decide)).2.1 (by decide) (by decide)) ?_
 refine Home.run X5 hx hby sg41_44_1 (pc' := 46) (L' := #[.val (.ref o0), .val (.int (2 : Int32)), .val (.ref o2), .val (.int (2 : Int32)), .val (.int (2 : Int32)), .val (.int (2 : Int32)), .val (.int u2)]) (S' := [(.int (2 : Int32))]) rfl ?_
 exact Home.retI X5 hx hlk hret (hb hby d41_46) (by rw [show T5.heap = h5 from e5]; exact ⟨rfl, N5, K5, V5⟩) (by decide) (by decide)
theorem rm40_0 (l : Launch) (Z : State) (a0 : Array Value) (hw : HW a0 Z) (ws : List Jvm.Cond) (o0 : Addr) (k_o0 : ClassId) (u1 u2 : Int32) (h0 : Heap) (n0 : Nat) (O0 : Old Z n0 h0) (V_o0 : Arv Z h0 o0 k_o0 .char (2 : Int32) [(.int u1), (.int u2)] (.int (0 : Int32))) (bnd_u1 : ¬ u1 < (0 : Int32) ∧ ¬ (255 : Int32) < u1) (bnd_u2 : ¬ u2 < (0 : Int32) ∧ ¬ (255 : Int32) < u2) :
    Con l Z (⟨"java/lang/StringUTF16", "compress", "([CII)[B"⟩ : MethodName) jdk_52_method_16_code 6 (some (.array .byte)) ws ({ frames := 1, cells := 1, slots := 2, locals := 18 } : Room) #[(.ref o0), (.int (0 : Int32)), (.int (2 : Int32))] h0 (fun v h L => ∃ (b1 : Addr), ∃ (k1 : ClassId), v = some (.ref b1) ∧ Fr n0 L ∧ h0.size ≤ b1 ∧ Keep h0 h [] ∧ Arv Z h b1 k1 .byte (2 : Int32) [(.int (u1.toInt8.toInt32)), (.int (u2.toInt8.toInt32))] (.int (0 : Int32))) := by
 refine own_body (plainFor_of_name own_pn3) (fun m => ef_rm40_0 m o0 (0 : Int32) (2 : Int32)) ?_
 intro p e s m below meth c s₁ hx hby hlk hml hret hZ hown hnm X0 e0
 have N0 := Fr.nil n0
 refine Home.run X0 hx hby sg40_0_1 (pc' := 1) (L' := #[.val (.ref o0), .val (.int (0 : Int32)), .val (.int (2 : Int32)), .unset, .unset, .unset]) (S' := [(.int (2 : Int32))]) rfl ?_
 refine Home.na (own_newP (aty := .byte) X0 hx hZ (own_w11 hw) e0 (g := (mkF m 1 #[.val (.ref o0), .val (.int (0 : Int32)), .val (.int (2 : Int32)), .unset, .unset, .unset] [(.int (2 : Int32))])) rfl (hb hby d40_1) rfl (by decide) (cap := 2) (by decide) (by decide) (by decide) (by decide)) fun T1 h1 k1 b1 g1 X1 e1 E1 A1 => ?_
 have g_b1 : n0 ≤ b1 := Nat.le_trans (Old.le O0) (Nat.le_of_eq g1.symm)
 have V1 : Arv Z h1 b1 k1 .byte (2 : Int32) [(.int (0 : Int32)), (.int (0 : Int32))] (.int (0 : Int32)) := (Arv.new A1 (by decide)).pad (pad_rep [] (.int (0 : Int32)) 2)
 have O1 := O0.ext E1
 have K1 : Keep h0 h1 ([] : List Addr) := Keep.ext (Keep.refl h0 ([] : List Addr)) E1
 refine Home.run X1 hx hby sg40_3_6 (pc' := 9) (L' := #[.val (.ref o0), .val (.int (0 : Int32)), .val (.int (2 : Int32)), .val (.ref b1), .unset, .unset]) (S' := [(.int (2 : Int32)), (.int (0 : Int32)), (.ref b1), (.int (0 : Int32)), (.ref o0)]) rfl ?_
 have ne2 : o0 ≠ b1 := (Nat.ne_of_lt (Nat.lt_of_lt_of_le V_o0.lt (Nat.le_trans (Nat.le_refl _) (Nat.le_of_eq g1.symm))))
 refine Home.call (own_static X1 hx hZ hown (own_w205 hw) (own_w206 hw) (own_w203 hw) (own_w207 hw) (by decide) (rm41_0 l Z a0 hw [] o0 b1 k_o0 u1 u2 k1 h1 n0 O1 (V_o0.keep K1 nin0) bnd_u1 V1 g_b1 ne2 bnd_u2) e1 rfl (by rw [hml]; rfl) (argsL := [(.ref o0), (.int (0 : Int32)), (.ref b1), (.int (0 : Int32)), (.int (2 : Int32))]) (rest := []) (lenOf own_pd5 rfl) rfl rfl (W := 0) (by exact hW0) (by decide) (by decide) (hb hby d40_9) (by decide) (by decide)) ?_
 rintro _ T3 L3 X3 ⟨rfl, N3q, K3q, P3_0⟩
 have O3 := Old.keep O1 K3q (allS g_b1 all0)
 have K3 : Keep h0 T3.heap ([] : List Addr) := Keep.trans K1 K3q (allS (Or.inr (Nat.le_trans (Nat.le_refl _) (Nat.le_of_eq g1.symm))) all0)
 have N3 := Fr.app N0 N3q
 show Home T3 (mkF m 12 #[.val (.ref o0), .val (.int (0 : Int32)), .val (.int (2 : Int32)), .val (.ref b1), .unset, .unset] [(.int (2 : Int32))])
 refine Home.run X3 hx hby sg40_12_3 (pc' := 17) (L' := #[.val (.ref o0), .val (.int (0 : Int32)), .val (.int (2 : Int32)), .val (.ref b1), .val (.int (2 : Int32)), .unset]) (S' := [(.int (2 : Int32)), (.int (2 : Int32))]) rfl ?_
 refine Home.go (fun _ => XS.icmpYes X3.here hx rfl (pc0 := 17) (pc' := 57) rfl (hb hby d40_17) rfl (teq (by decide)).1 (by decide) (by decide)) ?_
 refine Home.run X3 hx hby sg40_57_1 (pc' := 58) (L' := #[.val (.ref o0), .val (.int (0 : Int32)), .val (.int (2 : Int32)), .val (.ref b1), .val (.int (2 : Int32)), .unset]) (S' := [(.ref b1)]) rfl ?_
 exact Home.retR X3 hx hlk hret rfl rfl (hb hby d40_58) ⟨b1, k1, rfl, N3, (Nat.le_trans (Nat.le_refl _) (Nat.le_of_eq g1.symm)), K3, P3_0⟩ (by decide) (by decide)
theorem rm42_0 (l : Launch) (Z : State) (a0 : Array Value) (hw : HW a0 Z) (ws : List Jvm.Cond) (o0 : Addr) (k_o0 : ClassId) (u1 u2 : Int32) (h0 : Heap) (n0 : Nat) (O0 : Old Z n0 h0) (V_o0 : Arv Z h0 o0 k_o0 .byte (2 : Int32) [(.int u1), (.int u2)] (.int (0 : Int32))) :
    Con l Z (⟨"java/lang/StringUTF16", "coderFromArrayLen", "([BI)B"⟩ : MethodName) jdk_52_method_15_code 2 (some .byte) ws ({ frames := 0, cells := 0, slots := 0, locals := 0 } : Room) #[(.ref o0), (.int (2 : Int32))] h0 (Pur (some (.int (0 : Int32))) h0) := by
 refine own_body (plainFor_of_name own_pn3) (fun m => ef_rm42_0 m o0 (2 : Int32)) ?_
 intro p e s m below meth c s₁ hx hby hlk hml hret hZ hown hnm X0 e0
 have N0 := Fr.nil n0
 refine Home.run X0 hx hby sg42_0_2 (pc' := 2) (L' := #[.val (.ref o0), .val (.int (2 : Int32))]) (S' := [(.ref o0), (.int (2 : Int32))]) rfl ?_
 obtain ⟨cl1, Ar1, q1, S1, M1, H1, G1⟩ := id V_o0
 refine Home.go (own_alen X0 hx hZ e0 Ar1 S1 M1 rfl rfl (hb hby d42_2)) ?_
 refine Home.run X0 hx hby sg42_3_4 (pc' := 8) (L' := #[.val (.ref o0), .val (.int (2 : Int32))]) (S' := [(.int (0 : Int32))]) rfl ?_
 exact Home.retN X0 hx hlk (t := .byte) hret (by simp) (hb hby d42_8) ⟨congrArg some (congrArg Value.int (by first | rfl | exact nar_i2c _ | exact nar_i2b _)), rfl, e0⟩ (by decide) (by decide)
theorem rm39_0 (l : Launch) (Z : State) (a0 : Array Value) (hw : HW a0 Z) (ws : List Jvm.Cond) (o0 o1 : Addr) (sv_COMPACT_STRINGS : Int32) (k_o1 : ClassId) (u1 u2 : Int32) (h0 : Heap) (n0 : Nat) (O0 : Old Z n0 h0) (S_COMPACT_STRINGS : Sta Z Z.heap "java/lang/String" "COMPACT_STRINGS" "Z" (.int sv_COMPACT_STRINGS)) (hCS : ¬ (sv_COMPACT_STRINGS = (0 : Int32))) (V_o1 : Arv Z h0 o1 k_o1 .char (2 : Int32) [(.int u1), (.int u2)] (.int (0 : Int32))) (bnd_u1 : ¬ u1 < (0 : Int32) ∧ ¬ (255 : Int32) < u1) (bnd_u2 : ¬ u2 < (0 : Int32) ∧ ¬ (255 : Int32) < u2) (E_o0 : Exa Z h0 o0 "java/lang/String") (F_coder_o0 : Fld Z h0 o0 "java/lang/String" "coder" "B" (.int (0 : Int32))) (g_o0 : n0 ≤ o0) (F_value_o0 : Fld Z h0 o0 "java/lang/String" "value" "[B" .null) :
    Con l Z (⟨"java/lang/String", "<init>", "([CIILjava/lang/Void;)V"⟩ : MethodName) jdk_42_method_149_code 6 none ws ({ frames := 2, cells := 1, slots := 2, locals := 35 } : Room) #[(.ref o0), (.ref o1), (.int (0 : Int32)), (.int (2 : Int32)), .null] h0 (fun v h L => ∃ (b1_3 : Addr), ∃ (k1_3 : ClassId), v = none ∧ Fr n0 L ∧ h0.size ≤ b1_3 ∧ Keep h0 h [o0] ∧ Exa Z h o0 "java/lang/String" ∧ Fld Z h o0 "java/lang/String" "coder" "B" (.int (0 : Int32)) ∧ Fld Z h o0 "java/lang/String" "value" "[B" (.ref b1_3) ∧ Arv Z h b1_3 k1_3 .byte (2 : Int32) [(.int (u1.toInt8.toInt32)), (.int (u2.toInt8.toInt32))] (.int (0 : Int32))) := by
 refine own_body (plainFor_of_name own_pn2) (fun m => ef_rm39_0 m o0 o1 (0 : Int32) (2 : Int32)) ?_
 intro p e s m below meth c s₁ hx hby hlk hml hret hZ hown hnm X0 e0
 have N0 := Fr.nil n0
 refine Home.run X0 hx hby sg39_0_1 (pc' := 1) (L' := #[.val (.ref o0), .val (.ref o1), .val (.int (0 : Int32)), .val (.int (2 : Int32)), .val .null, .unset]) (S' := [(.ref o0)]) rfl ?_
 refine Home.st (initO X0 hx hZ hown (own_w118 hw) (own_w25 hw) (own_w26 hw) e0 rfl (by rw [hml]; rfl) rfl (hb hby d39_1) (by decide) (W := 0) (by exact hW0) (by decide)) fun T1 X1 e1 => ?_
 refine Home.run X1 hx hby sg39_4_1 (pc' := 5) (L' := #[.val (.ref o0), .val (.ref o1), .val (.int (0 : Int32)), .val (.int (2 : Int32)), .val .null, .unset]) (S' := [(.int (2 : Int32))]) rfl ?_
 refine Home.go (fun _ => XS.ifYes X1.here hx rfl (pc0 := 5) (pc' := 27) rfl (hb hby d39_5) rfl ((if0 _ _).trans (feq (by decide)).2) (by decide) (by decide)) ?_
 refine Home.st (getS2 X1 hx hZ hown (host := "") (Or.inl (own_w75 hw)) Via.refl e1 (S_COMPACT_STRINGS.ext O0.2) rfl (hb hby d39_27)) fun T2 X2 e2 => ?_
 refine Home.go (fun _ => XS.ifNo X2.here hx rfl (hb hby d39_30) rfl ((if0 _ _).trans (feq hCS).1)) ?_
 refine Home.run X2 hx hby sg39_33_3 (pc' := 36) (L' := #[.val (.ref o0), .val (.ref o1), .val (.int (0 : Int32)), .val (.int (2 : Int32)), .val .null, .unset]) (S' := [(.int (2 : Int32)), (.int (0 : Int32)), (.ref o1)]) rfl ?_
 refine Home.call (own_static X2 hx hZ hown (own_w201 hw) (own_w202 hw) (own_w203 hw) (own_w204 hw) (by decide) (rm40_0 l Z a0 hw [] o1 k_o1 u1 u2 h0 n0 O0 V_o1 bnd_u1 bnd_u2) e2 rfl (by rw [hml]; rfl) (argsL := [(.ref o1), (.int (0 : Int32)), (.int (2 : Int32))]) (rest := []) (lenOf own_pd6 rfl) rfl rfl (W := 0) (by exact hW0) (by decide) (by decide) (hb hby d39_36) (by decide) (by decide)) ?_
 rintro _ T3 L3 X3 ⟨b1_3, k1_3, rfl, N3q, sz_b1_3, K3q, P3_0⟩
 have g_b1_3 : n0 ≤ b1_3 := Nat.le_trans (Old.le O0) sz_b1_3
 have O3 := Old.keep O0 K3q all0
 have K3 : Keep h0 T3.heap ([o0] : List Addr) := Keep.trans (Keep.refl h0 ([o0] : List Addr)) K3q all0
 have N3 := Fr.app N0 N3q
 show Home T3 (mkF m 39 #[.val (.ref o0), .val (.ref o1), .val (.int (0 : Int32)), .val (.int (2 : Int32)), .val .null, .unset] [(.ref b1_3)])
 refine Home.run X3 hx hby sg39_39_4 (pc' := 45) (L' := #[.val (.ref o0), .val (.ref o1), .val (.int (0 : Int32)), .val (.int (2 : Int32)), .val .null, .val (.ref b1_3)]) (S' := [(.int (2 : Int32)), (.ref b1_3), (.ref o0)]) rfl ?_
 refine Home.st (own_pure (own_static X3 hx hZ hown (own_w208 hw) (own_w209 hw) (own_w203 hw) (own_w210 hw) (by decide) (rm42_0 l Z a0 hw [] b1_3 k1_3 (u1.toInt8.toInt32) (u2.toInt8.toInt32) T3.heap n0 O3 P3_0) rfl rfl (by rw [hml]; rfl) (argsL := [(.ref b1_3), (.int (2 : Int32))]) (rest := [(.ref o0)]) (lenOf own_pd7 rfl) rfl rfl (W := 1) (by exact hW0) (by decide) (by decide) (hb hby d39_45) (by decide) (by decide))) fun T4 X4 e4 => ?_
 have q5 := (F_coder_o0.keep K3q nin0)
 refine Home.wr (putFN X4 hx hZ hown (own_w76 hw) Via.refl e4 q5 (E_o0.keep K3) (Or.inr ⟨(own_w13 hw), rfl, hnm⟩) (own_w10 hw) (ty := .byte) (v := (.int (0 : Int32))) (v' := (.int (0 : Int32))) (by decide) rfl rfl rfl rfl (hb hby d39_48)) fun T6 h6 X6 e6 W6 => ?_
 have Fw6 := q5.same W6
 have O6 := O3.wr W6 g_o0
 have K6 : Keep h0 h6 ([o0] : List Addr) := Keep.wr K3 W6 (Or.inl (List.mem_of_getElem? (i := 0) rfl))
 have N6 := Fr.snoc X6 N3 g_o0
 show Home T6 (mkF m 51 #[.val (.ref o0), .val (.ref o1), .val (.int (0 : Int32)), .val (.int (2 : Int32)), .val .null, .val (.ref b1_3)] [])
 refine Home.run X6 hx hby sg39_51_2 (pc' := 54) (L' := #[.val (.ref o0), .val (.ref o1), .val (.int (0 : Int32)), .val (.int (2 : Int32)), .val .null, .val (.ref b1_3)]) (S' := [(.ref b1_3), (.ref o0)]) rfl ?_
 have q7 := ((F_value_o0.keep K3q nin0).other W6 (Or.inr (slot_ne (Or.inr (own_w12 hw)) (Or.inr (own_w13 hw)) (by decide) (t := (.array .byte)) (t' := .byte) (by decide) (by decide))))
 refine Home.wr (putF X6 hx hZ hown (host := "") (Or.inl (own_w69 hw)) Via.refl e6 q7 (E_o0.keep K6) (Or.inr ⟨(own_w12 hw), rfl, hnm⟩) (own_w10 hw) (ty := (.array .byte)) (by decide) rfl rfl rfl rfl (hb hby d39_54)) fun T8 h8 X8 e8 W8 => ?_
 have Fw8 := q7.same W8
 have O8 := O6.wr W8 g_o0
 have K8 : Keep h0 h8 ([o0] : List Addr) := Keep.wr K6 W8 (Or.inl (List.mem_of_getElem? (i := 0) rfl))
 have N8 := Fr.snoc X8 N6 g_o0
 have q9 := (Fw6.other W8 (Or.inr (slot_ne (Or.inr (own_w13 hw)) (Or.inr (own_w12 hw)) (by decide) (t := .byte) (t' := (.array .byte)) (by decide) (by decide))))
 have ne10 : b1_3 ≠ o0 := (Ne.symm (Nat.ne_of_lt (Nat.lt_of_lt_of_le E_o0.lt (Nat.le_trans (Nat.le_refl _) sz_b1_3))))
 have q11 := ((P3_0.other W6 ne10).other W8 ne10)
 exact Home.ret0 X8 hx hlk hret (hb hby d39_57) (by rw [show T8.heap = h8 from e8]; exact ⟨b1_3, k1_3, rfl, N8, (Nat.le_trans (Nat.le_refl _) sz_b1_3), K8, (E_o0.keep K8), q9, Fw8, q11⟩) (by decide) (by decide)
theorem rm38_0 (l : Launch) (Z : State) (a0 : Array Value) (hw : HW a0 Z) (ws : List Jvm.Cond) (o0 o1 : Addr) (k_o1 : ClassId) (u1 u2 sv_COMPACT_STRINGS : Int32) (h0 : Heap) (n0 : Nat) (O0 : Old Z n0 h0) (V_o1 : Arv Z h0 o1 k_o1 .char (2 : Int32) [(.int u1), (.int u2)] (.int (0 : Int32))) (S_COMPACT_STRINGS : Sta Z Z.heap "java/lang/String" "COMPACT_STRINGS" "Z" (.int sv_COMPACT_STRINGS)) (E_o0 : Exa Z h0 o0 "java/lang/String") (F_coder_o0 : Fld Z h0 o0 "java/lang/String" "coder" "B" (.int (0 : Int32))) (F_value_o0 : Fld Z h0 o0 "java/lang/String" "value" "[B" .null) (bnd_u1 : ¬ u1 < (0 : Int32) ∧ ¬ (255 : Int32) < u1) (bnd_u2 : ¬ u2 < (0 : Int32) ∧ ¬ (255 : Int32) < u2) (g_o0 : n0 ≤ o0) (hCS : ¬ (sv_COMPACT_STRINGS = (0 : Int32))) :
    Con l Z (⟨"java/lang/String", "<init>", "([C)V"⟩ : MethodName) jdk_42_method_3_code 2 none ws ({ frames := 3, cells := 1, slots := 2, locals := 52 } : Room) #[(.ref o0), (.ref o1)] h0 (fun v h L => ∃ (b1_3_2 : Addr), ∃ (k1_3_2 : ClassId), v = none ∧ Fr n0 L ∧ h0.size ≤ b1_3_2 ∧ Keep h0 h [o0] ∧ Exa Z h o0 "java/lang/String" ∧ Fld Z h o0 "java/lang/String" "coder" "B" (.int (0 : Int32)) ∧ Fld Z h o0 "java/lang/String" "value" "[B" (.ref b1_3_2) ∧ Arv Z h b1_3_2 k1_3_2 .byte (2 : Int32) [(.int (u1.toInt8.toInt32)), (.int (u2.toInt8.toInt32))] (.int (0 : Int32))) := by
 refine own_body (plainFor_of_name own_pn2) (fun m => ef_rm38_0 m o0 o1) ?_
 intro p e s m below meth c s₁ hx hby hlk hml hret hZ hown hnm X0 e0
 have N0 := Fr.nil n0
 refine Home.run X0 hx hby sg38_0_4 (pc' := 4) (L' := #[.val (.ref o0), .val (.ref o1)]) (S' := [(.ref o1), (.int (0 : Int32)), (.ref o1), (.ref o0)]) rfl ?_
 obtain ⟨cl1, Ar1, q1, S1, M1, H1, G1⟩ := id V_o1
 refine Home.go (own_alen X0 hx hZ e0 Ar1 S1 M1 rfl rfl (hb hby d38_4)) ?_
 refine Home.run X0 hx hby sg38_5_1 (pc' := 6) (L' := #[.val (.ref o0), .val (.ref o1)]) (S' := [.null, (.int (2 : Int32)), (.int (0 : Int32)), (.ref o1), (.ref o0)]) rfl ?_
 refine Home.call (own_special X0 hx hZ hown rfl (own_w198 hw) (own_w199 hw) (own_w9 hw) (own_w200 hw) (by decide) (rm39_0 l Z a0 hw [] o0 o1 sv_COMPACT_STRINGS k_o1 u1 u2 h0 n0 O0 S_COMPACT_STRINGS hCS V_o1 bnd_u1 bnd_u2 E_o0 F_coder_o0 g_o0 F_value_o0) e0 rfl (by rw [hml]; rfl) (a := o0) (argsL := [(.ref o1), (.int (0 : Int32)), (.int (2 : Int32)), .null]) (rest := []) (lenOf own_pd8 rfl) rfl rfl (W := 0) (by exact hW0) (by decide) (by decide) (hb hby d38_6) (by decide) (by decide)) ?_
 rintro _ T2 L2 X2 ⟨b1_3_2, k1_3_2, rfl, N2q, sz_b1_3_2, K2q, P2_0, P2_1, P2_2, P2_3⟩
 have g_b1_3_2 : n0 ≤ b1_3_2 := Nat.le_trans (Old.le O0) sz_b1_3_2
 have O2 := Old.keep O0 K2q (allS g_o0 all0)
 have K2 : Keep h0 T2.heap ([o0] : List Addr) := Keep.trans (Keep.refl h0 ([o0] : List Addr)) K2q (allS (Or.inl (List.mem_of_getElem? (i := 0) rfl)) all0)
 have N2 := Fr.app N0 N2q
 show Home T2 (mkF m 9 #[.val (.ref o0), .val (.ref o1)] [])
 exact Home.ret0 X2 hx hlk hret (hb hby d38_9) ⟨b1_3_2, k1_3_2, rfl, N2, (Nat.le_trans (Nat.le_refl _) sz_b1_3_2), K2, P2_0, P2_1, P2_2, P2_3⟩ (by decide) (by decide)
theorem rm41_1 (l : Launch) (Z : State) (a0 : Array Value) (hw : HW a0 Z) (ws : List Jvm.Cond) (o0 o2 : Addr) (k_o0 : ClassId) (u1 u2 u3 : Int32) (k_o2 : ClassId) (h0 : Heap) (n0 : Nat) (O0 : Old Z n0 h0) (V_o0 : Arv Z h0 o0 k_o0 .char (3 : Int32) [(.int u1), (.int u2), (.int u3)] (.int (0 : Int32))) (bnd_u1 : ¬ u1 < (0 : Int32) ∧ ¬ (255 : Int32) < u1) (V_o2 : Arv Z h0 o2 k_o2 .byte (3 : Int32) [(.int (0 : Int32)), (.int (0 : Int32)), (.int (0 : Int32))] (.int (0 : Int32))) (g_o2 : n0 ≤ o2) (ne_o0_o2 : o0 ≠ o2) (bnd_u2 : ¬ u2 < (0 : Int32) ∧ ¬ (255 : Int32) < u2) (bnd_u3 : ¬ u3 < (0 : Int32) ∧ ¬ (255 : Int32) < u3) :
    Con l Z (⟨"java/lang/StringUTF16", "compress", "([CI[BII)I"⟩ : MethodName) jdk_52_method_21_code 7 (some .int) ws ({ frames := 0, cells := 0, slots := 0, locals := 0 } : Room) #[(.ref o0), (.int (0 : Int32)), (.ref o2), (.int (0 : Int32)), (.int (3 : Int32))] h0 (fun v h L => v = some (.int (3 : Int32)) ∧ Fr n0 L ∧ Keep h0 h [o2] ∧ Arv Z h o2 k_o2 .byte (3 : Int32) [(.int (u1.toInt8.toInt32)), (.int (u2.toInt8.toInt32)), (.int (u3.toInt8.toInt32))] (.int (0 : Int32))) := by
 refine own_body (plainFor_of_name own_pn3) (fun m => ef_rm41_1 m o0 (0 : Int32) o2 (3 : Int32)) ?_
 intro p e s m below meth c s₁ hx hby hlk hml hret hZ hown hnm X0 e0
 have N0 := Fr.nil n0
 refine Home.run X0 hx hby sg41_0_4 (pc' := 7) (L' := #[.val (.ref o0), .val (.int (0 : Int32)), .val (.ref o2), .val (.int (0 : Int32)), .val (.int (3 : Int32)), .val (.int (0 : Int32)), .unset]) (S' := [(.int (3 : Int32)), (.int (0 : Int32))]) rfl ?_
 refine Home.go (fun _ => XS.icmpNo X0.here hx rfl (hb hby d41_7) rfl (tlt (by decide)).2.1) ?_
 refine Home.run X0 hx hby sg41_10_2 (pc' := 12) (L' := #[.val (.ref o0), .val (.int (0 : Int32)), .val (.ref o2), .val (.int (0 : Int32)), .val (.int (3 : Int32)), .val (.int (0 : Int32)), .unset]) (S' := [(.int (0 : Int32)), (.ref o0)]) rfl ?_
 obtain ⟨cl1, Ar1, q1, S1, M1, H1, G1⟩ := id V_o0
 have ib1 : ¬ ((0 : Int32) < 0 ∨ cl1.slots.size ≤ ((0 : Int32)).toNatClampNeg) := inb_of S1 ⟨by decide, by decide⟩
 refine Home.go (X0.caload hx (j := (0 : Int32)) (v := (.int u1)) (by rw [e0]; exact Ar1.1) (State.isArrayOf_alike hZ.alike Ar1.2.1) Ar1.2.2 ib1 (Has.at H1 ib1 rfl) rfl rfl (hb hby d41_12)) ?_
 refine Home.run X0 hx hby sg41_13_3 (pc' := 20) (L' := #[.val (.ref o0), .val (.int (0 : Int32)), .val (.ref o2), .val (.int (0 : Int32)), .val (.int (3 : Int32)), .val (.int (0 : Int32)), .val (.int u1)]) (S' := [(.int (255 : Int32)), (.int u1)]) rfl ?_
 refine Home.go (fun _ => XS.icmpYes X0.here hx rfl (pc0 := 20) (pc' := 26) rfl (hb hby d41_20) rfl (flt (bnd_nlt (bnd_lit (255 : Int32)) bnd_u1 (by decide +kernel))).2.2.2 (by decide) (by decide)) ?_
 refine Home.run X0 hx hby sg41_26_4 (pc' := 31) (L' := #[.val (.ref o0), .val (.int (0 : Int32)), .val (.ref o2), .val (.int (0 : Int32)), .val (.int (3 : Int32)), .val (.int (0 : Int32)), .val (.int u1)]) (S' := [(.int (u1.toInt8.toInt32)), (.int (0 : Int32)), (.ref o2)]) rfl ?_
 obtain ⟨cl2, Ar2, q2, S2, M2, H2, G2⟩ := id V_o2
 refine Home.wr (stB X0 hx hZ e0 Ar2 (j := (0 : Int32)) (inb_of S2 ⟨by decide, by decide⟩) rfl rfl (hb hby d41_31)) fun T2 h2 X2 e2 W2 => ?_
 have W2' := Wr.to W2 (congrArg Value.int (nar_byte_id (bnd_i2b u1) (by decide +kernel) (by decide +kernel)))
 have V2 : Arv Z h2 o2 k_o2 .byte (3 : Int32) [(.int (u1.toInt8.toInt32)), (.int (0 : Int32)), (.int (0 : Int32))] (.int (0 : Int32)) := Arv.set Ar2 q2 S2 M2 H2 G2 (fits_byte_b (bnd_i2b u1) (by decide +kernel) (by decide +kernel)) W2' 0 rfl (Nat.le_of_ble_eq_true rfl)
 have O2 := O0.wr W2 g_o2
 have K2 : Keep h0 h2 ([o2] : List Addr) := Keep.wr (Keep.refl h0 ([o2] : List Addr)) W2 (Or.inl (List.mem_of_getElem? (i := 0) rfl))
 have N2 := Fr.snoc X2 N0 g_o2
 show Home T2 (mkF m 32 #[.val (.ref o0), .val (.int (0 : Int32)), .val (.ref o2), .val (.int (0 : Int32)), .val (.int (3 : Int32)), .val (.int (0 : Int32)), .val (.int u1)] [])
 refine Home.run X2 hx hby sg41_32_6 (pc' := 7) (L' := #[.val (.ref o0), .val (.int (1 : Int32)), .val (.ref o2), .val (.int (1 : Int32)), .val (.int (3 : Int32)), .val (.int (1 : Int32)), .val (.int u1)]) (S' := [(.int (3 : Int32)), (.int (1 : Int32))]) rfl ?_
 refine Home.go (fun _ => XS.icmpNo X2.here hx rfl (hb hby d41_7) rfl (tlt (by decide)).2.1) ?_
 refine Home.run X2 hx hby sg41_10_2 (pc' := 12) (L' := #[.val (.ref o0), .val (.int (1 : Int32)), .val (.ref o2), .val (.int (1 : Int32)), .val (.int (3 : Int32)), .val (.int (1 : Int32)), .val (.int u1)]) (S' := [(.int (1 : Int32)), (.ref o0)]) rfl ?_
 have q3 := (V_o0.other W2 ne_o0_o2)
 obtain ⟨cl4, Ar4, q4, S4, M4, H4, G4⟩ := id q3
 have ib4 : ¬ ((1 : Int32) < 0 ∨ cl4.slots.size ≤ ((1 : Int32)).toNatClampNeg) := inb_of S4 ⟨by decide, by decide⟩
 refine Home.go (X2.caload hx (j := (1 : Int32)) (v := (.int u2)) (by rw [e2]; exact Ar4.1) (State.isArrayOf_alike hZ.alike Ar4.2.1) Ar4.2.2 ib4 (Has.at H4 ib4 rfl) rfl rfl (hb hby d41_12)) ?_
 refine Home.run X2 hx hby sg41_13_3 (pc' := 20) (L' := #[.val (.ref o0), .val (.int (1 : Int32)), .val (.ref o2), .val (.int (1 : Int32)), .val (.int (3 : Int32)), .val (.int (1 : Int32)), .val (.int u2)]) (S' := [(.int (255 : Int32)), (.int u2)]) rfl ?_
 refine Home.go (fun _ => XS.icmpYes X2.here hx rfl (pc0 := 20) (pc' := 26) rfl (hb hby d41_20) rfl (flt (bnd_nlt (bnd_lit (255 : Int32)) bnd_u2 (by decide +kernel))).2.2.2 (by decide) (by decide)) ?_
 refine Home.run X2 hx hby sg41_26_4 (pc' := 31) (L' := #[.val (.ref o0), .val (.int (1 : Int32)), .val (.ref o2), .val (.int (1 : Int32)), .val (.int (3 : Int32)), .val (.int (1 : Int32)), .val (.int u2)]) (S' := [(.int (u2.toInt8.toInt32)), (.int (1 : Int32)), (.ref o2)]) rfl ?_
 obtain ⟨cl5, Ar5, q5, S5, M5, H5, G5⟩ := id V2
 refine Home.wr (stB X2 hx hZ e2 Ar5 (j := (1 : Int32)) (inb_of S5 ⟨by decide, by decide⟩) rfl rfl (hb hby d41_31)) fun T5 h5 X5 e5 W5 => ?_
 have W5' := Wr.to W5 (congrArg Value.int (nar_byte_id (bnd_i2b u2) (by decide +kernel) (by decide +kernel)))
 have V5 : Arv Z h5 o2 k_o2 .byte (3 : Int32) [(.int (u1.toInt8.toInt32)), (.int (u2.toInt8.toInt32)), (.int (0 : Int32))] (.int (0 : Int32)) := Arv.set Ar5 q5 S5 M5 H5 G5 (fits_byte_b (bnd_i2b u2) (by decide +kernel) (by decide +kernel)) W5' 1 rfl (Nat.le_of_ble_eq_true rfl)
 have O5 := O2.wr W5 g_o2
 have K5 : Keep h0 h5 ([o2] : List Addr) := Keep.wr K2 W5 (Or.inl (List.mem_of_getElem? (i := 0) rfl))
 have N5 := Fr.snoc X5 N2 g_o2
 show Home T5 (mkF m 32 #[.val (.ref o0), .val (.int (1 : Int32)), .val (.ref o2), .val (.int (1 : Int32)), .val (.int (3 : Int32)), .val (.int (1 : Int32)), .val (.int u2)] [])
 refine Home.run X5 hx hby sg41_32_6 (pc' := 7) (L' := #[.val (.ref o0), .val (.int (2 : Int32)), .val (.ref o2), .val (.int (2 : Int32)), .val (.int (3 : Int32)), .val (.int (2 : Int32)), .val (.int u2)]) (S' := [(.int (3 : Int32)), (.int (2 : Int32))]) rfl ?_
 refine Home.go (fun _ => XS.icmpNo X5.here hx rfl (hb hby d41_7) rfl (tlt (by decide)).2.1) ?_
 refine Home.run X5 hx hby sg41_10_2 (pc' := 12) (L' := #[.val (.ref o0), .val (.int (2 : Int32)), .val (.ref o2), .val (.int (2 : Int32)), .val (.int (3 : Int32)), .val (.int (2 : Int32)), .val (.int u2)]) (S' := [(.int (2 : Int32)), (.ref o0)]) rfl ?_
 have q6 := (q3.other W5 ne_o0_o2)
 obtain ⟨cl7, Ar7, q7, S7, M7, H7, G7⟩ := id q6
 have ib7 : ¬ ((2 : Int32) < 0 ∨ cl7.slots.size ≤ ((2 : Int32)).toNatClampNeg) := inb_of S7 ⟨by decide, by decide⟩
 refine Home.go (X5.caload hx (j := (2 : Int32)) (v := (.int u3)) (by rw [e5]; exact Ar7.1) (State.isArrayOf_alike hZ.alike Ar7.2.1) Ar7.2.2 ib7 (Has.at H7 ib7 rfl) rfl rfl (hb hby d41_12)) ?_
 refine Home.run X5 hx hby sg41_13_3 (pc' := 20) (L' := #[.val (.ref o0), .val (.int (2 : Int32)), .val (.ref o2), .val (.int (2 : Int32)), .val (.int (3 : Int32)), .val (.int (2 : Int32)), .val (.int u3)]) (S' := [(.int (255 : Int32)), (.int u3)]) rfl ?_
 refine Home.go (fun _ => XS.icmpYes X5.here hx rfl (pc0 := 20) (pc' := 26) rfl (hb hby d41_20) rfl (flt (bnd_nlt (bnd_lit (255 : Int32)) bnd_u3 (by decide +kernel))).2.2.2 (by decide) (by decide)) ?_
 refine Home.run X5 hx hby sg41_26_4 (pc' := 31) (L' := #[.val (.ref o0), .val (.int (2 : Int32)), .val (.ref o2), .val (.int (2 : Int32)), .val (.int (3 : Int32)), .val (.int (2 : Int32)), .val (.int u3)]) (S' := [(.int (u3.toInt8.toInt32)), (.int (2 : Int32)), (.ref o2)]) rfl ?_
 obtain ⟨cl8, Ar8, q8, S8, M8, H8, G8⟩ := id V5
 refine Home.wr (stB X5 hx hZ e5 Ar8 (j := (2 : Int32)) (inb_of S8 ⟨by decide, by decide⟩) rfl rfl (hb hby d41_31)) fun T8 h8 X8 e8 W8 => ?_
 have W8' := Wr.to W8 (congrArg Value.int (nar_byte_id (bnd_i2b u3) (by decide +kernel) (by decide +kernel)))
 have V8 : Arv Z h8 o2 k_o2 .byte (3 : Int32) [(.int (u1.toInt8.toInt32)), (.int (u2.toInt8.toInt32)), (.int (u3.toInt8.toInt32))] (.int (0 : Int32)) := Arv.set Ar8 q8 S8 M8 H8 G8 (fits_byte_b (bnd_i2b u3) (by decide +kernel) (by decide +kernel)) W8' 2 rfl (Nat.le_of_ble_eq_true rfl)
 have O8 := O5.wr W8 g_o2
 have K8 : Keep h0 h8 ([o2] : List Addr) := Keep.wr K5 W8 (Or.inl (List.mem_of_getElem? (i := 0) rfl))
 have N8 := Fr.snoc X8 N5 g_o2
 show Home T8 (mkF m 32 #[.val (.ref o0), .val (.int (2 : Int32)), .val (.ref o2), .val (.int (2 : Int32)), .val (.int (3 : Int32)), .val (.int (2 : Int32)), .val (.int u3)] [])
 refine Home.run X8 hx hby sg41_32_6 (pc' := 7) (L' := #[.val (.ref o0), .val (.int (3 : Int32)), .val (.ref o2), .val (.int (3 : Int32)), .val (.int (3 : Int32)), .val (.int (3 : Int32)), .val (.int u3)]) (S' := [(.int (3 : Int32)), (.int (3 : Int32))]) rfl ?_
 refine Home.go (fun _ => XS.icmpYes X8.here hx rfl (pc0 := 7) (pc' := 44) rfl (hb hby d41_7) rfl (flt (by decide)).2.1 (by decide) (by decide)) ?_
 refine Home.run X8 hx hby sg41_44_1 (pc' := 46) (L' := #[.val (.ref o0), .val (.int (3 : Int32)), .val (.ref o2), .val (.int (3 : Int32)), .val (.int (3 : Int32)), .val (.int (3 : Int32)), .val (.int u3)]) (S' := [(.int (3 : Int32))]) rfl ?_
 exact Home.retI X8 hx hlk hret (hb hby d41_46) (by rw [show T8.heap = h8 from e8]; exact ⟨rfl, N8, K8, V8⟩) (by decide) (by decide)
theorem rm40_1 (l : Launch) (Z : State) (a0 : Array Value) (hw : HW a0 Z) (ws : List Jvm.Cond) (o0 : Addr) (k_o0 : ClassId) (u1 u2 u3 : Int32) (h0 : Heap) (n0 : Nat) (O0 : Old Z n0 h0) (V_o0 : Arv Z h0 o0 k_o0 .char (3 : Int32) [(.int u1), (.int u2), (.int u3)] (.int (0 : Int32))) (bnd_u1 : ¬ u1 < (0 : Int32) ∧ ¬ (255 : Int32) < u1) (bnd_u2 : ¬ u2 < (0 : Int32) ∧ ¬ (255 : Int32) < u2) (bnd_u3 : ¬ u3 < (0 : Int32) ∧ ¬ (255 : Int32) < u3) :
    Con l Z (⟨"java/lang/StringUTF16", "compress", "([CII)[B"⟩ : MethodName) jdk_52_method_16_code 6 (some (.array .byte)) ws ({ frames := 1, cells := 1, slots := 3, locals := 18 } : Room) #[(.ref o0), (.int (0 : Int32)), (.int (3 : Int32))] h0 (fun v h L => ∃ (b1 : Addr), ∃ (k1 : ClassId), v = some (.ref b1) ∧ Fr n0 L ∧ h0.size ≤ b1 ∧ Keep h0 h [] ∧ Arv Z h b1 k1 .byte (3 : Int32) [(.int (u1.toInt8.toInt32)), (.int (u2.toInt8.toInt32)), (.int (u3.toInt8.toInt32))] (.int (0 : Int32))) := by
 refine own_body (plainFor_of_name own_pn3) (fun m => ef_rm40_1 m o0 (0 : Int32) (3 : Int32)) ?_
 intro p e s m below meth c s₁ hx hby hlk hml hret hZ hown hnm X0 e0
 have N0 := Fr.nil n0
 refine Home.run X0 hx hby sg40_0_1 (pc' := 1) (L' := #[.val (.ref o0), .val (.int (0 : Int32)), .val (.int (3 : Int32)), .unset, .unset, .unset]) (S' := [(.int (3 : Int32))]) rfl ?_
 refine Home.na (own_newP (aty := .byte) X0 hx hZ (own_w11 hw) e0 (g := (mkF m 1 #[.val (.ref o0), .val (.int (0 : Int32)), .val (.int (3 : Int32)), .unset, .unset, .unset] [(.int (3 : Int32))])) rfl (hb hby d40_1) rfl (by decide) (cap := 3) (by decide) (by decide) (by decide) (by decide)) fun T1 h1 k1 b1 g1 X1 e1 E1 A1 => ?_
 have g_b1 : n0 ≤ b1 := Nat.le_trans (Old.le O0) (Nat.le_of_eq g1.symm)
 have V1 : Arv Z h1 b1 k1 .byte (3 : Int32) [(.int (0 : Int32)), (.int (0 : Int32)), (.int (0 : Int32))] (.int (0 : Int32)) := (Arv.new A1 (by decide)).pad (pad_rep [] (.int (0 : Int32)) 3)
 have O1 := O0.ext E1
 have K1 : Keep h0 h1 ([] : List Addr) := Keep.ext (Keep.refl h0 ([] : List Addr)) E1
 refine Home.run X1 hx hby sg40_3_6 (pc' := 9) (L' := #[.val (.ref o0), .val (.int (0 : Int32)), .val (.int (3 : Int32)), .val (.ref b1), .unset, .unset]) (S' := [(.int (3 : Int32)), (.int (0 : Int32)), (.ref b1), (.int (0 : Int32)), (.ref o0)]) rfl ?_
 have ne2 : o0 ≠ b1 := (Nat.ne_of_lt (Nat.lt_of_lt_of_le V_o0.lt (Nat.le_trans (Nat.le_refl _) (Nat.le_of_eq g1.symm))))
 refine Home.call (own_static X1 hx hZ hown (own_w205 hw) (own_w206 hw) (own_w203 hw) (own_w207 hw) (by decide) (rm41_1 l Z a0 hw [] o0 b1 k_o0 u1 u2 u3 k1 h1 n0 O1 (V_o0.keep K1 nin0) bnd_u1 V1 g_b1 ne2 bnd_u2 bnd_u3) e1 rfl (by rw [hml]; rfl) (argsL := [(.ref o0), (.int (0 : Int32)), (.ref b1), (.int (0 : Int32)), (.int (3 : Int32))]) (rest := []) (lenOf own_pd5 rfl) rfl rfl (W := 0) (by exact hW0) (by decide) (by decide) (hb hby d40_9) (by decide) (by decide)) ?_
 rintro _ T3 L3 X3 ⟨rfl, N3q, K3q, P3_0⟩
 have O3 := Old.keep O1 K3q (allS g_b1 all0)
 have K3 : Keep h0 T3.heap ([] : List Addr) := Keep.trans K1 K3q (allS (Or.inr (Nat.le_trans (Nat.le_refl _) (Nat.le_of_eq g1.symm))) all0)
 have N3 := Fr.app N0 N3q
 show Home T3 (mkF m 12 #[.val (.ref o0), .val (.int (0 : Int32)), .val (.int (3 : Int32)), .val (.ref b1), .unset, .unset] [(.int (3 : Int32))])
 refine Home.run X3 hx hby sg40_12_3 (pc' := 17) (L' := #[.val (.ref o0), .val (.int (0 : Int32)), .val (.int (3 : Int32)), .val (.ref b1), .val (.int (3 : Int32)), .unset]) (S' := [(.int (3 : Int32)), (.int (3 : Int32))]) rfl ?_
 refine Home.go (fun _ => XS.icmpYes X3.here hx rfl (pc0 := 17) (pc' := 57) rfl (hb hby d40_17) rfl (teq (by decide)).1 (by decide) (by decide)) ?_
 refine Home.run X3 hx hby sg40_57_1 (pc' := 58) (L' := #[.val (.ref o0), .val (.int (0 : Int32)), .val (.int (3 : Int32)), .val (.ref b1), .val (.int (3 : Int32)), .unset]) (S' := [(.ref b1)]) rfl ?_
 exact Home.retR X3 hx hlk hret rfl rfl (hb hby d40_58) ⟨b1, k1, rfl, N3, (Nat.le_trans (Nat.le_refl _) (Nat.le_of_eq g1.symm)), K3, P3_0⟩ (by decide) (by decide)
theorem rm42_1 (l : Launch) (Z : State) (a0 : Array Value) (hw : HW a0 Z) (ws : List Jvm.Cond) (o0 : Addr) (k_o0 : ClassId) (u1 u2 u3 : Int32) (h0 : Heap) (n0 : Nat) (O0 : Old Z n0 h0) (V_o0 : Arv Z h0 o0 k_o0 .byte (3 : Int32) [(.int u1), (.int u2), (.int u3)] (.int (0 : Int32))) :
    Con l Z (⟨"java/lang/StringUTF16", "coderFromArrayLen", "([BI)B"⟩ : MethodName) jdk_52_method_15_code 2 (some .byte) ws ({ frames := 0, cells := 0, slots := 0, locals := 0 } : Room) #[(.ref o0), (.int (3 : Int32))] h0 (Pur (some (.int (0 : Int32))) h0) := by
 refine own_body (plainFor_of_name own_pn3) (fun m => ef_rm42_1 m o0 (3 : Int32)) ?_
 intro p e s m below meth c s₁ hx hby hlk hml hret hZ hown hnm X0 e0
 have N0 := Fr.nil n0
 refine Home.run X0 hx hby sg42_0_2 (pc' := 2) (L' := #[.val (.ref o0), .val (.int (3 : Int32))]) (S' := [(.ref o0), (.int (3 : Int32))]) rfl ?_
 obtain ⟨cl1, Ar1, q1, S1, M1, H1, G1⟩ := id V_o0
 refine Home.go (own_alen X0 hx hZ e0 Ar1 S1 M1 rfl rfl (hb hby d42_2)) ?_
 refine Home.run X0 hx hby sg42_3_4 (pc' := 8) (L' := #[.val (.ref o0), .val (.int (3 : Int32))]) (S' := [(.int (0 : Int32))]) rfl ?_
 exact Home.retN X0 hx hlk (t := .byte) hret (by simp) (hb hby d42_8) ⟨congrArg some (congrArg Value.int (by first | rfl | exact nar_i2c _ | exact nar_i2b _)), rfl, e0⟩ (by decide) (by decide)
theorem rm39_1 (l : Launch) (Z : State) (a0 : Array Value) (hw : HW a0 Z) (ws : List Jvm.Cond) (o0 o1 : Addr) (sv_COMPACT_STRINGS : Int32) (k_o1 : ClassId) (u1 u2 u3 : Int32) (h0 : Heap) (n0 : Nat) (O0 : Old Z n0 h0) (S_COMPACT_STRINGS : Sta Z Z.heap "java/lang/String" "COMPACT_STRINGS" "Z" (.int sv_COMPACT_STRINGS)) (hCS : ¬ (sv_COMPACT_STRINGS = (0 : Int32))) (V_o1 : Arv Z h0 o1 k_o1 .char (3 : Int32) [(.int u1), (.int u2), (.int u3)] (.int (0 : Int32))) (bnd_u1 : ¬ u1 < (0 : Int32) ∧ ¬ (255 : Int32) < u1) (bnd_u2 : ¬ u2 < (0 : Int32) ∧ ¬ (255 : Int32) < u2) (bnd_u3 : ¬ u3 < (0 : Int32) ∧ ¬ (255 : Int32) < u3) (E_o0 : Exa Z h0 o0 "java/lang/String") (F_coder_o0 : Fld Z h0 o0 "java/lang/String" "coder" "B" (.int (0 : Int32))) (g_o0 : n0 ≤ o0) (F_value_o0 : Fld Z h0 o0 "java/lang/String" "value" "[B" .null) :
    Con l Z (⟨"java/lang/String", "<init>", "([CIILjava/lang/Void;)V"⟩ : MethodName) jdk_42_method_149_code 6 none ws ({ frames := 2, cells := 1, slots := 3, locals := 35 } : Room) #[(.ref o0), (.ref o1), (.int (0 : Int32)), (.int (3 : Int32)), .null] h0 (fun v h L => ∃ (b1_3 : Addr), ∃ (k1_3 : ClassId), v = none ∧ Fr n0 L ∧ h0.size ≤ b1_3 ∧ Keep h0 h [o0] ∧ Exa Z h o0 "java/lang/String" ∧ Fld Z h o0 "java/lang/String" "coder" "B" (.int (0 : Int32)) ∧ Fld Z h o0 "java/lang/String" "value" "[B" (.ref b1_3) ∧ Arv Z h b1_3 k1_3 .byte (3 : Int32) [(.int (u1.toInt8.toInt32)), (.int (u2.toInt8.toInt32)), (.int (u3.toInt8.toInt32))] (.int (0 : Int32))) := by
 refine own_body (plainFor_of_name own_pn2) (fun m => ef_rm39_1 m o0 o1 (0 : Int32) (3 : Int32)) ?_
 intro p e s m below meth c s₁ hx hby hlk hml hret hZ hown hnm X0 e0
 have N0 := Fr.nil n0
 refine Home.run X0 hx hby sg39_0_1 (pc' := 1) (L' := #[.val (.ref o0), .val (.ref o1), .val (.int (0 : Int32)), .val (.int (3 : Int32)), .val .null, .unset]) (S' := [(.ref o0)]) rfl ?_
 refine Home.st (initO X0 hx hZ hown (own_w118 hw) (own_w25 hw) (own_w26 hw) e0 rfl (by rw [hml]; rfl) rfl (hb hby d39_1) (by decide) (W := 0) (by exact hW0) (by decide)) fun T1 X1 e1 => ?_
 refine Home.run X1 hx hby sg39_4_1 (pc' := 5) (L' := #[.val (.ref o0), .val (.ref o1), .val (.int (0 : Int32)), .val (.int (3 : Int32)), .val .null, .unset]) (S' := [(.int (3 : Int32))]) rfl ?_
 refine Home.go (fun _ => XS.ifYes X1.here hx rfl (pc0 := 5) (pc' := 27) rfl (hb hby d39_5) rfl ((if0 _ _).trans (feq (by decide)).2) (by decide) (by decide)) ?_
 refine Home.st (getS2 X1 hx hZ hown (host := "") (Or.inl (own_w75 hw)) Via.refl e1 (S_COMPACT_STRINGS.ext O0.2) rfl (hb hby d39_27)) fun T2 X2 e2 => ?_
 refine Home.go (fun _ => XS.ifNo X2.here hx rfl (hb hby d39_30) rfl ((if0 _ _).trans (feq hCS).1)) ?_
 refine Home.run X2 hx hby sg39_33_3 (pc' := 36) (L' := #[.val (.ref o0), .val (.ref o1), .val (.int (0 : Int32)), .val (.int (3 : Int32)), .val .null, .unset]) (S' := [(.int (3 : Int32)), (.int (0 : Int32)), (.ref o1)]) rfl ?_
 refine Home.call (own_static X2 hx hZ hown (own_w201 hw) (own_w202 hw) (own_w203 hw) (own_w204 hw) (by decide) (rm40_1 l Z a0 hw [] o1 k_o1 u1 u2 u3 h0 n0 O0 V_o1 bnd_u1 bnd_u2 bnd_u3) e2 rfl (by rw [hml]; rfl) (argsL := [(.ref o1), (.int (0 : Int32)), (.int (3 : Int32))]) (rest := []) (lenOf own_pd6 rfl) rfl rfl (W := 0) (by exact hW0) (by decide) (by decide) (hb hby d39_36) (by decide) (by decide)) ?_
 rintro _ T3 L3 X3 ⟨b1_3, k1_3, rfl, N3q, sz_b1_3, K3q, P3_0⟩
 have g_b1_3 : n0 ≤ b1_3 := Nat.le_trans (Old.le O0) sz_b1_3
 have O3 := Old.keep O0 K3q all0
 have K3 : Keep h0 T3.heap ([o0] : List Addr) := Keep.trans (Keep.refl h0 ([o0] : List Addr)) K3q all0
 have N3 := Fr.app N0 N3q
 show Home T3 (mkF m 39 #[.val (.ref o0), .val (.ref o1), .val (.int (0 : Int32)), .val (.int (3 : Int32)), .val .null, .unset] [(.ref b1_3)])
 refine Home.run X3 hx hby sg39_39_4 (pc' := 45) (L' := #[.val (.ref o0), .val (.ref o1), .val (.int (0 : Int32)), .val (.int (3 : Int32)), .val .null, .val (.ref b1_3)]) (S' := [(.int (3 : Int32)), (.ref b1_3), (.ref o0)]) rfl ?_
 refine Home.st (own_pure (own_static X3 hx hZ hown (own_w208 hw) (own_w209 hw) (own_w203 hw) (own_w210 hw) (by decide) (rm42_1 l Z a0 hw [] b1_3 k1_3 (u1.toInt8.toInt32) (u2.toInt8.toInt32) (u3.toInt8.toInt32) T3.heap n0 O3 P3_0) rfl rfl (by rw [hml]; rfl) (argsL := [(.ref b1_3), (.int (3 : Int32))]) (rest := [(.ref o0)]) (lenOf own_pd7 rfl) rfl rfl (W := 1) (by exact hW0) (by decide) (by decide) (hb hby d39_45) (by decide) (by decide))) fun T4 X4 e4 => ?_
 have q5 := (F_coder_o0.keep K3q nin0)
 refine Home.wr (putFN X4 hx hZ hown (own_w76 hw) Via.refl e4 q5 (E_o0.keep K3) (Or.inr ⟨(own_w13 hw), rfl, hnm⟩) (own_w10 hw) (ty := .byte) (v := (.int (0 : Int32))) (v' := (.int (0 : Int32))) (by decide) rfl rfl rfl rfl (hb hby d39_48)) fun T6 h6 X6 e6 W6 => ?_
 have Fw6 := q5.same W6
 have O6 := O3.wr W6 g_o0
 have K6 : Keep h0 h6 ([o0] : List Addr) := Keep.wr K3 W6 (Or.inl (List.mem_of_getElem? (i := 0) rfl))
 have N6 := Fr.snoc X6 N3 g_o0
 show Home T6 (mkF m 51 #[.val (.ref o0), .val (.ref o1), .val (.int (0 : Int32)), .val (.int (3 : Int32)), .val .null, .val (.ref b1_3)] [])
 refine Home.run X6 hx hby sg39_51_2 (pc' := 54) (L' := #[.val (.ref o0), .val (.ref o1), .val (.int (0 : Int32)), .val (.int (3 : Int32)), .val .null, .val (.ref b1_3)]) (S' := [(.ref b1_3), (.ref o0)]) rfl ?_
 have q7 := ((F_value_o0.keep K3q nin0).other W6 (Or.inr (slot_ne (Or.inr (own_w12 hw)) (Or.inr (own_w13 hw)) (by decide) (t := (.array .byte)) (t' := .byte) (by decide) (by decide))))
 refine Home.wr (putF X6 hx hZ hown (host := "") (Or.inl (own_w69 hw)) Via.refl e6 q7 (E_o0.keep K6) (Or.inr ⟨(own_w12 hw), rfl, hnm⟩) (own_w10 hw) (ty := (.array .byte)) (by decide) rfl rfl rfl rfl (hb hby d39_54)) fun T8 h8 X8 e8 W8 => ?_
 have Fw8 := q7.same W8
 have O8 := O6.wr W8 g_o0
 have K8 : Keep h0 h8 ([o0] : List Addr) := Keep.wr K6 W8 (Or.inl (List.mem_of_getElem? (i := 0) rfl))
 have N8 := Fr.snoc X8 N6 g_o0
 have q9 := (Fw6.other W8 (Or.inr (slot_ne (Or.inr (own_w13 hw)) (Or.inr (own_w12 hw)) (by decide) (t := .byte) (t' := (.array .byte)) (by decide) (by decide))))
 have ne10 : b1_3 ≠ o0 := (Ne.symm (Nat.ne_of_lt (Nat.lt_of_lt_of_le E_o0.lt (Nat.le_trans (Nat.le_refl _) sz_b1_3))))
 have q11 := ((P3_0.other W6 ne10).other W8 ne10)
 exact Home.ret0 X8 hx hlk hret (hb hby d39_57) (by rw [show T8.heap = h8 from e8]; exact ⟨b1_3, k1_3, rfl, N8, (Nat.le_trans (Nat.le_refl _) sz_b1_3), K8, (E_o0.keep K8), q9, Fw8, q11⟩) (by decide) (by decide)
theorem rm38_1 (l : Launch) (Z : State) (a0 : Array Value) (hw : HW a0 Z) (ws : List Jvm.Cond) (o0 o1 : Addr) (k_o1 : ClassId) (u1 u2 u3 sv_COMPACT_STRINGS : Int32) (h0 : Heap) (n0 : Nat) (O0 : Old Z n0 h0) (V_o1 : Arv Z h0 o1 k_o1 .char (3 : Int32) [(.int u1), (.int u2), (.int u3)] (.int (0 : Int32))) (S_COMPACT_STRINGS : Sta Z Z.heap "java/lang/String" "COMPACT_STRINGS" "Z" (.int sv_COMPACT_STRINGS)) (E_o0 : Exa Z h0 o0 "java/lang/String") (F_coder_o0 : Fld Z h0 o0 "java/lang/String" "coder" "B" (.int (0 : Int32))) (F_value_o0 : Fld Z h0 o0 "java/lang/String" "value" "[B" .null) (bnd_u1 : ¬ u1 < (0 : Int32) ∧ ¬ (255 : Int32) < u1) (bnd_u2 : ¬ u2 < (0 : Int32) ∧ ¬ (255 : Int32) < u2) (bnd_u3 : ¬ u3 < (0 : Int32) ∧ ¬ (255 : Int32) < u3) (g_o0 : n0 ≤ o0) (hCS : ¬ (sv_COMPACT_STRINGS = (0 : Int32))) :
    Con l Z (⟨"java/lang/String", "<init>", "([C)V"⟩ : MethodName) jdk_42_method_3_code 2 none ws ({ frames := 3, cells := 1, slots := 3, locals := 52 } : Room) #[(.ref o0), (.ref o1)] h0 (fun v h L => ∃ (b1_3_2 : Addr), ∃ (k1_3_2 : ClassId), v = none ∧ Fr n0 L ∧ h0.size ≤ b1_3_2 ∧ Keep h0 h [o0] ∧ Exa Z h o0 "java/lang/String" ∧ Fld Z h o0 "java/lang/String" "coder" "B" (.int (0 : Int32)) ∧ Fld Z h o0 "java/lang/String" "value" "[B" (.ref b1_3_2) ∧ Arv Z h b1_3_2 k1_3_2 .byte (3 : Int32) [(.int (u1.toInt8.toInt32)), (.int (u2.toInt8.toInt32)), (.int (u3.toInt8.toInt32))] (.int (0 : Int32))) := by
 refine own_body (plainFor_of_name own_pn2) (fun m => ef_rm38_1 m o0 o1) ?_
 intro p e s m below meth c s₁ hx hby hlk hml hret hZ hown hnm X0 e0
 have N0 := Fr.nil n0
 refine Home.run X0 hx hby sg38_0_4 (pc' := 4) (L' := #[.val (.ref o0), .val (.ref o1)]) (S' := [(.ref o1), (.int (0 : Int32)), (.ref o1), (.ref o0)]) rfl ?_
 obtain ⟨cl1, Ar1, q1, S1, M1, H1, G1⟩ := id V_o1
 refine Home.go (own_alen X0 hx hZ e0 Ar1 S1 M1 rfl rfl (hb hby d38_4)) ?_
 refine Home.run X0 hx hby sg38_5_1 (pc' := 6) (L' := #[.val (.ref o0), .val (.ref o1)]) (S' := [.null, (.int (3 : Int32)), (.int (0 : Int32)), (.ref o1), (.ref o0)]) rfl ?_
 refine Home.call (own_special X0 hx hZ hown rfl (own_w198 hw) (own_w199 hw) (own_w9 hw) (own_w200 hw) (by decide) (rm39_1 l Z a0 hw [] o0 o1 sv_COMPACT_STRINGS k_o1 u1 u2 u3 h0 n0 O0 S_COMPACT_STRINGS hCS V_o1 bnd_u1 bnd_u2 bnd_u3 E_o0 F_coder_o0 g_o0 F_value_o0) e0 rfl (by rw [hml]; rfl) (a := o0) (argsL := [(.ref o1), (.int (0 : Int32)), (.int (3 : Int32)), .null]) (rest := []) (lenOf own_pd8 rfl) rfl rfl (W := 0) (by exact hW0) (by decide) (by decide) (hb hby d38_6) (by decide) (by decide)) ?_
 rintro _ T2 L2 X2 ⟨b1_3_2, k1_3_2, rfl, N2q, sz_b1_3_2, K2q, P2_0, P2_1, P2_2, P2_3⟩
 have g_b1_3_2 : n0 ≤ b1_3_2 := Nat.le_trans (Old.le O0) sz_b1_3_2
 have O2 := Old.keep O0 K2q (allS g_o0 all0)
 have K2 : Keep h0 T2.heap ([o0] : List Addr) := Keep.trans (Keep.refl h0 ([o0] : List Addr)) K2q (allS (Or.inl (List.mem_of_getElem? (i := 0) rfl)) all0)
 have N2 := Fr.app N0 N2q
 show Home T2 (mkF m 9 #[.val (.ref o0), .val (.ref o1)] [])
 exact Home.ret0 X2 hx hlk hret (hb hby d38_9) ⟨b1_3_2, k1_3_2, rfl, N2, (Nat.le_trans (Nat.le_refl _) sz_b1_3_2), K2, P2_0, P2_1, P2_2, P2_3⟩ (by decide) (by decide)
theorem rm1_1 (l : Launch) (Z : State) (a0 : Array Value) (hw : HW a0 Z) (ws : List Jvm.Cond) (i0 : Int32) (o1 : Addr) (k_o1 : ClassId) (u1 u2 u3 sv_COMPACT_STRINGS : Int32) (h0 : Heap) (n0 : Nat) (O0 : Old Z n0 h0) (bnd_i0 : ¬ i0 < (0 : Int32) ∧ ¬ (3 : Int32) < i0) (V_o1 : Arv Z h0 o1 k_o1 .char (3 : Int32) [(.int u1), (.int u2), (.int u3)] (.int (0 : Int32))) (S_COMPACT_STRINGS : Sta Z Z.heap "java/lang/String" "COMPACT_STRINGS" "Z" (.int sv_COMPACT_STRINGS)) (bnd_u1 : ¬ u1 < (0 : Int32) ∧ ¬ (255 : Int32) < u1) (hCS : ¬ (sv_COMPACT_STRINGS = (0 : Int32))) (bnd_u2 : ¬ u2 < (0 : Int32) ∧ ¬ (255 : Int32) < u2) (bnd_u3 : ¬ u3 < (0 : Int32) ∧ ¬ (255 : Int32) < u3) :
    ConW l Z own_EL ([] : List Addr) false (⟨"com/example/wary_meter/warymeter/RefusalMessagePinLaw", "mk", "(I[C)Ljava/lang/String;"⟩ : MethodName) method_2_code 2 (some (.object "java/lang/String")) ws ({ frames := 4, cells := 3, slots := 10, locals := 66 } : Room) #[(.int i0), (.ref o1)] h0 (fun v h L => ∃ (rs : Jvm.Addr) (rb : Jvm.Addr) (rk : ClassId), v = some (.ref rs) ∧ Fr n0 L ∧ Keep h0 h [] ∧ Exa Z h rs "java/lang/String" ∧ Fld Z h rs "java/lang/String" "coder" "B" (.int (0 : Int32)) ∧ Fld Z h rs "java/lang/String" "value" "[B" (.ref rb) ∧ Arv Z h rb rk .byte (own_n (cs_rm1_1 i0 u1 u2 u3)) (List.map Value.int (cs_rm1_1 i0 u1 u2 u3)) (.int (0 : Int32))) := by
 refine own_bodyW (plainFor_of_name own_pn0) (fun m => ef_rm1_1 m i0 o1) ?_
 intro p e s m below meth c s₁ hx hby hlk hml hret hZ hown hnm X0 e0 Cd0
 have N0 := Fr.nil n0
 refine Home.run X0 hx hby sg1_0_1 (pc' := 1) (L' := #[.val (.int i0), .val (.ref o1)]) (S' := [(.int i0)]) rfl ?_
 by_cases c1 : i0 = (0 : Int32)
 ·
  refine Home.go (fun _ => XS.ifNo X0.here hx rfl (hb hby d1_1) rfl ((if0 _ _).trans (teq c1).2)) ?_
  have bd2 : ¬ i0 < (0 : Int32) ∧ ¬ (0 : Int32) < i0 := ⟨(bnd_eql c1), (bnd_eqr c1)⟩
  obtain ⟨ad4, b4, k4, T4, h4, X4, e4, E4, hZ, hown, Cd4, Ea4, Fc4, Fv4, V4, la4, lb4, hne4, st4⟩ := own_ldcW X0 hx hZ hown (own_hEL hw) Cd0 (own_w8 hw) (own_wS hw) e0 (List.mem_of_getElem? (i := 1) rfl) (vs := []) (z := (0 : Int32)) ⟨by decide, by rfl⟩ (by decide) (by decide) (g := (mkF m 4 #[.val (.int i0), .val (.ref o1)] [])) rfl (hb hby d1_4) (n := 0) (by decide) (by decide) (by decide) (by decide)
  refine Home.go st4 ?_
  have O4 := O0.ext E4
  have K4 : Keep h0 h4 ([] : List Addr) := Keep.ext (Keep.refl h0 ([] : List Addr)) E4
  exact HomeW.retR X4 hx hlk hZ (own_hEL hw) e4 Cd4 (by intro q; cases q) hret rfl rfl (hb hby d1_6) (by rw [show T4.heap = h4 from e4]; exact ⟨ad4, b4, k4, rfl, N0, K4, Ea4, Fc4, Fv4, Arv.lst V4 (cs := []) (cs' := (cs_rm1_1 i0 u1 u2 u3)) (by first | rfl | (simp only [cs_rm1_1, if_pos c1] <;> rfl) | (simp [cs_rm1_1, if_pos c1]; done)) rfl rfl⟩) (by decide) (by decide)
 ·
  refine Home.go (fun _ => XS.ifYes X0.here hx rfl (pc0 := 1) (pc' := 7) rfl (hb hby d1_1) rfl ((if0 _ _).trans (feq c1).2) (by decide) (by decide)) ?_
  have bd3 : ¬ i0 < (1 : Int32) ∧ ¬ (3 : Int32) < i0 := ⟨(bnd_nel bnd_i0.1 c1 (by decide +kernel)), bnd_i0.2⟩
  refine Home.run X0 hx hby sg1_7_2 (pc' := 9) (L' := #[.val (.int i0), .val (.ref o1)]) (S' := [(.int (1 : Int32)), (.int i0)]) rfl ?_
  by_cases c5 : i0 = (1 : Int32)
  ·
   refine Home.go (fun _ => XS.icmpNo X0.here hx rfl (hb hby d1_9) rfl (teq c5).2) ?_
   have bd6 : ¬ i0 < (1 : Int32) ∧ ¬ (1 : Int32) < i0 := ⟨(bnd_eql c5), (bnd_eqr c5)⟩
   refine Home.run X0 hx hby sg1_12_2 (pc' := 14) (L' := #[.val (.int i0), .val (.ref o1)]) (S' := [(.int (0 : Int32)), (.ref o1)]) rfl ?_
   obtain ⟨cl8, Ar8, q8, S8, M8, H8, G8⟩ := id V_o1
   have ib8 : ¬ ((0 : Int32) < 0 ∨ cl8.slots.size ≤ ((0 : Int32)).toNatClampNeg) := inb_of S8 ⟨by decide, by decide⟩
   refine Home.go (X0.caload hx (j := (0 : Int32)) (v := (.int u1)) (by rw [e0]; exact Ar8.1) (State.isArrayOf_alike hZ.alike Ar8.2.1) Ar8.2.2 ib8 (Has.at H8 ib8 rfl) rfl rfl (hb hby d1_14)) ?_
   refine Home.call (own_static X0 hx hZ hown (own_w181 hw) (own_w182 hw) (own_w9 hw) (own_w183 hw) (by decide) (rm34_0 l Z a0 hw [] u1 sv_COMPACT_STRINGS h0 n0 O0 bnd_u1 S_COMPACT_STRINGS hCS) e0 rfl (by rw [hml]; rfl) (argsL := [(.int u1)]) (rest := []) (lenOf own_pd4 rfl) rfl rfl (W := 0) (by exact hW0) (by decide) (by decide) (hb hby d1_15) (by decide) (by decide)) ?_
   rintro _ T9 L9 X9 ⟨b3_9, b1_4_9, k1_4_9, rfl, N9q, sz_b3_9, sz_b1_4_9, K9q, P9_0, P9_1, P9_2, P9_3⟩
   have Cd9 := Cold.keep Cd0 K9q all0
   have Cd9b3_9 := Cold.put Cd9 ⟨Safe.keep K9q all0 Cd0.2.1.1 (Safe.new sz_b3_9), P9_0.lt⟩
   have Cd9b1_4_9 := Cold.put Cd9b3_9 ⟨Safe.keep K9q all0 Cd0.2.1.1 (Safe.new sz_b1_4_9), P9_3.lt⟩
   have g_b3_9 : n0 ≤ b3_9 := Nat.le_trans (Old.le O0) sz_b3_9
   have g_b1_4_9 : n0 ≤ b1_4_9 := Nat.le_trans (Old.le O0) sz_b1_4_9
   have O9 := Old.keep O0 K9q all0
   have K9 : Keep h0 T9.heap ([] : List Addr) := Keep.trans (Keep.refl h0 ([] : List Addr)) K9q all0
   have N9 := Fr.app N0 N9q
   show Home T9 (mkF m 18 #[.val (.int i0), .val (.ref o1)] [(.ref b3_9)])
   exact HomeW.retR X9 hx hlk hZ (own_hEL hw) rfl Cd9b1_4_9 (by intro q; cases q) hret rfl rfl (hb hby d1_18) ⟨b3_9, b1_4_9, k1_4_9, rfl, N9, K9, P9_0, P9_2, P9_1, Arv.lst P9_3 (cs := [(u1.toInt8.toInt32)]) (cs' := (cs_rm1_1 i0 u1 u2 u3)) (by first | rfl | (simp only [cs_rm1_1, if_neg c1, if_pos c5] <;> rfl) | (simp [cs_rm1_1, if_neg c1, if_pos c5]; done)) rfl rfl⟩ (by decide) (by decide)
  ·
   refine Home.go (fun _ => XS.icmpYes X0.here hx rfl (pc0 := 9) (pc' := 19) rfl (hb hby d1_9) rfl (feq c5).2 (by decide) (by decide)) ?_
   have bd7 : ¬ i0 < (2 : Int32) ∧ ¬ (3 : Int32) < i0 := ⟨(bnd_nel bd3.1 c5 (by decide +kernel)), bd3.2⟩
   refine Home.run X0 hx hby sg1_19_2 (pc' := 21) (L' := #[.val (.int i0), .val (.ref o1)]) (S' := [(.int (2 : Int32)), (.int i0)]) rfl ?_
   by_cases c10 : i0 = (2 : Int32)
   ·
    refine Home.go (fun _ => XS.icmpNo X0.here hx rfl (hb hby d1_21) rfl (teq c10).2) ?_
    have bd11 : ¬ i0 < (2 : Int32) ∧ ¬ (2 : Int32) < i0 := ⟨(bnd_eql c10), (bnd_eqr c10)⟩
    refine Home.nw (own_newO X0 hx hZ hown (own_w194 hw) (own_w10 hw) (own_w9 hw) e0 rfl (hb hby d1_24) (by decide) (by decide)) fun T13 h13 b13 g13 X13 e13 E13 A13 D13 => ?_
    have g_b13 : n0 ≤ b13 := Nat.le_trans (Old.le O0) (Nat.le_of_eq g13.symm)
    have F_value_b13 : Fld Z h13 b13 "java/lang/String" "value" "[B" .null := D13 (Or.inr (own_w12 hw)) (ty := (.array .byte)) (by decide)
    have F_coder_b13 : Fld Z h13 b13 "java/lang/String" "coder" "B" (.int (0 : Int32)) := D13 (Or.inr (own_w13 hw)) (ty := .byte) (by decide)
    have O13 := O0.ext E13
    have K13 : Keep h0 h13 ([] : List Addr) := Keep.ext (Keep.refl h0 ([] : List Addr)) E13
    have Cd13 := Cold.add Cd0 E13 (Nat.le_of_eq g13.symm) A13.lt
    refine Home.run X13 hx hby sg1_27_2 (pc' := 29) (L' := #[.val (.int i0), .val (.ref o1)]) (S' := [(.int (2 : Int32)), (.ref b13), (.ref b13)]) rfl ?_
    refine Home.na (own_newP (aty := .char) X13 hx hZ (own_w0 hw) e13 (g := (mkF m 29 #[.val (.int i0), .val (.ref o1)] [(.int (2 : Int32)), (.ref b13), (.ref b13)])) rfl (hb hby d1_29) rfl (by decide) (cap := 2) (by decide) (by decide) (by decide) (by decide)) fun T14 h14 k14 b14 g14 X14 e14 E14 A14 => ?_
    have g_b14 : n0 ≤ b14 := Nat.le_trans (Old.le O13) (Nat.le_of_eq g14.symm)
    have V14 : Arv Z h14 b14 k14 .char (2 : Int32) [(.int (0 : Int32)), (.int (0 : Int32))] (.int (0 : Int32)) := (Arv.new A14 (by decide)).pad (pad_rep [] (.int (0 : Int32)) 2)
    have O14 := O13.ext E14
    have K14 : Keep h0 h14 ([] : List Addr) := Keep.ext K13 E14
    have Cd14 := Cold.ext Cd13 E14
    show Home T14 (mkF m 31 #[.val (.int i0), .val (.ref o1)] [(.ref b14), (.ref b13), (.ref b13)])
    refine Home.run X14 hx hby sg1_31_4 (pc' := 35) (L' := #[.val (.int i0), .val (.ref o1)]) (S' := [(.int (0 : Int32)), (.ref o1), (.int (0 : Int32)), (.ref b14), (.ref b14), (.ref b13), (.ref b13)]) rfl ?_
    obtain ⟨cl15, Ar15, q15, S15, M15, H15, G15⟩ := id (V_o1.keep K14 nin0)
    have ib15 : ¬ ((0 : Int32) < 0 ∨ cl15.slots.size ≤ ((0 : Int32)).toNatClampNeg) := inb_of S15 ⟨by decide, by decide⟩
    refine Home.go (X14.caload hx (j := (0 : Int32)) (v := (.int u1)) (by rw [e14]; exact Ar15.1) (State.isArrayOf_alike hZ.alike Ar15.2.1) Ar15.2.2 ib15 (Has.at H15 ib15 rfl) rfl rfl (hb hby d1_35)) ?_
    obtain ⟨cl16, Ar16, q16, S16, M16, H16, G16⟩ := id V14
    refine Home.wr (stC X14 hx hZ e14 Ar16 (j := (0 : Int32)) (inb_of S16 ⟨by decide, by decide⟩) rfl rfl (hb hby d1_36)) fun T16 h16 X16 e16 W16 => ?_
    have W16' := Wr.to W16 (congrArg Value.int (nar_char_id bnd_u1 (by decide +kernel) (by decide +kernel)))
    have V16 : Arv Z h16 b14 k14 .char (2 : Int32) [(.int u1), (.int (0 : Int32))] (.int (0 : Int32)) := Arv.set Ar16 q16 S16 M16 H16 G16 (fits_char_b bnd_u1 (by decide +kernel) (by decide +kernel)) W16' 0 rfl (Nat.le_of_ble_eq_true rfl)
    have O16 := O14.wr W16 g_b14
    have K16 : Keep h0 h16 ([] : List Addr) := Keep.wr K14 W16 (Or.inr (Nat.le_trans E13.1 (Nat.le_of_eq g14.symm)))
    have Cd16 := Cold.wr Cd14 W16 (Safe.arv hZ.alike V14 (by simp))
    have N16 := Fr.snoc X16 N0 g_b14
    show Home T16 (mkF m 37 #[.val (.int i0), .val (.ref o1)] [(.ref b14), (.ref b13), (.ref b13)])
    refine Home.run X16 hx hby sg1_37_4 (pc' := 41) (L' := #[.val (.int i0), .val (.ref o1)]) (S' := [(.int (1 : Int32)), (.ref o1), (.int (1 : Int32)), (.ref b14), (.ref b14), (.ref b13), (.ref b13)]) rfl ?_
    obtain ⟨cl17, Ar17, q17, S17, M17, H17, G17⟩ := id (V_o1.keep K16 nin0)
    have ib17 : ¬ ((1 : Int32) < 0 ∨ cl17.slots.size ≤ ((1 : Int32)).toNatClampNeg) := inb_of S17 ⟨by decide, by decide⟩
    refine Home.go (X16.caload hx (j := (1 : Int32)) (v := (.int u2)) (by rw [e16]; exact Ar17.1) (State.isArrayOf_alike hZ.alike Ar17.2.1) Ar17.2.2 ib17 (Has.at H17 ib17 rfl) rfl rfl (hb hby d1_41)) ?_
    obtain ⟨cl18, Ar18, q18, S18, M18, H18, G18⟩ := id V16
    refine Home.wr (stC X16 hx hZ e16 Ar18 (j := (1 : Int32)) (inb_of S18 ⟨by decide, by decide⟩) rfl rfl (hb hby d1_42)) fun T18 h18 X18 e18 W18 => ?_
    have W18' := Wr.to W18 (congrArg Value.int (nar_char_id bnd_u2 (by decide +kernel) (by decide +kernel)))
    have V18 : Arv Z h18 b14 k14 .char (2 : Int32) [(.int u1), (.int u2)] (.int (0 : Int32)) := Arv.set Ar18 q18 S18 M18 H18 G18 (fits_char_b bnd_u2 (by decide +kernel) (by decide +kernel)) W18' 1 rfl (Nat.le_of_ble_eq_true rfl)
    have O18 := O16.wr W18 g_b14
    have K18 : Keep h0 h18 ([] : List Addr) := Keep.wr K16 W18 (Or.inr (Nat.le_trans E13.1 (Nat.le_of_eq g14.symm)))
    have Cd18 := Cold.wr Cd16 W18 (Safe.arv hZ.alike V16 (by simp))
    have N18 := Fr.snoc X18 N16 g_b14
    show Home T18 (mkF m 43 #[.val (.int i0), .val (.ref o1)] [(.ref b14), (.ref b13), (.ref b13)])
    have q19 := (((A13.ext E14).wr W16).wr W18)
    have ne20 : b13 ≠ b14 := (Nat.ne_of_lt (Nat.lt_of_lt_of_le A13.lt (Nat.le_trans (Nat.le_refl _) (Nat.le_of_eq g14.symm))))
    have q21 := (((F_coder_b13.ext E14).other W16 (Or.inl ne20)).other W18 (Or.inl ne20))
    have q22 := (((F_value_b13.ext E14).other W16 (Or.inl ne20)).other W18 (Or.inl ne20))
    refine Home.call (own_special X18 hx hZ hown rfl (own_w195 hw) (own_w196 hw) (own_w9 hw) (own_w197 hw) (by decide) (rm38_0 l Z a0 hw [] b13 b14 k14 u1 u2 sv_COMPACT_STRINGS h18 n0 O18 V18 S_COMPACT_STRINGS q19 q21 q22 bnd_u1 bnd_u2 g_b13 hCS) e18 rfl (by rw [hml]; rfl) (a := b13) (argsL := [(.ref b14)]) (rest := [(.ref b13)]) (lenOf own_pd9 rfl) rfl rfl (W := 1) (by exact hW0) (by decide) (by decide) (hb hby d1_43) (by decide) (by decide)) ?_
    rintro _ T23 L23 X23 ⟨b1_3_2_23, k1_3_2_23, rfl, N23q, sz_b1_3_2_23, K23q, P23_0, P23_1, P23_2, P23_3⟩
    have Cd23 := Cold.keep Cd18 K23q (allS (Cold.safe Cd18 (List.mem_of_getElem? (i := 0) rfl)) all0)
    have Cd23b1_3_2_23 := Cold.put Cd23 ⟨Safe.keep K23q (allS (Cold.safe Cd18 (List.mem_of_getElem? (i := 0) rfl)) all0) Cd18.2.1.1 (Safe.new sz_b1_3_2_23), P23_3.lt⟩
    have g_b1_3_2_23 : n0 ≤ b1_3_2_23 := Nat.le_trans (Old.le O18) sz_b1_3_2_23
    have O23 := Old.keep O18 K23q (allS g_b13 all0)
    have K23 : Keep h0 T23.heap ([] : List Addr) := Keep.trans K18 K23q (allS (Or.inr (Nat.le_trans (Nat.le_refl _) (Nat.le_of_eq g13.symm))) all0)
    have N23 := Fr.app N18 N23q
    show Home T23 (mkF m 46 #[.val (.int i0), .val (.ref o1)] [(.ref b13)])
    exact HomeW.retR X23 hx hlk hZ (own_hEL hw) rfl Cd23b1_3_2_23 (by intro q; cases q) hret rfl rfl (hb hby d1_46) ⟨b13, b1_3_2_23, k1_3_2_23, rfl, N23, K23, P23_0, P23_1, P23_2, Arv.lst P23_3 (cs := [(u1.toInt8.toInt32), (u2.toInt8.toInt32)]) (cs' := (cs_rm1_1 i0 u1 u2 u3)) (by first | rfl | (simp only [cs_rm1_1, if_neg c1, if_neg c5, if_pos c10] <;> rfl) | (simp [cs_rm1_1, if_neg c1, if_neg c5, if_pos c10]; done)) rfl rfl⟩ (by decide) (by decide)
   ·
    refine Home.go (fun _ => XS.icmpYes X0.here hx rfl (pc0 := 21) (pc' := 47) rfl (hb hby d1_21) rfl (feq c10).2 (by decide) (by decide)) ?_
    have bd12 : ¬ i0 < (3 : Int32) ∧ ¬ (3 : Int32) < i0 := ⟨(bnd_nel bd7.1 c10 (by decide +kernel)), bd7.2⟩
    refine Home.nw (own_newO X0 hx hZ hown (own_w194 hw) (own_w10 hw) (own_w9 hw) e0 rfl (hb hby d1_47) (by decide) (by decide)) fun T24 h24 b24 g24 X24 e24 E24 A24 D24 => ?_
    have g_b24 : n0 ≤ b24 := Nat.le_trans (Old.le O0) (Nat.le_of_eq g24.symm)
    have F_value_b24 : Fld Z h24 b24 "java/lang/String" "value" "[B" .null := D24 (Or.inr (own_w12 hw)) (ty := (.array .byte)) (by decide)
    have F_coder_b24 : Fld Z h24 b24 "java/lang/String" "coder" "B" (.int (0 : Int32)) := D24 (Or.inr (own_w13 hw)) (ty := .byte) (by decide)
    have O24 := O0.ext E24
    have K24 : Keep h0 h24 ([] : List Addr) := Keep.ext (Keep.refl h0 ([] : List Addr)) E24
    have Cd24 := Cold.add Cd0 E24 (Nat.le_of_eq g24.symm) A24.lt
    refine Home.run X24 hx hby sg1_50_2 (pc' := 52) (L' := #[.val (.int i0), .val (.ref o1)]) (S' := [(.int (3 : Int32)), (.ref b24), (.ref b24)]) rfl ?_
    refine Home.na (own_newP (aty := .char) X24 hx hZ (own_w0 hw) e24 (g := (mkF m 52 #[.val (.int i0), .val (.ref o1)] [(.int (3 : Int32)), (.ref b24), (.ref b24)])) rfl (hb hby d1_52) rfl (by decide) (cap := 3) (by decide) (by decide) (by decide) (by decide)) fun T25 h25 k25 b25 g25 X25 e25 E25 A25 => ?_
    have g_b25 : n0 ≤ b25 := Nat.le_trans (Old.le O24) (Nat.le_of_eq g25.symm)
    have V25 : Arv Z h25 b25 k25 .char (3 : Int32) [(.int (0 : Int32)), (.int (0 : Int32)), (.int (0 : Int32))] (.int (0 : Int32)) := (Arv.new A25 (by decide)).pad (pad_rep [] (.int (0 : Int32)) 3)
    have O25 := O24.ext E25
    have K25 : Keep h0 h25 ([] : List Addr) := Keep.ext K24 E25
    have Cd25 := Cold.ext Cd24 E25
    show Home T25 (mkF m 54 #[.val (.int i0), .val (.ref o1)] [(.ref b25), (.ref b24), (.ref b24)])
    refine Home.run X25 hx hby sg1_54_4 (pc' := 58) (L' := #[.val (.int i0), .val (.ref o1)]) (S' := [(.int (0 : Int32)), (.ref o1), (.int (0 : Int32)), (.ref b25), (.ref b25), (.ref b24), (.ref b24)]) rfl ?_
    obtain ⟨cl26, Ar26, q26, S26, M26, H26, G26⟩ := id (V_o1.keep K25 nin0)
    have ib26 : ¬ ((0 : Int32) < 0 ∨ cl26.slots.size ≤ ((0 : Int32)).toNatClampNeg) := inb_of S26 ⟨by decide, by decide⟩
    refine Home.go (X25.caload hx (j := (0 : Int32)) (v := (.int u1)) (by rw [e25]; exact Ar26.1) (State.isArrayOf_alike hZ.alike Ar26.2.1) Ar26.2.2 ib26 (Has.at H26 ib26 rfl) rfl rfl (hb hby d1_58)) ?_
    obtain ⟨cl27, Ar27, q27, S27, M27, H27, G27⟩ := id V25
    refine Home.wr (stC X25 hx hZ e25 Ar27 (j := (0 : Int32)) (inb_of S27 ⟨by decide, by decide⟩) rfl rfl (hb hby d1_59)) fun T27 h27 X27 e27 W27 => ?_
    have W27' := Wr.to W27 (congrArg Value.int (nar_char_id bnd_u1 (by decide +kernel) (by decide +kernel)))
    have V27 : Arv Z h27 b25 k25 .char (3 : Int32) [(.int u1), (.int (0 : Int32)), (.int (0 : Int32))] (.int (0 : Int32)) := Arv.set Ar27 q27 S27 M27 H27 G27 (fits_char_b bnd_u1 (by decide +kernel) (by decide +kernel)) W27' 0 rfl (Nat.le_of_ble_eq_true rfl)
    have O27 := O25.wr W27 g_b25
    have K27 : Keep h0 h27 ([] : List Addr) := Keep.wr K25 W27 (Or.inr (Nat.le_trans E24.1 (Nat.le_of_eq g25.symm)))
    have Cd27 := Cold.wr Cd25 W27 (Safe.arv hZ.alike V25 (by simp))
    have N27 := Fr.snoc X27 N0 g_b25
    show Home T27 (mkF m 60 #[.val (.int i0), .val (.ref o1)] [(.ref b25), (.ref b24), (.ref b24)])
    refine Home.run X27 hx hby sg1_60_4 (pc' := 64) (L' := #[.val (.int i0), .val (.ref o1)]) (S' := [(.int (1 : Int32)), (.ref o1), (.int (1 : Int32)), (.ref b25), (.ref b25), (.ref b24), (.ref b24)]) rfl ?_
    obtain ⟨cl28, Ar28, q28, S28, M28, H28, G28⟩ := id (V_o1.keep K27 nin0)
    have ib28 : ¬ ((1 : Int32) < 0 ∨ cl28.slots.size ≤ ((1 : Int32)).toNatClampNeg) := inb_of S28 ⟨by decide, by decide⟩
    refine Home.go (X27.caload hx (j := (1 : Int32)) (v := (.int u2)) (by rw [e27]; exact Ar28.1) (State.isArrayOf_alike hZ.alike Ar28.2.1) Ar28.2.2 ib28 (Has.at H28 ib28 rfl) rfl rfl (hb hby d1_64)) ?_
    obtain ⟨cl29, Ar29, q29, S29, M29, H29, G29⟩ := id V27
    refine Home.wr (stC X27 hx hZ e27 Ar29 (j := (1 : Int32)) (inb_of S29 ⟨by decide, by decide⟩) rfl rfl (hb hby d1_65)) fun T29 h29 X29 e29 W29 => ?_
    have W29' := Wr.to W29 (congrArg Value.int (nar_char_id bnd_u2 (by decide +kernel) (by decide +kernel)))
    have V29 : Arv Z h29 b25 k25 .char (3 : Int32) [(.int u1), (.int u2), (.int (0 : Int32))] (.int (0 : Int32)) := Arv.set Ar29 q29 S29 M29 H29 G29 (fits_char_b bnd_u2 (by decide +kernel) (by decide +kernel)) W29' 1 rfl (Nat.le_of_ble_eq_true rfl)
    have O29 := O27.wr W29 g_b25
    have K29 : Keep h0 h29 ([] : List Addr) := Keep.wr K27 W29 (Or.inr (Nat.le_trans E24.1 (Nat.le_of_eq g25.symm)))
    have Cd29 := Cold.wr Cd27 W29 (Safe.arv hZ.alike V27 (by simp))
    have N29 := Fr.snoc X29 N27 g_b25
    show Home T29 (mkF m 66 #[.val (.int i0), .val (.ref o1)] [(.ref b25), (.ref b24), (.ref b24)])
    refine Home.run X29 hx hby sg1_66_4 (pc' := 70) (L' := #[.val (.int i0), .val (.ref o1)]) (S' := [(.int (2 : Int32)), (.ref o1), (.int (2 : Int32)), (.ref b25), (.ref b25), (.ref b24), (.ref b24)]) rfl ?_
    obtain ⟨cl30, Ar30, q30, S30, M30, H30, G30⟩ := id (V_o1.keep K29 nin0)
    have ib30 : ¬ ((2 : Int32) < 0 ∨ cl30.slots.size ≤ ((2 : Int32)).toNatClampNeg) := inb_of S30 ⟨by decide, by decide⟩
    refine Home.go (X29.caload hx (j := (2 : Int32)) (v := (.int u3)) (by rw [e29]; exact Ar30.1) (State.isArrayOf_alike hZ.alike Ar30.2.1) Ar30.2.2 ib30 (Has.at H30 ib30 rfl) rfl rfl (hb hby d1_70)) ?_
    obtain ⟨cl31, Ar31, q31, S31, M31, H31, G31⟩ := id V29
    refine Home.wr (stC X29 hx hZ e29 Ar31 (j := (2 : Int32)) (inb_of S31 ⟨by decide, by decide⟩) rfl rfl (hb hby d1_71)) fun T31 h31 X31 e31 W31 => ?_
    have W31' := Wr.to W31 (congrArg Value.int (nar_char_id bnd_u3 (by decide +kernel) (by decide +kernel)))
    have V31 : Arv Z h31 b25 k25 .char (3 : Int32) [(.int u1), (.int u2), (.int u3)] (.int (0 : Int32)) := Arv.set Ar31 q31 S31 M31 H31 G31 (fits_char_b bnd_u3 (by decide +kernel) (by decide +kernel)) W31' 2 rfl (Nat.le_of_ble_eq_true rfl)
    have O31 := O29.wr W31 g_b25
    have K31 : Keep h0 h31 ([] : List Addr) := Keep.wr K29 W31 (Or.inr (Nat.le_trans E24.1 (Nat.le_of_eq g25.symm)))
    have Cd31 := Cold.wr Cd29 W31 (Safe.arv hZ.alike V29 (by simp))
    have N31 := Fr.snoc X31 N29 g_b25
    show Home T31 (mkF m 72 #[.val (.int i0), .val (.ref o1)] [(.ref b25), (.ref b24), (.ref b24)])
    have q32 := ((((A24.ext E25).wr W27).wr W29).wr W31)
    have ne33 : b24 ≠ b25 := (Nat.ne_of_lt (Nat.lt_of_lt_of_le A24.lt (Nat.le_trans (Nat.le_refl _) (Nat.le_of_eq g25.symm))))
    have q34 := ((((F_coder_b24.ext E25).other W27 (Or.inl ne33)).other W29 (Or.inl ne33)).other W31 (Or.inl ne33))
    have q35 := ((((F_value_b24.ext E25).other W27 (Or.inl ne33)).other W29 (Or.inl ne33)).other W31 (Or.inl ne33))
    refine Home.call (own_special X31 hx hZ hown rfl (own_w195 hw) (own_w196 hw) (own_w9 hw) (own_w197 hw) (by decide) (rm38_1 l Z a0 hw [] b24 b25 k25 u1 u2 u3 sv_COMPACT_STRINGS h31 n0 O31 V31 S_COMPACT_STRINGS q32 q34 q35 bnd_u1 bnd_u2 bnd_u3 g_b24 hCS) e31 rfl (by rw [hml]; rfl) (a := b24) (argsL := [(.ref b25)]) (rest := [(.ref b24)]) (lenOf own_pd9 rfl) rfl rfl (W := 1) (by exact hW0) (by decide) (by decide) (hb hby d1_72) (by decide) (by decide)) ?_
    rintro _ T36 L36 X36 ⟨b1_3_2_36, k1_3_2_36, rfl, N36q, sz_b1_3_2_36, K36q, P36_0, P36_1, P36_2, P36_3⟩
    have Cd36 := Cold.keep Cd31 K36q (allS (Cold.safe Cd31 (List.mem_of_getElem? (i := 0) rfl)) all0)
    have Cd36b1_3_2_36 := Cold.put Cd36 ⟨Safe.keep K36q (allS (Cold.safe Cd31 (List.mem_of_getElem? (i := 0) rfl)) all0) Cd31.2.1.1 (Safe.new sz_b1_3_2_36), P36_3.lt⟩
    have g_b1_3_2_36 : n0 ≤ b1_3_2_36 := Nat.le_trans (Old.le O31) sz_b1_3_2_36
    have O36 := Old.keep O31 K36q (allS g_b24 all0)
    have K36 : Keep h0 T36.heap ([] : List Addr) := Keep.trans K31 K36q (allS (Or.inr (Nat.le_trans (Nat.le_refl _) (Nat.le_of_eq g24.symm))) all0)
    have N36 := Fr.app N31 N36q
    show Home T36 (mkF m 75 #[.val (.int i0), .val (.ref o1)] [(.ref b24)])
    exact HomeW.retR X36 hx hlk hZ (own_hEL hw) rfl Cd36b1_3_2_36 (by intro q; cases q) hret rfl rfl (hb hby d1_75) ⟨b24, b1_3_2_36, k1_3_2_36, rfl, N36, K36, P36_0, P36_1, P36_2, Arv.lst P36_3 (cs := [(u1.toInt8.toInt32), (u2.toInt8.toInt32), (u3.toInt8.toInt32)]) (cs' := (cs_rm1_1 i0 u1 u2 u3)) (by first | rfl | (simp only [cs_rm1_1, if_neg c1, if_neg c5, if_neg c10] <;> rfl) | (simp [cs_rm1_1, if_neg c1, if_neg c5, if_neg c10]; done)) rfl rfl⟩ (by decide) (by decide)
theorem rm3_0 (l : Launch) (Z : State) (a0 : Array Value) (hw : HW a0 Z) (ws : List Jvm.Cond) (o0 : Addr) (h0 : Heap) (n0 : Nat) (O0 : Old Z n0 h0) :
    Con l Z (⟨"java/lang/Record", "<init>", "()V"⟩ : MethodName) jdk_30_method_1_code 1 none ws ({ frames := 1, cells := 0, slots := 0, locals := 12 } : Room) #[(.ref o0)] h0 (Pur none h0) := by
 refine own_body (plainFor_of_name own_pn4) (fun m => ef_rm3_0 m o0) ?_
 intro p e s m below meth c s₁ hx hby hlk hml hret hZ hown hnm X0 e0
 have N0 := Fr.nil n0
 refine Home.run X0 hx hby sg3_0_1 (pc' := 1) (L' := #[.val (.ref o0)]) (S' := [(.ref o0)]) rfl ?_
 refine Home.st (initO X0 hx hZ hown (own_w24 hw) (own_w25 hw) (own_w26 hw) e0 rfl (by rw [hml]; rfl) rfl (hb hby d3_1) (by decide) (W := 0) (by exact hW0) (by decide)) fun T1 X1 e1 => ?_
 exact Home.ret0 X1 hx hlk hret (hb hby d3_4) ⟨rfl, rfl, e1⟩ (by decide) (by decide)
theorem rm2_0 (l : Launch) (Z : State) (a0 : Array Value) (hw : HW a0 Z) (ws : List Jvm.Cond) (o0 o1 o2 : Addr) (h0 : Heap) (n0 : Nat) (O0 : Old Z n0 h0) (E_o0 : Exa Z h0 o0 "com/example/wary_meter/warymeter/Refusal") (F_where_o0 : Fld Z h0 o0 "com/example/wary_meter/warymeter/Refusal" "where" "Ljava/lang/String;" .null) (g_o0 : n0 ≤ o0) (F_problem_o0 : Fld Z h0 o0 "com/example/wary_meter/warymeter/Refusal" "problem" "Ljava/lang/String;" .null) :
    Con l Z (⟨"com/example/wary_meter/warymeter/Refusal", "<init>", "(Ljava/lang/String;Ljava/lang/String;)V"⟩ : MethodName) prog_10_method_1_code 3 none ws ({ frames := 2, cells := 0, slots := 0, locals := 24 } : Room) #[(.ref o0), (.ref o1), (.ref o2)] h0 (fun v h L => v = none ∧ Fr n0 L ∧ Keep h0 h [o0] ∧ Exa Z h o0 "com/example/wary_meter/warymeter/Refusal" ∧ Fld Z h o0 "com/example/wary_meter/warymeter/Refusal" "where" "Ljava/lang/String;" (.ref o1) ∧ Fld Z h o0 "com/example/wary_meter/warymeter/Refusal" "problem" "Ljava/lang/String;" (.ref o2)) := by
 refine own_body (plainFor_of_name own_pn5) (fun m => ef_rm2_0 m o0 o1 o2) ?_
 intro p e s m below meth c s₁ hx hby hlk hml hret hZ hown hnm X0 e0
 have N0 := Fr.nil n0
 refine Home.run X0 hx hby sg2_0_1 (pc' := 1) (L' := #[.val (.ref o0), .val (.ref o1), .val (.ref o2)]) (S' := [(.ref o0)]) rfl ?_
 refine Home.st (own_pure (own_special X0 hx hZ hown rfl (own_w19 hw) (own_w20 hw) (own_w22 hw) (own_w23 hw) (by decide) (rm3_0 l Z a0 hw [] o0 h0 n0 O0) e0 rfl (by rw [hml]; rfl) (a := o0) (argsL := []) (rest := []) (lenOf own_pd10 rfl) rfl rfl (W := 0) (by exact hW0) (by decide) (by decide) (hb hby d2_1) (by decide) (by decide))) fun T1 X1 e1 => ?_
 refine Home.run X1 hx hby sg2_4_2 (pc' := 6) (L' := #[.val (.ref o0), .val (.ref o1), .val (.ref o2)]) (S' := [(.ref o1), (.ref o0)]) rfl ?_
 refine Home.wr (putF X1 hx hZ hown (host := "") (Or.inl (own_w27 hw)) Via.refl e1 F_where_o0 E_o0 (Or.inr ⟨(own_w28 hw), rfl, hnm⟩) (own_w2 hw) (ty := (.object "java/lang/String")) (by decide) rfl rfl rfl rfl (hb hby d2_6)) fun T2 h2 X2 e2 W2 => ?_
 have Fw2 := F_where_o0.same W2
 have O2 := O0.wr W2 g_o0
 have K2 : Keep h0 h2 ([o0] : List Addr) := Keep.wr (Keep.refl h0 ([o0] : List Addr)) W2 (Or.inl (List.mem_of_getElem? (i := 0) rfl))
 have N2 := Fr.snoc X2 N0 g_o0
 show Home T2 (mkF m 9 #[.val (.ref o0), .val (.ref o1), .val (.ref o2)] [])
 refine Home.run X2 hx hby sg2_9_2 (pc' := 11) (L' := #[.val (.ref o0), .val (.ref o1), .val (.ref o2)]) (S' := [(.ref o2), (.ref o0)]) rfl ?_
 have q3 := (F_problem_o0.other W2 (Or.inr (slot_ne (Or.inr (own_w30 hw)) (Or.inr (own_w28 hw)) (by decide) (t := (.object "java/lang/String")) (t' := (.object "java/lang/String")) (by decide) (by decide))))
 refine Home.wr (putF X2 hx hZ hown (host := "") (Or.inl (own_w29 hw)) Via.refl e2 q3 (E_o0.keep K2) (Or.inr ⟨(own_w30 hw), rfl, hnm⟩) (own_w2 hw) (ty := (.object "java/lang/String")) (by decide) rfl rfl rfl rfl (hb hby d2_11)) fun T4 h4 X4 e4 W4 => ?_
 have Fw4 := q3.same W4
 have O4 := O2.wr W4 g_o0
 have K4 : Keep h0 h4 ([o0] : List Addr) := Keep.wr K2 W4 (Or.inl (List.mem_of_getElem? (i := 0) rfl))
 have N4 := Fr.snoc X4 N2 g_o0
 have q5 := (Fw2.other W4 (Or.inr (slot_ne (Or.inr (own_w28 hw)) (Or.inr (own_w30 hw)) (by decide) (t := (.object "java/lang/String")) (t' := (.object "java/lang/String")) (by decide) (by decide))))
 exact Home.ret0 X4 hx hlk hret (hb hby d2_14) (by rw [show T4.heap = h4 from e4]; exact ⟨rfl, N4, K4, (E_o0.keep K4), q5, Fw4⟩) (by decide) (by decide)
theorem rm7_0 (l : Launch) (Z : State) (a0 : Array Value) (hw : HW a0 Z) (ws : List Jvm.Cond) (o0 : Addr) (sv_COMPACT_STRINGS : Int32) (h0 : Heap) (n0 : Nat) (O0 : Old Z n0 h0) (S_COMPACT_STRINGS : Sta Z Z.heap "java/lang/String" "COMPACT_STRINGS" "Z" (.int sv_COMPACT_STRINGS)) (hCS : ¬ (sv_COMPACT_STRINGS = (0 : Int32))) (E_o0 : Exa Z h0 o0 "java/lang/StringBuilder") (F_value_o0 : Fld Z h0 o0 "java/lang/AbstractStringBuilder" "value" "[B" .null) (g_o0 : n0 ≤ o0) (F_coder_o0 : Fld Z h0 o0 "java/lang/AbstractStringBuilder" "coder" "B" (.int (0 : Int32))) (F_count_o0 : Fld Z h0 o0 "java/lang/AbstractStringBuilder" "count" "I" (.int (0 : Int32))) :
    Con l Z (⟨"java/lang/AbstractStringBuilder", "<init>", "(I)V"⟩ : MethodName) jdk_68_method_2_code 2 none ws ({ frames := 1, cells := 1, slots := 16, locals := 12 } : Room) #[(.ref o0), (.int (16 : Int32))] h0 (fun v h L => ∃ (b3 : Addr), ∃ (k3 : ClassId), v = none ∧ Fr n0 L ∧ h0.size ≤ b3 ∧ Keep h0 h [o0] ∧ Exa Z h o0 "java/lang/StringBuilder" ∧ Fld Z h o0 "java/lang/AbstractStringBuilder" "value" "[B" (.ref b3) ∧ Fld Z h o0 "java/lang/AbstractStringBuilder" "coder" "B" (.int (0 : Int32)) ∧ Fld Z h o0 "java/lang/AbstractStringBuilder" "count" "I" (.int (0 : Int32)) ∧ Arv Z h b3 k3 .byte (16 : Int32) (List.map Value.int []) (.int (0 : Int32))) := by
 refine own_body (plainFor_of_name own_pn6) (fun m => ef_rm7_0 m o0 (16 : Int32)) ?_
 intro p e s m below meth c s₁ hx hby hlk hml hret hZ hown hnm X0 e0
 have N0 := Fr.nil n0
 refine Home.run X0 hx hby sg7_0_1 (pc' := 1) (L' := #[.val (.ref o0), .val (.int (16 : Int32))]) (S' := [(.ref o0)]) rfl ?_
 refine Home.st (initO X0 hx hZ hown (own_w48 hw) (own_w25 hw) (own_w26 hw) e0 rfl (by rw [hml]; rfl) rfl (hb hby d7_1) (by decide) (W := 0) (by exact hW0) (by decide)) fun T1 X1 e1 => ?_
 refine Home.st (getS2 X1 hx hZ hown (host := "") (Or.inl (own_w49 hw)) Via.refl e1 (S_COMPACT_STRINGS.ext O0.2) rfl (hb hby d7_4)) fun T2 X2 e2 => ?_
 refine Home.go (fun _ => XS.ifNo X2.here hx rfl (hb hby d7_7) rfl ((if0 _ _).trans (feq hCS).1)) ?_
 refine Home.run X2 hx hby sg7_10_2 (pc' := 12) (L' := #[.val (.ref o0), .val (.int (16 : Int32))]) (S' := [(.int (16 : Int32)), (.ref o0)]) rfl ?_
 refine Home.na (own_newP (aty := .byte) X2 hx hZ (own_w11 hw) e2 (g := (mkF m 12 #[.val (.ref o0), .val (.int (16 : Int32))] [(.int (16 : Int32)), (.ref o0)])) rfl (hb hby d7_12) rfl (by decide) (cap := 16) (by decide) (by decide) (by decide) (by decide)) fun T3 h3 k3 b3 g3 X3 e3 E3 A3 => ?_
 have g_b3 : n0 ≤ b3 := Nat.le_trans (Old.le O0) (Nat.le_of_eq g3.symm)
 have V3 : Arv Z h3 b3 k3 .byte (16 : Int32) (List.map Value.int []) (.int (0 : Int32)) := Arv.new A3 (by decide)
 have O3 := O0.ext E3
 have K3 : Keep h0 h3 ([o0] : List Addr) := Keep.ext (Keep.refl h0 ([o0] : List Addr)) E3
 show Home T3 (mkF m 14 #[.val (.ref o0), .val (.int (16 : Int32))] [(.ref b3), (.ref o0)])
 have q4 := (F_value_o0.ext E3)
 refine Home.wr (putF X3 hx hZ hown (host := "") (Or.inl (own_w50 hw)) Via.refl e3 q4 (E_o0.keep K3) (Or.inl (own_w51 hw)) (own_w37 hw) (ty := (.array .byte)) (by decide) rfl rfl rfl rfl (hb hby d7_14)) fun T5 h5 X5 e5 W5 => ?_
 have Fw5 := q4.same W5
 have O5 := O3.wr W5 g_o0
 have K5 : Keep h0 h5 ([o0] : List Addr) := Keep.wr K3 W5 (Or.inl (List.mem_of_getElem? (i := 0) rfl))
 have N5 := Fr.snoc X5 N0 g_o0
 refine Home.run X5 hx hby sg7_17_2 (pc' := 19) (L' := #[.val (.ref o0), .val (.int (16 : Int32))]) (S' := [(.int (0 : Int32)), (.ref o0)]) rfl ?_
 have q6 := ((F_coder_o0.ext E3).other W5 (Or.inr (slot_ne (Or.inl (own_w53 hw)) (Or.inl (own_w51 hw)) (by decide) (t := .byte) (t' := (.array .byte)) (by decide) (by decide))))
 refine Home.wr (putFN X5 hx hZ hown (own_w52 hw) Via.refl e5 q6 (E_o0.keep K5) (Or.inl (own_w53 hw)) (own_w37 hw) (ty := .byte) (v := (.int (0 : Int32))) (v' := (.int (0 : Int32))) (by decide) rfl rfl rfl rfl (hb hby d7_19)) fun T7 h7 X7 e7 W7 => ?_
 have Fw7 := q6.same W7
 have O7 := O5.wr W7 g_o0
 have K7 : Keep h0 h7 ([o0] : List Addr) := Keep.wr K5 W7 (Or.inl (List.mem_of_getElem? (i := 0) rfl))
 have N7 := Fr.snoc X7 N5 g_o0
 show Home T7 (mkF m 22 #[.val (.ref o0), .val (.int (16 : Int32))] [])
 refine Home.run X7 hx hby sg7_22_1 (pc' := 38) (L' := #[.val (.ref o0), .val (.int (16 : Int32))]) (S' := []) rfl ?_
 have q8 := (Fw5.other W7 (Or.inr (slot_ne (Or.inl (own_w51 hw)) (Or.inl (own_w53 hw)) (by decide) (t := (.array .byte)) (t' := .byte) (by decide) (by decide))))
 have q9 := (((F_count_o0.ext E3).other W5 (Or.inr (slot_ne (Or.inl (own_w78 hw)) (Or.inl (own_w51 hw)) (by decide) (t := .int) (t' := (.array .byte)) (by decide) (by decide)))).other W7 (Or.inr (slot_ne (Or.inl (own_w78 hw)) (Or.inl (own_w53 hw)) (by decide) (t := .int) (t' := .byte) (by decide) (by decide))))
 have ne10 : b3 ≠ o0 := (Ne.symm (Nat.ne_of_lt (Nat.lt_of_lt_of_le E_o0.lt (Nat.le_trans (Nat.le_refl _) (Nat.le_of_eq g3.symm)))))
 have q11 := ((V3.other W5 ne10).other W7 ne10)
 exact Home.ret0 X7 hx hlk hret (hb hby d7_38) (by rw [show T7.heap = h7 from e7]; exact ⟨b3, k3, rfl, N7, (Nat.le_trans (Nat.le_refl _) (Nat.le_of_eq g3.symm)), K7, (E_o0.keep K7), q8, Fw7, q9, q11⟩) (by decide) (by decide)
theorem rm6_0 (l : Launch) (Z : State) (a0 : Array Value) (hw : HW a0 Z) (ws : List Jvm.Cond) (o0 : Addr) (sv_COMPACT_STRINGS : Int32) (h0 : Heap) (n0 : Nat) (O0 : Old Z n0 h0) (S_COMPACT_STRINGS : Sta Z Z.heap "java/lang/String" "COMPACT_STRINGS" "Z" (.int sv_COMPACT_STRINGS)) (E_o0 : Exa Z h0 o0 "java/lang/StringBuilder") (F_value_o0 : Fld Z h0 o0 "java/lang/AbstractStringBuilder" "value" "[B" .null) (F_coder_o0 : Fld Z h0 o0 "java/lang/AbstractStringBuilder" "coder" "B" (.int (0 : Int32))) (F_count_o0 : Fld Z h0 o0 "java/lang/AbstractStringBuilder" "count" "I" (.int (0 : Int32))) (g_o0 : n0 ≤ o0) (hCS : ¬ (sv_COMPACT_STRINGS = (0 : Int32))) :
    Con l Z (⟨"java/lang/StringBuilder", "<init>", "()V"⟩ : MethodName) jdk_67_method_1_code 1 none ws ({ frames := 2, cells := 1, slots := 16, locals := 25 } : Room) #[(.ref o0)] h0 (fun v h L => ∃ (b3_1 : Addr), ∃ (k3_1 : ClassId), v = none ∧ Fr n0 L ∧ h0.size ≤ b3_1 ∧ Keep h0 h [o0] ∧ Exa Z h o0 "java/lang/StringBuilder" ∧ Fld Z h o0 "java/lang/AbstractStringBuilder" "value" "[B" (.ref b3_1) ∧ Fld Z h o0 "java/lang/AbstractStringBuilder" "coder" "B" (.int (0 : Int32)) ∧ Fld Z h o0 "java/lang/AbstractStringBuilder" "count" "I" (.int (0 : Int32)) ∧ Arv Z h b3_1 k3_1 .byte (16 : Int32) (List.map Value.int []) (.int (0 : Int32))) := by
 refine own_body (plainFor_of_name own_pn7) (fun m => ef_rm6_0 m o0) ?_
 intro p e s m below meth c s₁ hx hby hlk hml hret hZ hown hnm X0 e0
 have N0 := Fr.nil n0
 refine Home.run X0 hx hby sg6_0_2 (pc' := 3) (L' := #[.val (.ref o0)]) (S' := [(.int (16 : Int32)), (.ref o0)]) rfl ?_
 refine Home.call (own_special X0 hx hZ hown rfl (own_w42 hw) (own_w43 hw) (own_w46 hw) (own_w47 hw) (by decide) (rm7_0 l Z a0 hw [] o0 sv_COMPACT_STRINGS h0 n0 O0 S_COMPACT_STRINGS hCS E_o0 F_value_o0 g_o0 F_coder_o0 F_count_o0) e0 rfl (by rw [hml]; rfl) (a := o0) (argsL := [(.int (16 : Int32))]) (rest := []) (lenOf own_pd12 rfl) rfl rfl (W := 0) (by exact hW0) (by decide) (by decide) (hb hby d6_3) (by decide) (by decide)) ?_
 rintro _ T1 L1 X1 ⟨b3_1, k3_1, rfl, N1q, sz_b3_1, K1q, P1_0, P1_1, P1_2, P1_3, P1_4⟩
 have g_b3_1 : n0 ≤ b3_1 := Nat.le_trans (Old.le O0) sz_b3_1
 have O1 := Old.keep O0 K1q (allS g_o0 all0)
 have K1 : Keep h0 T1.heap ([o0] : List Addr) := Keep.trans (Keep.refl h0 ([o0] : List Addr)) K1q (allS (Or.inl (List.mem_of_getElem? (i := 0) rfl)) all0)
 have N1 := Fr.app N0 N1q
 exact Home.ret0 X1 hx hlk hret (hb hby d6_6) ⟨b3_1, k3_1, rfl, N1, (Nat.le_trans (Nat.le_refl _) sz_b3_1), K1, P1_0, P1_1, P1_2, P1_3, P1_4⟩ (by decide) (by decide)
theorem rm11_0 (l : Launch) (Z : State) (a0 : Array Value) (hw : HW a0 Z) (ws : List Jvm.Cond) (o0 : Addr) (sv_COMPACT_STRINGS : Int32) (h0 : Heap) (n0 : Nat) (O0 : Old Z n0 h0) (S_COMPACT_STRINGS : Sta Z Z.heap "java/lang/String" "COMPACT_STRINGS" "Z" (.int sv_COMPACT_STRINGS)) (hCS : ¬ (sv_COMPACT_STRINGS = (0 : Int32))) (F_coder_o0 : Fld Z h0 o0 "java/lang/String" "coder" "B" (.int (0 : Int32))) :
    Con l Z (⟨"java/lang/String", "coder", "()B"⟩ : MethodName) jdk_42_method_152_code 1 (some .byte) ws ({ frames := 0, cells := 0, slots := 0, locals := 0 } : Room) #[(.ref o0)] h0 (Pur (some (.int (0 : Int32))) h0) := by
 refine own_body (plainFor_of_name own_pn2) (fun m => ef_rm11_0 m o0) ?_
 intro p e s m below meth c s₁ hx hby hlk hml hret hZ hown hnm X0 e0
 have N0 := Fr.nil n0
 refine Home.st (getS2 X0 hx hZ hown (host := "") (Or.inl (own_w75 hw)) Via.refl e0 (S_COMPACT_STRINGS.ext O0.2) rfl (hb hby d11_0)) fun T1 X1 e1 => ?_
 refine Home.go (fun _ => XS.ifNo X1.here hx rfl (hb hby d11_3) rfl ((if0 _ _).trans (feq hCS).1)) ?_
 refine Home.run X1 hx hby sg11_6_1 (pc' := 7) (L' := #[.val (.ref o0)]) (S' := [(.ref o0)]) rfl ?_
 refine Home.st (getF X1 hx hZ hown (host := "") (Or.inl (own_w76 hw)) Via.refl e1 F_coder_o0 rfl rfl (hb hby d11_7)) fun T2 X2 e2 => ?_
 refine Home.run X2 hx hby sg11_10_1 (pc' := 14) (L' := #[.val (.ref o0)]) (S' := [(.int (0 : Int32))]) rfl ?_
 exact Home.retN X2 hx hlk (t := .byte) hret (by simp) (hb hby d11_14) ⟨congrArg some (congrArg Value.int (by first | rfl | exact nar_i2c _ | exact nar_i2b _)), rfl, e2⟩ (by decide) (by decide)
theorem rm10_0 (l : Launch) (Z : State) (a0 : Array Value) (hw : HW a0 Z) (ws : List Jvm.Cond) (o0 p2 : Addr) (k_p2 : ClassId) (l_1 : List Int32) (sv_COMPACT_STRINGS : Int32) (h0 : Heap) (n0 : Nat) (O0 : Old Z n0 h0) (F_value_o0 : Fld Z h0 o0 "java/lang/String" "value" "[B" (.ref p2)) (V_p2 : Arv Z h0 p2 k_p2 .byte (own_n l_1) (List.map Value.int l_1) (.int (0 : Int32))) (E_o0 : Exa Z h0 o0 "java/lang/String") (S_COMPACT_STRINGS : Sta Z Z.heap "java/lang/String" "COMPACT_STRINGS" "Z" (.int sv_COMPACT_STRINGS)) (F_coder_o0 : Fld Z h0 o0 "java/lang/String" "coder" "B" (.int (0 : Int32))) (hCS : ¬ (sv_COMPACT_STRINGS = (0 : Int32))) (sh_l_1 : l_1.length ≤ 3) :
    Con l Z (⟨"java/lang/String", "length", "()I"⟩ : MethodName) jdk_42_method_54_code 1 (some .int) ws ({ frames := 1, cells := 0, slots := 0, locals := 13 } : Room) #[(.ref o0)] h0 (Pur (some (.int (own_n l_1))) h0) := by
 refine own_body (plainFor_of_name own_pn2) (fun m => ef_rm10_0 m o0) ?_
 intro p e s m below meth c s₁ hx hby hlk hml hret hZ hown hnm X0 e0
 have N0 := Fr.nil n0
 refine Home.run X0 hx hby sg10_0_1 (pc' := 1) (L' := #[.val (.ref o0)]) (S' := [(.ref o0)]) rfl ?_
 refine Home.st (getF X0 hx hZ hown (host := "") (Or.inl (own_w69 hw)) Via.refl e0 F_value_o0 rfl rfl (hb hby d10_1)) fun T1 X1 e1 => ?_
 obtain ⟨cl2, Ar2, q2, S2, M2, H2, G2⟩ := id V_p2
 refine Home.go (own_alen X1 hx hZ e1 Ar2 S2 M2 rfl rfl (hb hby d10_4)) ?_
 refine Home.run X1 hx hby sg10_5_1 (pc' := 6) (L' := #[.val (.ref o0)]) (S' := [(.ref o0), (.int (own_n l_1))]) rfl ?_
 refine Home.st (own_pure (own_virtual X1 hx hZ hown (own_w70 hw) (own_w71 hw) (notFace_of_selects (args := #[]) (mvT hZ (own_w73 hw))) (own_w73 hw) (own_w72 hw) (own_w9 hw) (own_w74 hw) (by decide) (rm11_0 l Z a0 hw [] o0 sv_COMPACT_STRINGS h0 n0 O0 S_COMPACT_STRINGS hCS F_coder_o0) e1 E_o0 rfl (by rw [hml]; rfl) (argsL := []) (rest := [(.int (own_n l_1))]) (lenOf own_pd13 rfl) rfl rfl (W := 1) (by exact hW0) (by decide) (by decide) (hb hby d10_6) (by decide) (by decide))) fun T3 X3 e3 => ?_
 refine Home.run X3 hx hby sg10_9_1 (pc' := 10) (L' := #[.val (.ref o0)]) (S' := [(.int ((own_n l_1) >>> ((0 : Int32) &&& 31)))]) rfl ?_
 rw [own_shr0]
 exact Home.retI X3 hx hlk hret (hb hby d10_10) ⟨rfl, rfl, e3⟩ (by decide) (by decide)
theorem rm12_0 (l : Launch) (Z : State) (a0 : Array Value) (hw : HW a0 Z) (ws : List Jvm.Cond) (o0 : Addr) (l_1 : List Int32) (p2 : Addr) (k_p2 : ClassId) (l_2 : List Int32) (h0 : Heap) (n0 : Nat) (O0 : Old Z n0 h0) (F_value_o0 : Fld Z h0 o0 "java/lang/AbstractStringBuilder" "value" "[B" (.ref p2)) (V_p2 : Arv Z h0 p2 k_p2 .byte (16 : Int32) (List.map Value.int l_2) (.int (0 : Int32))) (F_coder_o0 : Fld Z h0 o0 "java/lang/AbstractStringBuilder" "coder" "B" (.int (0 : Int32))) (sh_l_1 : l_1.length ≤ 6) :
    Con l Z (⟨"java/lang/AbstractStringBuilder", "ensureCapacityInternal", "(I)V"⟩ : MethodName) jdk_68_method_9_code 3 none ws ({ frames := 0, cells := 0, slots := 0, locals := 0 } : Room) #[(.ref o0), (.int (own_n l_1))] h0 (Pur none h0) := by
 refine own_body (plainFor_of_name own_pn6) (fun m => ef_rm12_0 m o0 (own_n l_1)) ?_
 intro p e s m below meth c s₁ hx hby hlk hml hret hZ hown hnm X0 e0
 have N0 := Fr.nil n0
 refine Home.run X0 hx hby sg12_0_1 (pc' := 1) (L' := #[.val (.ref o0), .val (.int (own_n l_1)), .unset]) (S' := [(.ref o0)]) rfl ?_
 refine Home.st (getF X0 hx hZ hown (host := "") (Or.inl (own_w50 hw)) Via.refl e0 F_value_o0 rfl rfl (hb hby d12_1)) fun T1 X1 e1 => ?_
 obtain ⟨cl2, Ar2, q2, S2, M2, H2, G2⟩ := id V_p2
 refine Home.go (own_alen X1 hx hZ e1 Ar2 S2 M2 rfl rfl (hb hby d12_4)) ?_
 refine Home.run X1 hx hby sg12_5_1 (pc' := 6) (L' := #[.val (.ref o0), .val (.int (own_n l_1)), .unset]) (S' := [(.ref o0), (.int (16 : Int32))]) rfl ?_
 refine Home.st (getF X1 hx hZ hown (host := "") (Or.inl (own_w52 hw)) Via.refl e1 F_coder_o0 rfl rfl (hb hby d12_6)) fun T3 X3 e3 => ?_
 refine Home.run X3 hx hby sg12_9_5 (pc' := 14) (L' := #[.val (.ref o0), .val (.int (own_n l_1)), .val (.int (16 : Int32))]) (S' := [(.int ((own_n l_1) - (16 : Int32)))]) rfl ?_
 refine Home.go (fun _ => XS.ifYes X3.here hx rfl (pc0 := 14) (pc' := 38) rfl (hb hby d12_14) rfl ((if0 _ _).trans (flt (bnd_nlt (bnd_lit (0 : Int32)) (bnd_sub (own_n_b (a := 0) (b := 6) (own_len_le sh_l_1) (lo := (0 : Int32)) (hi := (6 : Int32)) (by decide) (by decide) (by decide)) (bnd_lit (16 : Int32)) (lo := (-16 : Int32)) (hi := (-10 : Int32)) (by decide +kernel) (by decide +kernel) (by decide +kernel) (by decide +kernel)) (by decide +kernel))).2.2.2) (by decide) (by decide)) ?_
 exact Home.ret0 X3 hx hlk hret (hb hby d12_38) ⟨rfl, rfl, e3⟩ (by decide) (by decide)
theorem rm14_0 (l : Launch) (Z : State) (a0 : Array Value) (hw : HW a0 Z) (ws : List Jvm.Cond) (o0 o1 : Addr) (sv_COMPACT_STRINGS : Int32) (h0 : Heap) (n0 : Nat) (O0 : Old Z n0 h0) (S_COMPACT_STRINGS : Sta Z Z.heap "java/lang/String" "COMPACT_STRINGS" "Z" (.int sv_COMPACT_STRINGS)) (hCS : ¬ (sv_COMPACT_STRINGS = (0 : Int32))) (F_coder_o0 : Fld Z h0 o0 "java/lang/AbstractStringBuilder" "coder" "B" (.int (0 : Int32))) (E_o1 : Exa Z h0 o1 "java/lang/String") (F_coder_o1 : Fld Z h0 o1 "java/lang/String" "coder" "B" (.int (0 : Int32))) :
    Con l Z (⟨"java/lang/AbstractStringBuilder", "inflateIfNeededFor", "(Ljava/lang/String;)V"⟩ : MethodName) jdk_68_method_71_code 2 none ws ({ frames := 1, cells := 0, slots := 0, locals := 13 } : Room) #[(.ref o0), (.ref o1)] h0 (Pur none h0) := by
 refine own_body (plainFor_of_name own_pn6) (fun m => ef_rm14_0 m o0 o1) ?_
 intro p e s m below meth c s₁ hx hby hlk hml hret hZ hown hnm X0 e0
 have N0 := Fr.nil n0
 refine Home.st (getS2 X0 hx hZ hown (host := "") (Or.inl (own_w49 hw)) Via.refl e0 (S_COMPACT_STRINGS.ext O0.2) rfl (hb hby d14_0)) fun T1 X1 e1 => ?_
 refine Home.go (fun _ => XS.ifNo X1.here hx rfl (hb hby d14_3) rfl ((if0 _ _).trans (feq hCS).1)) ?_
 refine Home.run X1 hx hby sg14_6_1 (pc' := 7) (L' := #[.val (.ref o0), .val (.ref o1)]) (S' := [(.ref o0)]) rfl ?_
 refine Home.st (getF X1 hx hZ hown (host := "") (Or.inl (own_w52 hw)) Via.refl e1 F_coder_o0 rfl rfl (hb hby d14_7)) fun T2 X2 e2 => ?_
 refine Home.run X2 hx hby sg14_10_1 (pc' := 11) (L' := #[.val (.ref o0), .val (.ref o1)]) (S' := [(.ref o1), (.int (0 : Int32))]) rfl ?_
 refine Home.st (own_pure (own_virtual X2 hx hZ hown (own_w94 hw) (own_w71 hw) (notFace_of_selects (args := #[]) (mvT hZ (own_w73 hw))) (own_w73 hw) (own_w72 hw) (own_w9 hw) (own_w74 hw) (by decide) (rm11_0 l Z a0 hw [] o1 sv_COMPACT_STRINGS h0 n0 O0 S_COMPACT_STRINGS hCS F_coder_o1) e2 E_o1 rfl (by rw [hml]; rfl) (argsL := []) (rest := [(.int (0 : Int32))]) (lenOf own_pd13 rfl) rfl rfl (W := 1) (by exact hW0) (by decide) (by decide) (hb hby d14_11) (by decide) (by decide))) fun T3 X3 e3 => ?_
 refine Home.go (fun _ => XS.icmpYes X3.here hx rfl (pc0 := 14) (pc' := 21) rfl (hb hby d14_14) rfl (teq (by decide)).1 (by decide) (by decide)) ?_
 exact Home.ret0 X3 hx hlk hret (hb hby d14_21) ⟨rfl, rfl, e3⟩ (by decide) (by decide)
theorem rm15_0 (l : Launch) (Z : State) (a0 : Array Value) (hw : HW a0 Z) (ws : List Jvm.Cond) (o0 o1 : Addr) (l_1 : List Int32) (sv_COMPACT_STRINGS : Int32) (p3 : Addr) (k_p3 : ClassId) (l_2 : List Int32) (k_o1 : ClassId) (h0 : Heap) (n0 : Nat) (O0 : Old Z n0 h0) (E_o0 : Exa Z h0 o0 "java/lang/String") (S_COMPACT_STRINGS : Sta Z Z.heap "java/lang/String" "COMPACT_STRINGS" "Z" (.int sv_COMPACT_STRINGS)) (F_coder_o0 : Fld Z h0 o0 "java/lang/String" "coder" "B" (.int (0 : Int32))) (hCS : ¬ (sv_COMPACT_STRINGS = (0 : Int32))) (F_value_o0 : Fld Z h0 o0 "java/lang/String" "value" "[B" (.ref p3)) (sh_l_1 : l_1.length ≤ 3) (V_p3 : Arv Z h0 p3 k_p3 .byte (own_n l_2) (List.map Value.int l_2) (.int (0 : Int32))) (V_o1 : Arv Z h0 o1 k_o1 .byte (16 : Int32) (List.map Value.int l_1) (.int (0 : Int32))) (sh_l_2 : l_2.length ≤ 3) (g_o1 : n0 ≤ o1) :
    Con l Z (⟨"java/lang/String", "getBytes", "([BIB)V"⟩ : MethodName) jdk_42_method_147_code 4 none ws ({ frames := 1, cells := 0, slots := 0, locals := 18 } : Room) #[(.ref o0), (.ref o1), (.int (own_n l_1)), (.int (0 : Int32))] h0 (fun v h L => v = none ∧ Fr n0 L ∧ Keep h0 h [o1] ∧ Arv Z h o1 k_o1 .byte (16 : Int32) (List.map Value.int (l_1 ++ l_2)) (.int (0 : Int32))) := by
 refine own_body (plainFor_of_name own_pn2) (fun m => ef_rm15_0 m o0 o1 (own_n l_1) (0 : Int32)) ?_
 intro p e s m below meth c s₁ hx hby hlk hml hret hZ hown hnm X0 e0
 have N0 := Fr.nil n0
 refine Home.run X0 hx hby sg15_0_1 (pc' := 1) (L' := #[.val (.ref o0), .val (.ref o1), .val (.int (own_n l_1)), .val (.int (0 : Int32))]) (S' := [(.ref o0)]) rfl ?_
 refine Home.st (own_pure (own_virtual X0 hx hZ hown (own_w70 hw) (own_w71 hw) (notFace_of_selects (args := #[]) (mvT hZ (own_w73 hw))) (own_w73 hw) (own_w72 hw) (own_w9 hw) (own_w74 hw) (by decide) (rm11_0 l Z a0 hw [] o0 sv_COMPACT_STRINGS h0 n0 O0 S_COMPACT_STRINGS hCS F_coder_o0) e0 E_o0 rfl (by rw [hml]; rfl) (argsL := []) (rest := []) (lenOf own_pd13 rfl) rfl rfl (W := 0) (by exact hW0) (by decide) (by decide) (hb hby d15_1) (by decide) (by decide))) fun T1 X1 e1 => ?_
 refine Home.run X1 hx hby sg15_4_1 (pc' := 5) (L' := #[.val (.ref o0), .val (.ref o1), .val (.int (own_n l_1)), .val (.int (0 : Int32))]) (S' := [(.int (0 : Int32)), (.int (0 : Int32))]) rfl ?_
 refine Home.go (fun _ => XS.icmpNo X1.here hx rfl (hb hby d15_5) rfl (teq (by decide)).2) ?_
 refine Home.run X1 hx hby sg15_8_1 (pc' := 9) (L' := #[.val (.ref o0), .val (.ref o1), .val (.int (own_n l_1)), .val (.int (0 : Int32))]) (S' := [(.ref o0)]) rfl ?_
 refine Home.st (getF X1 hx hZ hown (host := "") (Or.inl (own_w69 hw)) Via.refl e1 F_value_o0 rfl rfl (hb hby d15_9)) fun T2 X2 e2 => ?_
 refine Home.run X2 hx hby sg15_12_5 (pc' := 17) (L' := #[.val (.ref o0), .val (.ref o1), .val (.int (own_n l_1)), .val (.int (0 : Int32))]) (S' := [(.int ((own_n l_1) <<< ((0 : Int32) &&& 31))), (.ref o1), (.int (0 : Int32)), (.ref p3)]) rfl ?_
 rw [own_shl0]
 refine Home.run X2 hx hby sg15_17_1 (pc' := 18) (L' := #[.val (.ref o0), .val (.ref o1), .val (.int (own_n l_1)), .val (.int (0 : Int32))]) (S' := [(.ref o0), (.int (own_n l_1)), (.ref o1), (.int (0 : Int32)), (.ref p3)]) rfl ?_
 refine Home.st (getF X2 hx hZ hown (host := "") (Or.inl (own_w69 hw)) Via.refl e2 F_value_o0 rfl rfl (hb hby d15_18)) fun T3 X3 e3 => ?_
 show Home T3 (mkF m 21 #[.val (.ref o0), .val (.ref o1), .val (.int (own_n l_1)), .val (.int (0 : Int32))] [(.ref p3), (.int (own_n l_1)), (.ref o1), (.int (0 : Int32)), (.ref p3)])
 obtain ⟨cl4, Ar4, q4, S4, M4, H4, G4⟩ := id V_p3
 refine Home.go (own_alen X3 hx hZ e3 Ar4 S4 M4 rfl rfl (hb hby d15_21)) ?_
 refine Home.cp (own_cpS X3 hx hZ hown (own_w100 hw) (own_w103 hw) (own_w101 hw) (own_w102 hw) e3 V_p3 V_o1 (Y := l_1) (X := l_2) (own_n_le (own_len_le sh_l_2)) (Nat.le_trans (Nat.le_of_eq (List.length_append).symm) (Nat.le_trans (own_len_app (own_len_le sh_l_1) (own_len_le sh_l_2)).2 (by decide))) (Nat.lt_of_le_of_lt (own_len_app (own_len_le sh_l_1) (own_len_le sh_l_2)).2 (by decide)) (dp := (own_n l_1)) rfl N0 g_o1 (g := (mkF m 22 #[.val (.ref o0), .val (.ref o1), .val (.int (own_n l_1)), .val (.int (0 : Int32))] [(.int (own_n l_2)), (.int (own_n l_1)), (.ref o1), (.int (0 : Int32)), (.ref p3)])) rfl (by rw [hml]; rfl) rfl (hb hby d15_22) (by decide) (W := 0) (by exact hW0) (by decide)) fun T5 h5 L5 X5 e5 N5 K5q Vq5 => ?_
 have V5 : Arv Z h5 o1 k_o1 .byte (16 : Int32) (List.map Value.int (l_1 ++ l_2)) (.int (0 : Int32)) := Vq5
 have O5 := Old.keep O0 K5q (allS g_o1 all0)
 have K5 : Keep h0 h5 ([o1] : List Addr) := Keep.trans (Keep.refl h0 ([o1] : List Addr)) K5q (allS (Or.inl (List.mem_of_getElem? (i := 0) rfl)) all0)
 refine Home.run X5 hx hby sg15_25_1 (pc' := 43) (L' := #[.val (.ref o0), .val (.ref o1), .val (.int (own_n l_1)), .val (.int (0 : Int32))]) (S' := []) rfl ?_
 exact Home.ret0 X5 hx hlk hret (hb hby d15_43) (by rw [show T5.heap = h5 from e5]; exact ⟨rfl, N5, K5, V5⟩) (by decide) (by decide)
theorem rm13_0 (l : Launch) (Z : State) (a0 : Array Value) (hw : HW a0 Z) (ws : List Jvm.Cond) (o0 o2 : Addr) (l_1 : List Int32) (sv_COMPACT_STRINGS : Int32) (p3 p4 : Addr) (k_p4 : ClassId) (l_2 : List Int32) (k_p3 : ClassId) (h0 : Heap) (n0 : Nat) (O0 : Old Z n0 h0) (E_o0 : Exa Z h0 o0 "java/lang/StringBuilder") (S_COMPACT_STRINGS : Sta Z Z.heap "java/lang/String" "COMPACT_STRINGS" "Z" (.int sv_COMPACT_STRINGS)) (F_coder_o0 : Fld Z h0 o0 "java/lang/AbstractStringBuilder" "coder" "B" (.int (0 : Int32))) (E_o2 : Exa Z h0 o2 "java/lang/String") (F_coder_o2 : Fld Z h0 o2 "java/lang/String" "coder" "B" (.int (0 : Int32))) (hCS : ¬ (sv_COMPACT_STRINGS = (0 : Int32))) (F_value_o0 : Fld Z h0 o0 "java/lang/AbstractStringBuilder" "value" "[B" (.ref p3)) (F_value_o2 : Fld Z h0 o2 "java/lang/String" "value" "[B" (.ref p4)) (V_p4 : Arv Z h0 p4 k_p4 .byte (own_n l_2) (List.map Value.int l_2) (.int (0 : Int32))) (V_p3 : Arv Z h0 p3 k_p3 .byte (16 : Int32) (List.map Value.int l_1) (.int (0 : Int32))) (g_p3 : n0 ≤ p3) (sh_l_1 : l_1.length ≤ 3) (sh_l_2 : l_2.length ≤ 3) :
    Con l Z (⟨"java/lang/AbstractStringBuilder", "putStringAt", "(ILjava/lang/String;)V"⟩ : MethodName) jdk_68_method_73_code 3 none ws ({ frames := 2, cells := 0, slots := 0, locals := 33 } : Room) #[(.ref o0), (.int (own_n l_1)), (.ref o2)] h0 (fun v h L => v = none ∧ Fr n0 L ∧ Keep h0 h [p3] ∧ Arv Z h p3 k_p3 .byte (16 : Int32) (List.map Value.int (l_1 ++ l_2)) (.int (0 : Int32))) := by
 refine own_body (plainFor_of_name own_pn6) (fun m => ef_rm13_0 m o0 (own_n l_1) o2) ?_
 intro p e s m below meth c s₁ hx hby hlk hml hret hZ hown hnm X0 e0
 have N0 := Fr.nil n0
 refine Home.run X0 hx hby sg13_0_2 (pc' := 2) (L' := #[.val (.ref o0), .val (.int (own_n l_1)), .val (.ref o2)]) (S' := [(.ref o2), (.ref o0)]) rfl ?_
 refine Home.st (own_pure (own_private X0 hx hZ hown (own_w89 hw) (own_w90 hw) (own_selp (own_w92 hw) (own_w91 hw) (own_w90 hw) (by decide)) (Cond.privateMethod_at (mvP hZ (own_w91 hw) (args := #[]))) (own_w46 hw) (own_w93 hw) (by decide) (rm14_0 l Z a0 hw [] o0 o2 sv_COMPACT_STRINGS h0 n0 O0 S_COMPACT_STRINGS hCS F_coder_o0 E_o2 F_coder_o2) e0 E_o0 rfl (by rw [hml]; rfl) (argsL := [(.ref o2)]) (rest := []) (lenOf own_pd15 rfl) rfl rfl (W := 0) (by exact hW0) (by decide) (by decide) (hb hby d13_2) (by decide) (by decide))) fun T1 X1 e1 => ?_
 refine Home.run X1 hx hby sg13_5_2 (pc' := 7) (L' := #[.val (.ref o0), .val (.int (own_n l_1)), .val (.ref o2)]) (S' := [(.ref o0), (.ref o2)]) rfl ?_
 refine Home.st (getF X1 hx hZ hown (host := "") (Or.inl (own_w50 hw)) Via.refl e1 F_value_o0 rfl rfl (hb hby d13_7)) fun T2 X2 e2 => ?_
 refine Home.run X2 hx hby sg13_10_2 (pc' := 12) (L' := #[.val (.ref o0), .val (.int (own_n l_1)), .val (.ref o2)]) (S' := [(.ref o0), (.int (own_n l_1)), (.ref p3), (.ref o2)]) rfl ?_
 refine Home.st (getF X2 hx hZ hown (host := "") (Or.inl (own_w52 hw)) Via.refl e2 F_coder_o0 rfl rfl (hb hby d13_12)) fun T3 X3 e3 => ?_
 refine Home.call (own_virtual X3 hx hZ hown (own_w95 hw) (own_w96 hw) (notFace_of_selects (args := #[]) (mvT hZ (own_w98 hw))) (own_w98 hw) (own_w97 hw) (own_w9 hw) (own_w99 hw) (by decide) (rm15_0 l Z a0 hw [] o2 p3 l_1 sv_COMPACT_STRINGS p4 k_p4 l_2 k_p3 h0 n0 O0 E_o2 S_COMPACT_STRINGS F_coder_o2 hCS F_value_o2 (Nat.le_trans (own_len_le sh_l_1).2 (by decide)) V_p4 V_p3 (Nat.le_trans (own_len_le sh_l_2).2 (by decide)) g_p3) e3 E_o2 rfl (by rw [hml]; rfl) (argsL := [(.ref p3), (.int (own_n l_1)), (.int (0 : Int32))]) (rest := []) (lenOf own_pd16 rfl) rfl rfl (W := 0) (by exact hW0) (by decide) (by decide) (hb hby d13_15) (by decide) (by decide)) ?_
 rintro _ T4 L4 X4 ⟨rfl, N4q, K4q, P4_0⟩
 have O4 := Old.keep O0 K4q (allS g_p3 all0)
 have K4 : Keep h0 T4.heap ([p3] : List Addr) := Keep.trans (Keep.refl h0 ([p3] : List Addr)) K4q (allS (Or.inl (List.mem_of_getElem? (i := 0) rfl)) all0)
 have N4 := Fr.app N0 N4q
 show Home T4 (mkF m 18 #[.val (.ref o0), .val (.int (own_n l_1)), .val (.ref o2)] [])
 exact Home.ret0 X4 hx hlk hret (hb hby d13_18) ⟨rfl, N4, K4, P4_0⟩ (by decide) (by decide)
theorem rm9_0 (l : Launch) (Z : State) (a0 : Array Value) (hw : HW a0 Z) (ws : List Jvm.Cond) (o0 o1 p4 : Addr) (k_p4 : ClassId) (l_2 : List Int32) (sv_COMPACT_STRINGS : Int32) (l_1 : List Int32) (p3 : Addr) (k_p3 : ClassId) (h0 : Heap) (n0 : Nat) (O0 : Old Z n0 h0) (E_o1 : Exa Z h0 o1 "java/lang/String") (F_value_o1 : Fld Z h0 o1 "java/lang/String" "value" "[B" (.ref p4)) (V_p4 : Arv Z h0 p4 k_p4 .byte (own_n l_2) (List.map Value.int l_2) (.int (0 : Int32))) (S_COMPACT_STRINGS : Sta Z Z.heap "java/lang/String" "COMPACT_STRINGS" "Z" (.int sv_COMPACT_STRINGS)) (F_coder_o1 : Fld Z h0 o1 "java/lang/String" "coder" "B" (.int (0 : Int32))) (hCS : ¬ (sv_COMPACT_STRINGS = (0 : Int32))) (sh_l_2 : l_2.length ≤ 3) (F_count_o0 : Fld Z h0 o0 "java/lang/AbstractStringBuilder" "count" "I" (.int (own_n l_1))) (E_o0 : Exa Z h0 o0 "java/lang/StringBuilder") (F_value_o0 : Fld Z h0 o0 "java/lang/AbstractStringBuilder" "value" "[B" (.ref p3)) (V_p3 : Arv Z h0 p3 k_p3 .byte (16 : Int32) (List.map Value.int l_1) (.int (0 : Int32))) (F_coder_o0 : Fld Z h0 o0 "java/lang/AbstractStringBuilder" "coder" "B" (.int (0 : Int32))) (sh_l_1 : l_1.length ≤ 3) (g_p3 : n0 ≤ p3) (g_o0 : n0 ≤ o0) :
    Con l Z (⟨"java/lang/AbstractStringBuilder", "append", "(Ljava/lang/String;)Ljava/lang/AbstractStringBuilder;"⟩ : MethodName) jdk_68_method_22_code 3 (some (.object "java/lang/AbstractStringBuilder")) ws ({ frames := 3, cells := 0, slots := 0, locals := 47 } : Room) #[(.ref o0), (.ref o1)] h0 (fun v h L => v = some (.ref o0) ∧ Fr n0 L ∧ Keep h0 h [p3, o0] ∧ Arv Z h p3 k_p3 .byte (16 : Int32) (List.map Value.int (l_1 ++ l_2)) (.int (0 : Int32)) ∧ Fld Z h o0 "java/lang/AbstractStringBuilder" "count" "I" (.int (own_n (l_1 ++ l_2))) ∧ Exa Z h o0 "java/lang/StringBuilder" ∧ Fld Z h o0 "java/lang/AbstractStringBuilder" "value" "[B" (.ref p3) ∧ Fld Z h o0 "java/lang/AbstractStringBuilder" "coder" "B" (.int (0 : Int32))) := by
 refine own_body (plainFor_of_name own_pn6) (fun m => ef_rm9_0 m o0 o1) ?_
 intro p e s m below meth c s₁ hx hby hlk hml hret hZ hown hnm X0 e0
 have N0 := Fr.nil n0
 refine Home.run X0 hx hby sg9_0_1 (pc' := 1) (L' := #[.val (.ref o0), .val (.ref o1), .unset]) (S' := [(.ref o1)]) rfl ?_
 refine Home.go (fun _ => XS.ifnonnullYes X0.here hx rfl (pc0 := 1) (pc' := 9) rfl (hb hby d9_1) rfl (by decide) (by decide)) ?_
 show Home s₁ (mkF m 9 #[.val (.ref o0), .val (.ref o1), .unset] [])
 refine Home.run X0 hx hby sg9_9_1 (pc' := 10) (L' := #[.val (.ref o0), .val (.ref o1), .unset]) (S' := [(.ref o1)]) rfl ?_
 refine Home.st (own_pure (own_virtual X0 hx hZ hown (own_w64 hw) (own_w65 hw) (notFace_of_selects (args := #[]) (mvT hZ (own_w67 hw))) (own_w67 hw) (own_w66 hw) (own_w9 hw) (own_w68 hw) (by decide) (rm10_0 l Z a0 hw [] o1 p4 k_p4 l_2 sv_COMPACT_STRINGS h0 n0 O0 F_value_o1 V_p4 E_o1 S_COMPACT_STRINGS F_coder_o1 hCS (Nat.le_trans (own_len_le sh_l_2).2 (by decide))) e0 E_o1 rfl (by rw [hml]; rfl) (argsL := []) (rest := []) (lenOf own_pd14 rfl) rfl rfl (W := 0) (by exact hW0) (by decide) (by decide) (hb hby d9_10) (by decide) (by decide))) fun T1 X1 e1 => ?_
 refine Home.run X1 hx hby sg9_13_3 (pc' := 16) (L' := #[.val (.ref o0), .val (.ref o1), .val (.int (own_n l_2))]) (S' := [(.ref o0), (.ref o0)]) rfl ?_
 refine Home.st (getF X1 hx hZ hown (host := "") (Or.inl (own_w77 hw)) Via.refl e1 F_count_o0 rfl rfl (hb hby d9_16)) fun T2 X2 e2 => ?_
 refine Home.run X2 hx hby sg9_19_2 (pc' := 21) (L' := #[.val (.ref o0), .val (.ref o1), .val (.int (own_n l_2))]) (S' := [(.int ((own_n l_1) + (own_n l_2))), (.ref o0)]) rfl ?_
 rw [own_n_app]
 refine Home.st (own_pure (own_private X2 hx hZ hown (own_w79 hw) (own_w80 hw) (own_selp (own_w82 hw) (own_w81 hw) (own_w80 hw) (by decide)) (Cond.privateMethod_at (mvP hZ (own_w81 hw) (args := #[]))) (own_w46 hw) (own_w83 hw) (by decide) (rm12_0 l Z a0 hw [] o0 (l_1 ++ l_2) p3 k_p3 l_1 h0 n0 O0 F_value_o0 V_p3 F_coder_o0 (Nat.le_trans (own_len_app (own_len_le sh_l_1) (own_len_le sh_l_2)).2 (by decide))) e2 E_o0 rfl (by rw [hml]; rfl) (argsL := [(.int (own_n (l_1 ++ l_2)))]) (rest := []) (lenOf own_pd12 rfl) rfl rfl (W := 0) (by exact hW0) (by decide) (by decide) (hb hby d9_21) (by decide) (by decide))) fun T3 X3 e3 => ?_
 refine Home.run X3 hx hby sg9_24_2 (pc' := 26) (L' := #[.val (.ref o0), .val (.ref o1), .val (.int (own_n l_2))]) (S' := [(.ref o0), (.ref o0)]) rfl ?_
 refine Home.st (getF X3 hx hZ hown (host := "") (Or.inl (own_w77 hw)) Via.refl e3 F_count_o0 rfl rfl (hb hby d9_26)) fun T4 X4 e4 => ?_
 show Home T4 (mkF m 29 #[.val (.ref o0), .val (.ref o1), .val (.int (own_n l_2))] [(.int (own_n l_1)), (.ref o0)])
 refine Home.run X4 hx hby sg9_29_1 (pc' := 30) (L' := #[.val (.ref o0), .val (.ref o1), .val (.int (own_n l_2))]) (S' := [(.ref o1), (.int (own_n l_1)), (.ref o0)]) rfl ?_
 refine Home.call (own_private X4 hx hZ hown (own_w84 hw) (own_w85 hw) (own_selp (own_w87 hw) (own_w86 hw) (own_w85 hw) (by decide)) (Cond.privateMethod_at (mvP hZ (own_w86 hw) (args := #[]))) (own_w46 hw) (own_w88 hw) (by decide) (rm13_0 l Z a0 hw [] o0 o1 l_1 sv_COMPACT_STRINGS p3 p4 k_p4 l_2 k_p3 h0 n0 O0 E_o0 S_COMPACT_STRINGS F_coder_o0 E_o1 F_coder_o1 hCS F_value_o0 F_value_o1 V_p4 V_p3 g_p3 (Nat.le_trans (own_len_le sh_l_1).2 (by decide)) (Nat.le_trans (own_len_le sh_l_2).2 (by decide))) e4 E_o0 rfl (by rw [hml]; rfl) (argsL := [(.int (own_n l_1)), (.ref o1)]) (rest := []) (lenOf own_pd17 rfl) rfl rfl (W := 0) (by exact hW0) (by decide) (by decide) (hb hby d9_30) (by decide) (by decide)) ?_
 rintro _ T5 L5 X5 ⟨rfl, N5q, K5q, P5_0⟩
 have O5 := Old.keep O0 K5q (allS g_p3 all0)
 have K5 : Keep h0 T5.heap ([p3, o0] : List Addr) := Keep.trans (Keep.refl h0 ([p3, o0] : List Addr)) K5q (allS (Or.inl (List.mem_of_getElem? (i := 0) rfl)) all0)
 have N5 := Fr.app N0 N5q
 refine Home.run X5 hx hby sg9_33_2 (pc' := 35) (L' := #[.val (.ref o0), .val (.ref o1), .val (.int (own_n l_2))]) (S' := [(.ref o0), (.ref o0)]) rfl ?_
 have ne6 : o0 ≠ p3 := (own_neAV (E_o0.keep K5q) (own_w37 hw) P5_0)
 have q7 := (F_count_o0.keep K5q (ninS ne6 nin0))
 refine Home.st (getF X5 hx hZ hown (host := "") (Or.inl (own_w77 hw)) Via.refl rfl q7 rfl rfl (hb hby d9_35)) fun T8 X8 e8 => ?_
 show Home T8 (mkF m 38 #[.val (.ref o0), .val (.ref o1), .val (.int (own_n l_2))] [(.int (own_n l_1)), (.ref o0)])
 refine Home.run X8 hx hby sg9_38_2 (pc' := 40) (L' := #[.val (.ref o0), .val (.ref o1), .val (.int (own_n l_2))]) (S' := [(.int ((own_n l_1) + (own_n l_2))), (.ref o0)]) rfl ?_
 rw [own_n_app]
 refine Home.wr (putF X8 hx hZ hown (host := "") (Or.inl (own_w77 hw)) Via.refl e8 q7 (E_o0.keep K5) (Or.inl (own_w78 hw)) (own_w37 hw) (ty := .int) (by decide) rfl rfl rfl rfl (hb hby d9_40)) fun T9 h9 X9 e9 W9 => ?_
 have Fw9 := q7.same W9
 have O9 := O5.wr W9 g_o0
 have K9 : Keep h0 h9 ([p3, o0] : List Addr) := Keep.wr K5 W9 (Or.inl (List.mem_of_getElem? (i := 1) rfl))
 have N9 := Fr.snoc X9 N5 g_o0
 refine Home.run X9 hx hby sg9_43_1 (pc' := 44) (L' := #[.val (.ref o0), .val (.ref o1), .val (.int (own_n l_2))]) (S' := [(.ref o0)]) rfl ?_
 have ne10 : p3 ≠ o0 := (Ne.symm ne6)
 have q11 := (P5_0.other W9 ne10)
 have q12 := ((F_value_o0.keep K5q (ninS ne6 nin0)).other W9 (Or.inr (slot_ne (Or.inl (own_w51 hw)) (Or.inl (own_w78 hw)) (by decide) (t := (.array .byte)) (t' := .int) (by decide) (by decide))))
 have q13 := ((F_coder_o0.keep K5q (ninS ne6 nin0)).other W9 (Or.inr (slot_ne (Or.inl (own_w53 hw)) (Or.inl (own_w78 hw)) (by decide) (t := .byte) (t' := .int) (by decide) (by decide))))
 exact Home.retR X9 hx hlk hret rfl rfl (hb hby d9_44) (by rw [show T9.heap = h9 from e9]; exact ⟨rfl, N9, K9, q11, Fw9, (E_o0.keep K9), q12, q13⟩) (by decide) (by decide)
theorem rm8_0 (l : Launch) (Z : State) (a0 : Array Value) (hw : HW a0 Z) (ws : List Jvm.Cond) (o0 o1 p4 : Addr) (k_p4 : ClassId) (l_2 : List Int32) (sv_COMPACT_STRINGS : Int32) (p3 : Addr) (k_p3 : ClassId) (l_1 : List Int32) (h0 : Heap) (n0 : Nat) (O0 : Old Z n0 h0) (E_o0 : Exa Z h0 o0 "java/lang/StringBuilder") (E_o1 : Exa Z h0 o1 "java/lang/String") (F_value_o1 : Fld Z h0 o1 "java/lang/String" "value" "[B" (.ref p4)) (V_p4 : Arv Z h0 p4 k_p4 .byte (own_n l_2) (List.map Value.int l_2) (.int (0 : Int32))) (S_COMPACT_STRINGS : Sta Z Z.heap "java/lang/String" "COMPACT_STRINGS" "Z" (.int sv_COMPACT_STRINGS)) (F_coder_o1 : Fld Z h0 o1 "java/lang/String" "coder" "B" (.int (0 : Int32))) (F_value_o0 : Fld Z h0 o0 "java/lang/AbstractStringBuilder" "value" "[B" (.ref p3)) (V_p3 : Arv Z h0 p3 k_p3 .byte (16 : Int32) (List.map Value.int l_1) (.int (0 : Int32))) (F_coder_o0 : Fld Z h0 o0 "java/lang/AbstractStringBuilder" "coder" "B" (.int (0 : Int32))) (F_count_o0 : Fld Z h0 o0 "java/lang/AbstractStringBuilder" "count" "I" (.int (own_n l_1))) (g_p3 : n0 ≤ p3) (g_o0 : n0 ≤ o0) (hCS : ¬ (sv_COMPACT_STRINGS = (0 : Int32))) (sh_l_2 : l_2.length ≤ 3) (sh_l_1 : l_1.length ≤ 3) :
    Con l Z (⟨"java/lang/StringBuilder", "append", "(Ljava/lang/String;)Ljava/lang/StringBuilder;"⟩ : MethodName) jdk_67_method_7_code 2 (some (.object "java/lang/StringBuilder")) ws ({ frames := 4, cells := 0, slots := 0, locals := 61 } : Room) #[(.ref o0), (.ref o1)] h0 (fun v h L => v = some (.ref o0) ∧ Fr n0 L ∧ Keep h0 h [o0, p3] ∧ Exa Z h o0 "java/lang/StringBuilder" ∧ Fld Z h o0 "java/lang/AbstractStringBuilder" "value" "[B" (.ref p3) ∧ Fld Z h o0 "java/lang/AbstractStringBuilder" "coder" "B" (.int (0 : Int32)) ∧ Fld Z h o0 "java/lang/AbstractStringBuilder" "count" "I" (.int (own_n (l_1 ++ l_2))) ∧ Arv Z h p3 k_p3 .byte (16 : Int32) (List.map Value.int (l_1 ++ l_2)) (.int (0 : Int32))) := by
 refine own_body (plainFor_of_name own_pn7) (fun m => ef_rm8_0 m o0 o1) ?_
 intro p e s m below meth c s₁ hx hby hlk hml hret hZ hown hnm X0 e0
 have N0 := Fr.nil n0
 refine Home.run X0 hx hby sg8_0_2 (pc' := 2) (L' := #[.val (.ref o0), .val (.ref o1)]) (S' := [(.ref o1), (.ref o0)]) rfl ?_
 refine Home.call (own_super X0 hx hZ hown (own_w59 hw) (own_samem (own_w60 hw) (own_w82 hw) rfl (by decide)) (own_w60 hw) (own_w61 hw) (by decide) (own_w46 hw) (own_w63 hw) (rm9_0 l Z a0 hw [] o0 o1 p4 k_p4 l_2 sv_COMPACT_STRINGS l_1 p3 k_p3 h0 n0 O0 E_o1 F_value_o1 V_p4 S_COMPACT_STRINGS F_coder_o1 hCS (Nat.le_trans (own_len_le sh_l_2).2 (by decide)) F_count_o0 E_o0 F_value_o0 V_p3 F_coder_o0 (Nat.le_trans (own_len_le sh_l_1).2 (by decide)) g_p3 g_o0) e0 E_o0 rfl (by rw [hml]; rfl) (argsL := [(.ref o1)]) (rest := []) (lenOf own_pd18 rfl) rfl rfl (W := 0) (by exact hW0) (by decide) (by decide) (hb hby d8_2) (by decide) (by decide)) ?_
 rintro _ T1 L1 X1 ⟨rfl, N1q, K1q, P1_0, P1_1, P1_2, P1_3, P1_4⟩
 have O1 := Old.keep O0 K1q (allS g_p3 (allS g_o0 all0))
 have K1 : Keep h0 T1.heap ([o0, p3] : List Addr) := Keep.trans (Keep.refl h0 ([o0, p3] : List Addr)) K1q (allS (Or.inl (List.mem_of_getElem? (i := 1) rfl)) (allS (Or.inl (List.mem_of_getElem? (i := 0) rfl)) all0))
 have N1 := Fr.app N0 N1q
 refine Home.run X1 hx hby sg8_5_2 (pc' := 7) (L' := #[.val (.ref o0), .val (.ref o1)]) (S' := [(.ref o0)]) rfl ?_
 exact Home.retR X1 hx hlk hret rfl rfl (hb hby d8_7) ⟨rfl, N1, K1, P1_2, P1_3, P1_4, P1_1, P1_0⟩ (by decide) (by decide)
theorem rm12_1 (l : Launch) (Z : State) (a0 : Array Value) (hw : HW a0 Z) (ws : List Jvm.Cond) (o0 : Addr) (l_1 : List Int32) (p2 : Addr) (k_p2 : ClassId) (l_2 : List Int32) (h0 : Heap) (n0 : Nat) (O0 : Old Z n0 h0) (F_value_o0 : Fld Z h0 o0 "java/lang/AbstractStringBuilder" "value" "[B" (.ref p2)) (V_p2 : Arv Z h0 p2 k_p2 .byte (16 : Int32) (List.map Value.int l_2) (.int (0 : Int32))) (F_coder_o0 : Fld Z h0 o0 "java/lang/AbstractStringBuilder" "coder" "B" (.int (0 : Int32))) (sh_l_1 : l_1.length ≤ 8) :
    Con l Z (⟨"java/lang/AbstractStringBuilder", "ensureCapacityInternal", "(I)V"⟩ : MethodName) jdk_68_method_9_code 3 none ws ({ frames := 0, cells := 0, slots := 0, locals := 0 } : Room) #[(.ref o0), (.int (own_n l_1))] h0 (Pur none h0) := by
 refine own_body (plainFor_of_name own_pn6) (fun m => ef_rm12_1 m o0 (own_n l_1)) ?_
 intro p e s m below meth c s₁ hx hby hlk hml hret hZ hown hnm X0 e0
 have N0 := Fr.nil n0
 refine Home.run X0 hx hby sg12_0_1 (pc' := 1) (L' := #[.val (.ref o0), .val (.int (own_n l_1)), .unset]) (S' := [(.ref o0)]) rfl ?_
 refine Home.st (getF X0 hx hZ hown (host := "") (Or.inl (own_w50 hw)) Via.refl e0 F_value_o0 rfl rfl (hb hby d12_1)) fun T1 X1 e1 => ?_
 obtain ⟨cl2, Ar2, q2, S2, M2, H2, G2⟩ := id V_p2
 refine Home.go (own_alen X1 hx hZ e1 Ar2 S2 M2 rfl rfl (hb hby d12_4)) ?_
 refine Home.run X1 hx hby sg12_5_1 (pc' := 6) (L' := #[.val (.ref o0), .val (.int (own_n l_1)), .unset]) (S' := [(.ref o0), (.int (16 : Int32))]) rfl ?_
 refine Home.st (getF X1 hx hZ hown (host := "") (Or.inl (own_w52 hw)) Via.refl e1 F_coder_o0 rfl rfl (hb hby d12_6)) fun T3 X3 e3 => ?_
 refine Home.run X3 hx hby sg12_9_5 (pc' := 14) (L' := #[.val (.ref o0), .val (.int (own_n l_1)), .val (.int (16 : Int32))]) (S' := [(.int ((own_n l_1) - (16 : Int32)))]) rfl ?_
 refine Home.go (fun _ => XS.ifYes X3.here hx rfl (pc0 := 14) (pc' := 38) rfl (hb hby d12_14) rfl ((if0 _ _).trans (flt (bnd_nlt (bnd_lit (0 : Int32)) (bnd_sub (own_n_b (a := 0) (b := 8) (own_len_le sh_l_1) (lo := (0 : Int32)) (hi := (8 : Int32)) (by decide) (by decide) (by decide)) (bnd_lit (16 : Int32)) (lo := (-16 : Int32)) (hi := (-8 : Int32)) (by decide +kernel) (by decide +kernel) (by decide +kernel) (by decide +kernel)) (by decide +kernel))).2.2.2) (by decide) (by decide)) ?_
 exact Home.ret0 X3 hx hlk hret (hb hby d12_38) ⟨rfl, rfl, e3⟩ (by decide) (by decide)
theorem rm15_1 (l : Launch) (Z : State) (a0 : Array Value) (hw : HW a0 Z) (ws : List Jvm.Cond) (o0 o1 : Addr) (l_1 : List Int32) (sv_COMPACT_STRINGS : Int32) (p3 : Addr) (k_p3 : ClassId) (l_2 : List Int32) (k_o1 : ClassId) (h0 : Heap) (n0 : Nat) (O0 : Old Z n0 h0) (E_o0 : Exa Z h0 o0 "java/lang/String") (S_COMPACT_STRINGS : Sta Z Z.heap "java/lang/String" "COMPACT_STRINGS" "Z" (.int sv_COMPACT_STRINGS)) (F_coder_o0 : Fld Z h0 o0 "java/lang/String" "coder" "B" (.int (0 : Int32))) (hCS : ¬ (sv_COMPACT_STRINGS = (0 : Int32))) (F_value_o0 : Fld Z h0 o0 "java/lang/String" "value" "[B" (.ref p3)) (sh_l_1 : l_1.length ≤ 5) (V_p3 : Arv Z h0 p3 k_p3 .byte (own_n l_2) (List.map Value.int l_2) (.int (0 : Int32))) (V_o1 : Arv Z h0 o1 k_o1 .byte (16 : Int32) (List.map Value.int l_1) (.int (0 : Int32))) (sh_l_2 : l_2.length ≤ 3) (g_o1 : n0 ≤ o1) :
    Con l Z (⟨"java/lang/String", "getBytes", "([BIB)V"⟩ : MethodName) jdk_42_method_147_code 4 none ws ({ frames := 1, cells := 0, slots := 0, locals := 18 } : Room) #[(.ref o0), (.ref o1), (.int (own_n l_1)), (.int (0 : Int32))] h0 (fun v h L => v = none ∧ Fr n0 L ∧ Keep h0 h [o1] ∧ Arv Z h o1 k_o1 .byte (16 : Int32) (List.map Value.int (l_1 ++ l_2)) (.int (0 : Int32))) := by
 refine own_body (plainFor_of_name own_pn2) (fun m => ef_rm15_1 m o0 o1 (own_n l_1) (0 : Int32)) ?_
 intro p e s m below meth c s₁ hx hby hlk hml hret hZ hown hnm X0 e0
 have N0 := Fr.nil n0
 refine Home.run X0 hx hby sg15_0_1 (pc' := 1) (L' := #[.val (.ref o0), .val (.ref o1), .val (.int (own_n l_1)), .val (.int (0 : Int32))]) (S' := [(.ref o0)]) rfl ?_
 refine Home.st (own_pure (own_virtual X0 hx hZ hown (own_w70 hw) (own_w71 hw) (notFace_of_selects (args := #[]) (mvT hZ (own_w73 hw))) (own_w73 hw) (own_w72 hw) (own_w9 hw) (own_w74 hw) (by decide) (rm11_0 l Z a0 hw [] o0 sv_COMPACT_STRINGS h0 n0 O0 S_COMPACT_STRINGS hCS F_coder_o0) e0 E_o0 rfl (by rw [hml]; rfl) (argsL := []) (rest := []) (lenOf own_pd13 rfl) rfl rfl (W := 0) (by exact hW0) (by decide) (by decide) (hb hby d15_1) (by decide) (by decide))) fun T1 X1 e1 => ?_
 refine Home.run X1 hx hby sg15_4_1 (pc' := 5) (L' := #[.val (.ref o0), .val (.ref o1), .val (.int (own_n l_1)), .val (.int (0 : Int32))]) (S' := [(.int (0 : Int32)), (.int (0 : Int32))]) rfl ?_
 refine Home.go (fun _ => XS.icmpNo X1.here hx rfl (hb hby d15_5) rfl (teq (by decide)).2) ?_
 refine Home.run X1 hx hby sg15_8_1 (pc' := 9) (L' := #[.val (.ref o0), .val (.ref o1), .val (.int (own_n l_1)), .val (.int (0 : Int32))]) (S' := [(.ref o0)]) rfl ?_
 refine Home.st (getF X1 hx hZ hown (host := "") (Or.inl (own_w69 hw)) Via.refl e1 F_value_o0 rfl rfl (hb hby d15_9)) fun T2 X2 e2 => ?_
 refine Home.run X2 hx hby sg15_12_5 (pc' := 17) (L' := #[.val (.ref o0), .val (.ref o1), .val (.int (own_n l_1)), .val (.int (0 : Int32))]) (S' := [(.int ((own_n l_1) <<< ((0 : Int32) &&& 31))), (.ref o1), (.int (0 : Int32)), (.ref p3)]) rfl ?_
 rw [own_shl0]
 refine Home.run X2 hx hby sg15_17_1 (pc' := 18) (L' := #[.val (.ref o0), .val (.ref o1), .val (.int (own_n l_1)), .val (.int (0 : Int32))]) (S' := [(.ref o0), (.int (own_n l_1)), (.ref o1), (.int (0 : Int32)), (.ref p3)]) rfl ?_
 refine Home.st (getF X2 hx hZ hown (host := "") (Or.inl (own_w69 hw)) Via.refl e2 F_value_o0 rfl rfl (hb hby d15_18)) fun T3 X3 e3 => ?_
 show Home T3 (mkF m 21 #[.val (.ref o0), .val (.ref o1), .val (.int (own_n l_1)), .val (.int (0 : Int32))] [(.ref p3), (.int (own_n l_1)), (.ref o1), (.int (0 : Int32)), (.ref p3)])
 obtain ⟨cl4, Ar4, q4, S4, M4, H4, G4⟩ := id V_p3
 refine Home.go (own_alen X3 hx hZ e3 Ar4 S4 M4 rfl rfl (hb hby d15_21)) ?_
 refine Home.cp (own_cpS X3 hx hZ hown (own_w100 hw) (own_w103 hw) (own_w101 hw) (own_w102 hw) e3 V_p3 V_o1 (Y := l_1) (X := l_2) (own_n_le (own_len_le sh_l_2)) (Nat.le_trans (Nat.le_of_eq (List.length_append).symm) (Nat.le_trans (own_len_app (own_len_le sh_l_1) (own_len_le sh_l_2)).2 (by decide))) (Nat.lt_of_le_of_lt (own_len_app (own_len_le sh_l_1) (own_len_le sh_l_2)).2 (by decide)) (dp := (own_n l_1)) rfl N0 g_o1 (g := (mkF m 22 #[.val (.ref o0), .val (.ref o1), .val (.int (own_n l_1)), .val (.int (0 : Int32))] [(.int (own_n l_2)), (.int (own_n l_1)), (.ref o1), (.int (0 : Int32)), (.ref p3)])) rfl (by rw [hml]; rfl) rfl (hb hby d15_22) (by decide) (W := 0) (by exact hW0) (by decide)) fun T5 h5 L5 X5 e5 N5 K5q Vq5 => ?_
 have V5 : Arv Z h5 o1 k_o1 .byte (16 : Int32) (List.map Value.int (l_1 ++ l_2)) (.int (0 : Int32)) := Vq5
 have O5 := Old.keep O0 K5q (allS g_o1 all0)
 have K5 : Keep h0 h5 ([o1] : List Addr) := Keep.trans (Keep.refl h0 ([o1] : List Addr)) K5q (allS (Or.inl (List.mem_of_getElem? (i := 0) rfl)) all0)
 refine Home.run X5 hx hby sg15_25_1 (pc' := 43) (L' := #[.val (.ref o0), .val (.ref o1), .val (.int (own_n l_1)), .val (.int (0 : Int32))]) (S' := []) rfl ?_
 exact Home.ret0 X5 hx hlk hret (hb hby d15_43) (by rw [show T5.heap = h5 from e5]; exact ⟨rfl, N5, K5, V5⟩) (by decide) (by decide)
theorem rm13_1 (l : Launch) (Z : State) (a0 : Array Value) (hw : HW a0 Z) (ws : List Jvm.Cond) (o0 o2 : Addr) (l_1 : List Int32) (sv_COMPACT_STRINGS : Int32) (p3 p4 : Addr) (k_p4 : ClassId) (l_2 : List Int32) (k_p3 : ClassId) (h0 : Heap) (n0 : Nat) (O0 : Old Z n0 h0) (E_o0 : Exa Z h0 o0 "java/lang/StringBuilder") (S_COMPACT_STRINGS : Sta Z Z.heap "java/lang/String" "COMPACT_STRINGS" "Z" (.int sv_COMPACT_STRINGS)) (F_coder_o0 : Fld Z h0 o0 "java/lang/AbstractStringBuilder" "coder" "B" (.int (0 : Int32))) (E_o2 : Exa Z h0 o2 "java/lang/String") (F_coder_o2 : Fld Z h0 o2 "java/lang/String" "coder" "B" (.int (0 : Int32))) (hCS : ¬ (sv_COMPACT_STRINGS = (0 : Int32))) (F_value_o0 : Fld Z h0 o0 "java/lang/AbstractStringBuilder" "value" "[B" (.ref p3)) (F_value_o2 : Fld Z h0 o2 "java/lang/String" "value" "[B" (.ref p4)) (V_p4 : Arv Z h0 p4 k_p4 .byte (own_n l_2) (List.map Value.int l_2) (.int (0 : Int32))) (V_p3 : Arv Z h0 p3 k_p3 .byte (16 : Int32) (List.map Value.int l_1) (.int (0 : Int32))) (g_p3 : n0 ≤ p3) (sh_l_1 : l_1.length ≤ 5) (sh_l_2 : l_2.length ≤ 3) :
    Con l Z (⟨"java/lang/AbstractStringBuilder", "putStringAt", "(ILjava/lang/String;)V"⟩ : MethodName) jdk_68_method_73_code 3 none ws ({ frames := 2, cells := 0, slots := 0, locals := 33 } : Room) #[(.ref o0), (.int (own_n l_1)), (.ref o2)] h0 (fun v h L => v = none ∧ Fr n0 L ∧ Keep h0 h [p3] ∧ Arv Z h p3 k_p3 .byte (16 : Int32) (List.map Value.int (l_1 ++ l_2)) (.int (0 : Int32))) := by
 refine own_body (plainFor_of_name own_pn6) (fun m => ef_rm13_1 m o0 (own_n l_1) o2) ?_
 intro p e s m below meth c s₁ hx hby hlk hml hret hZ hown hnm X0 e0
 have N0 := Fr.nil n0
 refine Home.run X0 hx hby sg13_0_2 (pc' := 2) (L' := #[.val (.ref o0), .val (.int (own_n l_1)), .val (.ref o2)]) (S' := [(.ref o2), (.ref o0)]) rfl ?_
 refine Home.st (own_pure (own_private X0 hx hZ hown (own_w89 hw) (own_w90 hw) (own_selp (own_w92 hw) (own_w91 hw) (own_w90 hw) (by decide)) (Cond.privateMethod_at (mvP hZ (own_w91 hw) (args := #[]))) (own_w46 hw) (own_w93 hw) (by decide) (rm14_0 l Z a0 hw [] o0 o2 sv_COMPACT_STRINGS h0 n0 O0 S_COMPACT_STRINGS hCS F_coder_o0 E_o2 F_coder_o2) e0 E_o0 rfl (by rw [hml]; rfl) (argsL := [(.ref o2)]) (rest := []) (lenOf own_pd15 rfl) rfl rfl (W := 0) (by exact hW0) (by decide) (by decide) (hb hby d13_2) (by decide) (by decide))) fun T1 X1 e1 => ?_
 refine Home.run X1 hx hby sg13_5_2 (pc' := 7) (L' := #[.val (.ref o0), .val (.int (own_n l_1)), .val (.ref o2)]) (S' := [(.ref o0), (.ref o2)]) rfl ?_
 refine Home.st (getF X1 hx hZ hown (host := "") (Or.inl (own_w50 hw)) Via.refl e1 F_value_o0 rfl rfl (hb hby d13_7)) fun T2 X2 e2 => ?_
 refine Home.run X2 hx hby sg13_10_2 (pc' := 12) (L' := #[.val (.ref o0), .val (.int (own_n l_1)), .val (.ref o2)]) (S' := [(.ref o0), (.int (own_n l_1)), (.ref p3), (.ref o2)]) rfl ?_
 refine Home.st (getF X2 hx hZ hown (host := "") (Or.inl (own_w52 hw)) Via.refl e2 F_coder_o0 rfl rfl (hb hby d13_12)) fun T3 X3 e3 => ?_
 refine Home.call (own_virtual X3 hx hZ hown (own_w95 hw) (own_w96 hw) (notFace_of_selects (args := #[]) (mvT hZ (own_w98 hw))) (own_w98 hw) (own_w97 hw) (own_w9 hw) (own_w99 hw) (by decide) (rm15_1 l Z a0 hw [] o2 p3 l_1 sv_COMPACT_STRINGS p4 k_p4 l_2 k_p3 h0 n0 O0 E_o2 S_COMPACT_STRINGS F_coder_o2 hCS F_value_o2 (Nat.le_trans (own_len_le sh_l_1).2 (by decide)) V_p4 V_p3 (Nat.le_trans (own_len_le sh_l_2).2 (by decide)) g_p3) e3 E_o2 rfl (by rw [hml]; rfl) (argsL := [(.ref p3), (.int (own_n l_1)), (.int (0 : Int32))]) (rest := []) (lenOf own_pd16 rfl) rfl rfl (W := 0) (by exact hW0) (by decide) (by decide) (hb hby d13_15) (by decide) (by decide)) ?_
 rintro _ T4 L4 X4 ⟨rfl, N4q, K4q, P4_0⟩
 have O4 := Old.keep O0 K4q (allS g_p3 all0)
 have K4 : Keep h0 T4.heap ([p3] : List Addr) := Keep.trans (Keep.refl h0 ([p3] : List Addr)) K4q (allS (Or.inl (List.mem_of_getElem? (i := 0) rfl)) all0)
 have N4 := Fr.app N0 N4q
 show Home T4 (mkF m 18 #[.val (.ref o0), .val (.int (own_n l_1)), .val (.ref o2)] [])
 exact Home.ret0 X4 hx hlk hret (hb hby d13_18) ⟨rfl, N4, K4, P4_0⟩ (by decide) (by decide)
theorem rm9_1 (l : Launch) (Z : State) (a0 : Array Value) (hw : HW a0 Z) (ws : List Jvm.Cond) (o0 o1 p4 : Addr) (k_p4 : ClassId) (l_2 : List Int32) (sv_COMPACT_STRINGS : Int32) (l_1 : List Int32) (p3 : Addr) (k_p3 : ClassId) (h0 : Heap) (n0 : Nat) (O0 : Old Z n0 h0) (E_o1 : Exa Z h0 o1 "java/lang/String") (F_value_o1 : Fld Z h0 o1 "java/lang/String" "value" "[B" (.ref p4)) (V_p4 : Arv Z h0 p4 k_p4 .byte (own_n l_2) (List.map Value.int l_2) (.int (0 : Int32))) (S_COMPACT_STRINGS : Sta Z Z.heap "java/lang/String" "COMPACT_STRINGS" "Z" (.int sv_COMPACT_STRINGS)) (F_coder_o1 : Fld Z h0 o1 "java/lang/String" "coder" "B" (.int (0 : Int32))) (hCS : ¬ (sv_COMPACT_STRINGS = (0 : Int32))) (sh_l_2 : l_2.length ≤ 3) (F_count_o0 : Fld Z h0 o0 "java/lang/AbstractStringBuilder" "count" "I" (.int (own_n l_1))) (E_o0 : Exa Z h0 o0 "java/lang/StringBuilder") (F_value_o0 : Fld Z h0 o0 "java/lang/AbstractStringBuilder" "value" "[B" (.ref p3)) (V_p3 : Arv Z h0 p3 k_p3 .byte (16 : Int32) (List.map Value.int l_1) (.int (0 : Int32))) (F_coder_o0 : Fld Z h0 o0 "java/lang/AbstractStringBuilder" "coder" "B" (.int (0 : Int32))) (sh_l_1 : l_1.length ≤ 5) (g_p3 : n0 ≤ p3) (g_o0 : n0 ≤ o0) :
    Con l Z (⟨"java/lang/AbstractStringBuilder", "append", "(Ljava/lang/String;)Ljava/lang/AbstractStringBuilder;"⟩ : MethodName) jdk_68_method_22_code 3 (some (.object "java/lang/AbstractStringBuilder")) ws ({ frames := 3, cells := 0, slots := 0, locals := 47 } : Room) #[(.ref o0), (.ref o1)] h0 (fun v h L => v = some (.ref o0) ∧ Fr n0 L ∧ Keep h0 h [p3, o0] ∧ Arv Z h p3 k_p3 .byte (16 : Int32) (List.map Value.int (l_1 ++ l_2)) (.int (0 : Int32)) ∧ Fld Z h o0 "java/lang/AbstractStringBuilder" "count" "I" (.int (own_n (l_1 ++ l_2))) ∧ Exa Z h o0 "java/lang/StringBuilder" ∧ Fld Z h o0 "java/lang/AbstractStringBuilder" "value" "[B" (.ref p3) ∧ Fld Z h o0 "java/lang/AbstractStringBuilder" "coder" "B" (.int (0 : Int32))) := by
 refine own_body (plainFor_of_name own_pn6) (fun m => ef_rm9_1 m o0 o1) ?_
 intro p e s m below meth c s₁ hx hby hlk hml hret hZ hown hnm X0 e0
 have N0 := Fr.nil n0
 refine Home.run X0 hx hby sg9_0_1 (pc' := 1) (L' := #[.val (.ref o0), .val (.ref o1), .unset]) (S' := [(.ref o1)]) rfl ?_
 refine Home.go (fun _ => XS.ifnonnullYes X0.here hx rfl (pc0 := 1) (pc' := 9) rfl (hb hby d9_1) rfl (by decide) (by decide)) ?_
 show Home s₁ (mkF m 9 #[.val (.ref o0), .val (.ref o1), .unset] [])
 refine Home.run X0 hx hby sg9_9_1 (pc' := 10) (L' := #[.val (.ref o0), .val (.ref o1), .unset]) (S' := [(.ref o1)]) rfl ?_
 refine Home.st (own_pure (own_virtual X0 hx hZ hown (own_w64 hw) (own_w65 hw) (notFace_of_selects (args := #[]) (mvT hZ (own_w67 hw))) (own_w67 hw) (own_w66 hw) (own_w9 hw) (own_w68 hw) (by decide) (rm10_0 l Z a0 hw [] o1 p4 k_p4 l_2 sv_COMPACT_STRINGS h0 n0 O0 F_value_o1 V_p4 E_o1 S_COMPACT_STRINGS F_coder_o1 hCS (Nat.le_trans (own_len_le sh_l_2).2 (by decide))) e0 E_o1 rfl (by rw [hml]; rfl) (argsL := []) (rest := []) (lenOf own_pd14 rfl) rfl rfl (W := 0) (by exact hW0) (by decide) (by decide) (hb hby d9_10) (by decide) (by decide))) fun T1 X1 e1 => ?_
 refine Home.run X1 hx hby sg9_13_3 (pc' := 16) (L' := #[.val (.ref o0), .val (.ref o1), .val (.int (own_n l_2))]) (S' := [(.ref o0), (.ref o0)]) rfl ?_
 refine Home.st (getF X1 hx hZ hown (host := "") (Or.inl (own_w77 hw)) Via.refl e1 F_count_o0 rfl rfl (hb hby d9_16)) fun T2 X2 e2 => ?_
 refine Home.run X2 hx hby sg9_19_2 (pc' := 21) (L' := #[.val (.ref o0), .val (.ref o1), .val (.int (own_n l_2))]) (S' := [(.int ((own_n l_1) + (own_n l_2))), (.ref o0)]) rfl ?_
 rw [own_n_app]
 refine Home.st (own_pure (own_private X2 hx hZ hown (own_w79 hw) (own_w80 hw) (own_selp (own_w82 hw) (own_w81 hw) (own_w80 hw) (by decide)) (Cond.privateMethod_at (mvP hZ (own_w81 hw) (args := #[]))) (own_w46 hw) (own_w83 hw) (by decide) (rm12_1 l Z a0 hw [] o0 (l_1 ++ l_2) p3 k_p3 l_1 h0 n0 O0 F_value_o0 V_p3 F_coder_o0 (Nat.le_trans (own_len_app (own_len_le sh_l_1) (own_len_le sh_l_2)).2 (by decide))) e2 E_o0 rfl (by rw [hml]; rfl) (argsL := [(.int (own_n (l_1 ++ l_2)))]) (rest := []) (lenOf own_pd12 rfl) rfl rfl (W := 0) (by exact hW0) (by decide) (by decide) (hb hby d9_21) (by decide) (by decide))) fun T3 X3 e3 => ?_
 refine Home.run X3 hx hby sg9_24_2 (pc' := 26) (L' := #[.val (.ref o0), .val (.ref o1), .val (.int (own_n l_2))]) (S' := [(.ref o0), (.ref o0)]) rfl ?_
 refine Home.st (getF X3 hx hZ hown (host := "") (Or.inl (own_w77 hw)) Via.refl e3 F_count_o0 rfl rfl (hb hby d9_26)) fun T4 X4 e4 => ?_
 show Home T4 (mkF m 29 #[.val (.ref o0), .val (.ref o1), .val (.int (own_n l_2))] [(.int (own_n l_1)), (.ref o0)])
 refine Home.run X4 hx hby sg9_29_1 (pc' := 30) (L' := #[.val (.ref o0), .val (.ref o1), .val (.int (own_n l_2))]) (S' := [(.ref o1), (.int (own_n l_1)), (.ref o0)]) rfl ?_
 refine Home.call (own_private X4 hx hZ hown (own_w84 hw) (own_w85 hw) (own_selp (own_w87 hw) (own_w86 hw) (own_w85 hw) (by decide)) (Cond.privateMethod_at (mvP hZ (own_w86 hw) (args := #[]))) (own_w46 hw) (own_w88 hw) (by decide) (rm13_1 l Z a0 hw [] o0 o1 l_1 sv_COMPACT_STRINGS p3 p4 k_p4 l_2 k_p3 h0 n0 O0 E_o0 S_COMPACT_STRINGS F_coder_o0 E_o1 F_coder_o1 hCS F_value_o0 F_value_o1 V_p4 V_p3 g_p3 (Nat.le_trans (own_len_le sh_l_1).2 (by decide)) (Nat.le_trans (own_len_le sh_l_2).2 (by decide))) e4 E_o0 rfl (by rw [hml]; rfl) (argsL := [(.int (own_n l_1)), (.ref o1)]) (rest := []) (lenOf own_pd17 rfl) rfl rfl (W := 0) (by exact hW0) (by decide) (by decide) (hb hby d9_30) (by decide) (by decide)) ?_
 rintro _ T5 L5 X5 ⟨rfl, N5q, K5q, P5_0⟩
 have O5 := Old.keep O0 K5q (allS g_p3 all0)
 have K5 : Keep h0 T5.heap ([p3, o0] : List Addr) := Keep.trans (Keep.refl h0 ([p3, o0] : List Addr)) K5q (allS (Or.inl (List.mem_of_getElem? (i := 0) rfl)) all0)
 have N5 := Fr.app N0 N5q
 refine Home.run X5 hx hby sg9_33_2 (pc' := 35) (L' := #[.val (.ref o0), .val (.ref o1), .val (.int (own_n l_2))]) (S' := [(.ref o0), (.ref o0)]) rfl ?_
 have ne6 : o0 ≠ p3 := (own_neAV (E_o0.keep K5q) (own_w37 hw) P5_0)
 have q7 := (F_count_o0.keep K5q (ninS ne6 nin0))
 refine Home.st (getF X5 hx hZ hown (host := "") (Or.inl (own_w77 hw)) Via.refl rfl q7 rfl rfl (hb hby d9_35)) fun T8 X8 e8 => ?_
 show Home T8 (mkF m 38 #[.val (.ref o0), .val (.ref o1), .val (.int (own_n l_2))] [(.int (own_n l_1)), (.ref o0)])
 refine Home.run X8 hx hby sg9_38_2 (pc' := 40) (L' := #[.val (.ref o0), .val (.ref o1), .val (.int (own_n l_2))]) (S' := [(.int ((own_n l_1) + (own_n l_2))), (.ref o0)]) rfl ?_
 rw [own_n_app]
 refine Home.wr (putF X8 hx hZ hown (host := "") (Or.inl (own_w77 hw)) Via.refl e8 q7 (E_o0.keep K5) (Or.inl (own_w78 hw)) (own_w37 hw) (ty := .int) (by decide) rfl rfl rfl rfl (hb hby d9_40)) fun T9 h9 X9 e9 W9 => ?_
 have Fw9 := q7.same W9
 have O9 := O5.wr W9 g_o0
 have K9 : Keep h0 h9 ([p3, o0] : List Addr) := Keep.wr K5 W9 (Or.inl (List.mem_of_getElem? (i := 1) rfl))
 have N9 := Fr.snoc X9 N5 g_o0
 refine Home.run X9 hx hby sg9_43_1 (pc' := 44) (L' := #[.val (.ref o0), .val (.ref o1), .val (.int (own_n l_2))]) (S' := [(.ref o0)]) rfl ?_
 have ne10 : p3 ≠ o0 := (Ne.symm ne6)
 have q11 := (P5_0.other W9 ne10)
 have q12 := ((F_value_o0.keep K5q (ninS ne6 nin0)).other W9 (Or.inr (slot_ne (Or.inl (own_w51 hw)) (Or.inl (own_w78 hw)) (by decide) (t := (.array .byte)) (t' := .int) (by decide) (by decide))))
 have q13 := ((F_coder_o0.keep K5q (ninS ne6 nin0)).other W9 (Or.inr (slot_ne (Or.inl (own_w53 hw)) (Or.inl (own_w78 hw)) (by decide) (t := .byte) (t' := .int) (by decide) (by decide))))
 exact Home.retR X9 hx hlk hret rfl rfl (hb hby d9_44) (by rw [show T9.heap = h9 from e9]; exact ⟨rfl, N9, K9, q11, Fw9, (E_o0.keep K9), q12, q13⟩) (by decide) (by decide)
theorem rm8_1 (l : Launch) (Z : State) (a0 : Array Value) (hw : HW a0 Z) (ws : List Jvm.Cond) (o0 o1 p4 : Addr) (k_p4 : ClassId) (l_2 : List Int32) (sv_COMPACT_STRINGS : Int32) (p3 : Addr) (k_p3 : ClassId) (l_1 : List Int32) (h0 : Heap) (n0 : Nat) (O0 : Old Z n0 h0) (E_o0 : Exa Z h0 o0 "java/lang/StringBuilder") (E_o1 : Exa Z h0 o1 "java/lang/String") (F_value_o1 : Fld Z h0 o1 "java/lang/String" "value" "[B" (.ref p4)) (V_p4 : Arv Z h0 p4 k_p4 .byte (own_n l_2) (List.map Value.int l_2) (.int (0 : Int32))) (S_COMPACT_STRINGS : Sta Z Z.heap "java/lang/String" "COMPACT_STRINGS" "Z" (.int sv_COMPACT_STRINGS)) (F_coder_o1 : Fld Z h0 o1 "java/lang/String" "coder" "B" (.int (0 : Int32))) (F_value_o0 : Fld Z h0 o0 "java/lang/AbstractStringBuilder" "value" "[B" (.ref p3)) (V_p3 : Arv Z h0 p3 k_p3 .byte (16 : Int32) (List.map Value.int l_1) (.int (0 : Int32))) (F_coder_o0 : Fld Z h0 o0 "java/lang/AbstractStringBuilder" "coder" "B" (.int (0 : Int32))) (F_count_o0 : Fld Z h0 o0 "java/lang/AbstractStringBuilder" "count" "I" (.int (own_n l_1))) (g_p3 : n0 ≤ p3) (g_o0 : n0 ≤ o0) (hCS : ¬ (sv_COMPACT_STRINGS = (0 : Int32))) (sh_l_2 : l_2.length ≤ 3) (sh_l_1 : l_1.length ≤ 5) :
    Con l Z (⟨"java/lang/StringBuilder", "append", "(Ljava/lang/String;)Ljava/lang/StringBuilder;"⟩ : MethodName) jdk_67_method_7_code 2 (some (.object "java/lang/StringBuilder")) ws ({ frames := 4, cells := 0, slots := 0, locals := 61 } : Room) #[(.ref o0), (.ref o1)] h0 (fun v h L => v = some (.ref o0) ∧ Fr n0 L ∧ Keep h0 h [o0, p3] ∧ Exa Z h o0 "java/lang/StringBuilder" ∧ Fld Z h o0 "java/lang/AbstractStringBuilder" "value" "[B" (.ref p3) ∧ Fld Z h o0 "java/lang/AbstractStringBuilder" "coder" "B" (.int (0 : Int32)) ∧ Fld Z h o0 "java/lang/AbstractStringBuilder" "count" "I" (.int (own_n (l_1 ++ l_2))) ∧ Arv Z h p3 k_p3 .byte (16 : Int32) (List.map Value.int (l_1 ++ l_2)) (.int (0 : Int32))) := by
 refine own_body (plainFor_of_name own_pn7) (fun m => ef_rm8_1 m o0 o1) ?_
 intro p e s m below meth c s₁ hx hby hlk hml hret hZ hown hnm X0 e0
 have N0 := Fr.nil n0
 refine Home.run X0 hx hby sg8_0_2 (pc' := 2) (L' := #[.val (.ref o0), .val (.ref o1)]) (S' := [(.ref o1), (.ref o0)]) rfl ?_
 refine Home.call (own_super X0 hx hZ hown (own_w59 hw) (own_samem (own_w60 hw) (own_w82 hw) rfl (by decide)) (own_w60 hw) (own_w61 hw) (by decide) (own_w46 hw) (own_w63 hw) (rm9_1 l Z a0 hw [] o0 o1 p4 k_p4 l_2 sv_COMPACT_STRINGS l_1 p3 k_p3 h0 n0 O0 E_o1 F_value_o1 V_p4 S_COMPACT_STRINGS F_coder_o1 hCS (Nat.le_trans (own_len_le sh_l_2).2 (by decide)) F_count_o0 E_o0 F_value_o0 V_p3 F_coder_o0 (Nat.le_trans (own_len_le sh_l_1).2 (by decide)) g_p3 g_o0) e0 E_o0 rfl (by rw [hml]; rfl) (argsL := [(.ref o1)]) (rest := []) (lenOf own_pd18 rfl) rfl rfl (W := 0) (by exact hW0) (by decide) (by decide) (hb hby d8_2) (by decide) (by decide)) ?_
 rintro _ T1 L1 X1 ⟨rfl, N1q, K1q, P1_0, P1_1, P1_2, P1_3, P1_4⟩
 have O1 := Old.keep O0 K1q (allS g_p3 (allS g_o0 all0))
 have K1 : Keep h0 T1.heap ([o0, p3] : List Addr) := Keep.trans (Keep.refl h0 ([o0, p3] : List Addr)) K1q (allS (Or.inl (List.mem_of_getElem? (i := 1) rfl)) (allS (Or.inl (List.mem_of_getElem? (i := 0) rfl)) all0))
 have N1 := Fr.app N0 N1q
 refine Home.run X1 hx hby sg8_5_2 (pc' := 7) (L' := #[.val (.ref o0), .val (.ref o1)]) (S' := [(.ref o0)]) rfl ?_
 exact Home.retR X1 hx hlk hret rfl rfl (hb hby d8_7) ⟨rfl, N1, K1, P1_2, P1_3, P1_4, P1_1, P1_0⟩ (by decide) (by decide)
theorem rm19_0 (l : Launch) (Z : State) (a0 : Array Value) (hw : HW a0 Z) (ws : List Jvm.Cond) (o0 p2 : Addr) (h0 : Heap) (n0 : Nat) (O0 : Old Z n0 h0) (F_value_o0 : Fld Z h0 o0 "java/lang/AbstractStringBuilder" "value" "[B" (.ref p2)) :
    Con l Z (⟨"java/lang/AbstractStringBuilder", "getValue", "()[B"⟩ : MethodName) jdk_68_method_64_code 1 (some (.array .byte)) ws ({ frames := 0, cells := 0, slots := 0, locals := 0 } : Room) #[(.ref o0)] h0 (Pur (some (.ref p2)) h0) := by
 refine own_body (plainFor_of_name own_pn6) (fun m => ef_rm19_0 m o0) ?_
 intro p e s m below meth c s₁ hx hby hlk hml hret hZ hown hnm X0 e0
 have N0 := Fr.nil n0
 refine Home.run X0 hx hby sg19_0_1 (pc' := 1) (L' := #[.val (.ref o0)]) (S' := [(.ref o0)]) rfl ?_
 refine Home.st (getF X0 hx hZ hown (host := "") (Or.inl (own_w50 hw)) Via.refl e0 F_value_o0 rfl rfl (hb hby d19_1)) fun T1 X1 e1 => ?_
 exact Home.retR X1 hx hlk hret rfl rfl (hb hby d19_4) ⟨rfl, rfl, e1⟩ (by decide) (by decide)
theorem rm21_0 (l : Launch) (Z : State) (a0 : Array Value) (hw : HW a0 Z) (ws : List Jvm.Cond) (o0 : Addr) (l_1 : List Int32) (h0 : Heap) (n0 : Nat) (O0 : Old Z n0 h0) (F_count_o0 : Fld Z h0 o0 "java/lang/AbstractStringBuilder" "count" "I" (.int (own_n l_1))) (sh_l_1 : l_1.length ≤ 8) :
    Con l Z (⟨"java/lang/AbstractStringBuilder", "length", "()I"⟩ : MethodName) jdk_68_method_6_code 1 (some .int) ws ({ frames := 0, cells := 0, slots := 0, locals := 0 } : Room) #[(.ref o0)] h0 (Pur (some (.int (own_n l_1))) h0) := by
 refine own_body (plainFor_of_name own_pn6) (fun m => ef_rm21_0 m o0) ?_
 intro p e s m below meth c s₁ hx hby hlk hml hret hZ hown hnm X0 e0
 have N0 := Fr.nil n0
 refine Home.run X0 hx hby sg21_0_1 (pc' := 1) (L' := #[.val (.ref o0)]) (S' := [(.ref o0)]) rfl ?_
 refine Home.st (getF X0 hx hZ hown (host := "") (Or.inl (own_w77 hw)) Via.refl e0 F_count_o0 rfl rfl (hb hby d21_1)) fun T1 X1 e1 => ?_
 exact Home.retI X1 hx hlk hret (hb hby d21_4) ⟨rfl, rfl, e1⟩ (by decide) (by decide)
theorem rm20_0 (l : Launch) (Z : State) (a0 : Array Value) (hw : HW a0 Z) (ws : List Jvm.Cond) (o0 : Addr) (l_1 : List Int32) (h0 : Heap) (n0 : Nat) (O0 : Old Z n0 h0) (E_o0 : Exa Z h0 o0 "java/lang/StringBuilder") (F_count_o0 : Fld Z h0 o0 "java/lang/AbstractStringBuilder" "count" "I" (.int (own_n l_1))) (sh_l_1 : l_1.length ≤ 8) :
    Con l Z (⟨"java/lang/StringBuilder", "length", "()I"⟩ : MethodName) jdk_67_method_93_code 1 (some .int) ws ({ frames := 1, cells := 0, slots := 0, locals := 12 } : Room) #[(.ref o0)] h0 (Pur (some (.int (own_n l_1))) h0) := by
 refine own_body (plainFor_of_name own_pn7) (fun m => ef_rm20_0 m o0) ?_
 intro p e s m below meth c s₁ hx hby hlk hml hret hZ hown hnm X0 e0
 have N0 := Fr.nil n0
 refine Home.run X0 hx hby sg20_0_1 (pc' := 1) (L' := #[.val (.ref o0)]) (S' := [(.ref o0)]) rfl ?_
 refine Home.st (own_pure (own_super X0 hx hZ hown (own_w130 hw) (own_samem (own_w126 hw) (own_w82 hw) rfl (by decide)) (own_w126 hw) (own_w61 hw) (by decide) (own_w46 hw) (own_w131 hw) (rm21_0 l Z a0 hw [] o0 l_1 h0 n0 O0 F_count_o0 (Nat.le_trans (own_len_le sh_l_1).2 (by decide))) e0 E_o0 rfl (by rw [hml]; rfl) (argsL := []) (rest := []) (lenOf own_pd14 rfl) rfl rfl (W := 0) (by exact hW0) (by decide) (by decide) (hb hby d20_1) (by decide) (by decide))) fun T1 X1 e1 => ?_
 exact Home.retI X1 hx hlk hret (hb hby d20_4) ⟨rfl, rfl, e1⟩ (by decide) (by decide)
theorem rm22_0 (l : Launch) (Z : State) (a0 : Array Value) (hw : HW a0 Z) (ws : List Jvm.Cond) (o0 : Addr) (sv_COMPACT_STRINGS : Int32) (h0 : Heap) (n0 : Nat) (O0 : Old Z n0 h0) (S_COMPACT_STRINGS : Sta Z Z.heap "java/lang/String" "COMPACT_STRINGS" "Z" (.int sv_COMPACT_STRINGS)) (hCS : ¬ (sv_COMPACT_STRINGS = (0 : Int32))) (F_coder_o0 : Fld Z h0 o0 "java/lang/AbstractStringBuilder" "coder" "B" (.int (0 : Int32))) :
    Con l Z (⟨"java/lang/AbstractStringBuilder", "isLatin1", "()Z"⟩ : MethodName) jdk_68_method_68_code 1 (some .boolean) ws ({ frames := 0, cells := 0, slots := 0, locals := 0 } : Room) #[(.ref o0)] h0 (Pur (some (.int (1 : Int32))) h0) := by
 refine own_body (plainFor_of_name own_pn6) (fun m => ef_rm22_0 m o0) ?_
 intro p e s m below meth c s₁ hx hby hlk hml hret hZ hown hnm X0 e0
 have N0 := Fr.nil n0
 refine Home.st (getS2 X0 hx hZ hown (host := "") (Or.inl (own_w49 hw)) Via.refl e0 (S_COMPACT_STRINGS.ext O0.2) rfl (hb hby d22_0)) fun T1 X1 e1 => ?_
 refine Home.go (fun _ => XS.ifNo X1.here hx rfl (hb hby d22_3) rfl ((if0 _ _).trans (feq hCS).1)) ?_
 refine Home.run X1 hx hby sg22_6_1 (pc' := 7) (L' := #[.val (.ref o0)]) (S' := [(.ref o0)]) rfl ?_
 refine Home.st (getF X1 hx hZ hown (host := "") (Or.inl (own_w52 hw)) Via.refl e1 F_coder_o0 rfl rfl (hb hby d22_7)) fun T2 X2 e2 => ?_
 refine Home.go (fun _ => XS.ifNo X2.here hx rfl (hb hby d22_10) rfl ((if0 _ _).trans (teq (by decide)).2)) ?_
 refine Home.run X2 hx hby sg22_13_2 (pc' := 18) (L' := #[.val (.ref o0)]) (S' := [(.int (1 : Int32))]) rfl ?_
 exact Home.retN X2 hx hlk (t := .boolean) hret (by simp) (hb hby d22_18) ⟨congrArg some (congrArg Value.int (by first | rfl | exact nar_i2c _ | exact nar_i2b _)), rfl, e2⟩ (by decide) (by decide)
theorem rm25_0 (l : Launch) (Z : State) (a0 : Array Value) (hw : HW a0 Z) (ws : List Jvm.Cond) (l_1 : List Int32) (h0 : Heap) (n0 : Nat) (O0 : Old Z n0 h0) (sh_l_1 : l_1.length ≤ 8) :
    Con l Z (⟨"java/util/Arrays", "checkLength", "(II)V"⟩ : MethodName) jdk_65_method_131_code 2 none ws ({ frames := 0, cells := 0, slots := 0, locals := 0 } : Room) #[(.int (0 : Int32)), (.int (own_n l_1))] h0 (Pur none h0) := by
 refine own_body (plainFor_of_name own_pn8) (fun m => ef_rm25_0 m (0 : Int32) (own_n l_1)) ?_
 intro p e s m below meth c s₁ hx hby hlk hml hret hZ hown hnm X0 e0
 have N0 := Fr.nil n0
 refine Home.run X0 hx hby sg25_0_2 (pc' := 2) (L' := #[.val (.int (0 : Int32)), .val (.int (own_n l_1))]) (S' := [(.int (0 : Int32)), (.int (own_n l_1))]) rfl ?_
 refine Home.go (fun _ => XS.icmpYes X0.here hx rfl (pc0 := 2) (pc' := 37) rfl (hb hby d25_2) rfl (flt (bnd_nlt (own_n_b (a := 0) (b := 8) (own_len_le sh_l_1) (lo := (0 : Int32)) (hi := (8 : Int32)) (by decide) (by decide) (by decide)) (bnd_lit (0 : Int32)) (by decide +kernel))).2.1 (by decide) (by decide)) ?_
 exact Home.ret0 X0 hx hlk hret (hb hby d25_37) ⟨rfl, rfl, e0⟩ (by decide) (by decide)
theorem rm26_0 (l : Launch) (Z : State) (a0 : Array Value) (hw : HW a0 Z) (ws : List Jvm.Cond) (l_1 : List Int32) (h0 : Heap) (n0 : Nat) (O0 : Old Z n0 h0) (sh_l_1 : l_1.length ≤ 8) :
    Con l Z (⟨"java/lang/Math", "min", "(II)I"⟩ : MethodName) jdk_29_method_69_code 2 (some .int) ws ({ frames := 0, cells := 0, slots := 0, locals := 0 } : Room) #[(.int (16 : Int32)), (.int (own_n l_1))] h0 (Pur (some (.int (own_n l_1))) h0) := by
 refine own_body (Jvm.Free.JP.mathPlain rfl (by decide +kernel)) (fun m => ef_rm26_0 m (16 : Int32) (own_n l_1)) ?_
 intro p e s m below meth c s₁ hx hby hlk hml hret hZ hown hnm X0 e0
 have N0 := Fr.nil n0
 refine Home.run X0 hx hby sg26_0_2 (pc' := 2) (L' := #[.val (.int (16 : Int32)), .val (.int (own_n l_1))]) (S' := [(.int (own_n l_1)), (.int (16 : Int32))]) rfl ?_
 refine Home.go (fun _ => XS.icmpYes X0.here hx rfl (pc0 := 2) (pc' := 9) rfl (hb hby d26_2) rfl (tlt (bnd_lt (own_n_b (a := 0) (b := 8) (own_len_le sh_l_1) (lo := (0 : Int32)) (hi := (8 : Int32)) (by decide) (by decide) (by decide)) (bnd_lit (16 : Int32)) (by decide +kernel))).2.2.1 (by decide) (by decide)) ?_
 refine Home.run X0 hx hby sg26_9_1 (pc' := 10) (L' := #[.val (.int (16 : Int32)), .val (.int (own_n l_1))]) (S' := [(.int (own_n l_1))]) rfl ?_
 exact Home.retI X0 hx hlk hret (hb hby d26_10) ⟨rfl, rfl, e0⟩ (by decide) (by decide)
theorem rm24_0 (l : Launch) (Z : State) (a0 : Array Value) (hw : HW a0 Z) (ws : List Jvm.Cond) (o0 : Addr) (l_1 : List Int32) (k_o0 : ClassId) (h0 : Heap) (n0 : Nat) (O0 : Old Z n0 h0) (sh_l_1 : l_1.length ≤ 8) (V_o0 : Arv Z h0 o0 k_o0 .byte (16 : Int32) (List.map Value.int l_1) (.int (0 : Int32))) :
    Con l Z (⟨"java/util/Arrays", "copyOfRangeByte", "([BII)[B"⟩ : MethodName) jdk_65_method_133_code 5 (some (.array .byte)) ws ({ frames := 1, cells := 1, slots := 8, locals := 18 } : Room) #[(.ref o0), (.int (0 : Int32)), (.int (own_n l_1))] h0 (fun v h L => ∃ (b2 : Addr), ∃ (k2 : ClassId), v = some (.ref b2) ∧ Fr n0 L ∧ h0.size ≤ b2 ∧ Keep h0 h [] ∧ Arv Z h b2 k2 .byte (own_n l_1) (List.map Value.int l_1) (.int (0 : Int32))) := by
 refine own_body (plainFor_of_name own_pn8) (fun m => ef_rm24_0 m o0 (0 : Int32) (own_n l_1)) ?_
 intro p e s m below meth c s₁ hx hby hlk hml hret hZ hown hnm X0 e0
 have N0 := Fr.nil n0
 refine Home.run X0 hx hby sg24_0_2 (pc' := 2) (L' := #[.val (.ref o0), .val (.int (0 : Int32)), .val (.int (own_n l_1)), .unset, .unset]) (S' := [(.int (own_n l_1)), (.int (0 : Int32))]) rfl ?_
 refine Home.st (own_pure (own_static X0 hx hZ hown (own_w144 hw) (own_w145 hw) (own_w139 hw) (own_w146 hw) (by decide) (rm25_0 l Z a0 hw [] l_1 h0 n0 O0 (Nat.le_trans (own_len_le sh_l_1).2 (by decide))) e0 rfl (by rw [hml]; rfl) (argsL := [(.int (0 : Int32)), (.int (own_n l_1))]) (rest := []) (lenOf own_pd22 rfl) rfl rfl (W := 0) (by exact hW0) (by decide) (by decide) (hb hby d24_2) (by decide) (by decide))) fun T1 X1 e1 => ?_
 refine Home.run X1 hx hby sg24_5_3 (pc' := 8) (L' := #[.val (.ref o0), .val (.int (0 : Int32)), .val (.int (own_n l_1)), .unset, .unset]) (S' := [(.int ((own_n l_1) - (0 : Int32)))]) rfl ?_
 rw [own_sub0]
 refine Home.run X1 hx hby sg24_8_2 (pc' := 10) (L' := #[.val (.ref o0), .val (.int (0 : Int32)), .val (.int (own_n l_1)), .val (.int (own_n l_1)), .unset]) (S' := [(.int (own_n l_1))]) rfl ?_
 refine Home.na (own_newP (aty := .byte) X1 hx hZ (own_w11 hw) e1 (g := (mkF m 10 #[.val (.ref o0), .val (.int (0 : Int32)), .val (.int (own_n l_1)), .val (.int (own_n l_1)), .unset] [(.int (own_n l_1))])) rfl (hb hby d24_10) rfl (bnd_nlt (own_n_b (a := 0) (b := 8) (own_len_le sh_l_1) (lo := (0 : Int32)) (hi := (8 : Int32)) (by decide) (by decide) (by decide)) (bnd_lit (0 : Int32)) (by decide +kernel)) (cap := 8) (own_capb (own_n_b (a := 0) (b := 8) (own_len_le sh_l_1) (lo := (0 : Int32)) (hi := (8 : Int32)) (by decide) (by decide) (by decide)) (by decide)) (by decide) (by decide) (by decide)) fun T2 h2 k2 b2 g2 X2 e2 E2 A2 => ?_
 have g_b2 : n0 ≤ b2 := Nat.le_trans (Old.le O0) (Nat.le_of_eq g2.symm)
 have V2 : Arv Z h2 b2 k2 .byte (own_n l_1) (List.map Value.int []) (.int (0 : Int32)) := Arv.new A2 (bnd_nlt (own_n_b (a := 0) (b := 8) (own_len_le sh_l_1) (lo := (0 : Int32)) (hi := (8 : Int32)) (by decide) (by decide) (by decide)) (bnd_lit (0 : Int32)) (by decide +kernel))
 have O2 := O0.ext E2
 have K2 : Keep h0 h2 ([] : List Addr) := Keep.ext (Keep.refl h0 ([] : List Addr)) E2
 show Home T2 (mkF m 12 #[.val (.ref o0), .val (.int (0 : Int32)), .val (.int (own_n l_1)), .val (.int (own_n l_1)), .unset] [(.ref b2)])
 refine Home.run X2 hx hby sg24_12_6 (pc' := 20) (L' := #[.val (.ref o0), .val (.int (0 : Int32)), .val (.int (own_n l_1)), .val (.int (own_n l_1)), .val (.ref b2)]) (S' := [(.ref o0), (.int (0 : Int32)), (.ref b2), (.int (0 : Int32)), (.ref o0)]) rfl ?_
 obtain ⟨cl3, Ar3, q3, S3, M3, H3, G3⟩ := id (V_o0.keep K2 nin0)
 refine Home.go (own_alen X2 hx hZ e2 Ar3 S3 M3 rfl rfl (hb hby d24_20)) ?_
 refine Home.run X2 hx hby sg24_21_3 (pc' := 24) (L' := #[.val (.ref o0), .val (.int (0 : Int32)), .val (.int (own_n l_1)), .val (.int (own_n l_1)), .val (.ref b2)]) (S' := [(.int (own_n l_1)), (.int (16 : Int32)), (.int (0 : Int32)), (.ref b2), (.int (0 : Int32)), (.ref o0)]) rfl ?_
 refine Home.st (own_pure (own_static X2 hx hZ hown (own_w147 hw) (own_w148 hw) (own_w149 hw) (own_w150 hw) (by decide) (rm26_0 l Z a0 hw [] l_1 h2 n0 O2 (Nat.le_trans (own_len_le sh_l_1).2 (by decide))) e2 rfl (by rw [hml]; rfl) (argsL := [(.int (16 : Int32)), (.int (own_n l_1))]) (rest := [(.int (0 : Int32)), (.ref b2), (.int (0 : Int32)), (.ref o0)]) (lenOf own_pd23 rfl) rfl rfl (W := 4) (by exact hW0) (by decide) (by decide) (hb hby d24_24) (by decide) (by decide))) fun T4 X4 e4 => ?_
 refine Home.cp (own_cpS X4 hx hZ hown (own_w151 hw) (own_w103 hw) (own_w101 hw) (own_w102 hw) e4 (V_o0.keep K2 nin0) V2 (Y := []) (X := l_1) (Nat.le_trans (own_len_le sh_l_1).2 (by decide)) (Nat.le_trans (Nat.le_of_eq (Nat.zero_add _)) (own_n_le (own_len_le sh_l_1))) (Nat.lt_of_le_of_lt (own_len_app (own_len_lit (l := []) (n := 0) rfl) (own_len_le sh_l_1)).2 (by decide)) (dp := (0 : Int32)) rfl N0 g_b2 (g := (mkF m 27 #[.val (.ref o0), .val (.int (0 : Int32)), .val (.int (own_n l_1)), .val (.int (own_n l_1)), .val (.ref b2)] [(.int (own_n l_1)), (.int (0 : Int32)), (.ref b2), (.int (0 : Int32)), (.ref o0)])) rfl (by rw [hml]; rfl) rfl (hb hby d24_27) (by decide) (W := 0) (by exact hW0) (by decide)) fun T5 h5 L5 X5 e5 N5 K5q Vq5 => ?_
 have V5 : Arv Z h5 b2 k2 .byte (own_n l_1) (List.map Value.int l_1) (.int (0 : Int32)) := Vq5
 have O5 := Old.keep O2 K5q (allS g_b2 all0)
 have K5 : Keep h0 h5 ([] : List Addr) := Keep.trans K2 K5q (allS (Or.inr (Nat.le_trans (Nat.le_refl _) (Nat.le_of_eq g2.symm))) all0)
 show Home T5 (mkF m 30 #[.val (.ref o0), .val (.int (0 : Int32)), .val (.int (own_n l_1)), .val (.int (own_n l_1)), .val (.ref b2)] [])
 refine Home.run X5 hx hby sg24_30_1 (pc' := 32) (L' := #[.val (.ref o0), .val (.int (0 : Int32)), .val (.int (own_n l_1)), .val (.int (own_n l_1)), .val (.ref b2)]) (S' := [(.ref b2)]) rfl ?_
 exact Home.retR X5 hx hlk hret rfl rfl (hb hby d24_32) (by rw [show T5.heap = h5 from e5]; exact ⟨b2, k2, rfl, N5, (Nat.le_trans (Nat.le_refl _) (Nat.le_of_eq g2.symm)), K5, V5⟩) (by decide) (by decide)
theorem rm23_0 (l : Launch) (Z : State) (a0 : Array Value) (hw : HW a0 Z) (ws : List Jvm.Cond) (o0 : Addr) (l_1 : List Int32) (k_o0 : ClassId) (h0 : Heap) (n0 : Nat) (O0 : Old Z n0 h0) (V_o0 : Arv Z h0 o0 k_o0 .byte (16 : Int32) (List.map Value.int l_1) (.int (0 : Int32))) (sh_l_1 : l_1.length ≤ 8) :
    Con l Z (⟨"java/util/Arrays", "copyOfRange", "([BII)[B"⟩ : MethodName) jdk_65_method_132_code 3 (some (.array .byte)) ws ({ frames := 2, cells := 1, slots := 8, locals := 34 } : Room) #[(.ref o0), (.int (0 : Int32)), (.int (own_n l_1))] h0 (fun v h L => ∃ (b2_2 : Addr), ∃ (k2_2 : ClassId), v = some (.ref b2_2) ∧ Fr n0 L ∧ h0.size ≤ b2_2 ∧ Keep h0 h [] ∧ Arv Z h b2_2 k2_2 .byte (own_n l_1) (List.map Value.int l_1) (.int (0 : Int32))) := by
 refine own_body (plainFor_of_name own_pn8) (fun m => ef_rm23_0 m o0 (0 : Int32) (own_n l_1)) ?_
 intro p e s m below meth c s₁ hx hby hlk hml hret hZ hown hnm X0 e0
 have N0 := Fr.nil n0
 refine Home.run X0 hx hby sg23_0_1 (pc' := 1) (L' := #[.val (.ref o0), .val (.int (0 : Int32)), .val (.int (own_n l_1))]) (S' := [(.int (0 : Int32))]) rfl ?_
 refine Home.go (fun _ => XS.ifNo X0.here hx rfl (hb hby d23_1) rfl ((if0 _ _).trans (teq (by decide)).2)) ?_
 refine Home.run X0 hx hby sg23_4_2 (pc' := 6) (L' := #[.val (.ref o0), .val (.int (0 : Int32)), .val (.int (own_n l_1))]) (S' := [(.ref o0), (.int (own_n l_1))]) rfl ?_
 obtain ⟨cl1, Ar1, q1, S1, M1, H1, G1⟩ := id V_o0
 refine Home.go (own_alen X0 hx hZ e0 Ar1 S1 M1 rfl rfl (hb hby d23_6)) ?_
 refine Home.go (fun _ => XS.icmpNo X0.here hx rfl (hb hby d23_7) rfl (feq (bnd_ne (own_n_b (a := 0) (b := 8) (own_len_le sh_l_1) (lo := (0 : Int32)) (hi := (8 : Int32)) (by decide) (by decide) (by decide)) (bnd_lit (16 : Int32)) (by decide +kernel))).1) ?_
 refine Home.run X0 hx hby sg23_10_3 (pc' := 13) (L' := #[.val (.ref o0), .val (.int (0 : Int32)), .val (.int (own_n l_1))]) (S' := [(.int (own_n l_1)), (.int (0 : Int32)), (.ref o0)]) rfl ?_
 refine Home.call (own_static X0 hx hZ hown (own_w141 hw) (own_w142 hw) (own_w139 hw) (own_w143 hw) (by decide) (rm24_0 l Z a0 hw [] o0 l_1 k_o0 h0 n0 O0 (Nat.le_trans (own_len_le sh_l_1).2 (by decide)) V_o0) e0 rfl (by rw [hml]; rfl) (argsL := [(.ref o0), (.int (0 : Int32)), (.int (own_n l_1))]) (rest := []) (lenOf own_pd24 rfl) rfl rfl (W := 0) (by exact hW0) (by decide) (by decide) (hb hby d23_13) (by decide) (by decide)) ?_
 rintro _ T2 L2 X2 ⟨b2_2, k2_2, rfl, N2q, sz_b2_2, K2q, P2_0⟩
 have g_b2_2 : n0 ≤ b2_2 := Nat.le_trans (Old.le O0) sz_b2_2
 have O2 := Old.keep O0 K2q all0
 have K2 : Keep h0 T2.heap ([] : List Addr) := Keep.trans (Keep.refl h0 ([] : List Addr)) K2q all0
 have N2 := Fr.app N0 N2q
 show Home T2 (mkF m 16 #[.val (.ref o0), .val (.int (0 : Int32)), .val (.int (own_n l_1))] [(.ref b2_2)])
 exact Home.retR X2 hx hlk hret rfl rfl (hb hby d23_16) ⟨b2_2, k2_2, rfl, N2, (Nat.le_trans (Nat.le_refl _) sz_b2_2), K2, P2_0⟩ (by decide) (by decide)
theorem rm18_0 (l : Launch) (Z : State) (a0 : Array Value) (hw : HW a0 Z) (ws : List Jvm.Cond) (o0 o1 p3 : Addr) (l_1 : List Int32) (sv_COMPACT_STRINGS : Int32) (k_p3 : ClassId) (h0 : Heap) (n0 : Nat) (O0 : Old Z n0 h0) (E_o1 : Exa Z h0 o1 "java/lang/StringBuilder") (F_value_o1 : Fld Z h0 o1 "java/lang/AbstractStringBuilder" "value" "[B" (.ref p3)) (F_count_o1 : Fld Z h0 o1 "java/lang/AbstractStringBuilder" "count" "I" (.int (own_n l_1))) (sh_l_1 : l_1.length ≤ 8) (S_COMPACT_STRINGS : Sta Z Z.heap "java/lang/String" "COMPACT_STRINGS" "Z" (.int sv_COMPACT_STRINGS)) (F_coder_o1 : Fld Z h0 o1 "java/lang/AbstractStringBuilder" "coder" "B" (.int (0 : Int32))) (hCS : ¬ (sv_COMPACT_STRINGS = (0 : Int32))) (E_o0 : Exa Z h0 o0 "java/lang/String") (F_coder_o0 : Fld Z h0 o0 "java/lang/String" "coder" "B" (.int (0 : Int32))) (g_o0 : n0 ≤ o0) (V_p3 : Arv Z h0 p3 k_p3 .byte (16 : Int32) (List.map Value.int l_1) (.int (0 : Int32))) (F_value_o0 : Fld Z h0 o0 "java/lang/String" "value" "[B" .null) :
    Con l Z (⟨"java/lang/String", "<init>", "(Ljava/lang/AbstractStringBuilder;Ljava/lang/Void;)V"⟩ : MethodName) jdk_42_method_150_code 5 none ws ({ frames := 3, cells := 1, slots := 8, locals := 49 } : Room) #[(.ref o0), (.ref o1), .null] h0 (fun v h L => ∃ (b2_2_8 : Addr), ∃ (k2_2_8 : ClassId), v = none ∧ Fr n0 L ∧ h0.size ≤ b2_2_8 ∧ Keep h0 h [o0] ∧ Exa Z h o0 "java/lang/String" ∧ Fld Z h o0 "java/lang/String" "coder" "B" (.int (0 : Int32)) ∧ Fld Z h o0 "java/lang/String" "value" "[B" (.ref b2_2_8) ∧ Arv Z h b2_2_8 k2_2_8 .byte (own_n l_1) (List.map Value.int l_1) (.int (0 : Int32))) := by
 refine own_body (plainFor_of_name own_pn2) (fun m => ef_rm18_0 m o0 o1) ?_
 intro p e s m below meth c s₁ hx hby hlk hml hret hZ hown hnm X0 e0
 have N0 := Fr.nil n0
 refine Home.run X0 hx hby sg18_0_1 (pc' := 1) (L' := #[.val (.ref o0), .val (.ref o1), .val .null, .unset, .unset]) (S' := [(.ref o0)]) rfl ?_
 refine Home.st (initO X0 hx hZ hown (own_w118 hw) (own_w25 hw) (own_w26 hw) e0 rfl (by rw [hml]; rfl) rfl (hb hby d18_1) (by decide) (W := 0) (by exact hW0) (by decide)) fun T1 X1 e1 => ?_
 refine Home.run X1 hx hby sg18_4_1 (pc' := 5) (L' := #[.val (.ref o0), .val (.ref o1), .val .null, .unset, .unset]) (S' := [(.ref o1)]) rfl ?_
 refine Home.st (own_pure (own_virtual X1 hx hZ hown (own_w119 hw) (own_w120 hw) (notFace_of_selects (args := #[]) (mvT hZ (own_w122 hw))) (own_w122 hw) (own_w121 hw) (own_w46 hw) (own_w123 hw) (by decide) (rm19_0 l Z a0 hw [] o1 p3 h0 n0 O0 F_value_o1) e1 E_o1 rfl (by rw [hml]; rfl) (argsL := []) (rest := []) (lenOf own_pd20 rfl) rfl rfl (W := 0) (by exact hW0) (by decide) (by decide) (hb hby d18_5) (by decide) (by decide))) fun T2 X2 e2 => ?_
 refine Home.run X2 hx hby sg18_8_2 (pc' := 10) (L' := #[.val (.ref o0), .val (.ref o1), .val .null, .val (.ref p3), .unset]) (S' := [(.ref o1)]) rfl ?_
 refine Home.st (own_pure (own_virtual X2 hx hZ hown (own_w124 hw) (own_w125 hw) (own_nfz (args := #[]) (mvT hZ (own_w82 hw)) rfl) (own_w127 hw) (own_w128 hw) (own_w38 hw) (own_w129 hw) (by decide) (rm20_0 l Z a0 hw [] o1 l_1 h0 n0 O0 E_o1 F_count_o1 (Nat.le_trans (own_len_le sh_l_1).2 (by decide))) e2 E_o1 rfl (by rw [hml]; rfl) (argsL := []) (rest := []) (lenOf own_pd14 rfl) rfl rfl (W := 0) (by exact hW0) (by decide) (by decide) (hb hby d18_10) (by decide) (by decide))) fun T3 X3 e3 => ?_
 refine Home.run X3 hx hby sg18_13_2 (pc' := 16) (L' := #[.val (.ref o0), .val (.ref o1), .val .null, .val (.ref p3), .val (.int (own_n l_1))]) (S' := [(.ref o1)]) rfl ?_
 refine Home.st (own_pure (own_virtual X3 hx hZ hown (own_w132 hw) (own_w133 hw) (notFace_of_selects (args := #[]) (mvT hZ (own_w135 hw))) (own_w135 hw) (own_w134 hw) (own_w46 hw) (own_w136 hw) (by decide) (rm22_0 l Z a0 hw [] o1 sv_COMPACT_STRINGS h0 n0 O0 S_COMPACT_STRINGS hCS F_coder_o1) e3 E_o1 rfl (by rw [hml]; rfl) (argsL := []) (rest := []) (lenOf own_pd21 rfl) rfl rfl (W := 0) (by exact hW0) (by decide) (by decide) (hb hby d18_16) (by decide) (by decide))) fun T4 X4 e4 => ?_
 show Home T4 (mkF m 19 #[.val (.ref o0), .val (.ref o1), .val .null, .val (.ref p3), .val (.int (own_n l_1))] [(.int (1 : Int32))])
 refine Home.go (fun _ => XS.ifNo X4.here hx rfl (hb hby d18_19) rfl ((if0 _ _).trans (feq (by decide)).1)) ?_
 refine Home.run X4 hx hby sg18_22_2 (pc' := 24) (L' := #[.val (.ref o0), .val (.ref o1), .val .null, .val (.ref p3), .val (.int (own_n l_1))]) (S' := [(.int (0 : Int32)), (.ref o0)]) rfl ?_
 refine Home.wr (putFN X4 hx hZ hown (own_w76 hw) Via.refl e4 F_coder_o0 E_o0 (Or.inr ⟨(own_w13 hw), rfl, hnm⟩) (own_w10 hw) (ty := .byte) (v := (.int (0 : Int32))) (v' := (.int (0 : Int32))) (by decide) rfl rfl rfl rfl (hb hby d18_24)) fun T5 h5 X5 e5 W5 => ?_
 have Fw5 := F_coder_o0.same W5
 have O5 := O0.wr W5 g_o0
 have K5 : Keep h0 h5 ([o0] : List Addr) := Keep.wr (Keep.refl h0 ([o0] : List Addr)) W5 (Or.inl (List.mem_of_getElem? (i := 0) rfl))
 have N5 := Fr.snoc X5 N0 g_o0
 refine Home.run X5 hx hby sg18_27_4 (pc' := 32) (L' := #[.val (.ref o0), .val (.ref o1), .val .null, .val (.ref p3), .val (.int (own_n l_1))]) (S' := [(.int (own_n l_1)), (.int (0 : Int32)), (.ref p3), (.ref o0)]) rfl ?_
 have ne6 : p3 ≠ o0 := (Ne.symm (own_neAV E_o0 (own_w10 hw) V_p3))
 have q7 := (V_p3.other W5 ne6)
 refine Home.call (own_static X5 hx hZ hown (own_w137 hw) (own_w138 hw) (own_w139 hw) (own_w140 hw) (by decide) (rm23_0 l Z a0 hw [] p3 l_1 k_p3 h5 n0 O5 q7 (Nat.le_trans (own_len_le sh_l_1).2 (by decide))) e5 rfl (by rw [hml]; rfl) (argsL := [(.ref p3), (.int (0 : Int32)), (.int (own_n l_1))]) (rest := [(.ref o0)]) (lenOf own_pd24 rfl) rfl rfl (W := 1) (by exact hW0) (by decide) (by decide) (hb hby d18_32) (by decide) (by decide)) ?_
 rintro _ T8 L8 X8 ⟨b2_2_8, k2_2_8, rfl, N8q, sz_b2_2_8, K8q, P8_0⟩
 have g_b2_2_8 : n0 ≤ b2_2_8 := Nat.le_trans (Old.le O5) sz_b2_2_8
 have O8 := Old.keep O5 K8q all0
 have K8 : Keep h0 T8.heap ([o0] : List Addr) := Keep.trans K5 K8q all0
 have N8 := Fr.app N5 N8q
 show Home T8 (mkF m 35 #[.val (.ref o0), .val (.ref o1), .val .null, .val (.ref p3), .val (.int (own_n l_1))] [(.ref b2_2_8), (.ref o0)])
 have q9 := ((F_value_o0.other W5 (Or.inr (slot_ne (Or.inr (own_w12 hw)) (Or.inr (own_w13 hw)) (by decide) (t := (.array .byte)) (t' := .byte) (by decide) (by decide)))).keep K8q nin0)
 refine Home.wr (putF X8 hx hZ hown (host := "") (Or.inl (own_w69 hw)) Via.refl rfl q9 (E_o0.keep K8) (Or.inr ⟨(own_w12 hw), rfl, hnm⟩) (own_w10 hw) (ty := (.array .byte)) (by decide) rfl rfl rfl rfl (hb hby d18_35)) fun T10 h10 X10 e10 W10 => ?_
 have Fw10 := q9.same W10
 have O10 := O8.wr W10 g_o0
 have K10 : Keep h0 h10 ([o0] : List Addr) := Keep.wr K8 W10 (Or.inl (List.mem_of_getElem? (i := 0) rfl))
 have N10 := Fr.snoc X10 N8 g_o0
 refine Home.run X10 hx hby sg18_38_1 (pc' := 97) (L' := #[.val (.ref o0), .val (.ref o1), .val .null, .val (.ref p3), .val (.int (own_n l_1))]) (S' := []) rfl ?_
 have q11 := ((Fw5.keep K8q nin0).other W10 (Or.inr (slot_ne (Or.inr (own_w13 hw)) (Or.inr (own_w12 hw)) (by decide) (t := .byte) (t' := (.array .byte)) (by decide) (by decide))))
 have ne12 : b2_2_8 ≠ o0 := (Ne.symm (Nat.ne_of_lt (Nat.lt_of_lt_of_le Fw5.lt (Nat.le_trans (Nat.le_refl _) sz_b2_2_8))))
 have q13 := (P8_0.other W10 ne12)
 exact Home.ret0 X10 hx hlk hret (hb hby d18_97) (by rw [show T10.heap = h10 from e10]; exact ⟨b2_2_8, k2_2_8, rfl, N10, (Nat.le_trans (Nat.le_of_eq W5.size.symm) sz_b2_2_8), K10, (E_o0.keep K10), q11, Fw10, q13⟩) (by decide) (by decide)
theorem rm17_0 (l : Launch) (Z : State) (a0 : Array Value) (hw : HW a0 Z) (ws : List Jvm.Cond) (o0 o1 p3 : Addr) (sv_COMPACT_STRINGS : Int32) (k_p3 : ClassId) (l_1 : List Int32) (h0 : Heap) (n0 : Nat) (O0 : Old Z n0 h0) (E_o1 : Exa Z h0 o1 "java/lang/StringBuilder") (F_value_o1 : Fld Z h0 o1 "java/lang/AbstractStringBuilder" "value" "[B" (.ref p3)) (S_COMPACT_STRINGS : Sta Z Z.heap "java/lang/String" "COMPACT_STRINGS" "Z" (.int sv_COMPACT_STRINGS)) (F_coder_o1 : Fld Z h0 o1 "java/lang/AbstractStringBuilder" "coder" "B" (.int (0 : Int32))) (E_o0 : Exa Z h0 o0 "java/lang/String") (F_coder_o0 : Fld Z h0 o0 "java/lang/String" "coder" "B" (.int (0 : Int32))) (V_p3 : Arv Z h0 p3 k_p3 .byte (16 : Int32) (List.map Value.int l_1) (.int (0 : Int32))) (F_value_o0 : Fld Z h0 o0 "java/lang/String" "value" "[B" .null) (F_count_o1 : Fld Z h0 o1 "java/lang/AbstractStringBuilder" "count" "I" (.int (own_n l_1))) (g_o0 : n0 ≤ o0) (sh_l_1 : l_1.length ≤ 8) (hCS : ¬ (sv_COMPACT_STRINGS = (0 : Int32))) :
    Con l Z (⟨"java/lang/String", "<init>", "(Ljava/lang/StringBuilder;)V"⟩ : MethodName) jdk_42_method_53_code 2 none ws ({ frames := 4, cells := 1, slots := 8, locals := 65 } : Room) #[(.ref o0), (.ref o1)] h0 (fun v h L => ∃ (b2_2_8_1 : Addr), ∃ (k2_2_8_1 : ClassId), v = none ∧ Fr n0 L ∧ h0.size ≤ b2_2_8_1 ∧ Keep h0 h [o0] ∧ Exa Z h o0 "java/lang/String" ∧ Fld Z h o0 "java/lang/String" "coder" "B" (.int (0 : Int32)) ∧ Fld Z h o0 "java/lang/String" "value" "[B" (.ref b2_2_8_1) ∧ Arv Z h b2_2_8_1 k2_2_8_1 .byte (own_n l_1) (List.map Value.int l_1) (.int (0 : Int32))) := by
 refine own_body (plainFor_of_name own_pn2) (fun m => ef_rm17_0 m o0 o1) ?_
 intro p e s m below meth c s₁ hx hby hlk hml hret hZ hown hnm X0 e0
 have N0 := Fr.nil n0
 refine Home.run X0 hx hby sg17_0_3 (pc' := 3) (L' := #[.val (.ref o0), .val (.ref o1)]) (S' := [.null, (.ref o1), (.ref o0)]) rfl ?_
 refine Home.call (own_special X0 hx hZ hown rfl (own_w115 hw) (own_w116 hw) (own_w9 hw) (own_w117 hw) (by decide) (rm18_0 l Z a0 hw [] o0 o1 p3 l_1 sv_COMPACT_STRINGS k_p3 h0 n0 O0 E_o1 F_value_o1 F_count_o1 (Nat.le_trans (own_len_le sh_l_1).2 (by decide)) S_COMPACT_STRINGS F_coder_o1 hCS E_o0 F_coder_o0 g_o0 V_p3 F_value_o0) e0 rfl (by rw [hml]; rfl) (a := o0) (argsL := [(.ref o1), .null]) (rest := []) (lenOf own_pd25 rfl) rfl rfl (W := 0) (by exact hW0) (by decide) (by decide) (hb hby d17_3) (by decide) (by decide)) ?_
 rintro _ T1 L1 X1 ⟨b2_2_8_1, k2_2_8_1, rfl, N1q, sz_b2_2_8_1, K1q, P1_0, P1_1, P1_2, P1_3⟩
 have g_b2_2_8_1 : n0 ≤ b2_2_8_1 := Nat.le_trans (Old.le O0) sz_b2_2_8_1
 have O1 := Old.keep O0 K1q (allS g_o0 all0)
 have K1 : Keep h0 T1.heap ([o0] : List Addr) := Keep.trans (Keep.refl h0 ([o0] : List Addr)) K1q (allS (Or.inl (List.mem_of_getElem? (i := 0) rfl)) all0)
 have N1 := Fr.app N0 N1q
 exact Home.ret0 X1 hx hlk hret (hb hby d17_6) ⟨b2_2_8_1, k2_2_8_1, rfl, N1, (Nat.le_trans (Nat.le_refl _) sz_b2_2_8_1), K1, P1_0, P1_1, P1_2, P1_3⟩ (by decide) (by decide)
theorem rm16_0 (l : Launch) (Z : State) (a0 : Array Value) (hw : HW a0 Z) (ws : List Jvm.Cond) (o0 p2 : Addr) (sv_COMPACT_STRINGS : Int32) (k_p2 : ClassId) (l_1 : List Int32) (h0 : Heap) (n0 : Nat) (O0 : Old Z n0 h0) (E_o0 : Exa Z h0 o0 "java/lang/StringBuilder") (F_value_o0 : Fld Z h0 o0 "java/lang/AbstractStringBuilder" "value" "[B" (.ref p2)) (S_COMPACT_STRINGS : Sta Z Z.heap "java/lang/String" "COMPACT_STRINGS" "Z" (.int sv_COMPACT_STRINGS)) (F_coder_o0 : Fld Z h0 o0 "java/lang/AbstractStringBuilder" "coder" "B" (.int (0 : Int32))) (V_p2 : Arv Z h0 p2 k_p2 .byte (16 : Int32) (List.map Value.int l_1) (.int (0 : Int32))) (F_count_o0 : Fld Z h0 o0 "java/lang/AbstractStringBuilder" "count" "I" (.int (own_n l_1))) (sh_l_1 : l_1.length ≤ 8) (hCS : ¬ (sv_COMPACT_STRINGS = (0 : Int32))) :
    Con l Z (⟨"java/lang/StringBuilder", "toString", "()Ljava/lang/String;"⟩ : MethodName) jdk_67_method_42_code 1 (some (.object "java/lang/String")) ws ({ frames := 5, cells := 2, slots := 12, locals := 79 } : Room) #[(.ref o0)] h0 (fun v h L => ∃ (b1 : Addr), ∃ (b2_2_8_1_2 : Addr), ∃ (k2_2_8_1_2 : ClassId), v = some (.ref b1) ∧ Fr n0 L ∧ h0.size ≤ b1 ∧ h0.size ≤ b2_2_8_1_2 ∧ Keep h0 h [] ∧ Exa Z h b1 "java/lang/String" ∧ Fld Z h b1 "java/lang/String" "value" "[B" (.ref b2_2_8_1_2) ∧ Fld Z h b1 "java/lang/String" "coder" "B" (.int (0 : Int32)) ∧ Arv Z h b2_2_8_1_2 k2_2_8_1_2 .byte (own_n l_1) (List.map Value.int l_1) (.int (0 : Int32))) := by
 refine own_body (plainFor_of_name own_pn7) (fun m => ef_rm16_0 m o0) ?_
 intro p e s m below meth c s₁ hx hby hlk hml hret hZ hown hnm X0 e0
 have N0 := Fr.nil n0
 refine Home.nw (own_newO X0 hx hZ hown (own_w110 hw) (own_w10 hw) (own_w9 hw) e0 rfl (hb hby d16_0) (by decide) (by decide)) fun T1 h1 b1 g1 X1 e1 E1 A1 D1 => ?_
 have g_b1 : n0 ≤ b1 := Nat.le_trans (Old.le O0) (Nat.le_of_eq g1.symm)
 have F_value_b1 : Fld Z h1 b1 "java/lang/String" "value" "[B" .null := D1 (Or.inr (own_w12 hw)) (ty := (.array .byte)) (by decide)
 have F_coder_b1 : Fld Z h1 b1 "java/lang/String" "coder" "B" (.int (0 : Int32)) := D1 (Or.inr (own_w13 hw)) (ty := .byte) (by decide)
 have O1 := O0.ext E1
 have K1 : Keep h0 h1 ([] : List Addr) := Keep.ext (Keep.refl h0 ([] : List Addr)) E1
 refine Home.run X1 hx hby sg16_3_2 (pc' := 5) (L' := #[.val (.ref o0)]) (S' := [(.ref o0), (.ref b1), (.ref b1)]) rfl ?_
 refine Home.call (own_special X1 hx hZ hown rfl (own_w111 hw) (own_w112 hw) (own_w9 hw) (own_w114 hw) (by decide) (rm17_0 l Z a0 hw [] b1 o0 p2 sv_COMPACT_STRINGS k_p2 l_1 h1 n0 O1 (E_o0.keep K1) (F_value_o0.keep K1 nin0) S_COMPACT_STRINGS (F_coder_o0.keep K1 nin0) A1 F_coder_b1 (V_p2.keep K1 nin0) F_value_b1 (F_count_o0.keep K1 nin0) g_b1 (Nat.le_trans (own_len_le sh_l_1).2 (by decide)) hCS) e1 rfl (by rw [hml]; rfl) (a := b1) (argsL := [(.ref o0)]) (rest := [(.ref b1)]) (lenOf own_pd26 rfl) rfl rfl (W := 1) (by exact hW0) (by decide) (by decide) (hb hby d16_5) (by decide) (by decide)) ?_
 rintro _ T2 L2 X2 ⟨b2_2_8_1_2, k2_2_8_1_2, rfl, N2q, sz_b2_2_8_1_2, K2q, P2_0, P2_1, P2_2, P2_3⟩
 have g_b2_2_8_1_2 : n0 ≤ b2_2_8_1_2 := Nat.le_trans (Old.le O1) sz_b2_2_8_1_2
 have O2 := Old.keep O1 K2q (allS g_b1 all0)
 have K2 : Keep h0 T2.heap ([] : List Addr) := Keep.trans K1 K2q (allS (Or.inr (Nat.le_trans (Nat.le_refl _) (Nat.le_of_eq g1.symm))) all0)
 have N2 := Fr.app N0 N2q
 show Home T2 (mkF m 8 #[.val (.ref o0)] [(.ref b1)])
 exact Home.retR X2 hx hlk hret rfl rfl (hb hby d16_8) ⟨b1, b2_2_8_1_2, k2_2_8_1_2, rfl, N2, (Nat.le_trans (Nat.le_refl _) (Nat.le_of_eq g1.symm)), (Nat.le_trans E1.1 sz_b2_2_8_1_2), K2, P2_0, P2_2, P2_1, P2_3⟩ (by decide) (by decide)
theorem rm5_0 (l : Launch) (Z : State) (a0 : Array Value) (hw : HW a0 Z) (ws : List Jvm.Cond) (o0 : Addr) (sv_COMPACT_STRINGS : Int32) (p2 p4 : Addr) (k_p4 : ClassId) (l_1 : List Int32) (p3 p5 : Addr) (k_p5 : ClassId) (l_2 : List Int32) (h0 : Heap) (n0 : Nat) (O0 : Old Z n0 h0) (S_COMPACT_STRINGS : Sta Z Z.heap "java/lang/String" "COMPACT_STRINGS" "Z" (.int sv_COMPACT_STRINGS)) (hCS : ¬ (sv_COMPACT_STRINGS = (0 : Int32))) (F_where_o0 : Fld Z h0 o0 "com/example/wary_meter/warymeter/Refusal" "where" "Ljava/lang/String;" (.ref p2)) (E_p2 : Exa Z h0 p2 "java/lang/String") (F_value_p2 : Fld Z h0 p2 "java/lang/String" "value" "[B" (.ref p4)) (V_p4 : Arv Z h0 p4 k_p4 .byte (own_n l_1) (List.map Value.int l_1) (.int (0 : Int32))) (F_coder_p2 : Fld Z h0 p2 "java/lang/String" "coder" "B" (.int (0 : Int32))) (sh_l_1 : l_1.length ≤ 3) (F_problem_o0 : Fld Z h0 o0 "com/example/wary_meter/warymeter/Refusal" "problem" "Ljava/lang/String;" (.ref p3)) (E_p3 : Exa Z h0 p3 "java/lang/String") (F_value_p3 : Fld Z h0 p3 "java/lang/String" "value" "[B" (.ref p5)) (V_p5 : Arv Z h0 p5 k_p5 .byte (own_n l_2) (List.map Value.int l_2) (.int (0 : Int32))) (F_coder_p3 : Fld Z h0 p3 "java/lang/String" "coder" "B" (.int (0 : Int32))) (sh_l_2 : l_2.length ≤ 3) :
    ConW l Z own_EL ([] : List Addr) true (⟨"com/example/wary_meter/warymeter/Refusal", "message", "()Ljava/lang/String;"⟩ : MethodName) prog_10_method_2_code 1 (some (.object "java/lang/String")) ws ({ frames := 6, cells := 6, slots := 44, locals := 91 } : Room) #[(.ref o0)] h0 (fun v h L => ∃ (b1_14 : Addr), ∃ (b2_2_8_1_2_14 : Addr), ∃ (k2_2_8_1_2_14 : ClassId), v = some (.ref b1_14) ∧ Fr n0 L ∧ h0.size ≤ b1_14 ∧ h0.size ≤ b2_2_8_1_2_14 ∧ Keep h0 h [] ∧ Exa Z h b1_14 "java/lang/String" ∧ Fld Z h b1_14 "java/lang/String" "value" "[B" (.ref b2_2_8_1_2_14) ∧ Fld Z h b1_14 "java/lang/String" "coder" "B" (.int (0 : Int32)) ∧ Arv Z h b2_2_8_1_2_14 k2_2_8_1_2_14 .byte (own_n ((([] ++ l_1) ++ [(58 : Int32), (32 : Int32)]) ++ l_2)) (List.map Value.int ((([] ++ l_1) ++ [(58 : Int32), (32 : Int32)]) ++ l_2)) (.int (0 : Int32))) := by
 refine own_bodyW (plainFor_of_name own_pn5) (fun m => ef_rm5_0 m o0) ?_
 intro p e s m below meth c s₁ hx hby hlk hml hret hZ hown hnm X0 e0 Cd0
 have N0 := Fr.nil n0
 refine Home.nw (own_newO X0 hx hZ hown (own_w36 hw) (own_w37 hw) (own_w38 hw) e0 rfl (hb hby d5_0) (by decide) (by decide)) fun T1 h1 b1 g1 X1 e1 E1 A1 D1 => ?_
 have g_b1 : n0 ≤ b1 := Nat.le_trans (Old.le O0) (Nat.le_of_eq g1.symm)
 have F_value_b1 : Fld Z h1 b1 "java/lang/AbstractStringBuilder" "value" "[B" .null := D1 (Or.inl (own_w51 hw)) (ty := (.array .byte)) (by decide)
 have F_coder_b1 : Fld Z h1 b1 "java/lang/AbstractStringBuilder" "coder" "B" (.int (0 : Int32)) := D1 (Or.inl (own_w53 hw)) (ty := .byte) (by decide)
 have F_count_b1 : Fld Z h1 b1 "java/lang/AbstractStringBuilder" "count" "I" (.int (0 : Int32)) := D1 (Or.inl (own_w78 hw)) (ty := .int) (by decide)
 have O1 := O0.ext E1
 have K1 : Keep h0 h1 ([] : List Addr) := Keep.ext (Keep.refl h0 ([] : List Addr)) E1
 have Cd1 := Cold.ext Cd0 E1
 show Home T1 (mkF m 3 #[.val (.ref o0)] [(.ref b1)])
 refine Home.run X1 hx hby sg5_3_1 (pc' := 4) (L' := #[.val (.ref o0)]) (S' := [(.ref b1), (.ref b1)]) rfl ?_
 refine Home.call (own_special X1 hx hZ hown rfl (own_w39 hw) (own_w40 hw) (own_w38 hw) (own_w41 hw) (by decide) (rm6_0 l Z a0 hw [] b1 sv_COMPACT_STRINGS h1 n0 O1 S_COMPACT_STRINGS A1 F_value_b1 F_coder_b1 F_count_b1 g_b1 hCS) e1 rfl (by rw [hml]; rfl) (a := b1) (argsL := []) (rest := [(.ref b1)]) (lenOf own_pd10 rfl) rfl rfl (W := 1) (by exact hW0) (by decide) (by decide) (hb hby d5_4) (by decide) (by decide)) ?_
 rintro _ T2 L2 X2 ⟨b3_1_2, k3_1_2, rfl, N2q, sz_b3_1_2, K2q, P2_0, P2_1, P2_2, P2_3, P2_4⟩
 have Cd2 := Cold.keep Cd1 K2q (allS (Safe.exa hZ.alike A1 (by decide) (by decide)) all0)
 have Cd2b3_1_2 := Cold.put Cd2 ⟨Safe.keep K2q (allS (Safe.exa hZ.alike A1 (by decide) (by decide)) all0) Cd1.2.1.1 (Safe.new sz_b3_1_2), P2_4.lt⟩
 have g_b3_1_2 : n0 ≤ b3_1_2 := Nat.le_trans (Old.le O1) sz_b3_1_2
 have O2 := Old.keep O1 K2q (allS g_b1 all0)
 have K2 : Keep h0 T2.heap ([] : List Addr) := Keep.trans K1 K2q (allS (Or.inr (Nat.le_trans (Nat.le_refl _) (Nat.le_of_eq g1.symm))) all0)
 have N2 := Fr.app N0 N2q
 show Home T2 (mkF m 7 #[.val (.ref o0)] [(.ref b1)])
 refine Home.run X2 hx hby sg5_7_1 (pc' := 8) (L' := #[.val (.ref o0)]) (S' := [(.ref o0), (.ref b1)]) rfl ?_
 refine Home.st (getF X2 hx hZ hown (host := "") (Or.inl (own_w27 hw)) Via.refl rfl (F_where_o0.keep K2 nin0) rfl rfl (hb hby d5_8)) fun T3 X3 e3 => ?_
 refine Home.call (own_virtual X3 hx hZ hown (own_w54 hw) (own_w55 hw) (notFace_of_selects (args := #[]) (mvT hZ (own_w57 hw))) (own_w57 hw) (own_w56 hw) (own_w38 hw) (own_w58 hw) (by decide) (rm8_0 l Z a0 hw [] b1 p2 p4 k_p4 l_1 sv_COMPACT_STRINGS b3_1_2 k3_1_2 [] T2.heap n0 O2 P2_0 (E_p2.keep K2) (F_value_p2.keep K2 nin0) (V_p4.keep K2 nin0) S_COMPACT_STRINGS (F_coder_p2.keep K2 nin0) P2_1 P2_4 P2_2 P2_3 g_b3_1_2 g_b1 hCS (Nat.le_trans (own_len_le sh_l_1).2 (by decide)) (Nat.le_trans (own_len_lit (l := []) (n := 0) rfl).2 (by decide))) e3 P2_0 rfl (by rw [hml]; rfl) (argsL := [(.ref p2)]) (rest := []) (lenOf own_pd19 rfl) rfl rfl (W := 0) (by exact hW0) (by decide) (by decide) (hb hby d5_11) (by decide) (by decide)) ?_
 rintro _ T4 L4 X4 ⟨rfl, N4q, K4q, P4_0, P4_1, P4_2, P4_3, P4_4⟩
 have Cd4 := Cold.keep Cd2b3_1_2 K4q (allS (Safe.exa hZ.alike P2_0 (by decide) (by decide)) (allS (Cold.safe Cd2b3_1_2 (List.mem_of_getElem? (i := 0) rfl)) all0))
 have O4 := Old.keep O2 K4q (allS g_b1 (allS g_b3_1_2 all0))
 have K4 : Keep h0 T4.heap ([] : List Addr) := Keep.trans K2 K4q (allS (Or.inr (Nat.le_trans (Nat.le_refl _) (Nat.le_of_eq g1.symm))) (allS (Or.inr (Nat.le_trans E1.1 sz_b3_1_2)) all0))
 have N4 := Fr.app N2 N4q
 show Home T4 (mkF m 14 #[.val (.ref o0)] [(.ref b1)])
 obtain ⟨ad5, b5, k5, T5, h5, X5, e5, E5, hZ, hown, Cd5, Ea5, Fc5, Fv5, V5, la5, lb5, hne5, st5⟩ := own_ldcW X4 hx hZ hown (own_hEL hw) Cd4 (own_w104 hw) (own_wS hw) rfl (List.mem_of_getElem? (i := 0) rfl) (vs := [(.int (58 : Int32)), (.int (32 : Int32))]) (z := (2 : Int32)) ⟨by decide, by rfl⟩ (by decide) (by decide) (g := (mkF m 14 #[.val (.ref o0)] [(.ref b1)])) rfl (hb hby d5_14) (n := 8) (by decide) (by decide) (by decide) (by decide)
 refine Home.go st5 ?_
 have O5 := O4.ext E5
 have K5 : Keep h0 h5 ([] : List Addr) := Keep.ext K4 E5
 have q6 := (P4_0.ext E5)
 have q7 := (P4_1.ext E5)
 have q8 := (P4_4.ext E5)
 have q9 := (P4_2.ext E5)
 have q10 := (P4_3.ext E5)
 refine Home.call (own_virtual X5 hx hZ hown (own_w54 hw) (own_w55 hw) (notFace_of_selects (args := #[]) (mvT hZ (own_w57 hw))) (own_w57 hw) (own_w56 hw) (own_w38 hw) (own_w58 hw) (by decide) (rm8_0 l Z a0 hw [] b1 ad5 b5 k5 [(58 : Int32), (32 : Int32)] sv_COMPACT_STRINGS b3_1_2 k3_1_2 ([] ++ l_1) h5 n0 O5 q6 Ea5 Fv5 V5 S_COMPACT_STRINGS Fc5 q7 q8 q9 q10 g_b3_1_2 g_b1 hCS (Nat.le_trans (own_len_lit (l := [(58 : Int32), (32 : Int32)]) (n := 2) rfl).2 (by decide)) (Nat.le_trans (own_len_app (own_len_lit (l := []) (n := 0) rfl) (own_len_le sh_l_1)).2 (by decide))) e5 q6 rfl (by rw [hml]; rfl) (argsL := [(.ref ad5)]) (rest := []) (lenOf own_pd19 rfl) rfl rfl (W := 0) (by exact hW0) (by decide) (by decide) (hb hby d5_16) (by decide) (by decide)) ?_
 rintro _ T11 L11 X11 ⟨rfl, N11q, K11q, P11_0, P11_1, P11_2, P11_3, P11_4⟩
 have Cd11 := Cold.keep Cd5 K11q (allS (Safe.exa hZ.alike q6 (by decide) (by decide)) (allS (Cold.safe Cd5 (List.mem_of_getElem? (i := 0) rfl)) all0))
 have O11 := Old.keep O5 K11q (allS g_b1 (allS g_b3_1_2 all0))
 have K11 : Keep h0 T11.heap ([] : List Addr) := Keep.trans K5 K11q (allS (Or.inr (Nat.le_trans (Nat.le_refl _) (Nat.le_of_eq g1.symm))) (allS (Or.inr (Nat.le_trans E1.1 sz_b3_1_2)) all0))
 have N11 := Fr.app N4 N11q
 show Home T11 (mkF m 19 #[.val (.ref o0)] [(.ref b1)])
 refine Home.run X11 hx hby sg5_19_1 (pc' := 20) (L' := #[.val (.ref o0)]) (S' := [(.ref o0), (.ref b1)]) rfl ?_
 refine Home.st (getF X11 hx hZ hown (host := "") (Or.inl (own_w29 hw)) Via.refl rfl (F_problem_o0.keep K11 nin0) rfl rfl (hb hby d5_20)) fun T12 X12 e12 => ?_
 refine Home.call (own_virtual X12 hx hZ hown (own_w54 hw) (own_w55 hw) (notFace_of_selects (args := #[]) (mvT hZ (own_w57 hw))) (own_w57 hw) (own_w56 hw) (own_w38 hw) (own_w58 hw) (by decide) (rm8_1 l Z a0 hw [] b1 p3 p5 k_p5 l_2 sv_COMPACT_STRINGS b3_1_2 k3_1_2 (([] ++ l_1) ++ [(58 : Int32), (32 : Int32)]) T11.heap n0 O11 P11_0 (E_p3.keep K11) (F_value_p3.keep K11 nin0) (V_p5.keep K11 nin0) S_COMPACT_STRINGS (F_coder_p3.keep K11 nin0) P11_1 P11_4 P11_2 P11_3 g_b3_1_2 g_b1 hCS (Nat.le_trans (own_len_le sh_l_2).2 (by decide)) (Nat.le_trans (own_len_app (own_len_app (own_len_lit (l := []) (n := 0) rfl) (own_len_le sh_l_1)) (own_len_lit (l := [(58 : Int32), (32 : Int32)]) (n := 2) rfl)).2 (by decide))) e12 P11_0 rfl (by rw [hml]; rfl) (argsL := [(.ref p3)]) (rest := []) (lenOf own_pd19 rfl) rfl rfl (W := 0) (by exact hW0) (by decide) (by decide) (hb hby d5_23) (by decide) (by decide)) ?_
 rintro _ T13 L13 X13 ⟨rfl, N13q, K13q, P13_0, P13_1, P13_2, P13_3, P13_4⟩
 have Cd13 := Cold.keep Cd11 K13q (allS (Safe.exa hZ.alike P11_0 (by decide) (by decide)) (allS (Cold.safe Cd11 (List.mem_of_getElem? (i := 0) rfl)) all0))
 have O13 := Old.keep O11 K13q (allS g_b1 (allS g_b3_1_2 all0))
 have K13 : Keep h0 T13.heap ([] : List Addr) := Keep.trans K11 K13q (allS (Or.inr (Nat.le_trans (Nat.le_refl _) (Nat.le_of_eq g1.symm))) (allS (Or.inr (Nat.le_trans E1.1 sz_b3_1_2)) all0))
 have N13 := Fr.app N11 N13q
 show Home T13 (mkF m 26 #[.val (.ref o0)] [(.ref b1)])
 refine Home.call (own_virtual X13 hx hZ hown (own_w105 hw) (own_w106 hw) (notFace_of_selects (args := #[]) (mvT hZ (own_w108 hw))) (own_w108 hw) (own_w107 hw) (own_w38 hw) (own_w109 hw) (by decide) (rm16_0 l Z a0 hw [] b1 b3_1_2 sv_COMPACT_STRINGS k3_1_2 ((([] ++ l_1) ++ [(58 : Int32), (32 : Int32)]) ++ l_2) T13.heap n0 O13 P13_0 P13_1 S_COMPACT_STRINGS P13_2 P13_4 P13_3 (Nat.le_trans (own_len_app (own_len_app (own_len_app (own_len_lit (l := []) (n := 0) rfl) (own_len_le sh_l_1)) (own_len_lit (l := [(58 : Int32), (32 : Int32)]) (n := 2) rfl)) (own_len_le sh_l_2)).2 (by decide)) hCS) rfl P13_0 rfl (by rw [hml]; rfl) (argsL := []) (rest := []) (lenOf own_pd27 rfl) rfl rfl (W := 0) (by exact hW0) (by decide) (by decide) (hb hby d5_26) (by decide) (by decide)) ?_
 rintro _ T14 L14 X14 ⟨b1_14, b2_2_8_1_2_14, k2_2_8_1_2_14, rfl, N14q, sz_b1_14, sz_b2_2_8_1_2_14, K14q, P14_0, P14_1, P14_2, P14_3⟩
 have Cd14 := Cold.keep Cd13 K14q all0
 have Cd14b1_14 := Cold.put Cd14 ⟨Safe.keep K14q all0 Cd13.2.1.1 (Safe.new sz_b1_14), P14_0.lt⟩
 have Cd14b2_2_8_1_2_14 := Cold.put Cd14b1_14 ⟨Safe.keep K14q all0 Cd13.2.1.1 (Safe.new sz_b2_2_8_1_2_14), P14_3.lt⟩
 have g_b1_14 : n0 ≤ b1_14 := Nat.le_trans (Old.le O13) sz_b1_14
 have g_b2_2_8_1_2_14 : n0 ≤ b2_2_8_1_2_14 := Nat.le_trans (Old.le O13) sz_b2_2_8_1_2_14
 have O14 := Old.keep O13 K14q all0
 have K14 : Keep h0 T14.heap ([] : List Addr) := Keep.trans K13 K14q all0
 have N14 := Fr.app N13 N14q
 show Home T14 (mkF m 29 #[.val (.ref o0)] [(.ref b1_14)])
 have le15 : h0.size ≤ T2.heap.size := Nat.le_trans E1.1 K2q.1
 have le16 : h0.size ≤ T4.heap.size := Nat.le_trans le15 K4q.1
 have le17 : h0.size ≤ h5.size := Nat.le_trans le16 E5.1
 have le18 : h0.size ≤ T11.heap.size := Nat.le_trans le17 K11q.1
 have le19 : h0.size ≤ T13.heap.size := Nat.le_trans le18 K13q.1
 exact HomeW.retR X14 hx hlk hZ (own_hEL hw) rfl Cd14b2_2_8_1_2_14 (fun _ _ q => by cases q; exact (List.mem_of_getElem? (i := 1) rfl)) hret rfl rfl (hb hby d5_29) ⟨b1_14, b2_2_8_1_2_14, k2_2_8_1_2_14, rfl, N14, (Nat.le_trans le19 sz_b1_14), (Nat.le_trans le19 sz_b2_2_8_1_2_14), K14, P14_0, P14_1, P14_2, P14_3⟩ (by decide) (by decide)
theorem rm10_1 (l : Launch) (Z : State) (a0 : Array Value) (hw : HW a0 Z) (ws : List Jvm.Cond) (o0 p2 : Addr) (k_p2 : ClassId) (l_1 : List Int32) (sv_COMPACT_STRINGS : Int32) (h0 : Heap) (n0 : Nat) (O0 : Old Z n0 h0) (F_value_o0 : Fld Z h0 o0 "java/lang/String" "value" "[B" (.ref p2)) (V_p2 : Arv Z h0 p2 k_p2 .byte (own_n l_1) (List.map Value.int l_1) (.int (0 : Int32))) (E_o0 : Exa Z h0 o0 "java/lang/String") (S_COMPACT_STRINGS : Sta Z Z.heap "java/lang/String" "COMPACT_STRINGS" "Z" (.int sv_COMPACT_STRINGS)) (F_coder_o0 : Fld Z h0 o0 "java/lang/String" "coder" "B" (.int (0 : Int32))) (hCS : ¬ (sv_COMPACT_STRINGS = (0 : Int32))) (sh_l_1 : l_1.length ≤ 5) :
    Con l Z (⟨"java/lang/String", "length", "()I"⟩ : MethodName) jdk_42_method_54_code 1 (some .int) ws ({ frames := 1, cells := 0, slots := 0, locals := 13 } : Room) #[(.ref o0)] h0 (Pur (some (.int (own_n l_1))) h0) := by
 refine own_body (plainFor_of_name own_pn2) (fun m => ef_rm10_1 m o0) ?_
 intro p e s m below meth c s₁ hx hby hlk hml hret hZ hown hnm X0 e0
 have N0 := Fr.nil n0
 refine Home.run X0 hx hby sg10_0_1 (pc' := 1) (L' := #[.val (.ref o0)]) (S' := [(.ref o0)]) rfl ?_
 refine Home.st (getF X0 hx hZ hown (host := "") (Or.inl (own_w69 hw)) Via.refl e0 F_value_o0 rfl rfl (hb hby d10_1)) fun T1 X1 e1 => ?_
 obtain ⟨cl2, Ar2, q2, S2, M2, H2, G2⟩ := id V_p2
 refine Home.go (own_alen X1 hx hZ e1 Ar2 S2 M2 rfl rfl (hb hby d10_4)) ?_
 refine Home.run X1 hx hby sg10_5_1 (pc' := 6) (L' := #[.val (.ref o0)]) (S' := [(.ref o0), (.int (own_n l_1))]) rfl ?_
 refine Home.st (own_pure (own_virtual X1 hx hZ hown (own_w70 hw) (own_w71 hw) (notFace_of_selects (args := #[]) (mvT hZ (own_w73 hw))) (own_w73 hw) (own_w72 hw) (own_w9 hw) (own_w74 hw) (by decide) (rm11_0 l Z a0 hw [] o0 sv_COMPACT_STRINGS h0 n0 O0 S_COMPACT_STRINGS hCS F_coder_o0) e1 E_o0 rfl (by rw [hml]; rfl) (argsL := []) (rest := [(.int (own_n l_1))]) (lenOf own_pd13 rfl) rfl rfl (W := 1) (by exact hW0) (by decide) (by decide) (hb hby d10_6) (by decide) (by decide))) fun T3 X3 e3 => ?_
 refine Home.run X3 hx hby sg10_9_1 (pc' := 10) (L' := #[.val (.ref o0)]) (S' := [(.int ((own_n l_1) >>> ((0 : Int32) &&& 31)))]) rfl ?_
 rw [own_shr0]
 exact Home.retI X3 hx hlk hret (hb hby d10_10) ⟨rfl, rfl, e3⟩ (by decide) (by decide)
theorem rm29_0 (l : Launch) (Z : State) (a0 : Array Value) (hw : HW a0 Z) (ws : List Jvm.Cond) (o0 : Addr) (sv_COMPACT_STRINGS : Int32) (h0 : Heap) (n0 : Nat) (O0 : Old Z n0 h0) (S_COMPACT_STRINGS : Sta Z Z.heap "java/lang/String" "COMPACT_STRINGS" "Z" (.int sv_COMPACT_STRINGS)) (hCS : ¬ (sv_COMPACT_STRINGS = (0 : Int32))) (F_coder_o0 : Fld Z h0 o0 "java/lang/String" "coder" "B" (.int (0 : Int32))) :
    Con l Z (⟨"java/lang/String", "isLatin1", "()Z"⟩ : MethodName) jdk_42_method_154_code 1 (some .boolean) ws ({ frames := 0, cells := 0, slots := 0, locals := 0 } : Room) #[(.ref o0)] h0 (Pur (some (.int (1 : Int32))) h0) := by
 refine own_body (plainFor_of_name own_pn2) (fun m => ef_rm29_0 m o0) ?_
 intro p e s m below meth c s₁ hx hby hlk hml hret hZ hown hnm X0 e0
 have N0 := Fr.nil n0
 refine Home.st (getS2 X0 hx hZ hown (host := "") (Or.inl (own_w75 hw)) Via.refl e0 (S_COMPACT_STRINGS.ext O0.2) rfl (hb hby d29_0)) fun T1 X1 e1 => ?_
 refine Home.go (fun _ => XS.ifNo X1.here hx rfl (hb hby d29_3) rfl ((if0 _ _).trans (feq hCS).1)) ?_
 refine Home.run X1 hx hby sg29_6_1 (pc' := 7) (L' := #[.val (.ref o0)]) (S' := [(.ref o0)]) rfl ?_
 refine Home.st (getF X1 hx hZ hown (host := "") (Or.inl (own_w76 hw)) Via.refl e1 F_coder_o0 rfl rfl (hb hby d29_7)) fun T2 X2 e2 => ?_
 refine Home.go (fun _ => XS.ifNo X2.here hx rfl (hb hby d29_10) rfl ((if0 _ _).trans (teq (by decide)).2)) ?_
 refine Home.run X2 hx hby sg29_13_2 (pc' := 18) (L' := #[.val (.ref o0)]) (S' := [(.int (1 : Int32))]) rfl ?_
 exact Home.retN X2 hx hlk (t := .boolean) hret (by simp) (hb hby d29_18) ⟨congrArg some (congrArg Value.int (by first | rfl | exact nar_i2c _ | exact nar_i2b _)), rfl, e2⟩ (by decide) (by decide)
theorem rm32_0 (l : Launch) (Z : State) (a0 : Array Value) (hw : HW a0 Z) (ws : List Jvm.Cond) (i0 : Int32) (o2 : Value) (l_1 : List Int32) (h0 : Heap) (n0 : Nat) (O0 : Old Z n0 h0) (bnd_i0 : ¬ i0 < (0 : Int32) ∧ ¬ (4 : Int32) < i0) (pt0 : i0 < (own_n l_1)) (sh_l_1 : l_1.length ≤ 5) (isr_o2 : o2.isRef = true) :
    Con l Z (⟨"jdk/internal/util/Preconditions", "checkIndex", "(IILjava/util/function/BiFunction;)I"⟩ : MethodName) jdk_41_method_11_code 3 (some .int) ws ({ frames := 0, cells := 0, slots := 0, locals := 0 } : Room) #[(.int i0), (.int (own_n l_1)), o2] h0 (Pur (some (.int i0)) h0) := by
 refine own_body (plainFor_of_name own_pn9) (fun m => ef_rm32_0 m i0 (own_n l_1) o2 (isr_o2)) ?_
 intro p e s m below meth c s₁ hx hby hlk hml hret hZ hown hnm X0 e0
 have N0 := Fr.nil n0
 refine Home.run X0 hx hby sg32_0_1 (pc' := 1) (L' := #[.val (.int i0), .val (.int (own_n l_1)), .val o2]) (S' := [(.int i0)]) rfl ?_
 refine Home.go (fun _ => XS.ifNo X0.here hx rfl (hb hby d32_1) rfl ((if0 _ _).trans (flt (bnd_nlt bnd_i0 (bnd_lit (0 : Int32)) (by decide +kernel))).1)) ?_
 refine Home.run X0 hx hby sg32_4_2 (pc' := 6) (L' := #[.val (.int i0), .val (.int (own_n l_1)), .val o2]) (S' := [(.int (own_n l_1)), (.int i0)]) rfl ?_
 refine Home.go (fun _ => XS.icmpYes X0.here hx rfl (pc0 := 6) (pc' := 16) rfl (hb hby d32_6) rfl (tlt pt0).1 (by decide) (by decide)) ?_
 refine Home.run X0 hx hby sg32_16_1 (pc' := 17) (L' := #[.val (.int i0), .val (.int (own_n l_1)), .val o2]) (S' := [(.int i0)]) rfl ?_
 exact Home.retI X0 hx hlk hret (hb hby d32_17) ⟨rfl, rfl, e0⟩ (by decide) (by decide)
theorem rm31_0 (l : Launch) (Z : State) (a0 : Array Value) (hw : HW a0 Z) (ws : List Jvm.Cond) (i0 : Int32) (l_1 : List Int32) (sv_SIOOBE_FORMATTER : Value) (h0 : Heap) (n0 : Nat) (O0 : Old Z n0 h0) (bnd_i0 : ¬ i0 < (0 : Int32) ∧ ¬ (4 : Int32) < i0) (pt0 : i0 < (own_n l_1)) (sh_l_1 : l_1.length ≤ 5) (S_SIOOBE_FORMATTER : Sta Z Z.heap "jdk/internal/util/Preconditions" "SIOOBE_FORMATTER" "Ljava/util/function/BiFunction;" sv_SIOOBE_FORMATTER) (isr_sv_SIOOBE_FORMATTER : sv_SIOOBE_FORMATTER.isRef = true) :
    Con l Z (⟨"java/lang/String", "checkIndex", "(II)V"⟩ : MethodName) jdk_42_method_155_code 2 none ws ({ frames := 1, cells := 0, slots := 0, locals := 14 } : Room) #[(.int i0), (.int (own_n l_1))] h0 (Pur none h0) := by
 refine own_body (plainFor_of_name own_pn2) (fun m => ef_rm31_0 m i0 (own_n l_1)) ?_
 intro p e s m below meth c s₁ hx hby hlk hml hret hZ hown hnm X0 e0
 have N0 := Fr.nil n0
 refine Home.run X0 hx hby sg31_0_2 (pc' := 2) (L' := #[.val (.int i0), .val (.int (own_n l_1))]) (S' := [(.int (own_n l_1)), (.int i0)]) rfl ?_
 refine Home.st (getS2 X0 hx hZ hown (host := "") (Or.inl (own_w173 hw)) Via.refl e0 (S_SIOOBE_FORMATTER.ext O0.2) rfl (hb hby d31_2)) fun T1 X1 e1 => ?_
 refine Home.st (own_pure (own_static X1 hx hZ hown (own_w175 hw) (own_w176 hw) (own_w174 hw) (own_w177 hw) (by decide) (rm32_0 l Z a0 hw [] i0 sv_SIOOBE_FORMATTER l_1 h0 n0 O0 bnd_i0 pt0 (Nat.le_trans (own_len_le sh_l_1).2 (by decide)) isr_sv_SIOOBE_FORMATTER) e1 rfl (by rw [hml]; rfl) (argsL := [(.int i0), (.int (own_n l_1)), sv_SIOOBE_FORMATTER]) (rest := []) (lenOf own_pd28 rfl) rfl rfl (W := 0) (by exact hW0) (by decide) (by decide) (hb hby d31_5) (by decide) (by decide))) fun T2 X2 e2 => ?_
 refine Home.run X2 hx hby sg31_8_1 (pc' := 9) (L' := #[.val (.int i0), .val (.int (own_n l_1))]) (S' := []) rfl ?_
 exact Home.ret0 X2 hx hlk hret (hb hby d31_9) ⟨rfl, rfl, e2⟩ (by decide) (by decide)
theorem rm30_0 (l : Launch) (Z : State) (a0 : Array Value) (hw : HW a0 Z) (ws : List Jvm.Cond) (o0 : Addr) (i1 : Int32) (k_o0 : ClassId) (l_1 : List Int32) (sv_SIOOBE_FORMATTER : Value) (h0 : Heap) (n0 : Nat) (O0 : Old Z n0 h0) (bnd_i1 : ¬ i1 < (0 : Int32) ∧ ¬ (4 : Int32) < i1) (pt0 : i1 < (own_n l_1)) (sh_l_1 : l_1.length ≤ 5) (V_o0 : Arv Z h0 o0 k_o0 .byte (own_n l_1) (List.map Value.int l_1) (.int (0 : Int32))) (S_SIOOBE_FORMATTER : Sta Z Z.heap "jdk/internal/util/Preconditions" "SIOOBE_FORMATTER" "Ljava/util/function/BiFunction;" sv_SIOOBE_FORMATTER) (isr_sv_SIOOBE_FORMATTER : sv_SIOOBE_FORMATTER.isRef = true) :
    Con l Z (⟨"java/lang/StringLatin1", "charAt", "([BI)C"⟩ : MethodName) jdk_43_method_2_code 2 (some .char) ws ({ frames := 2, cells := 0, slots := 0, locals := 27 } : Room) #[(.ref o0), (.int i1)] h0 (Pur (some (.int ((own_at l_1 i1) &&& (255 : Int32)))) h0) := by
 refine own_body (plainFor_of_name own_pn1) (fun m => ef_rm30_0 m o0 i1) ?_
 intro p e s m below meth c s₁ hx hby hlk hml hret hZ hown hnm X0 e0
 have N0 := Fr.nil n0
 refine Home.run X0 hx hby sg30_0_2 (pc' := 2) (L' := #[.val (.ref o0), .val (.int i1)]) (S' := [(.ref o0), (.int i1)]) rfl ?_
 obtain ⟨cl1, Ar1, q1, S1, M1, H1, G1⟩ := id V_o0
 refine Home.go (own_alen X0 hx hZ e0 Ar1 S1 M1 rfl rfl (hb hby d30_2)) ?_
 refine Home.st (own_pure (own_static X0 hx hZ hown (own_w170 hw) (own_w171 hw) (own_w9 hw) (own_w172 hw) (by decide) (rm31_0 l Z a0 hw [] i1 l_1 sv_SIOOBE_FORMATTER h0 n0 O0 bnd_i1 pt0 (Nat.le_trans (own_len_le sh_l_1).2 (by decide)) S_SIOOBE_FORMATTER isr_sv_SIOOBE_FORMATTER) e0 rfl (by rw [hml]; rfl) (argsL := [(.int i1), (.int (own_n l_1))]) (rest := []) (lenOf own_pd22 rfl) rfl rfl (W := 0) (by exact hW0) (by decide) (by decide) (hb hby d30_3) (by decide) (by decide))) fun T2 X2 e2 => ?_
 refine Home.run X2 hx hby sg30_6_2 (pc' := 8) (L' := #[.val (.ref o0), .val (.int i1)]) (S' := [(.int i1), (.ref o0)]) rfl ?_
 obtain ⟨cl3, Ar3, q3, S3, M3, H3, G3⟩ := id V_o0
 have ib3 : ¬ (i1 < 0 ∨ cl3.slots.size ≤ (i1).toNatClampNeg) := inb_of S3 ⟨(bnd_nlt bnd_i1 (bnd_lit (0 : Int32)) (by decide +kernel)), pt0⟩
 refine Home.go (X2.baloadBytes hx (j := i1) (v := .int (own_at l_1 i1)) (by rw [e2]; exact Ar3.1) (State.isArrayOf_alike hZ.alike Ar3.2.1) Ar3.2.2 ib3 (Has.at H3 ib3 (own_getD l_1 _)) rfl rfl (hb hby d30_8)) ?_
 show Home T2 (mkF m 9 #[.val (.ref o0), .val (.int i1)] [(.int (own_at l_1 i1))])
 refine Home.run X2 hx hby sg30_9_3 (pc' := 14) (L' := #[.val (.ref o0), .val (.int i1)]) (S' := [(.int (((own_at l_1 i1) &&& (255 : Int32)).toUInt32.toUInt16.toUInt32.toInt32))]) rfl ?_
 rw [i2c_id (bnd_and (own_at l_1 i1) (255 : Int32) (by decide)) (by decide +kernel) (by decide +kernel)]
 exact Home.retN X2 hx hlk (t := .char) hret (by simp) (hb hby d30_14) ⟨congrArg some (congrArg Value.int (by first | rfl | exact nar_i2c _ | exact nar_i2b _ | exact nar_char_id (bnd_and (own_at l_1 i1) (255 : Int32) (by decide)) (by decide +kernel) (by decide +kernel))), rfl, e2⟩ (by decide) (by decide)
theorem rm28_0 (l : Launch) (Z : State) (a0 : Array Value) (hw : HW a0 Z) (ws : List Jvm.Cond) (o0 : Addr) (i1 sv_COMPACT_STRINGS : Int32) (p2 : Addr) (k_p2 : ClassId) (l_1 : List Int32) (sv_SIOOBE_FORMATTER : Value) (h0 : Heap) (n0 : Nat) (O0 : Old Z n0 h0) (bnd_i1 : ¬ i1 < (0 : Int32) ∧ ¬ (4 : Int32) < i1) (pt0 : i1 < (own_n l_1)) (sh_l_1 : l_1.length ≤ 5) (E_o0 : Exa Z h0 o0 "java/lang/String") (S_COMPACT_STRINGS : Sta Z Z.heap "java/lang/String" "COMPACT_STRINGS" "Z" (.int sv_COMPACT_STRINGS)) (F_coder_o0 : Fld Z h0 o0 "java/lang/String" "coder" "B" (.int (0 : Int32))) (hCS : ¬ (sv_COMPACT_STRINGS = (0 : Int32))) (F_value_o0 : Fld Z h0 o0 "java/lang/String" "value" "[B" (.ref p2)) (V_p2 : Arv Z h0 p2 k_p2 .byte (own_n l_1) (List.map Value.int l_1) (.int (0 : Int32))) (S_SIOOBE_FORMATTER : Sta Z Z.heap "jdk/internal/util/Preconditions" "SIOOBE_FORMATTER" "Ljava/util/function/BiFunction;" sv_SIOOBE_FORMATTER) (isr_sv_SIOOBE_FORMATTER : sv_SIOOBE_FORMATTER.isRef = true) :
    Con l Z (⟨"java/lang/String", "charAt", "(I)C"⟩ : MethodName) jdk_42_method_56_code 2 (some .char) ws ({ frames := 3, cells := 0, slots := 0, locals := 40 } : Room) #[(.ref o0), (.int i1)] h0 (Pur (some (.int ((own_at l_1 i1) &&& (255 : Int32)))) h0) := by
 refine own_body (plainFor_of_name own_pn2) (fun m => ef_rm28_0 m o0 i1) ?_
 intro p e s m below meth c s₁ hx hby hlk hml hret hZ hown hnm X0 e0
 have N0 := Fr.nil n0
 refine Home.run X0 hx hby sg28_0_1 (pc' := 1) (L' := #[.val (.ref o0), .val (.int i1)]) (S' := [(.ref o0)]) rfl ?_
 refine Home.st (own_pure (own_virtual X0 hx hZ hown (own_w161 hw) (own_w162 hw) (notFace_of_selects (args := #[]) (mvT hZ (own_w164 hw))) (own_w164 hw) (own_w163 hw) (own_w9 hw) (own_w165 hw) (by decide) (rm29_0 l Z a0 hw [] o0 sv_COMPACT_STRINGS h0 n0 O0 S_COMPACT_STRINGS hCS F_coder_o0) e0 E_o0 rfl (by rw [hml]; rfl) (argsL := []) (rest := []) (lenOf own_pd21 rfl) rfl rfl (W := 0) (by exact hW0) (by decide) (by decide) (hb hby d28_1) (by decide) (by decide))) fun T1 X1 e1 => ?_
 refine Home.go (fun _ => XS.ifNo X1.here hx rfl (hb hby d28_4) rfl ((if0 _ _).trans (feq (by decide)).1)) ?_
 refine Home.run X1 hx hby sg28_7_1 (pc' := 8) (L' := #[.val (.ref o0), .val (.int i1)]) (S' := [(.ref o0)]) rfl ?_
 refine Home.st (getF X1 hx hZ hown (host := "") (Or.inl (own_w69 hw)) Via.refl e1 F_value_o0 rfl rfl (hb hby d28_8)) fun T2 X2 e2 => ?_
 refine Home.run X2 hx hby sg28_11_1 (pc' := 12) (L' := #[.val (.ref o0), .val (.int i1)]) (S' := [(.int i1), (.ref p2)]) rfl ?_
 refine Home.st (own_pure (own_static X2 hx hZ hown (own_w166 hw) (own_w167 hw) (own_w168 hw) (own_w169 hw) (by decide) (rm30_0 l Z a0 hw [] p2 i1 k_p2 l_1 sv_SIOOBE_FORMATTER h0 n0 O0 bnd_i1 pt0 (Nat.le_trans (own_len_le sh_l_1).2 (by decide)) V_p2 S_SIOOBE_FORMATTER isr_sv_SIOOBE_FORMATTER) e2 rfl (by rw [hml]; rfl) (argsL := [(.ref p2), (.int i1)]) (rest := []) (lenOf own_pd29 rfl) rfl rfl (W := 0) (by exact hW0) (by decide) (by decide) (hb hby d28_12) (by decide) (by decide))) fun T3 X3 e3 => ?_
 exact Home.retN X3 hx hlk (t := .char) hret (by simp) (hb hby d28_15) ⟨congrArg some (congrArg Value.int (by first | rfl | exact nar_i2c _ | exact nar_i2b _ | exact nar_char_id (bnd_and (own_at l_1 i1) (255 : Int32) (by decide)) (by decide +kernel) (by decide +kernel))), rfl, e3⟩ (by decide) (by decide)
theorem rm33_0 (l : Launch) (Z : State) (a0 : Array Value) (hw : HW a0 Z) (ws : List Jvm.Cond) (i0 : Int32) (o2 o3 : Addr) (k_o3 : ClassId) (u4 u5 u6 : Int32) (h0 : Heap) (n0 : Nat) (O0 : Old Z n0 h0) (bnd_i0 : ¬ i0 < (0 : Int32) ∧ ¬ (4 : Int32) < i0) (V_o3 : Arv Z h0 o3 k_o3 .char (3 : Int32) [(.int u4), (.int u5), (.int u6)] (.int (0 : Int32))) (bnd_u4 : ¬ u4 < (0 : Int32) ∧ ¬ (255 : Int32) < u4) (bnd_u5 : ¬ u5 < (0 : Int32) ∧ ¬ (255 : Int32) < u5) (bnd_u6 : ¬ u6 < (0 : Int32) ∧ ¬ (255 : Int32) < u6) :
    Con l Z (⟨"com/example/wary_meter/warymeter/RefusalMessagePinLaw", "exp", "(II[C[C)C"⟩ : MethodName) method_3_code 4 (some .char) ws ({ frames := 0, cells := 0, slots := 0, locals := 0 } : Room) #[(.int i0), (.int (0 : Int32)), (.ref o2), (.ref o3)] h0 (Pur (some (.int (f_rm33_0 i0 u4 u5 u6))) h0) := by
 refine own_body (plainFor_of_name own_pn0) (fun m => ef_rm33_0 m i0 (0 : Int32) o2 o3) ?_
 intro p e s m below meth c s₁ hx hby hlk hml hret hZ hown hnm X0 e0
 have N0 := Fr.nil n0
 refine Home.run X0 hx hby sg33_0_2 (pc' := 2) (L' := #[.val (.int i0), .val (.int (0 : Int32)), .val (.ref o2), .val (.ref o3)]) (S' := [(.int (0 : Int32)), (.int i0)]) rfl ?_
 refine Home.go (fun _ => XS.icmpYes X0.here hx rfl (pc0 := 2) (pc' := 9) rfl (hb hby d33_2) rfl (flt (bnd_nlt bnd_i0 (bnd_lit (0 : Int32)) (by decide +kernel))).2.1 (by decide) (by decide)) ?_
 refine Home.run X0 hx hby sg33_9_2 (pc' := 11) (L' := #[.val (.int i0), .val (.int (0 : Int32)), .val (.ref o2), .val (.ref o3)]) (S' := [(.int (0 : Int32)), (.int i0)]) rfl ?_
 by_cases c1 : i0 = (0 : Int32)
 ·
  refine Home.go (fun _ => XS.icmpNo X0.here hx rfl (hb hby d33_11) rfl (teq c1).2) ?_
  have bd2 : ¬ i0 < (0 : Int32) ∧ ¬ (0 : Int32) < i0 := ⟨(bnd_eql c1), (bnd_eqr c1)⟩
  refine Home.run X0 hx hby sg33_14_1 (pc' := 16) (L' := #[.val (.int i0), .val (.int (0 : Int32)), .val (.ref o2), .val (.ref o3)]) (S' := [(.int (58 : Int32))]) rfl ?_
  exact Home.retN X0 hx hlk (t := .char) hret (by simp) (hb hby d33_16) ⟨congrArg some (congrArg Value.int (by first | rfl | (simp only [f_rm33_0, if_pos c1, nar_i2c, nar_i2b] <;> rfl) | (simp [f_rm33_0, if_pos c1]; done))), rfl, e0⟩ (by decide) (by decide)
 ·
  refine Home.go (fun _ => XS.icmpYes X0.here hx rfl (pc0 := 11) (pc' := 17) rfl (hb hby d33_11) rfl (feq c1).2 (by decide) (by decide)) ?_
  have bd3 : ¬ i0 < (1 : Int32) ∧ ¬ (4 : Int32) < i0 := ⟨(bnd_nel bnd_i0.1 c1 (by decide +kernel)), bnd_i0.2⟩
  refine Home.run X0 hx hby sg33_17_4 (pc' := 21) (L' := #[.val (.int i0), .val (.int (0 : Int32)), .val (.ref o2), .val (.ref o3)]) (S' := [(.int (1 : Int32)), (.int i0)]) rfl ?_
  by_cases c4 : i0 = (1 : Int32)
  ·
   refine Home.go (fun _ => XS.icmpNo X0.here hx rfl (hb hby d33_21) rfl (teq c4).2) ?_
   have bd5 : ¬ i0 < (1 : Int32) ∧ ¬ (1 : Int32) < i0 := ⟨(bnd_eql c4), (bnd_eqr c4)⟩
   refine Home.run X0 hx hby sg33_24_1 (pc' := 26) (L' := #[.val (.int i0), .val (.int (0 : Int32)), .val (.ref o2), .val (.ref o3)]) (S' := [(.int (32 : Int32))]) rfl ?_
   exact Home.retN X0 hx hlk (t := .char) hret (by simp) (hb hby d33_26) ⟨congrArg some (congrArg Value.int (by first | rfl | (simp only [f_rm33_0, if_neg c1, if_pos c4, nar_i2c, nar_i2b] <;> rfl) | (simp [f_rm33_0, if_neg c1, if_pos c4]; done))), rfl, e0⟩ (by decide) (by decide)
  ·
   refine Home.go (fun _ => XS.icmpYes X0.here hx rfl (pc0 := 21) (pc' := 27) rfl (hb hby d33_21) rfl (feq c4).2 (by decide) (by decide)) ?_
   have bd6 : ¬ i0 < (2 : Int32) ∧ ¬ (4 : Int32) < i0 := ⟨(bnd_nel bd3.1 c4 (by decide +kernel)), bd3.2⟩
   refine Home.run X0 hx hby sg33_27_4 (pc' := 31) (L' := #[.val (.int i0), .val (.int (0 : Int32)), .val (.ref o2), .val (.ref o3)]) (S' := [(.int (i0 - (0 : Int32))), (.ref o3)]) rfl ?_
   rw [own_sub0]
   refine Home.run X0 hx hby sg33_31_2 (pc' := 33) (L' := #[.val (.int i0), .val (.int (0 : Int32)), .val (.ref o2), .val (.ref o3)]) (S' := [(.int (i0 - (2 : Int32))), (.ref o3)]) rfl ?_
   obtain ⟨cl7, Ar7, q7, S7, M7, H7, G7⟩ := id V_o3
   have ib7 : ¬ ((i0 - (2 : Int32)) < 0 ∨ cl7.slots.size ≤ ((i0 - (2 : Int32))).toNatClampNeg) := inb_of S7 ⟨(bnd_nlt (bnd_sub bd6 (bnd_lit (2 : Int32)) (lo := (0 : Int32)) (hi := (2 : Int32)) (by decide +kernel) (by decide +kernel) (by decide +kernel) (by decide +kernel)) (bnd_lit (0 : Int32)) (by decide +kernel)), (bnd_lt (bnd_sub bd6 (bnd_lit (2 : Int32)) (lo := (0 : Int32)) (hi := (2 : Int32)) (by decide +kernel) (by decide +kernel) (by decide +kernel) (by decide +kernel)) (bnd_lit (3 : Int32)) (by decide +kernel))⟩
   refine Home.go (X0.caload hx (j := (i0 - (2 : Int32))) (v := .int (own_at [u4, u5, u6] (i0 - (2 : Int32)))) (by rw [e0]; exact Ar7.1) (State.isArrayOf_alike hZ.alike Ar7.2.1) Ar7.2.2 ib7 (Has.at H7 ib7 (own_getD [u4, u5, u6] _)) rfl rfl (hb hby d33_33)) ?_
   exact Home.retN X0 hx hlk (t := .char) hret (by simp) (hb hby d33_34) ⟨congrArg some (congrArg Value.int (by first | rfl | (simp only [f_rm33_0, if_neg c1, if_neg c4, nar_i2c, nar_i2b] <;> rfl) | (simp [f_rm33_0, if_neg c1, if_neg c4]; done))), rfl, e0⟩ (by decide) (by decide)
theorem rm27_0 (l : Launch) (Z : State) (a0 : Array Value) (hw : HW a0 Z) (ws : List Jvm.Cond) (o0 : Addr) (i1 : Int32) (o3 o4 p4 : Addr) (k_p4 : ClassId) (l_7 : List Int32) (sv_COMPACT_STRINGS : Int32) (sv_SIOOBE_FORMATTER : Value) (k_o4 : ClassId) (u4 u5 u6 : Int32) (h0 : Heap) (n0 : Nat) (O0 : Old Z n0 h0) (bnd_i1 : ¬ i1 < (0 : Int32) ∧ ¬ (7 : Int32) < i1) (E_o0 : Exa Z h0 o0 "java/lang/String") (F_value_o0 : Fld Z h0 o0 "java/lang/String" "value" "[B" (.ref p4)) (V_p4 : Arv Z h0 p4 k_p4 .byte (own_n l_7) (List.map Value.int l_7) (.int (0 : Int32))) (S_COMPACT_STRINGS : Sta Z Z.heap "java/lang/String" "COMPACT_STRINGS" "Z" (.int sv_COMPACT_STRINGS)) (F_coder_o0 : Fld Z h0 o0 "java/lang/String" "coder" "B" (.int (0 : Int32))) (hCS : ¬ (sv_COMPACT_STRINGS = (0 : Int32))) (sh_l_7 : l_7.length ≤ 5) (S_SIOOBE_FORMATTER : Sta Z Z.heap "jdk/internal/util/Preconditions" "SIOOBE_FORMATTER" "Ljava/util/function/BiFunction;" sv_SIOOBE_FORMATTER) (isr_sv_SIOOBE_FORMATTER : sv_SIOOBE_FORMATTER.isRef = true) (V_o4 : Arv Z h0 o4 k_o4 .char (3 : Int32) [(.int u4), (.int u5), (.int u6)] (.int (0 : Int32))) (bnd_u4 : ¬ u4 < (0 : Int32) ∧ ¬ (255 : Int32) < u4) (bnd_u5 : ¬ u5 < (0 : Int32) ∧ ¬ (255 : Int32) < u5) (bnd_u6 : ¬ u6 < (0 : Int32) ∧ ¬ (255 : Int32) < u6) :
    Con l Z (⟨"com/example/wary_meter/warymeter/RefusalMessagePinLaw", "ok", "(Ljava/lang/String;II[C[C)Z"⟩ : MethodName) method_4_code 5 (some .boolean) ws ({ frames := 4, cells := 0, slots := 0, locals := 53 } : Room) #[(.ref o0), (.int i1), (.int (0 : Int32)), (.ref o3), (.ref o4)] h0 (Pur (some (.int (f_rm27_0 i1 l_7 u4 u5 u6))) h0) := by
 refine own_body (plainFor_of_name own_pn0) (fun m => ef_rm27_0 m o0 i1 (0 : Int32) o3 o4) ?_
 intro p e s m below meth c s₁ hx hby hlk hml hret hZ hown hnm X0 e0
 have N0 := Fr.nil n0
 refine Home.run X0 hx hby sg27_0_2 (pc' := 2) (L' := #[.val (.ref o0), .val (.int i1), .val (.int (0 : Int32)), .val (.ref o3), .val (.ref o4)]) (S' := [(.ref o0), (.int i1)]) rfl ?_
 refine Home.st (own_pure (own_virtual X0 hx hZ hown (own_w152 hw) (own_w65 hw) (notFace_of_selects (args := #[]) (mvT hZ (own_w67 hw))) (own_w67 hw) (own_w66 hw) (own_w9 hw) (own_w68 hw) (by decide) (rm10_1 l Z a0 hw [] o0 p4 k_p4 l_7 sv_COMPACT_STRINGS h0 n0 O0 F_value_o0 V_p4 E_o0 S_COMPACT_STRINGS F_coder_o0 hCS (Nat.le_trans (own_len_le sh_l_7).2 (by decide))) e0 E_o0 rfl (by rw [hml]; rfl) (argsL := []) (rest := [(.int i1)]) (lenOf own_pd14 rfl) rfl rfl (W := 1) (by exact hW0) (by decide) (by decide) (hb hby d27_2) (by decide) (by decide))) fun T1 X1 e1 => ?_
 by_cases c2 : i1 < (own_n l_7)
 ·
  refine Home.go (fun _ => XS.icmpYes X1.here hx rfl (pc0 := 5) (pc' := 10) rfl (hb hby d27_5) rfl (tlt c2).1 (by decide) (by decide)) ?_
  have bd3 : ¬ i1 < (0 : Int32) ∧ ¬ (4 : Int32) < i1 := ⟨bnd_i1.1, bnd_lt2 c2 (own_n_b (a := 0) (b := 5) (own_len_le (Nat.le_trans (own_len_le sh_l_7).2 (by decide))) (lo := (0 : Int32)) (hi := (5 : Int32)) (by decide) (by decide) (by decide)).2 (by decide +kernel)⟩
  refine Home.run X1 hx hby sg27_10_2 (pc' := 12) (L' := #[.val (.ref o0), .val (.int i1), .val (.int (0 : Int32)), .val (.ref o3), .val (.ref o4)]) (S' := [(.int i1), (.ref o0)]) rfl ?_
  refine Home.st (own_pure (own_virtual X1 hx hZ hown (own_w156 hw) (own_w157 hw) (notFace_of_selects (args := #[]) (mvT hZ (own_w159 hw))) (own_w159 hw) (own_w158 hw) (own_w9 hw) (own_w160 hw) (by decide) (rm28_0 l Z a0 hw [] o0 i1 sv_COMPACT_STRINGS p4 k_p4 l_7 sv_SIOOBE_FORMATTER h0 n0 O0 bd3 c2 (Nat.le_trans (own_len_le sh_l_7).2 (by decide)) E_o0 S_COMPACT_STRINGS F_coder_o0 hCS F_value_o0 V_p4 S_SIOOBE_FORMATTER isr_sv_SIOOBE_FORMATTER) e1 E_o0 rfl (by rw [hml]; rfl) (argsL := [(.int i1)]) (rest := []) (lenOf own_pd30 rfl) rfl rfl (W := 0) (by exact hW0) (by decide) (by decide) (hb hby d27_12) (by decide) (by decide))) fun T4 X4 e4 => ?_
  refine Home.run X4 hx hby sg27_15_4 (pc' := 20) (L' := #[.val (.ref o0), .val (.int i1), .val (.int (0 : Int32)), .val (.ref o3), .val (.ref o4)]) (S' := [(.ref o4), (.ref o3), (.int (0 : Int32)), (.int i1), (.int ((own_at l_7 i1) &&& (255 : Int32)))]) rfl ?_
  refine Home.st (own_pure (own_static X4 hx hZ hown (own_w178 hw) (own_w179 hw) (own_w6 hw) (own_w180 hw) (by decide) (rm33_0 l Z a0 hw [] i1 o3 o4 k_o4 u4 u5 u6 h0 n0 O0 bd3 V_o4 bnd_u4 bnd_u5 bnd_u6) e4 rfl (by rw [hml]; rfl) (argsL := [(.int i1), (.int (0 : Int32)), (.ref o3), (.ref o4)]) (rest := [(.int ((own_at l_7 i1) &&& (255 : Int32)))]) (lenOf own_pd31 rfl) rfl rfl (W := 1) (by exact hW0) (by decide) (by decide) (hb hby d27_20) (by decide) (by decide))) fun T5 X5 e5 => ?_
  show Home T5 (mkF m 23 #[.val (.ref o0), .val (.int i1), .val (.int (0 : Int32)), .val (.ref o3), .val (.ref o4)] [(.int (f_rm33_0 i1 u4 u5 u6)), (.int ((own_at l_7 i1) &&& (255 : Int32)))])
  obtain ⟨r6, hr6⟩ : ∃ z, z = (f_rm33_0 i1 u4 u5 u6) := ⟨_, rfl⟩
  rw [← hr6]
  suffices J8 : ∀ {T : State} (X : Stand p l e ({ frames := 4, cells := 0, slots := 0, locals := 53 } : Room) s m #[(.ref o0), (.int i1), (.int (0 : Int32)), (.ref o3), (.ref o4)] below meth c T [] 0 0) (eT : T.heap = h0) (v9 : Int32) (hv9 : v9 = (if ((own_at l_7 i1) &&& (255 : Int32)) = r6 then (1 : Int32) else (0 : Int32))), @Home p e below _ T (mkF m 31 #[.val (.ref o0), .val (.int i1), .val (.int (0 : Int32)), .val (.ref o3), .val (.ref o4)] [(.int v9)]) by
   by_cases c7 : ((own_at l_7 i1) &&& (255 : Int32)) = r6
   ·
    refine Home.go (fun _ => XS.icmpNo X5.here hx rfl (hb hby d27_23) rfl (teq c7).2) ?_
    refine Home.run X5 hx hby sg27_26_2 (pc' := 31) (L' := #[.val (.ref o0), .val (.int i1), .val (.int (0 : Int32)), .val (.ref o3), .val (.ref o4)]) (S' := [(.int (1 : Int32))]) rfl ?_
    exact J8 X5 e5 _ (by simp only [if_pos c7])
   ·
    refine Home.go (fun _ => XS.icmpYes X5.here hx rfl (pc0 := 23) (pc' := 30) rfl (hb hby d27_23) rfl (feq c7).2 (by decide) (by decide)) ?_
    refine Home.run X5 hx hby sg27_30_1 (pc' := 31) (L' := #[.val (.ref o0), .val (.int i1), .val (.int (0 : Int32)), .val (.ref o3), .val (.ref o4)]) (S' := [(.int (0 : Int32))]) rfl ?_
    exact J8 X5 e5 _ (by simp only [if_neg c7])
  intro TJ8 XJ8 eJ8 v9 hv9
  have bv9 : ¬ v9 < (0 : Int32) ∧ ¬ (1 : Int32) < v9 := by rw [hv9]; exact (bnd_ite (bnd_mono (bnd_lit (1 : Int32)) (by decide +kernel) (by decide +kernel)) (bnd_mono (bnd_lit (0 : Int32)) (by decide +kernel) (by decide +kernel)))
  show Home TJ8 (mkF m 31 #[.val (.ref o0), .val (.int i1), .val (.int (0 : Int32)), .val (.ref o3), .val (.ref o4)] [(.int v9)])
  exact Home.retN XJ8 hx hlk (t := .boolean) hret (by simp) (hb hby d27_31) ⟨congrArg some (congrArg Value.int (by subst hv9; subst hr6; first | rfl | (simp only [f_rm27_0, if_pos c2, nar_bool_id bv9 (by decide +kernel) (by decide +kernel), nar_i2c, nar_i2b] <;> rfl) | (simp [f_rm27_0, if_pos c2, nar_bool_id bv9 (by decide +kernel) (by decide +kernel)]; done))), rfl, eJ8⟩ (by decide) (by decide)
 ·
  refine Home.go (fun _ => XS.icmpNo X1.here hx rfl (hb hby d27_5) rfl (flt c2).1) ?_
  refine Home.run X1 hx hby sg27_8_1 (pc' := 9) (L' := #[.val (.ref o0), .val (.int i1), .val (.int (0 : Int32)), .val (.ref o3), .val (.ref o4)]) (S' := [(.int (1 : Int32))]) rfl ?_
  exact Home.retN X1 hx hlk (t := .boolean) hret (by simp) (hb hby d27_9) ⟨congrArg some (congrArg Value.int (by first | rfl | (simp only [f_rm27_0, if_neg c2, nar_i2c, nar_i2b] <;> rfl) | (simp [f_rm27_0, if_neg c2]; done))), rfl, e1⟩ (by decide) (by decide)
theorem f_rm27_0_bnd (i1 : Int32) (l_7 : List Int32) (u4 : Int32) (u5 : Int32) (u6 : Int32) (bnd_i1 : ¬ i1 < (0 : Int32) ∧ ¬ (7 : Int32) < i1) (bnd_u4 : ¬ u4 < (0 : Int32) ∧ ¬ (255 : Int32) < u4) (bnd_u5 : ¬ u5 < (0 : Int32) ∧ ¬ (255 : Int32) < u5) (bnd_u6 : ¬ u6 < (0 : Int32) ∧ ¬ (255 : Int32) < u6) : ¬ (f_rm27_0 i1 l_7 u4 u5 u6) < (0 : Int32) ∧ ¬ (1 : Int32) < (f_rm27_0 i1 l_7 u4 u5 u6) := by unfold f_rm27_0; (repeat' split) <;> first | exact bnd_mono (bnd_lit (1 : Int32)) (by decide +kernel) (by decide +kernel) | exact bnd_mono (bnd_lit (0 : Int32)) (by decide +kernel) (by decide +kernel)
theorem rm1_2 (l : Launch) (Z : State) (a0 : Array Value) (hw : HW a0 Z) (ws : List Jvm.Cond) (o1 : Addr) (k_o1 : ClassId) (u1 u2 u3 sv_COMPACT_STRINGS : Int32) (h0 : Heap) (n0 : Nat) (O0 : Old Z n0 h0) (V_o1 : Arv Z h0 o1 k_o1 .char (3 : Int32) [(.int u1), (.int u2), (.int u3)] (.int (0 : Int32))) (S_COMPACT_STRINGS : Sta Z Z.heap "java/lang/String" "COMPACT_STRINGS" "Z" (.int sv_COMPACT_STRINGS)) (bnd_u1 : ¬ u1 < (0 : Int32) ∧ ¬ (255 : Int32) < u1) (hCS : ¬ (sv_COMPACT_STRINGS = (0 : Int32))) :
    Con l Z (⟨"com/example/wary_meter/warymeter/RefusalMessagePinLaw", "mk", "(I[C)Ljava/lang/String;"⟩ : MethodName) method_2_code 2 (some (.object "java/lang/String")) ws ({ frames := 3, cells := 2, slots := 5, locals := 39 } : Room) #[(.int (1 : Int32)), (.ref o1)] h0 (fun v h L => ∃ (b3_2 : Addr), ∃ (b1_4_2 : Addr), ∃ (k1_4_2 : ClassId), v = some (.ref b3_2) ∧ Fr n0 L ∧ h0.size ≤ b3_2 ∧ h0.size ≤ b1_4_2 ∧ Keep h0 h [] ∧ Exa Z h b3_2 "java/lang/String" ∧ Fld Z h b3_2 "java/lang/String" "value" "[B" (.ref b1_4_2) ∧ Fld Z h b3_2 "java/lang/String" "coder" "B" (.int (0 : Int32)) ∧ Arv Z h b1_4_2 k1_4_2 .byte (1 : Int32) [(.int (u1.toInt8.toInt32))] (.int (0 : Int32))) := by
 refine own_body (plainFor_of_name own_pn0) (fun m => ef_rm1_2 m (1 : Int32) o1) ?_
 intro p e s m below meth c s₁ hx hby hlk hml hret hZ hown hnm X0 e0
 have N0 := Fr.nil n0
 refine Home.run X0 hx hby sg1_0_1 (pc' := 1) (L' := #[.val (.int (1 : Int32)), .val (.ref o1)]) (S' := [(.int (1 : Int32))]) rfl ?_
 refine Home.go (fun _ => XS.ifYes X0.here hx rfl (pc0 := 1) (pc' := 7) rfl (hb hby d1_1) rfl ((if0 _ _).trans (feq (by decide)).2) (by decide) (by decide)) ?_
 refine Home.run X0 hx hby sg1_7_2 (pc' := 9) (L' := #[.val (.int (1 : Int32)), .val (.ref o1)]) (S' := [(.int (1 : Int32)), (.int (1 : Int32))]) rfl ?_
 refine Home.go (fun _ => XS.icmpNo X0.here hx rfl (hb hby d1_9) rfl (teq (by decide)).2) ?_
 refine Home.run X0 hx hby sg1_12_2 (pc' := 14) (L' := #[.val (.int (1 : Int32)), .val (.ref o1)]) (S' := [(.int (0 : Int32)), (.ref o1)]) rfl ?_
 obtain ⟨cl1, Ar1, q1, S1, M1, H1, G1⟩ := id V_o1
 have ib1 : ¬ ((0 : Int32) < 0 ∨ cl1.slots.size ≤ ((0 : Int32)).toNatClampNeg) := inb_of S1 ⟨by decide, by decide⟩
 refine Home.go (X0.caload hx (j := (0 : Int32)) (v := (.int u1)) (by rw [e0]; exact Ar1.1) (State.isArrayOf_alike hZ.alike Ar1.2.1) Ar1.2.2 ib1 (Has.at H1 ib1 rfl) rfl rfl (hb hby d1_14)) ?_
 show Home s₁ (mkF m 15 #[.val (.int (1 : Int32)), .val (.ref o1)] [(.int u1)])
 refine Home.call (own_static X0 hx hZ hown (own_w181 hw) (own_w182 hw) (own_w9 hw) (own_w183 hw) (by decide) (rm34_0 l Z a0 hw [] u1 sv_COMPACT_STRINGS h0 n0 O0 bnd_u1 S_COMPACT_STRINGS hCS) e0 rfl (by rw [hml]; rfl) (argsL := [(.int u1)]) (rest := []) (lenOf own_pd4 rfl) rfl rfl (W := 0) (by exact hW0) (by decide) (by decide) (hb hby d1_15) (by decide) (by decide)) ?_
 rintro _ T2 L2 X2 ⟨b3_2, b1_4_2, k1_4_2, rfl, N2q, sz_b3_2, sz_b1_4_2, K2q, P2_0, P2_1, P2_2, P2_3⟩
 have g_b3_2 : n0 ≤ b3_2 := Nat.le_trans (Old.le O0) sz_b3_2
 have g_b1_4_2 : n0 ≤ b1_4_2 := Nat.le_trans (Old.le O0) sz_b1_4_2
 have O2 := Old.keep O0 K2q all0
 have K2 : Keep h0 T2.heap ([] : List Addr) := Keep.trans (Keep.refl h0 ([] : List Addr)) K2q all0
 have N2 := Fr.app N0 N2q
 exact Home.retR X2 hx hlk hret rfl rfl (hb hby d1_18) ⟨b3_2, b1_4_2, k1_4_2, rfl, N2, (Nat.le_trans (Nat.le_refl _) sz_b3_2), (Nat.le_trans (Nat.le_refl _) sz_b1_4_2), K2, P2_0, P2_1, P2_2, P2_3⟩ (by decide) (by decide)
theorem rm10_2 (l : Launch) (Z : State) (a0 : Array Value) (hw : HW a0 Z) (ws : List Jvm.Cond) (o0 p2 : Addr) (k_p2 : ClassId) (l_1 : List Int32) (sv_COMPACT_STRINGS : Int32) (h0 : Heap) (n0 : Nat) (O0 : Old Z n0 h0) (F_value_o0 : Fld Z h0 o0 "java/lang/String" "value" "[B" (.ref p2)) (V_p2 : Arv Z h0 p2 k_p2 .byte (own_n l_1) (List.map Value.int l_1) (.int (0 : Int32))) (E_o0 : Exa Z h0 o0 "java/lang/String") (S_COMPACT_STRINGS : Sta Z Z.heap "java/lang/String" "COMPACT_STRINGS" "Z" (.int sv_COMPACT_STRINGS)) (F_coder_o0 : Fld Z h0 o0 "java/lang/String" "coder" "B" (.int (0 : Int32))) (hCS : ¬ (sv_COMPACT_STRINGS = (0 : Int32))) (sh_l_1 : l_1.length ≤ 6) :
    Con l Z (⟨"java/lang/String", "length", "()I"⟩ : MethodName) jdk_42_method_54_code 1 (some .int) ws ({ frames := 1, cells := 0, slots := 0, locals := 13 } : Room) #[(.ref o0)] h0 (Pur (some (.int (own_n l_1))) h0) := by
 refine own_body (plainFor_of_name own_pn2) (fun m => ef_rm10_2 m o0) ?_
 intro p e s m below meth c s₁ hx hby hlk hml hret hZ hown hnm X0 e0
 have N0 := Fr.nil n0
 refine Home.run X0 hx hby sg10_0_1 (pc' := 1) (L' := #[.val (.ref o0)]) (S' := [(.ref o0)]) rfl ?_
 refine Home.st (getF X0 hx hZ hown (host := "") (Or.inl (own_w69 hw)) Via.refl e0 F_value_o0 rfl rfl (hb hby d10_1)) fun T1 X1 e1 => ?_
 obtain ⟨cl2, Ar2, q2, S2, M2, H2, G2⟩ := id V_p2
 refine Home.go (own_alen X1 hx hZ e1 Ar2 S2 M2 rfl rfl (hb hby d10_4)) ?_
 refine Home.run X1 hx hby sg10_5_1 (pc' := 6) (L' := #[.val (.ref o0)]) (S' := [(.ref o0), (.int (own_n l_1))]) rfl ?_
 refine Home.st (own_pure (own_virtual X1 hx hZ hown (own_w70 hw) (own_w71 hw) (notFace_of_selects (args := #[]) (mvT hZ (own_w73 hw))) (own_w73 hw) (own_w72 hw) (own_w9 hw) (own_w74 hw) (by decide) (rm11_0 l Z a0 hw [] o0 sv_COMPACT_STRINGS h0 n0 O0 S_COMPACT_STRINGS hCS F_coder_o0) e1 E_o0 rfl (by rw [hml]; rfl) (argsL := []) (rest := [(.int (own_n l_1))]) (lenOf own_pd13 rfl) rfl rfl (W := 1) (by exact hW0) (by decide) (by decide) (hb hby d10_6) (by decide) (by decide))) fun T3 X3 e3 => ?_
 refine Home.run X3 hx hby sg10_9_1 (pc' := 10) (L' := #[.val (.ref o0)]) (S' := [(.int ((own_n l_1) >>> ((0 : Int32) &&& 31)))]) rfl ?_
 rw [own_shr0]
 exact Home.retI X3 hx hlk hret (hb hby d10_10) ⟨rfl, rfl, e3⟩ (by decide) (by decide)
theorem rm32_1 (l : Launch) (Z : State) (a0 : Array Value) (hw : HW a0 Z) (ws : List Jvm.Cond) (i0 : Int32) (o2 : Value) (l_1 : List Int32) (h0 : Heap) (n0 : Nat) (O0 : Old Z n0 h0) (bnd_i0 : ¬ i0 < (0 : Int32) ∧ ¬ (5 : Int32) < i0) (pt0 : i0 < (own_n l_1)) (sh_l_1 : l_1.length ≤ 6) (isr_o2 : o2.isRef = true) :
    Con l Z (⟨"jdk/internal/util/Preconditions", "checkIndex", "(IILjava/util/function/BiFunction;)I"⟩ : MethodName) jdk_41_method_11_code 3 (some .int) ws ({ frames := 0, cells := 0, slots := 0, locals := 0 } : Room) #[(.int i0), (.int (own_n l_1)), o2] h0 (Pur (some (.int i0)) h0) := by
 refine own_body (plainFor_of_name own_pn9) (fun m => ef_rm32_1 m i0 (own_n l_1) o2 (isr_o2)) ?_
 intro p e s m below meth c s₁ hx hby hlk hml hret hZ hown hnm X0 e0
 have N0 := Fr.nil n0
 refine Home.run X0 hx hby sg32_0_1 (pc' := 1) (L' := #[.val (.int i0), .val (.int (own_n l_1)), .val o2]) (S' := [(.int i0)]) rfl ?_
 refine Home.go (fun _ => XS.ifNo X0.here hx rfl (hb hby d32_1) rfl ((if0 _ _).trans (flt (bnd_nlt bnd_i0 (bnd_lit (0 : Int32)) (by decide +kernel))).1)) ?_
 refine Home.run X0 hx hby sg32_4_2 (pc' := 6) (L' := #[.val (.int i0), .val (.int (own_n l_1)), .val o2]) (S' := [(.int (own_n l_1)), (.int i0)]) rfl ?_
 refine Home.go (fun _ => XS.icmpYes X0.here hx rfl (pc0 := 6) (pc' := 16) rfl (hb hby d32_6) rfl (tlt pt0).1 (by decide) (by decide)) ?_
 refine Home.run X0 hx hby sg32_16_1 (pc' := 17) (L' := #[.val (.int i0), .val (.int (own_n l_1)), .val o2]) (S' := [(.int i0)]) rfl ?_
 exact Home.retI X0 hx hlk hret (hb hby d32_17) ⟨rfl, rfl, e0⟩ (by decide) (by decide)
theorem rm31_1 (l : Launch) (Z : State) (a0 : Array Value) (hw : HW a0 Z) (ws : List Jvm.Cond) (i0 : Int32) (l_1 : List Int32) (sv_SIOOBE_FORMATTER : Value) (h0 : Heap) (n0 : Nat) (O0 : Old Z n0 h0) (bnd_i0 : ¬ i0 < (0 : Int32) ∧ ¬ (5 : Int32) < i0) (pt0 : i0 < (own_n l_1)) (sh_l_1 : l_1.length ≤ 6) (S_SIOOBE_FORMATTER : Sta Z Z.heap "jdk/internal/util/Preconditions" "SIOOBE_FORMATTER" "Ljava/util/function/BiFunction;" sv_SIOOBE_FORMATTER) (isr_sv_SIOOBE_FORMATTER : sv_SIOOBE_FORMATTER.isRef = true) :
    Con l Z (⟨"java/lang/String", "checkIndex", "(II)V"⟩ : MethodName) jdk_42_method_155_code 2 none ws ({ frames := 1, cells := 0, slots := 0, locals := 14 } : Room) #[(.int i0), (.int (own_n l_1))] h0 (Pur none h0) := by
 refine own_body (plainFor_of_name own_pn2) (fun m => ef_rm31_1 m i0 (own_n l_1)) ?_
 intro p e s m below meth c s₁ hx hby hlk hml hret hZ hown hnm X0 e0
 have N0 := Fr.nil n0
 refine Home.run X0 hx hby sg31_0_2 (pc' := 2) (L' := #[.val (.int i0), .val (.int (own_n l_1))]) (S' := [(.int (own_n l_1)), (.int i0)]) rfl ?_
 refine Home.st (getS2 X0 hx hZ hown (host := "") (Or.inl (own_w173 hw)) Via.refl e0 (S_SIOOBE_FORMATTER.ext O0.2) rfl (hb hby d31_2)) fun T1 X1 e1 => ?_
 refine Home.st (own_pure (own_static X1 hx hZ hown (own_w175 hw) (own_w176 hw) (own_w174 hw) (own_w177 hw) (by decide) (rm32_1 l Z a0 hw [] i0 sv_SIOOBE_FORMATTER l_1 h0 n0 O0 bnd_i0 pt0 (Nat.le_trans (own_len_le sh_l_1).2 (by decide)) isr_sv_SIOOBE_FORMATTER) e1 rfl (by rw [hml]; rfl) (argsL := [(.int i0), (.int (own_n l_1)), sv_SIOOBE_FORMATTER]) (rest := []) (lenOf own_pd28 rfl) rfl rfl (W := 0) (by exact hW0) (by decide) (by decide) (hb hby d31_5) (by decide) (by decide))) fun T2 X2 e2 => ?_
 refine Home.run X2 hx hby sg31_8_1 (pc' := 9) (L' := #[.val (.int i0), .val (.int (own_n l_1))]) (S' := []) rfl ?_
 exact Home.ret0 X2 hx hlk hret (hb hby d31_9) ⟨rfl, rfl, e2⟩ (by decide) (by decide)
theorem rm30_1 (l : Launch) (Z : State) (a0 : Array Value) (hw : HW a0 Z) (ws : List Jvm.Cond) (o0 : Addr) (i1 : Int32) (k_o0 : ClassId) (l_1 : List Int32) (sv_SIOOBE_FORMATTER : Value) (h0 : Heap) (n0 : Nat) (O0 : Old Z n0 h0) (bnd_i1 : ¬ i1 < (0 : Int32) ∧ ¬ (5 : Int32) < i1) (pt0 : i1 < (own_n l_1)) (sh_l_1 : l_1.length ≤ 6) (V_o0 : Arv Z h0 o0 k_o0 .byte (own_n l_1) (List.map Value.int l_1) (.int (0 : Int32))) (S_SIOOBE_FORMATTER : Sta Z Z.heap "jdk/internal/util/Preconditions" "SIOOBE_FORMATTER" "Ljava/util/function/BiFunction;" sv_SIOOBE_FORMATTER) (isr_sv_SIOOBE_FORMATTER : sv_SIOOBE_FORMATTER.isRef = true) :
    Con l Z (⟨"java/lang/StringLatin1", "charAt", "([BI)C"⟩ : MethodName) jdk_43_method_2_code 2 (some .char) ws ({ frames := 2, cells := 0, slots := 0, locals := 27 } : Room) #[(.ref o0), (.int i1)] h0 (Pur (some (.int ((own_at l_1 i1) &&& (255 : Int32)))) h0) := by
 refine own_body (plainFor_of_name own_pn1) (fun m => ef_rm30_1 m o0 i1) ?_
 intro p e s m below meth c s₁ hx hby hlk hml hret hZ hown hnm X0 e0
 have N0 := Fr.nil n0
 refine Home.run X0 hx hby sg30_0_2 (pc' := 2) (L' := #[.val (.ref o0), .val (.int i1)]) (S' := [(.ref o0), (.int i1)]) rfl ?_
 obtain ⟨cl1, Ar1, q1, S1, M1, H1, G1⟩ := id V_o0
 refine Home.go (own_alen X0 hx hZ e0 Ar1 S1 M1 rfl rfl (hb hby d30_2)) ?_
 refine Home.st (own_pure (own_static X0 hx hZ hown (own_w170 hw) (own_w171 hw) (own_w9 hw) (own_w172 hw) (by decide) (rm31_1 l Z a0 hw [] i1 l_1 sv_SIOOBE_FORMATTER h0 n0 O0 bnd_i1 pt0 (Nat.le_trans (own_len_le sh_l_1).2 (by decide)) S_SIOOBE_FORMATTER isr_sv_SIOOBE_FORMATTER) e0 rfl (by rw [hml]; rfl) (argsL := [(.int i1), (.int (own_n l_1))]) (rest := []) (lenOf own_pd22 rfl) rfl rfl (W := 0) (by exact hW0) (by decide) (by decide) (hb hby d30_3) (by decide) (by decide))) fun T2 X2 e2 => ?_
 refine Home.run X2 hx hby sg30_6_2 (pc' := 8) (L' := #[.val (.ref o0), .val (.int i1)]) (S' := [(.int i1), (.ref o0)]) rfl ?_
 obtain ⟨cl3, Ar3, q3, S3, M3, H3, G3⟩ := id V_o0
 have ib3 : ¬ (i1 < 0 ∨ cl3.slots.size ≤ (i1).toNatClampNeg) := inb_of S3 ⟨(bnd_nlt bnd_i1 (bnd_lit (0 : Int32)) (by decide +kernel)), pt0⟩
 refine Home.go (X2.baloadBytes hx (j := i1) (v := .int (own_at l_1 i1)) (by rw [e2]; exact Ar3.1) (State.isArrayOf_alike hZ.alike Ar3.2.1) Ar3.2.2 ib3 (Has.at H3 ib3 (own_getD l_1 _)) rfl rfl (hb hby d30_8)) ?_
 show Home T2 (mkF m 9 #[.val (.ref o0), .val (.int i1)] [(.int (own_at l_1 i1))])
 refine Home.run X2 hx hby sg30_9_3 (pc' := 14) (L' := #[.val (.ref o0), .val (.int i1)]) (S' := [(.int (((own_at l_1 i1) &&& (255 : Int32)).toUInt32.toUInt16.toUInt32.toInt32))]) rfl ?_
 rw [i2c_id (bnd_and (own_at l_1 i1) (255 : Int32) (by decide)) (by decide +kernel) (by decide +kernel)]
 exact Home.retN X2 hx hlk (t := .char) hret (by simp) (hb hby d30_14) ⟨congrArg some (congrArg Value.int (by first | rfl | exact nar_i2c _ | exact nar_i2b _ | exact nar_char_id (bnd_and (own_at l_1 i1) (255 : Int32) (by decide)) (by decide +kernel) (by decide +kernel))), rfl, e2⟩ (by decide) (by decide)
theorem rm28_1 (l : Launch) (Z : State) (a0 : Array Value) (hw : HW a0 Z) (ws : List Jvm.Cond) (o0 : Addr) (i1 sv_COMPACT_STRINGS : Int32) (p2 : Addr) (k_p2 : ClassId) (l_1 : List Int32) (sv_SIOOBE_FORMATTER : Value) (h0 : Heap) (n0 : Nat) (O0 : Old Z n0 h0) (bnd_i1 : ¬ i1 < (0 : Int32) ∧ ¬ (5 : Int32) < i1) (pt0 : i1 < (own_n l_1)) (sh_l_1 : l_1.length ≤ 6) (E_o0 : Exa Z h0 o0 "java/lang/String") (S_COMPACT_STRINGS : Sta Z Z.heap "java/lang/String" "COMPACT_STRINGS" "Z" (.int sv_COMPACT_STRINGS)) (F_coder_o0 : Fld Z h0 o0 "java/lang/String" "coder" "B" (.int (0 : Int32))) (hCS : ¬ (sv_COMPACT_STRINGS = (0 : Int32))) (F_value_o0 : Fld Z h0 o0 "java/lang/String" "value" "[B" (.ref p2)) (V_p2 : Arv Z h0 p2 k_p2 .byte (own_n l_1) (List.map Value.int l_1) (.int (0 : Int32))) (S_SIOOBE_FORMATTER : Sta Z Z.heap "jdk/internal/util/Preconditions" "SIOOBE_FORMATTER" "Ljava/util/function/BiFunction;" sv_SIOOBE_FORMATTER) (isr_sv_SIOOBE_FORMATTER : sv_SIOOBE_FORMATTER.isRef = true) :
    Con l Z (⟨"java/lang/String", "charAt", "(I)C"⟩ : MethodName) jdk_42_method_56_code 2 (some .char) ws ({ frames := 3, cells := 0, slots := 0, locals := 40 } : Room) #[(.ref o0), (.int i1)] h0 (Pur (some (.int ((own_at l_1 i1) &&& (255 : Int32)))) h0) := by
 refine own_body (plainFor_of_name own_pn2) (fun m => ef_rm28_1 m o0 i1) ?_
 intro p e s m below meth c s₁ hx hby hlk hml hret hZ hown hnm X0 e0
 have N0 := Fr.nil n0
 refine Home.run X0 hx hby sg28_0_1 (pc' := 1) (L' := #[.val (.ref o0), .val (.int i1)]) (S' := [(.ref o0)]) rfl ?_
 refine Home.st (own_pure (own_virtual X0 hx hZ hown (own_w161 hw) (own_w162 hw) (notFace_of_selects (args := #[]) (mvT hZ (own_w164 hw))) (own_w164 hw) (own_w163 hw) (own_w9 hw) (own_w165 hw) (by decide) (rm29_0 l Z a0 hw [] o0 sv_COMPACT_STRINGS h0 n0 O0 S_COMPACT_STRINGS hCS F_coder_o0) e0 E_o0 rfl (by rw [hml]; rfl) (argsL := []) (rest := []) (lenOf own_pd21 rfl) rfl rfl (W := 0) (by exact hW0) (by decide) (by decide) (hb hby d28_1) (by decide) (by decide))) fun T1 X1 e1 => ?_
 refine Home.go (fun _ => XS.ifNo X1.here hx rfl (hb hby d28_4) rfl ((if0 _ _).trans (feq (by decide)).1)) ?_
 refine Home.run X1 hx hby sg28_7_1 (pc' := 8) (L' := #[.val (.ref o0), .val (.int i1)]) (S' := [(.ref o0)]) rfl ?_
 refine Home.st (getF X1 hx hZ hown (host := "") (Or.inl (own_w69 hw)) Via.refl e1 F_value_o0 rfl rfl (hb hby d28_8)) fun T2 X2 e2 => ?_
 refine Home.run X2 hx hby sg28_11_1 (pc' := 12) (L' := #[.val (.ref o0), .val (.int i1)]) (S' := [(.int i1), (.ref p2)]) rfl ?_
 refine Home.st (own_pure (own_static X2 hx hZ hown (own_w166 hw) (own_w167 hw) (own_w168 hw) (own_w169 hw) (by decide) (rm30_1 l Z a0 hw [] p2 i1 k_p2 l_1 sv_SIOOBE_FORMATTER h0 n0 O0 bnd_i1 pt0 (Nat.le_trans (own_len_le sh_l_1).2 (by decide)) V_p2 S_SIOOBE_FORMATTER isr_sv_SIOOBE_FORMATTER) e2 rfl (by rw [hml]; rfl) (argsL := [(.ref p2), (.int i1)]) (rest := []) (lenOf own_pd29 rfl) rfl rfl (W := 0) (by exact hW0) (by decide) (by decide) (hb hby d28_12) (by decide) (by decide))) fun T3 X3 e3 => ?_
 exact Home.retN X3 hx hlk (t := .char) hret (by simp) (hb hby d28_15) ⟨congrArg some (congrArg Value.int (by first | rfl | exact nar_i2c _ | exact nar_i2b _ | exact nar_char_id (bnd_and (own_at l_1 i1) (255 : Int32) (by decide)) (by decide +kernel) (by decide +kernel))), rfl, e3⟩ (by decide) (by decide)
theorem rm33_1 (l : Launch) (Z : State) (a0 : Array Value) (hw : HW a0 Z) (ws : List Jvm.Cond) (i0 : Int32) (o2 o3 : Addr) (k_o2 : ClassId) (u1 u2 u3 : Int32) (k_o3 : ClassId) (u4 u5 u6 : Int32) (h0 : Heap) (n0 : Nat) (O0 : Old Z n0 h0) (bnd_i0 : ¬ i0 < (0 : Int32) ∧ ¬ (5 : Int32) < i0) (V_o2 : Arv Z h0 o2 k_o2 .char (3 : Int32) [(.int u1), (.int u2), (.int u3)] (.int (0 : Int32))) (bnd_u1 : ¬ u1 < (0 : Int32) ∧ ¬ (255 : Int32) < u1) (bnd_u2 : ¬ u2 < (0 : Int32) ∧ ¬ (255 : Int32) < u2) (bnd_u3 : ¬ u3 < (0 : Int32) ∧ ¬ (255 : Int32) < u3) (V_o3 : Arv Z h0 o3 k_o3 .char (3 : Int32) [(.int u4), (.int u5), (.int u6)] (.int (0 : Int32))) (bnd_u4 : ¬ u4 < (0 : Int32) ∧ ¬ (255 : Int32) < u4) (bnd_u5 : ¬ u5 < (0 : Int32) ∧ ¬ (255 : Int32) < u5) (bnd_u6 : ¬ u6 < (0 : Int32) ∧ ¬ (255 : Int32) < u6) :
    Con l Z (⟨"com/example/wary_meter/warymeter/RefusalMessagePinLaw", "exp", "(II[C[C)C"⟩ : MethodName) method_3_code 4 (some .char) ws ({ frames := 0, cells := 0, slots := 0, locals := 0 } : Room) #[(.int i0), (.int (1 : Int32)), (.ref o2), (.ref o3)] h0 (Pur (some (.int (f_rm33_1 i0 u1 u2 u3 u4 u5 u6))) h0) := by
 refine own_body (plainFor_of_name own_pn0) (fun m => ef_rm33_1 m i0 (1 : Int32) o2 o3) ?_
 intro p e s m below meth c s₁ hx hby hlk hml hret hZ hown hnm X0 e0
 have N0 := Fr.nil n0
 refine Home.run X0 hx hby sg33_0_2 (pc' := 2) (L' := #[.val (.int i0), .val (.int (1 : Int32)), .val (.ref o2), .val (.ref o3)]) (S' := [(.int (1 : Int32)), (.int i0)]) rfl ?_
 by_cases c1 : i0 < (1 : Int32)
 ·
  refine Home.go (fun _ => XS.icmpNo X0.here hx rfl (hb hby d33_2) rfl (tlt c1).2.1) ?_
  have bd2 : ¬ i0 < (0 : Int32) ∧ ¬ (0 : Int32) < i0 := ⟨bnd_i0.1, (bnd_dn c1 (by decide +kernel))⟩
  refine Home.run X0 hx hby sg33_5_2 (pc' := 7) (L' := #[.val (.int i0), .val (.int (1 : Int32)), .val (.ref o2), .val (.ref o3)]) (S' := [(.int i0), (.ref o2)]) rfl ?_
  obtain ⟨cl4, Ar4, q4, S4, M4, H4, G4⟩ := id V_o2
  have ib4 : ¬ (i0 < 0 ∨ cl4.slots.size ≤ (i0).toNatClampNeg) := inb_of S4 ⟨(bnd_nlt bd2 (bnd_lit (0 : Int32)) (by decide +kernel)), (bnd_lt bd2 (bnd_lit (3 : Int32)) (by decide +kernel))⟩
  refine Home.go (X0.caload hx (j := i0) (v := .int (own_at [u1, u2, u3] i0)) (by rw [e0]; exact Ar4.1) (State.isArrayOf_alike hZ.alike Ar4.2.1) Ar4.2.2 ib4 (Has.at H4 ib4 (own_getD [u1, u2, u3] _)) rfl rfl (hb hby d33_7)) ?_
  exact Home.retN X0 hx hlk (t := .char) hret (by simp) (hb hby d33_8) ⟨congrArg some (congrArg Value.int (by first | rfl | (simp only [f_rm33_1, if_pos c1, nar_i2c, nar_i2b] <;> rfl) | (simp [f_rm33_1, if_pos c1]; done))), rfl, e0⟩ (by decide) (by decide)
 ·
  refine Home.go (fun _ => XS.icmpYes X0.here hx rfl (pc0 := 2) (pc' := 9) rfl (hb hby d33_2) rfl (flt c1).2.1 (by decide) (by decide)) ?_
  have bd3 : ¬ i0 < (1 : Int32) ∧ ¬ (5 : Int32) < i0 := ⟨c1, bnd_i0.2⟩
  refine Home.run X0 hx hby sg33_9_2 (pc' := 11) (L' := #[.val (.int i0), .val (.int (1 : Int32)), .val (.ref o2), .val (.ref o3)]) (S' := [(.int (1 : Int32)), (.int i0)]) rfl ?_
  by_cases c5 : i0 = (1 : Int32)
  ·
   refine Home.go (fun _ => XS.icmpNo X0.here hx rfl (hb hby d33_11) rfl (teq c5).2) ?_
   have bd6 : ¬ i0 < (1 : Int32) ∧ ¬ (1 : Int32) < i0 := ⟨(bnd_eql c5), (bnd_eqr c5)⟩
   refine Home.run X0 hx hby sg33_14_1 (pc' := 16) (L' := #[.val (.int i0), .val (.int (1 : Int32)), .val (.ref o2), .val (.ref o3)]) (S' := [(.int (58 : Int32))]) rfl ?_
   exact Home.retN X0 hx hlk (t := .char) hret (by simp) (hb hby d33_16) ⟨congrArg some (congrArg Value.int (by first | rfl | (simp only [f_rm33_1, if_neg c1, if_pos c5, nar_i2c, nar_i2b] <;> rfl) | (simp [f_rm33_1, if_neg c1, if_pos c5]; done))), rfl, e0⟩ (by decide) (by decide)
  ·
   refine Home.go (fun _ => XS.icmpYes X0.here hx rfl (pc0 := 11) (pc' := 17) rfl (hb hby d33_11) rfl (feq c5).2 (by decide) (by decide)) ?_
   have bd7 : ¬ i0 < (2 : Int32) ∧ ¬ (5 : Int32) < i0 := ⟨(bnd_nel bd3.1 c5 (by decide +kernel)), bd3.2⟩
   refine Home.run X0 hx hby sg33_17_4 (pc' := 21) (L' := #[.val (.int i0), .val (.int (1 : Int32)), .val (.ref o2), .val (.ref o3)]) (S' := [(.int (2 : Int32)), (.int i0)]) rfl ?_
   by_cases c8 : i0 = (2 : Int32)
   ·
    refine Home.go (fun _ => XS.icmpNo X0.here hx rfl (hb hby d33_21) rfl (teq c8).2) ?_
    have bd9 : ¬ i0 < (2 : Int32) ∧ ¬ (2 : Int32) < i0 := ⟨(bnd_eql c8), (bnd_eqr c8)⟩
    refine Home.run X0 hx hby sg33_24_1 (pc' := 26) (L' := #[.val (.int i0), .val (.int (1 : Int32)), .val (.ref o2), .val (.ref o3)]) (S' := [(.int (32 : Int32))]) rfl ?_
    exact Home.retN X0 hx hlk (t := .char) hret (by simp) (hb hby d33_26) ⟨congrArg some (congrArg Value.int (by first | rfl | (simp only [f_rm33_1, if_neg c1, if_neg c5, if_pos c8, nar_i2c, nar_i2b] <;> rfl) | (simp [f_rm33_1, if_neg c1, if_neg c5, if_pos c8]; done))), rfl, e0⟩ (by decide) (by decide)
   ·
    refine Home.go (fun _ => XS.icmpYes X0.here hx rfl (pc0 := 21) (pc' := 27) rfl (hb hby d33_21) rfl (feq c8).2 (by decide) (by decide)) ?_
    have bd10 : ¬ i0 < (3 : Int32) ∧ ¬ (5 : Int32) < i0 := ⟨(bnd_nel bd7.1 c8 (by decide +kernel)), bd7.2⟩
    refine Home.run X0 hx hby sg33_27_6 (pc' := 33) (L' := #[.val (.int i0), .val (.int (1 : Int32)), .val (.ref o2), .val (.ref o3)]) (S' := [(.int ((i0 - (1 : Int32)) - (2 : Int32))), (.ref o3)]) rfl ?_
    obtain ⟨cl11, Ar11, q11, S11, M11, H11, G11⟩ := id V_o3
    have ib11 : ¬ (((i0 - (1 : Int32)) - (2 : Int32)) < 0 ∨ cl11.slots.size ≤ (((i0 - (1 : Int32)) - (2 : Int32))).toNatClampNeg) := inb_of S11 ⟨(bnd_nlt (bnd_sub (bnd_sub bd10 (bnd_lit (1 : Int32)) (lo := (2 : Int32)) (hi := (4 : Int32)) (by decide +kernel) (by decide +kernel) (by decide +kernel) (by decide +kernel)) (bnd_lit (2 : Int32)) (lo := (0 : Int32)) (hi := (2 : Int32)) (by decide +kernel) (by decide +kernel) (by decide +kernel) (by decide +kernel)) (bnd_lit (0 : Int32)) (by decide +kernel)), (bnd_lt (bnd_sub (bnd_sub bd10 (bnd_lit (1 : Int32)) (lo := (2 : Int32)) (hi := (4 : Int32)) (by decide +kernel) (by decide +kernel) (by decide +kernel) (by decide +kernel)) (bnd_lit (2 : Int32)) (lo := (0 : Int32)) (hi := (2 : Int32)) (by decide +kernel) (by decide +kernel) (by decide +kernel) (by decide +kernel)) (bnd_lit (3 : Int32)) (by decide +kernel))⟩
    refine Home.go (X0.caload hx (j := ((i0 - (1 : Int32)) - (2 : Int32))) (v := .int (own_at [u4, u5, u6] ((i0 - (1 : Int32)) - (2 : Int32)))) (by rw [e0]; exact Ar11.1) (State.isArrayOf_alike hZ.alike Ar11.2.1) Ar11.2.2 ib11 (Has.at H11 ib11 (own_getD [u4, u5, u6] _)) rfl rfl (hb hby d33_33)) ?_
    exact Home.retN X0 hx hlk (t := .char) hret (by simp) (hb hby d33_34) ⟨congrArg some (congrArg Value.int (by first | rfl | (simp only [f_rm33_1, if_neg c1, if_neg c5, if_neg c8, nar_i2c, nar_i2b] <;> rfl) | (simp [f_rm33_1, if_neg c1, if_neg c5, if_neg c8]; done))), rfl, e0⟩ (by decide) (by decide)
theorem rm27_1 (l : Launch) (Z : State) (a0 : Array Value) (hw : HW a0 Z) (ws : List Jvm.Cond) (o0 : Addr) (i1 : Int32) (o3 o4 p4 : Addr) (k_p4 : ClassId) (l_7 : List Int32) (sv_COMPACT_STRINGS : Int32) (sv_SIOOBE_FORMATTER : Value) (k_o3 : ClassId) (u1 u2 u3 : Int32) (k_o4 : ClassId) (u4 u5 u6 : Int32) (h0 : Heap) (n0 : Nat) (O0 : Old Z n0 h0) (bnd_i1 : ¬ i1 < (0 : Int32) ∧ ¬ (7 : Int32) < i1) (E_o0 : Exa Z h0 o0 "java/lang/String") (F_value_o0 : Fld Z h0 o0 "java/lang/String" "value" "[B" (.ref p4)) (V_p4 : Arv Z h0 p4 k_p4 .byte (own_n l_7) (List.map Value.int l_7) (.int (0 : Int32))) (S_COMPACT_STRINGS : Sta Z Z.heap "java/lang/String" "COMPACT_STRINGS" "Z" (.int sv_COMPACT_STRINGS)) (F_coder_o0 : Fld Z h0 o0 "java/lang/String" "coder" "B" (.int (0 : Int32))) (hCS : ¬ (sv_COMPACT_STRINGS = (0 : Int32))) (sh_l_7 : l_7.length ≤ 6) (S_SIOOBE_FORMATTER : Sta Z Z.heap "jdk/internal/util/Preconditions" "SIOOBE_FORMATTER" "Ljava/util/function/BiFunction;" sv_SIOOBE_FORMATTER) (isr_sv_SIOOBE_FORMATTER : sv_SIOOBE_FORMATTER.isRef = true) (V_o3 : Arv Z h0 o3 k_o3 .char (3 : Int32) [(.int u1), (.int u2), (.int u3)] (.int (0 : Int32))) (V_o4 : Arv Z h0 o4 k_o4 .char (3 : Int32) [(.int u4), (.int u5), (.int u6)] (.int (0 : Int32))) (bnd_u1 : ¬ u1 < (0 : Int32) ∧ ¬ (255 : Int32) < u1) (bnd_u2 : ¬ u2 < (0 : Int32) ∧ ¬ (255 : Int32) < u2) (bnd_u3 : ¬ u3 < (0 : Int32) ∧ ¬ (255 : Int32) < u3) (bnd_u4 : ¬ u4 < (0 : Int32) ∧ ¬ (255 : Int32) < u4) (bnd_u5 : ¬ u5 < (0 : Int32) ∧ ¬ (255 : Int32) < u5) (bnd_u6 : ¬ u6 < (0 : Int32) ∧ ¬ (255 : Int32) < u6) :
    Con l Z (⟨"com/example/wary_meter/warymeter/RefusalMessagePinLaw", "ok", "(Ljava/lang/String;II[C[C)Z"⟩ : MethodName) method_4_code 5 (some .boolean) ws ({ frames := 4, cells := 0, slots := 0, locals := 53 } : Room) #[(.ref o0), (.int i1), (.int (1 : Int32)), (.ref o3), (.ref o4)] h0 (Pur (some (.int (f_rm27_1 i1 l_7 u1 u2 u3 u4 u5 u6))) h0) := by
 refine own_body (plainFor_of_name own_pn0) (fun m => ef_rm27_1 m o0 i1 (1 : Int32) o3 o4) ?_
 intro p e s m below meth c s₁ hx hby hlk hml hret hZ hown hnm X0 e0
 have N0 := Fr.nil n0
 refine Home.run X0 hx hby sg27_0_2 (pc' := 2) (L' := #[.val (.ref o0), .val (.int i1), .val (.int (1 : Int32)), .val (.ref o3), .val (.ref o4)]) (S' := [(.ref o0), (.int i1)]) rfl ?_
 refine Home.st (own_pure (own_virtual X0 hx hZ hown (own_w152 hw) (own_w65 hw) (notFace_of_selects (args := #[]) (mvT hZ (own_w67 hw))) (own_w67 hw) (own_w66 hw) (own_w9 hw) (own_w68 hw) (by decide) (rm10_2 l Z a0 hw [] o0 p4 k_p4 l_7 sv_COMPACT_STRINGS h0 n0 O0 F_value_o0 V_p4 E_o0 S_COMPACT_STRINGS F_coder_o0 hCS (Nat.le_trans (own_len_le sh_l_7).2 (by decide))) e0 E_o0 rfl (by rw [hml]; rfl) (argsL := []) (rest := [(.int i1)]) (lenOf own_pd14 rfl) rfl rfl (W := 1) (by exact hW0) (by decide) (by decide) (hb hby d27_2) (by decide) (by decide))) fun T1 X1 e1 => ?_
 by_cases c2 : i1 < (own_n l_7)
 ·
  refine Home.go (fun _ => XS.icmpYes X1.here hx rfl (pc0 := 5) (pc' := 10) rfl (hb hby d27_5) rfl (tlt c2).1 (by decide) (by decide)) ?_
  have bd3 : ¬ i1 < (0 : Int32) ∧ ¬ (5 : Int32) < i1 := ⟨bnd_i1.1, bnd_lt2 c2 (own_n_b (a := 0) (b := 6) (own_len_le (Nat.le_trans (own_len_le sh_l_7).2 (by decide))) (lo := (0 : Int32)) (hi := (6 : Int32)) (by decide) (by decide) (by decide)).2 (by decide +kernel)⟩
  refine Home.run X1 hx hby sg27_10_2 (pc' := 12) (L' := #[.val (.ref o0), .val (.int i1), .val (.int (1 : Int32)), .val (.ref o3), .val (.ref o4)]) (S' := [(.int i1), (.ref o0)]) rfl ?_
  refine Home.st (own_pure (own_virtual X1 hx hZ hown (own_w156 hw) (own_w157 hw) (notFace_of_selects (args := #[]) (mvT hZ (own_w159 hw))) (own_w159 hw) (own_w158 hw) (own_w9 hw) (own_w160 hw) (by decide) (rm28_1 l Z a0 hw [] o0 i1 sv_COMPACT_STRINGS p4 k_p4 l_7 sv_SIOOBE_FORMATTER h0 n0 O0 bd3 c2 (Nat.le_trans (own_len_le sh_l_7).2 (by decide)) E_o0 S_COMPACT_STRINGS F_coder_o0 hCS F_value_o0 V_p4 S_SIOOBE_FORMATTER isr_sv_SIOOBE_FORMATTER) e1 E_o0 rfl (by rw [hml]; rfl) (argsL := [(.int i1)]) (rest := []) (lenOf own_pd30 rfl) rfl rfl (W := 0) (by exact hW0) (by decide) (by decide) (hb hby d27_12) (by decide) (by decide))) fun T4 X4 e4 => ?_
  refine Home.run X4 hx hby sg27_15_4 (pc' := 20) (L' := #[.val (.ref o0), .val (.int i1), .val (.int (1 : Int32)), .val (.ref o3), .val (.ref o4)]) (S' := [(.ref o4), (.ref o3), (.int (1 : Int32)), (.int i1), (.int ((own_at l_7 i1) &&& (255 : Int32)))]) rfl ?_
  refine Home.st (own_pure (own_static X4 hx hZ hown (own_w178 hw) (own_w179 hw) (own_w6 hw) (own_w180 hw) (by decide) (rm33_1 l Z a0 hw [] i1 o3 o4 k_o3 u1 u2 u3 k_o4 u4 u5 u6 h0 n0 O0 bd3 V_o3 bnd_u1 bnd_u2 bnd_u3 V_o4 bnd_u4 bnd_u5 bnd_u6) e4 rfl (by rw [hml]; rfl) (argsL := [(.int i1), (.int (1 : Int32)), (.ref o3), (.ref o4)]) (rest := [(.int ((own_at l_7 i1) &&& (255 : Int32)))]) (lenOf own_pd31 rfl) rfl rfl (W := 1) (by exact hW0) (by decide) (by decide) (hb hby d27_20) (by decide) (by decide))) fun T5 X5 e5 => ?_
  show Home T5 (mkF m 23 #[.val (.ref o0), .val (.int i1), .val (.int (1 : Int32)), .val (.ref o3), .val (.ref o4)] [(.int (f_rm33_1 i1 u1 u2 u3 u4 u5 u6)), (.int ((own_at l_7 i1) &&& (255 : Int32)))])
  obtain ⟨r6, hr6⟩ : ∃ z, z = (f_rm33_1 i1 u1 u2 u3 u4 u5 u6) := ⟨_, rfl⟩
  rw [← hr6]
  suffices J8 : ∀ {T : State} (X : Stand p l e ({ frames := 4, cells := 0, slots := 0, locals := 53 } : Room) s m #[(.ref o0), (.int i1), (.int (1 : Int32)), (.ref o3), (.ref o4)] below meth c T [] 0 0) (eT : T.heap = h0) (v9 : Int32) (hv9 : v9 = (if ((own_at l_7 i1) &&& (255 : Int32)) = r6 then (1 : Int32) else (0 : Int32))), @Home p e below _ T (mkF m 31 #[.val (.ref o0), .val (.int i1), .val (.int (1 : Int32)), .val (.ref o3), .val (.ref o4)] [(.int v9)]) by
   by_cases c7 : ((own_at l_7 i1) &&& (255 : Int32)) = r6
   ·
    refine Home.go (fun _ => XS.icmpNo X5.here hx rfl (hb hby d27_23) rfl (teq c7).2) ?_
    refine Home.run X5 hx hby sg27_26_2 (pc' := 31) (L' := #[.val (.ref o0), .val (.int i1), .val (.int (1 : Int32)), .val (.ref o3), .val (.ref o4)]) (S' := [(.int (1 : Int32))]) rfl ?_
    exact J8 X5 e5 _ (by simp only [if_pos c7])
   ·
    refine Home.go (fun _ => XS.icmpYes X5.here hx rfl (pc0 := 23) (pc' := 30) rfl (hb hby d27_23) rfl (feq c7).2 (by decide) (by decide)) ?_
    refine Home.run X5 hx hby sg27_30_1 (pc' := 31) (L' := #[.val (.ref o0), .val (.int i1), .val (.int (1 : Int32)), .val (.ref o3), .val (.ref o4)]) (S' := [(.int (0 : Int32))]) rfl ?_
    exact J8 X5 e5 _ (by simp only [if_neg c7])
  intro TJ8 XJ8 eJ8 v9 hv9
  have bv9 : ¬ v9 < (0 : Int32) ∧ ¬ (1 : Int32) < v9 := by rw [hv9]; exact (bnd_ite (bnd_mono (bnd_lit (1 : Int32)) (by decide +kernel) (by decide +kernel)) (bnd_mono (bnd_lit (0 : Int32)) (by decide +kernel) (by decide +kernel)))
  show Home TJ8 (mkF m 31 #[.val (.ref o0), .val (.int i1), .val (.int (1 : Int32)), .val (.ref o3), .val (.ref o4)] [(.int v9)])
  exact Home.retN XJ8 hx hlk (t := .boolean) hret (by simp) (hb hby d27_31) ⟨congrArg some (congrArg Value.int (by subst hv9; subst hr6; first | rfl | (simp only [f_rm27_1, if_pos c2, nar_bool_id bv9 (by decide +kernel) (by decide +kernel), nar_i2c, nar_i2b] <;> rfl) | (simp [f_rm27_1, if_pos c2, nar_bool_id bv9 (by decide +kernel) (by decide +kernel)]; done))), rfl, eJ8⟩ (by decide) (by decide)
 ·
  refine Home.go (fun _ => XS.icmpNo X1.here hx rfl (hb hby d27_5) rfl (flt c2).1) ?_
  refine Home.run X1 hx hby sg27_8_1 (pc' := 9) (L' := #[.val (.ref o0), .val (.int i1), .val (.int (1 : Int32)), .val (.ref o3), .val (.ref o4)]) (S' := [(.int (1 : Int32))]) rfl ?_
  exact Home.retN X1 hx hlk (t := .boolean) hret (by simp) (hb hby d27_9) ⟨congrArg some (congrArg Value.int (by first | rfl | (simp only [f_rm27_1, if_neg c2, nar_i2c, nar_i2b] <;> rfl) | (simp [f_rm27_1, if_neg c2]; done))), rfl, e1⟩ (by decide) (by decide)
theorem f_rm27_1_bnd (i1 : Int32) (l_7 : List Int32) (u1 : Int32) (u2 : Int32) (u3 : Int32) (u4 : Int32) (u5 : Int32) (u6 : Int32) (bnd_i1 : ¬ i1 < (0 : Int32) ∧ ¬ (7 : Int32) < i1) (bnd_u1 : ¬ u1 < (0 : Int32) ∧ ¬ (255 : Int32) < u1) (bnd_u2 : ¬ u2 < (0 : Int32) ∧ ¬ (255 : Int32) < u2) (bnd_u3 : ¬ u3 < (0 : Int32) ∧ ¬ (255 : Int32) < u3) (bnd_u4 : ¬ u4 < (0 : Int32) ∧ ¬ (255 : Int32) < u4) (bnd_u5 : ¬ u5 < (0 : Int32) ∧ ¬ (255 : Int32) < u5) (bnd_u6 : ¬ u6 < (0 : Int32) ∧ ¬ (255 : Int32) < u6) : ¬ (f_rm27_1 i1 l_7 u1 u2 u3 u4 u5 u6) < (0 : Int32) ∧ ¬ (1 : Int32) < (f_rm27_1 i1 l_7 u1 u2 u3 u4 u5 u6) := by unfold f_rm27_1; (repeat' split) <;> first | exact bnd_mono (bnd_lit (1 : Int32)) (by decide +kernel) (by decide +kernel) | exact bnd_mono (bnd_lit (0 : Int32)) (by decide +kernel) (by decide +kernel)
theorem rm1_3 (l : Launch) (Z : State) (a0 : Array Value) (hw : HW a0 Z) (ws : List Jvm.Cond) (o1 : Addr) (k_o1 : ClassId) (u1 u2 u3 sv_COMPACT_STRINGS : Int32) (h0 : Heap) (n0 : Nat) (O0 : Old Z n0 h0) (V_o1 : Arv Z h0 o1 k_o1 .char (3 : Int32) [(.int u1), (.int u2), (.int u3)] (.int (0 : Int32))) (bnd_u1 : ¬ u1 < (0 : Int32) ∧ ¬ (255 : Int32) < u1) (bnd_u2 : ¬ u2 < (0 : Int32) ∧ ¬ (255 : Int32) < u2) (S_COMPACT_STRINGS : Sta Z Z.heap "java/lang/String" "COMPACT_STRINGS" "Z" (.int sv_COMPACT_STRINGS)) (hCS : ¬ (sv_COMPACT_STRINGS = (0 : Int32))) :
    Con l Z (⟨"com/example/wary_meter/warymeter/RefusalMessagePinLaw", "mk", "(I[C)Ljava/lang/String;"⟩ : MethodName) method_2_code 2 (some (.object "java/lang/String")) ws ({ frames := 4, cells := 3, slots := 8, locals := 66 } : Room) #[(.int (2 : Int32)), (.ref o1)] h0 (fun v h L => ∃ (b1 : Addr), ∃ (b1_3_2_11 : Addr), ∃ (k1_3_2_11 : ClassId), v = some (.ref b1) ∧ Fr n0 L ∧ h0.size ≤ b1 ∧ h0.size ≤ b1_3_2_11 ∧ Keep h0 h [] ∧ Exa Z h b1 "java/lang/String" ∧ Fld Z h b1 "java/lang/String" "value" "[B" (.ref b1_3_2_11) ∧ Fld Z h b1 "java/lang/String" "coder" "B" (.int (0 : Int32)) ∧ Arv Z h b1_3_2_11 k1_3_2_11 .byte (2 : Int32) [(.int (u1.toInt8.toInt32)), (.int (u2.toInt8.toInt32))] (.int (0 : Int32))) := by
 refine own_body (plainFor_of_name own_pn0) (fun m => ef_rm1_3 m (2 : Int32) o1) ?_
 intro p e s m below meth c s₁ hx hby hlk hml hret hZ hown hnm X0 e0
 have N0 := Fr.nil n0
 refine Home.run X0 hx hby sg1_0_1 (pc' := 1) (L' := #[.val (.int (2 : Int32)), .val (.ref o1)]) (S' := [(.int (2 : Int32))]) rfl ?_
 refine Home.go (fun _ => XS.ifYes X0.here hx rfl (pc0 := 1) (pc' := 7) rfl (hb hby d1_1) rfl ((if0 _ _).trans (feq (by decide)).2) (by decide) (by decide)) ?_
 refine Home.run X0 hx hby sg1_7_2 (pc' := 9) (L' := #[.val (.int (2 : Int32)), .val (.ref o1)]) (S' := [(.int (1 : Int32)), (.int (2 : Int32))]) rfl ?_
 refine Home.go (fun _ => XS.icmpYes X0.here hx rfl (pc0 := 9) (pc' := 19) rfl (hb hby d1_9) rfl (feq (by decide)).2 (by decide) (by decide)) ?_
 refine Home.run X0 hx hby sg1_19_2 (pc' := 21) (L' := #[.val (.int (2 : Int32)), .val (.ref o1)]) (S' := [(.int (2 : Int32)), (.int (2 : Int32))]) rfl ?_
 refine Home.go (fun _ => XS.icmpNo X0.here hx rfl (hb hby d1_21) rfl (teq (by decide)).2) ?_
 refine Home.nw (own_newO X0 hx hZ hown (own_w194 hw) (own_w10 hw) (own_w9 hw) e0 rfl (hb hby d1_24) (by decide) (by decide)) fun T1 h1 b1 g1 X1 e1 E1 A1 D1 => ?_
 have g_b1 : n0 ≤ b1 := Nat.le_trans (Old.le O0) (Nat.le_of_eq g1.symm)
 have F_value_b1 : Fld Z h1 b1 "java/lang/String" "value" "[B" .null := D1 (Or.inr (own_w12 hw)) (ty := (.array .byte)) (by decide)
 have F_coder_b1 : Fld Z h1 b1 "java/lang/String" "coder" "B" (.int (0 : Int32)) := D1 (Or.inr (own_w13 hw)) (ty := .byte) (by decide)
 have O1 := O0.ext E1
 have K1 : Keep h0 h1 ([] : List Addr) := Keep.ext (Keep.refl h0 ([] : List Addr)) E1
 show Home T1 (mkF m 27 #[.val (.int (2 : Int32)), .val (.ref o1)] [(.ref b1)])
 refine Home.run X1 hx hby sg1_27_2 (pc' := 29) (L' := #[.val (.int (2 : Int32)), .val (.ref o1)]) (S' := [(.int (2 : Int32)), (.ref b1), (.ref b1)]) rfl ?_
 refine Home.na (own_newP (aty := .char) X1 hx hZ (own_w0 hw) e1 (g := (mkF m 29 #[.val (.int (2 : Int32)), .val (.ref o1)] [(.int (2 : Int32)), (.ref b1), (.ref b1)])) rfl (hb hby d1_29) rfl (by decide) (cap := 2) (by decide) (by decide) (by decide) (by decide)) fun T2 h2 k2 b2 g2 X2 e2 E2 A2 => ?_
 have g_b2 : n0 ≤ b2 := Nat.le_trans (Old.le O1) (Nat.le_of_eq g2.symm)
 have V2 : Arv Z h2 b2 k2 .char (2 : Int32) [(.int (0 : Int32)), (.int (0 : Int32))] (.int (0 : Int32)) := (Arv.new A2 (by decide)).pad (pad_rep [] (.int (0 : Int32)) 2)
 have O2 := O1.ext E2
 have K2 : Keep h0 h2 ([] : List Addr) := Keep.ext K1 E2
 refine Home.run X2 hx hby sg1_31_4 (pc' := 35) (L' := #[.val (.int (2 : Int32)), .val (.ref o1)]) (S' := [(.int (0 : Int32)), (.ref o1), (.int (0 : Int32)), (.ref b2), (.ref b2), (.ref b1), (.ref b1)]) rfl ?_
 obtain ⟨cl3, Ar3, q3, S3, M3, H3, G3⟩ := id (V_o1.keep K2 nin0)
 have ib3 : ¬ ((0 : Int32) < 0 ∨ cl3.slots.size ≤ ((0 : Int32)).toNatClampNeg) := inb_of S3 ⟨by decide, by decide⟩
 refine Home.go (X2.caload hx (j := (0 : Int32)) (v := (.int u1)) (by rw [e2]; exact Ar3.1) (State.isArrayOf_alike hZ.alike Ar3.2.1) Ar3.2.2 ib3 (Has.at H3 ib3 rfl) rfl rfl (hb hby d1_35)) ?_
 show Home T2 (mkF m 36 #[.val (.int (2 : Int32)), .val (.ref o1)] [(.int u1), (.int (0 : Int32)), (.ref b2), (.ref b2), (.ref b1), (.ref b1)])
 obtain ⟨cl4, Ar4, q4, S4, M4, H4, G4⟩ := id V2
 refine Home.wr (stC X2 hx hZ e2 Ar4 (j := (0 : Int32)) (inb_of S4 ⟨by decide, by decide⟩) rfl rfl (hb hby d1_36)) fun T4 h4 X4 e4 W4 => ?_
 have W4' := Wr.to W4 (congrArg Value.int (nar_char_id bnd_u1 (by decide +kernel) (by decide +kernel)))
 have V4 : Arv Z h4 b2 k2 .char (2 : Int32) [(.int u1), (.int (0 : Int32))] (.int (0 : Int32)) := Arv.set Ar4 q4 S4 M4 H4 G4 (fits_char_b bnd_u1 (by decide +kernel) (by decide +kernel)) W4' 0 rfl (Nat.le_of_ble_eq_true rfl)
 have O4 := O2.wr W4 g_b2
 have K4 : Keep h0 h4 ([] : List Addr) := Keep.wr K2 W4 (Or.inr (Nat.le_trans E1.1 (Nat.le_of_eq g2.symm)))
 have N4 := Fr.snoc X4 N0 g_b2
 refine Home.run X4 hx hby sg1_37_4 (pc' := 41) (L' := #[.val (.int (2 : Int32)), .val (.ref o1)]) (S' := [(.int (1 : Int32)), (.ref o1), (.int (1 : Int32)), (.ref b2), (.ref b2), (.ref b1), (.ref b1)]) rfl ?_
 obtain ⟨cl5, Ar5, q5, S5, M5, H5, G5⟩ := id (V_o1.keep K4 nin0)
 have ib5 : ¬ ((1 : Int32) < 0 ∨ cl5.slots.size ≤ ((1 : Int32)).toNatClampNeg) := inb_of S5 ⟨by decide, by decide⟩
 refine Home.go (X4.caload hx (j := (1 : Int32)) (v := (.int u2)) (by rw [e4]; exact Ar5.1) (State.isArrayOf_alike hZ.alike Ar5.2.1) Ar5.2.2 ib5 (Has.at H5 ib5 rfl) rfl rfl (hb hby d1_41)) ?_
 show Home T4 (mkF m 42 #[.val (.int (2 : Int32)), .val (.ref o1)] [(.int u2), (.int (1 : Int32)), (.ref b2), (.ref b2), (.ref b1), (.ref b1)])
 obtain ⟨cl6, Ar6, q6, S6, M6, H6, G6⟩ := id V4
 refine Home.wr (stC X4 hx hZ e4 Ar6 (j := (1 : Int32)) (inb_of S6 ⟨by decide, by decide⟩) rfl rfl (hb hby d1_42)) fun T6 h6 X6 e6 W6 => ?_
 have W6' := Wr.to W6 (congrArg Value.int (nar_char_id bnd_u2 (by decide +kernel) (by decide +kernel)))
 have V6 : Arv Z h6 b2 k2 .char (2 : Int32) [(.int u1), (.int u2)] (.int (0 : Int32)) := Arv.set Ar6 q6 S6 M6 H6 G6 (fits_char_b bnd_u2 (by decide +kernel) (by decide +kernel)) W6' 1 rfl (Nat.le_of_ble_eq_true rfl)
 have O6 := O4.wr W6 g_b2
 have K6 : Keep h0 h6 ([] : List Addr) := Keep.wr K4 W6 (Or.inr (Nat.le_trans E1.1 (Nat.le_of_eq g2.symm)))
 have N6 := Fr.snoc X6 N4 g_b2
 have q7 := (((A1.ext E2).wr W4).wr W6)
 have ne8 : b1 ≠ b2 := (Nat.ne_of_lt (Nat.lt_of_lt_of_le A1.lt (Nat.le_trans (Nat.le_refl _) (Nat.le_of_eq g2.symm))))
 have q9 := (((F_coder_b1.ext E2).other W4 (Or.inl ne8)).other W6 (Or.inl ne8))
 have q10 := (((F_value_b1.ext E2).other W4 (Or.inl ne8)).other W6 (Or.inl ne8))
 refine Home.call (own_special X6 hx hZ hown rfl (own_w195 hw) (own_w196 hw) (own_w9 hw) (own_w197 hw) (by decide) (rm38_0 l Z a0 hw [] b1 b2 k2 u1 u2 sv_COMPACT_STRINGS h6 n0 O6 V6 S_COMPACT_STRINGS q7 q9 q10 bnd_u1 bnd_u2 g_b1 hCS) e6 rfl (by rw [hml]; rfl) (a := b1) (argsL := [(.ref b2)]) (rest := [(.ref b1)]) (lenOf own_pd9 rfl) rfl rfl (W := 1) (by exact hW0) (by decide) (by decide) (hb hby d1_43) (by decide) (by decide)) ?_
 rintro _ T11 L11 X11 ⟨b1_3_2_11, k1_3_2_11, rfl, N11q, sz_b1_3_2_11, K11q, P11_0, P11_1, P11_2, P11_3⟩
 have g_b1_3_2_11 : n0 ≤ b1_3_2_11 := Nat.le_trans (Old.le O6) sz_b1_3_2_11
 have O11 := Old.keep O6 K11q (allS g_b1 all0)
 have K11 : Keep h0 T11.heap ([] : List Addr) := Keep.trans K6 K11q (allS (Or.inr (Nat.le_trans (Nat.le_refl _) (Nat.le_of_eq g1.symm))) all0)
 have N11 := Fr.app N6 N11q
 show Home T11 (mkF m 46 #[.val (.int (2 : Int32)), .val (.ref o1)] [(.ref b1)])
 have le12 : h0.size ≤ h2.size := Nat.le_trans E1.1 E2.1
 have le13 : h0.size ≤ h4.size := Nat.le_trans le12 (Nat.le_of_eq W4.size.symm)
 have le14 : h0.size ≤ h6.size := Nat.le_trans le13 (Nat.le_of_eq W6.size.symm)
 exact Home.retR X11 hx hlk hret rfl rfl (hb hby d1_46) ⟨b1, b1_3_2_11, k1_3_2_11, rfl, N11, (Nat.le_trans (Nat.le_refl _) (Nat.le_of_eq g1.symm)), (Nat.le_trans le14 sz_b1_3_2_11), K11, P11_0, P11_2, P11_1, P11_3⟩ (by decide) (by decide)
theorem rm10_3 (l : Launch) (Z : State) (a0 : Array Value) (hw : HW a0 Z) (ws : List Jvm.Cond) (o0 p2 : Addr) (k_p2 : ClassId) (l_1 : List Int32) (sv_COMPACT_STRINGS : Int32) (h0 : Heap) (n0 : Nat) (O0 : Old Z n0 h0) (F_value_o0 : Fld Z h0 o0 "java/lang/String" "value" "[B" (.ref p2)) (V_p2 : Arv Z h0 p2 k_p2 .byte (own_n l_1) (List.map Value.int l_1) (.int (0 : Int32))) (E_o0 : Exa Z h0 o0 "java/lang/String") (S_COMPACT_STRINGS : Sta Z Z.heap "java/lang/String" "COMPACT_STRINGS" "Z" (.int sv_COMPACT_STRINGS)) (F_coder_o0 : Fld Z h0 o0 "java/lang/String" "coder" "B" (.int (0 : Int32))) (hCS : ¬ (sv_COMPACT_STRINGS = (0 : Int32))) (sh_l_1 : l_1.length ≤ 7) :
    Con l Z (⟨"java/lang/String", "length", "()I"⟩ : MethodName) jdk_42_method_54_code 1 (some .int) ws ({ frames := 1, cells := 0, slots := 0, locals := 13 } : Room) #[(.ref o0)] h0 (Pur (some (.int (own_n l_1))) h0) := by
 refine own_body (plainFor_of_name own_pn2) (fun m => ef_rm10_3 m o0) ?_
 intro p e s m below meth c s₁ hx hby hlk hml hret hZ hown hnm X0 e0
 have N0 := Fr.nil n0
 refine Home.run X0 hx hby sg10_0_1 (pc' := 1) (L' := #[.val (.ref o0)]) (S' := [(.ref o0)]) rfl ?_
 refine Home.st (getF X0 hx hZ hown (host := "") (Or.inl (own_w69 hw)) Via.refl e0 F_value_o0 rfl rfl (hb hby d10_1)) fun T1 X1 e1 => ?_
 obtain ⟨cl2, Ar2, q2, S2, M2, H2, G2⟩ := id V_p2
 refine Home.go (own_alen X1 hx hZ e1 Ar2 S2 M2 rfl rfl (hb hby d10_4)) ?_
 refine Home.run X1 hx hby sg10_5_1 (pc' := 6) (L' := #[.val (.ref o0)]) (S' := [(.ref o0), (.int (own_n l_1))]) rfl ?_
 refine Home.st (own_pure (own_virtual X1 hx hZ hown (own_w70 hw) (own_w71 hw) (notFace_of_selects (args := #[]) (mvT hZ (own_w73 hw))) (own_w73 hw) (own_w72 hw) (own_w9 hw) (own_w74 hw) (by decide) (rm11_0 l Z a0 hw [] o0 sv_COMPACT_STRINGS h0 n0 O0 S_COMPACT_STRINGS hCS F_coder_o0) e1 E_o0 rfl (by rw [hml]; rfl) (argsL := []) (rest := [(.int (own_n l_1))]) (lenOf own_pd13 rfl) rfl rfl (W := 1) (by exact hW0) (by decide) (by decide) (hb hby d10_6) (by decide) (by decide))) fun T3 X3 e3 => ?_
 refine Home.run X3 hx hby sg10_9_1 (pc' := 10) (L' := #[.val (.ref o0)]) (S' := [(.int ((own_n l_1) >>> ((0 : Int32) &&& 31)))]) rfl ?_
 rw [own_shr0]
 exact Home.retI X3 hx hlk hret (hb hby d10_10) ⟨rfl, rfl, e3⟩ (by decide) (by decide)
theorem rm32_2 (l : Launch) (Z : State) (a0 : Array Value) (hw : HW a0 Z) (ws : List Jvm.Cond) (i0 : Int32) (o2 : Value) (l_1 : List Int32) (h0 : Heap) (n0 : Nat) (O0 : Old Z n0 h0) (bnd_i0 : ¬ i0 < (0 : Int32) ∧ ¬ (6 : Int32) < i0) (pt0 : i0 < (own_n l_1)) (sh_l_1 : l_1.length ≤ 7) (isr_o2 : o2.isRef = true) :
    Con l Z (⟨"jdk/internal/util/Preconditions", "checkIndex", "(IILjava/util/function/BiFunction;)I"⟩ : MethodName) jdk_41_method_11_code 3 (some .int) ws ({ frames := 0, cells := 0, slots := 0, locals := 0 } : Room) #[(.int i0), (.int (own_n l_1)), o2] h0 (Pur (some (.int i0)) h0) := by
 refine own_body (plainFor_of_name own_pn9) (fun m => ef_rm32_2 m i0 (own_n l_1) o2 (isr_o2)) ?_
 intro p e s m below meth c s₁ hx hby hlk hml hret hZ hown hnm X0 e0
 have N0 := Fr.nil n0
 refine Home.run X0 hx hby sg32_0_1 (pc' := 1) (L' := #[.val (.int i0), .val (.int (own_n l_1)), .val o2]) (S' := [(.int i0)]) rfl ?_
 refine Home.go (fun _ => XS.ifNo X0.here hx rfl (hb hby d32_1) rfl ((if0 _ _).trans (flt (bnd_nlt bnd_i0 (bnd_lit (0 : Int32)) (by decide +kernel))).1)) ?_
 refine Home.run X0 hx hby sg32_4_2 (pc' := 6) (L' := #[.val (.int i0), .val (.int (own_n l_1)), .val o2]) (S' := [(.int (own_n l_1)), (.int i0)]) rfl ?_
 refine Home.go (fun _ => XS.icmpYes X0.here hx rfl (pc0 := 6) (pc' := 16) rfl (hb hby d32_6) rfl (tlt pt0).1 (by decide) (by decide)) ?_
 refine Home.run X0 hx hby sg32_16_1 (pc' := 17) (L' := #[.val (.int i0), .val (.int (own_n l_1)), .val o2]) (S' := [(.int i0)]) rfl ?_
 exact Home.retI X0 hx hlk hret (hb hby d32_17) ⟨rfl, rfl, e0⟩ (by decide) (by decide)
theorem rm31_2 (l : Launch) (Z : State) (a0 : Array Value) (hw : HW a0 Z) (ws : List Jvm.Cond) (i0 : Int32) (l_1 : List Int32) (sv_SIOOBE_FORMATTER : Value) (h0 : Heap) (n0 : Nat) (O0 : Old Z n0 h0) (bnd_i0 : ¬ i0 < (0 : Int32) ∧ ¬ (6 : Int32) < i0) (pt0 : i0 < (own_n l_1)) (sh_l_1 : l_1.length ≤ 7) (S_SIOOBE_FORMATTER : Sta Z Z.heap "jdk/internal/util/Preconditions" "SIOOBE_FORMATTER" "Ljava/util/function/BiFunction;" sv_SIOOBE_FORMATTER) (isr_sv_SIOOBE_FORMATTER : sv_SIOOBE_FORMATTER.isRef = true) :
    Con l Z (⟨"java/lang/String", "checkIndex", "(II)V"⟩ : MethodName) jdk_42_method_155_code 2 none ws ({ frames := 1, cells := 0, slots := 0, locals := 14 } : Room) #[(.int i0), (.int (own_n l_1))] h0 (Pur none h0) := by
 refine own_body (plainFor_of_name own_pn2) (fun m => ef_rm31_2 m i0 (own_n l_1)) ?_
 intro p e s m below meth c s₁ hx hby hlk hml hret hZ hown hnm X0 e0
 have N0 := Fr.nil n0
 refine Home.run X0 hx hby sg31_0_2 (pc' := 2) (L' := #[.val (.int i0), .val (.int (own_n l_1))]) (S' := [(.int (own_n l_1)), (.int i0)]) rfl ?_
 refine Home.st (getS2 X0 hx hZ hown (host := "") (Or.inl (own_w173 hw)) Via.refl e0 (S_SIOOBE_FORMATTER.ext O0.2) rfl (hb hby d31_2)) fun T1 X1 e1 => ?_
 refine Home.st (own_pure (own_static X1 hx hZ hown (own_w175 hw) (own_w176 hw) (own_w174 hw) (own_w177 hw) (by decide) (rm32_2 l Z a0 hw [] i0 sv_SIOOBE_FORMATTER l_1 h0 n0 O0 bnd_i0 pt0 (Nat.le_trans (own_len_le sh_l_1).2 (by decide)) isr_sv_SIOOBE_FORMATTER) e1 rfl (by rw [hml]; rfl) (argsL := [(.int i0), (.int (own_n l_1)), sv_SIOOBE_FORMATTER]) (rest := []) (lenOf own_pd28 rfl) rfl rfl (W := 0) (by exact hW0) (by decide) (by decide) (hb hby d31_5) (by decide) (by decide))) fun T2 X2 e2 => ?_
 refine Home.run X2 hx hby sg31_8_1 (pc' := 9) (L' := #[.val (.int i0), .val (.int (own_n l_1))]) (S' := []) rfl ?_
 exact Home.ret0 X2 hx hlk hret (hb hby d31_9) ⟨rfl, rfl, e2⟩ (by decide) (by decide)
theorem rm30_2 (l : Launch) (Z : State) (a0 : Array Value) (hw : HW a0 Z) (ws : List Jvm.Cond) (o0 : Addr) (i1 : Int32) (k_o0 : ClassId) (l_1 : List Int32) (sv_SIOOBE_FORMATTER : Value) (h0 : Heap) (n0 : Nat) (O0 : Old Z n0 h0) (bnd_i1 : ¬ i1 < (0 : Int32) ∧ ¬ (6 : Int32) < i1) (pt0 : i1 < (own_n l_1)) (sh_l_1 : l_1.length ≤ 7) (V_o0 : Arv Z h0 o0 k_o0 .byte (own_n l_1) (List.map Value.int l_1) (.int (0 : Int32))) (S_SIOOBE_FORMATTER : Sta Z Z.heap "jdk/internal/util/Preconditions" "SIOOBE_FORMATTER" "Ljava/util/function/BiFunction;" sv_SIOOBE_FORMATTER) (isr_sv_SIOOBE_FORMATTER : sv_SIOOBE_FORMATTER.isRef = true) :
    Con l Z (⟨"java/lang/StringLatin1", "charAt", "([BI)C"⟩ : MethodName) jdk_43_method_2_code 2 (some .char) ws ({ frames := 2, cells := 0, slots := 0, locals := 27 } : Room) #[(.ref o0), (.int i1)] h0 (Pur (some (.int ((own_at l_1 i1) &&& (255 : Int32)))) h0) := by
 refine own_body (plainFor_of_name own_pn1) (fun m => ef_rm30_2 m o0 i1) ?_
 intro p e s m below meth c s₁ hx hby hlk hml hret hZ hown hnm X0 e0
 have N0 := Fr.nil n0
 refine Home.run X0 hx hby sg30_0_2 (pc' := 2) (L' := #[.val (.ref o0), .val (.int i1)]) (S' := [(.ref o0), (.int i1)]) rfl ?_
 obtain ⟨cl1, Ar1, q1, S1, M1, H1, G1⟩ := id V_o0
 refine Home.go (own_alen X0 hx hZ e0 Ar1 S1 M1 rfl rfl (hb hby d30_2)) ?_
 refine Home.st (own_pure (own_static X0 hx hZ hown (own_w170 hw) (own_w171 hw) (own_w9 hw) (own_w172 hw) (by decide) (rm31_2 l Z a0 hw [] i1 l_1 sv_SIOOBE_FORMATTER h0 n0 O0 bnd_i1 pt0 (Nat.le_trans (own_len_le sh_l_1).2 (by decide)) S_SIOOBE_FORMATTER isr_sv_SIOOBE_FORMATTER) e0 rfl (by rw [hml]; rfl) (argsL := [(.int i1), (.int (own_n l_1))]) (rest := []) (lenOf own_pd22 rfl) rfl rfl (W := 0) (by exact hW0) (by decide) (by decide) (hb hby d30_3) (by decide) (by decide))) fun T2 X2 e2 => ?_
 refine Home.run X2 hx hby sg30_6_2 (pc' := 8) (L' := #[.val (.ref o0), .val (.int i1)]) (S' := [(.int i1), (.ref o0)]) rfl ?_
 obtain ⟨cl3, Ar3, q3, S3, M3, H3, G3⟩ := id V_o0
 have ib3 : ¬ (i1 < 0 ∨ cl3.slots.size ≤ (i1).toNatClampNeg) := inb_of S3 ⟨(bnd_nlt bnd_i1 (bnd_lit (0 : Int32)) (by decide +kernel)), pt0⟩
 refine Home.go (X2.baloadBytes hx (j := i1) (v := .int (own_at l_1 i1)) (by rw [e2]; exact Ar3.1) (State.isArrayOf_alike hZ.alike Ar3.2.1) Ar3.2.2 ib3 (Has.at H3 ib3 (own_getD l_1 _)) rfl rfl (hb hby d30_8)) ?_
 show Home T2 (mkF m 9 #[.val (.ref o0), .val (.int i1)] [(.int (own_at l_1 i1))])
 refine Home.run X2 hx hby sg30_9_3 (pc' := 14) (L' := #[.val (.ref o0), .val (.int i1)]) (S' := [(.int (((own_at l_1 i1) &&& (255 : Int32)).toUInt32.toUInt16.toUInt32.toInt32))]) rfl ?_
 rw [i2c_id (bnd_and (own_at l_1 i1) (255 : Int32) (by decide)) (by decide +kernel) (by decide +kernel)]
 exact Home.retN X2 hx hlk (t := .char) hret (by simp) (hb hby d30_14) ⟨congrArg some (congrArg Value.int (by first | rfl | exact nar_i2c _ | exact nar_i2b _ | exact nar_char_id (bnd_and (own_at l_1 i1) (255 : Int32) (by decide)) (by decide +kernel) (by decide +kernel))), rfl, e2⟩ (by decide) (by decide)
theorem rm28_2 (l : Launch) (Z : State) (a0 : Array Value) (hw : HW a0 Z) (ws : List Jvm.Cond) (o0 : Addr) (i1 sv_COMPACT_STRINGS : Int32) (p2 : Addr) (k_p2 : ClassId) (l_1 : List Int32) (sv_SIOOBE_FORMATTER : Value) (h0 : Heap) (n0 : Nat) (O0 : Old Z n0 h0) (bnd_i1 : ¬ i1 < (0 : Int32) ∧ ¬ (6 : Int32) < i1) (pt0 : i1 < (own_n l_1)) (sh_l_1 : l_1.length ≤ 7) (E_o0 : Exa Z h0 o0 "java/lang/String") (S_COMPACT_STRINGS : Sta Z Z.heap "java/lang/String" "COMPACT_STRINGS" "Z" (.int sv_COMPACT_STRINGS)) (F_coder_o0 : Fld Z h0 o0 "java/lang/String" "coder" "B" (.int (0 : Int32))) (hCS : ¬ (sv_COMPACT_STRINGS = (0 : Int32))) (F_value_o0 : Fld Z h0 o0 "java/lang/String" "value" "[B" (.ref p2)) (V_p2 : Arv Z h0 p2 k_p2 .byte (own_n l_1) (List.map Value.int l_1) (.int (0 : Int32))) (S_SIOOBE_FORMATTER : Sta Z Z.heap "jdk/internal/util/Preconditions" "SIOOBE_FORMATTER" "Ljava/util/function/BiFunction;" sv_SIOOBE_FORMATTER) (isr_sv_SIOOBE_FORMATTER : sv_SIOOBE_FORMATTER.isRef = true) :
    Con l Z (⟨"java/lang/String", "charAt", "(I)C"⟩ : MethodName) jdk_42_method_56_code 2 (some .char) ws ({ frames := 3, cells := 0, slots := 0, locals := 40 } : Room) #[(.ref o0), (.int i1)] h0 (Pur (some (.int ((own_at l_1 i1) &&& (255 : Int32)))) h0) := by
 refine own_body (plainFor_of_name own_pn2) (fun m => ef_rm28_2 m o0 i1) ?_
 intro p e s m below meth c s₁ hx hby hlk hml hret hZ hown hnm X0 e0
 have N0 := Fr.nil n0
 refine Home.run X0 hx hby sg28_0_1 (pc' := 1) (L' := #[.val (.ref o0), .val (.int i1)]) (S' := [(.ref o0)]) rfl ?_
 refine Home.st (own_pure (own_virtual X0 hx hZ hown (own_w161 hw) (own_w162 hw) (notFace_of_selects (args := #[]) (mvT hZ (own_w164 hw))) (own_w164 hw) (own_w163 hw) (own_w9 hw) (own_w165 hw) (by decide) (rm29_0 l Z a0 hw [] o0 sv_COMPACT_STRINGS h0 n0 O0 S_COMPACT_STRINGS hCS F_coder_o0) e0 E_o0 rfl (by rw [hml]; rfl) (argsL := []) (rest := []) (lenOf own_pd21 rfl) rfl rfl (W := 0) (by exact hW0) (by decide) (by decide) (hb hby d28_1) (by decide) (by decide))) fun T1 X1 e1 => ?_
 refine Home.go (fun _ => XS.ifNo X1.here hx rfl (hb hby d28_4) rfl ((if0 _ _).trans (feq (by decide)).1)) ?_
 refine Home.run X1 hx hby sg28_7_1 (pc' := 8) (L' := #[.val (.ref o0), .val (.int i1)]) (S' := [(.ref o0)]) rfl ?_
 refine Home.st (getF X1 hx hZ hown (host := "") (Or.inl (own_w69 hw)) Via.refl e1 F_value_o0 rfl rfl (hb hby d28_8)) fun T2 X2 e2 => ?_
 refine Home.run X2 hx hby sg28_11_1 (pc' := 12) (L' := #[.val (.ref o0), .val (.int i1)]) (S' := [(.int i1), (.ref p2)]) rfl ?_
 refine Home.st (own_pure (own_static X2 hx hZ hown (own_w166 hw) (own_w167 hw) (own_w168 hw) (own_w169 hw) (by decide) (rm30_2 l Z a0 hw [] p2 i1 k_p2 l_1 sv_SIOOBE_FORMATTER h0 n0 O0 bnd_i1 pt0 (Nat.le_trans (own_len_le sh_l_1).2 (by decide)) V_p2 S_SIOOBE_FORMATTER isr_sv_SIOOBE_FORMATTER) e2 rfl (by rw [hml]; rfl) (argsL := [(.ref p2), (.int i1)]) (rest := []) (lenOf own_pd29 rfl) rfl rfl (W := 0) (by exact hW0) (by decide) (by decide) (hb hby d28_12) (by decide) (by decide))) fun T3 X3 e3 => ?_
 exact Home.retN X3 hx hlk (t := .char) hret (by simp) (hb hby d28_15) ⟨congrArg some (congrArg Value.int (by first | rfl | exact nar_i2c _ | exact nar_i2b _ | exact nar_char_id (bnd_and (own_at l_1 i1) (255 : Int32) (by decide)) (by decide +kernel) (by decide +kernel))), rfl, e3⟩ (by decide) (by decide)
theorem rm33_2 (l : Launch) (Z : State) (a0 : Array Value) (hw : HW a0 Z) (ws : List Jvm.Cond) (i0 : Int32) (o2 o3 : Addr) (k_o2 : ClassId) (u1 u2 u3 : Int32) (k_o3 : ClassId) (u4 u5 u6 : Int32) (h0 : Heap) (n0 : Nat) (O0 : Old Z n0 h0) (bnd_i0 : ¬ i0 < (0 : Int32) ∧ ¬ (6 : Int32) < i0) (V_o2 : Arv Z h0 o2 k_o2 .char (3 : Int32) [(.int u1), (.int u2), (.int u3)] (.int (0 : Int32))) (bnd_u1 : ¬ u1 < (0 : Int32) ∧ ¬ (255 : Int32) < u1) (bnd_u2 : ¬ u2 < (0 : Int32) ∧ ¬ (255 : Int32) < u2) (bnd_u3 : ¬ u3 < (0 : Int32) ∧ ¬ (255 : Int32) < u3) (V_o3 : Arv Z h0 o3 k_o3 .char (3 : Int32) [(.int u4), (.int u5), (.int u6)] (.int (0 : Int32))) (bnd_u4 : ¬ u4 < (0 : Int32) ∧ ¬ (255 : Int32) < u4) (bnd_u5 : ¬ u5 < (0 : Int32) ∧ ¬ (255 : Int32) < u5) (bnd_u6 : ¬ u6 < (0 : Int32) ∧ ¬ (255 : Int32) < u6) :
    Con l Z (⟨"com/example/wary_meter/warymeter/RefusalMessagePinLaw", "exp", "(II[C[C)C"⟩ : MethodName) method_3_code 4 (some .char) ws ({ frames := 0, cells := 0, slots := 0, locals := 0 } : Room) #[(.int i0), (.int (2 : Int32)), (.ref o2), (.ref o3)] h0 (Pur (some (.int (f_rm33_2 i0 u1 u2 u3 u4 u5 u6))) h0) := by
 refine own_body (plainFor_of_name own_pn0) (fun m => ef_rm33_2 m i0 (2 : Int32) o2 o3) ?_
 intro p e s m below meth c s₁ hx hby hlk hml hret hZ hown hnm X0 e0
 have N0 := Fr.nil n0
 refine Home.run X0 hx hby sg33_0_2 (pc' := 2) (L' := #[.val (.int i0), .val (.int (2 : Int32)), .val (.ref o2), .val (.ref o3)]) (S' := [(.int (2 : Int32)), (.int i0)]) rfl ?_
 by_cases c1 : i0 < (2 : Int32)
 ·
  refine Home.go (fun _ => XS.icmpNo X0.here hx rfl (hb hby d33_2) rfl (tlt c1).2.1) ?_
  have bd2 : ¬ i0 < (0 : Int32) ∧ ¬ (1 : Int32) < i0 := ⟨bnd_i0.1, (bnd_dn c1 (by decide +kernel))⟩
  refine Home.run X0 hx hby sg33_5_2 (pc' := 7) (L' := #[.val (.int i0), .val (.int (2 : Int32)), .val (.ref o2), .val (.ref o3)]) (S' := [(.int i0), (.ref o2)]) rfl ?_
  obtain ⟨cl4, Ar4, q4, S4, M4, H4, G4⟩ := id V_o2
  have ib4 : ¬ (i0 < 0 ∨ cl4.slots.size ≤ (i0).toNatClampNeg) := inb_of S4 ⟨(bnd_nlt bd2 (bnd_lit (0 : Int32)) (by decide +kernel)), (bnd_lt bd2 (bnd_lit (3 : Int32)) (by decide +kernel))⟩
  refine Home.go (X0.caload hx (j := i0) (v := .int (own_at [u1, u2, u3] i0)) (by rw [e0]; exact Ar4.1) (State.isArrayOf_alike hZ.alike Ar4.2.1) Ar4.2.2 ib4 (Has.at H4 ib4 (own_getD [u1, u2, u3] _)) rfl rfl (hb hby d33_7)) ?_
  exact Home.retN X0 hx hlk (t := .char) hret (by simp) (hb hby d33_8) ⟨congrArg some (congrArg Value.int (by first | rfl | (simp only [f_rm33_2, if_pos c1, nar_i2c, nar_i2b] <;> rfl) | (simp [f_rm33_2, if_pos c1]; done))), rfl, e0⟩ (by decide) (by decide)
 ·
  refine Home.go (fun _ => XS.icmpYes X0.here hx rfl (pc0 := 2) (pc' := 9) rfl (hb hby d33_2) rfl (flt c1).2.1 (by decide) (by decide)) ?_
  have bd3 : ¬ i0 < (2 : Int32) ∧ ¬ (6 : Int32) < i0 := ⟨c1, bnd_i0.2⟩
  refine Home.run X0 hx hby sg33_9_2 (pc' := 11) (L' := #[.val (.int i0), .val (.int (2 : Int32)), .val (.ref o2), .val (.ref o3)]) (S' := [(.int (2 : Int32)), (.int i0)]) rfl ?_
  by_cases c5 : i0 = (2 : Int32)
  ·
   refine Home.go (fun _ => XS.icmpNo X0.here hx rfl (hb hby d33_11) rfl (teq c5).2) ?_
   have bd6 : ¬ i0 < (2 : Int32) ∧ ¬ (2 : Int32) < i0 := ⟨(bnd_eql c5), (bnd_eqr c5)⟩
   refine Home.run X0 hx hby sg33_14_1 (pc' := 16) (L' := #[.val (.int i0), .val (.int (2 : Int32)), .val (.ref o2), .val (.ref o3)]) (S' := [(.int (58 : Int32))]) rfl ?_
   exact Home.retN X0 hx hlk (t := .char) hret (by simp) (hb hby d33_16) ⟨congrArg some (congrArg Value.int (by first | rfl | (simp only [f_rm33_2, if_neg c1, if_pos c5, nar_i2c, nar_i2b] <;> rfl) | (simp [f_rm33_2, if_neg c1, if_pos c5]; done))), rfl, e0⟩ (by decide) (by decide)
  ·
   refine Home.go (fun _ => XS.icmpYes X0.here hx rfl (pc0 := 11) (pc' := 17) rfl (hb hby d33_11) rfl (feq c5).2 (by decide) (by decide)) ?_
   have bd7 : ¬ i0 < (3 : Int32) ∧ ¬ (6 : Int32) < i0 := ⟨(bnd_nel bd3.1 c5 (by decide +kernel)), bd3.2⟩
   refine Home.run X0 hx hby sg33_17_4 (pc' := 21) (L' := #[.val (.int i0), .val (.int (2 : Int32)), .val (.ref o2), .val (.ref o3)]) (S' := [(.int (3 : Int32)), (.int i0)]) rfl ?_
   by_cases c8 : i0 = (3 : Int32)
   ·
    refine Home.go (fun _ => XS.icmpNo X0.here hx rfl (hb hby d33_21) rfl (teq c8).2) ?_
    have bd9 : ¬ i0 < (3 : Int32) ∧ ¬ (3 : Int32) < i0 := ⟨(bnd_eql c8), (bnd_eqr c8)⟩
    refine Home.run X0 hx hby sg33_24_1 (pc' := 26) (L' := #[.val (.int i0), .val (.int (2 : Int32)), .val (.ref o2), .val (.ref o3)]) (S' := [(.int (32 : Int32))]) rfl ?_
    exact Home.retN X0 hx hlk (t := .char) hret (by simp) (hb hby d33_26) ⟨congrArg some (congrArg Value.int (by first | rfl | (simp only [f_rm33_2, if_neg c1, if_neg c5, if_pos c8, nar_i2c, nar_i2b] <;> rfl) | (simp [f_rm33_2, if_neg c1, if_neg c5, if_pos c8]; done))), rfl, e0⟩ (by decide) (by decide)
   ·
    refine Home.go (fun _ => XS.icmpYes X0.here hx rfl (pc0 := 21) (pc' := 27) rfl (hb hby d33_21) rfl (feq c8).2 (by decide) (by decide)) ?_
    have bd10 : ¬ i0 < (4 : Int32) ∧ ¬ (6 : Int32) < i0 := ⟨(bnd_nel bd7.1 c8 (by decide +kernel)), bd7.2⟩
    refine Home.run X0 hx hby sg33_27_6 (pc' := 33) (L' := #[.val (.int i0), .val (.int (2 : Int32)), .val (.ref o2), .val (.ref o3)]) (S' := [(.int ((i0 - (2 : Int32)) - (2 : Int32))), (.ref o3)]) rfl ?_
    obtain ⟨cl11, Ar11, q11, S11, M11, H11, G11⟩ := id V_o3
    have ib11 : ¬ (((i0 - (2 : Int32)) - (2 : Int32)) < 0 ∨ cl11.slots.size ≤ (((i0 - (2 : Int32)) - (2 : Int32))).toNatClampNeg) := inb_of S11 ⟨(bnd_nlt (bnd_sub (bnd_sub bd10 (bnd_lit (2 : Int32)) (lo := (2 : Int32)) (hi := (4 : Int32)) (by decide +kernel) (by decide +kernel) (by decide +kernel) (by decide +kernel)) (bnd_lit (2 : Int32)) (lo := (0 : Int32)) (hi := (2 : Int32)) (by decide +kernel) (by decide +kernel) (by decide +kernel) (by decide +kernel)) (bnd_lit (0 : Int32)) (by decide +kernel)), (bnd_lt (bnd_sub (bnd_sub bd10 (bnd_lit (2 : Int32)) (lo := (2 : Int32)) (hi := (4 : Int32)) (by decide +kernel) (by decide +kernel) (by decide +kernel) (by decide +kernel)) (bnd_lit (2 : Int32)) (lo := (0 : Int32)) (hi := (2 : Int32)) (by decide +kernel) (by decide +kernel) (by decide +kernel) (by decide +kernel)) (bnd_lit (3 : Int32)) (by decide +kernel))⟩
    refine Home.go (X0.caload hx (j := ((i0 - (2 : Int32)) - (2 : Int32))) (v := .int (own_at [u4, u5, u6] ((i0 - (2 : Int32)) - (2 : Int32)))) (by rw [e0]; exact Ar11.1) (State.isArrayOf_alike hZ.alike Ar11.2.1) Ar11.2.2 ib11 (Has.at H11 ib11 (own_getD [u4, u5, u6] _)) rfl rfl (hb hby d33_33)) ?_
    exact Home.retN X0 hx hlk (t := .char) hret (by simp) (hb hby d33_34) ⟨congrArg some (congrArg Value.int (by first | rfl | (simp only [f_rm33_2, if_neg c1, if_neg c5, if_neg c8, nar_i2c, nar_i2b] <;> rfl) | (simp [f_rm33_2, if_neg c1, if_neg c5, if_neg c8]; done))), rfl, e0⟩ (by decide) (by decide)
theorem rm27_2 (l : Launch) (Z : State) (a0 : Array Value) (hw : HW a0 Z) (ws : List Jvm.Cond) (o0 : Addr) (i1 : Int32) (o3 o4 p4 : Addr) (k_p4 : ClassId) (l_7 : List Int32) (sv_COMPACT_STRINGS : Int32) (sv_SIOOBE_FORMATTER : Value) (k_o3 : ClassId) (u1 u2 u3 : Int32) (k_o4 : ClassId) (u4 u5 u6 : Int32) (h0 : Heap) (n0 : Nat) (O0 : Old Z n0 h0) (bnd_i1 : ¬ i1 < (0 : Int32) ∧ ¬ (7 : Int32) < i1) (E_o0 : Exa Z h0 o0 "java/lang/String") (F_value_o0 : Fld Z h0 o0 "java/lang/String" "value" "[B" (.ref p4)) (V_p4 : Arv Z h0 p4 k_p4 .byte (own_n l_7) (List.map Value.int l_7) (.int (0 : Int32))) (S_COMPACT_STRINGS : Sta Z Z.heap "java/lang/String" "COMPACT_STRINGS" "Z" (.int sv_COMPACT_STRINGS)) (F_coder_o0 : Fld Z h0 o0 "java/lang/String" "coder" "B" (.int (0 : Int32))) (hCS : ¬ (sv_COMPACT_STRINGS = (0 : Int32))) (sh_l_7 : l_7.length ≤ 7) (S_SIOOBE_FORMATTER : Sta Z Z.heap "jdk/internal/util/Preconditions" "SIOOBE_FORMATTER" "Ljava/util/function/BiFunction;" sv_SIOOBE_FORMATTER) (isr_sv_SIOOBE_FORMATTER : sv_SIOOBE_FORMATTER.isRef = true) (V_o3 : Arv Z h0 o3 k_o3 .char (3 : Int32) [(.int u1), (.int u2), (.int u3)] (.int (0 : Int32))) (V_o4 : Arv Z h0 o4 k_o4 .char (3 : Int32) [(.int u4), (.int u5), (.int u6)] (.int (0 : Int32))) (bnd_u1 : ¬ u1 < (0 : Int32) ∧ ¬ (255 : Int32) < u1) (bnd_u2 : ¬ u2 < (0 : Int32) ∧ ¬ (255 : Int32) < u2) (bnd_u3 : ¬ u3 < (0 : Int32) ∧ ¬ (255 : Int32) < u3) (bnd_u4 : ¬ u4 < (0 : Int32) ∧ ¬ (255 : Int32) < u4) (bnd_u5 : ¬ u5 < (0 : Int32) ∧ ¬ (255 : Int32) < u5) (bnd_u6 : ¬ u6 < (0 : Int32) ∧ ¬ (255 : Int32) < u6) :
    Con l Z (⟨"com/example/wary_meter/warymeter/RefusalMessagePinLaw", "ok", "(Ljava/lang/String;II[C[C)Z"⟩ : MethodName) method_4_code 5 (some .boolean) ws ({ frames := 4, cells := 0, slots := 0, locals := 53 } : Room) #[(.ref o0), (.int i1), (.int (2 : Int32)), (.ref o3), (.ref o4)] h0 (Pur (some (.int (f_rm27_2 i1 l_7 u1 u2 u3 u4 u5 u6))) h0) := by
 refine own_body (plainFor_of_name own_pn0) (fun m => ef_rm27_2 m o0 i1 (2 : Int32) o3 o4) ?_
 intro p e s m below meth c s₁ hx hby hlk hml hret hZ hown hnm X0 e0
 have N0 := Fr.nil n0
 refine Home.run X0 hx hby sg27_0_2 (pc' := 2) (L' := #[.val (.ref o0), .val (.int i1), .val (.int (2 : Int32)), .val (.ref o3), .val (.ref o4)]) (S' := [(.ref o0), (.int i1)]) rfl ?_
 refine Home.st (own_pure (own_virtual X0 hx hZ hown (own_w152 hw) (own_w65 hw) (notFace_of_selects (args := #[]) (mvT hZ (own_w67 hw))) (own_w67 hw) (own_w66 hw) (own_w9 hw) (own_w68 hw) (by decide) (rm10_3 l Z a0 hw [] o0 p4 k_p4 l_7 sv_COMPACT_STRINGS h0 n0 O0 F_value_o0 V_p4 E_o0 S_COMPACT_STRINGS F_coder_o0 hCS (Nat.le_trans (own_len_le sh_l_7).2 (by decide))) e0 E_o0 rfl (by rw [hml]; rfl) (argsL := []) (rest := [(.int i1)]) (lenOf own_pd14 rfl) rfl rfl (W := 1) (by exact hW0) (by decide) (by decide) (hb hby d27_2) (by decide) (by decide))) fun T1 X1 e1 => ?_
 by_cases c2 : i1 < (own_n l_7)
 ·
  refine Home.go (fun _ => XS.icmpYes X1.here hx rfl (pc0 := 5) (pc' := 10) rfl (hb hby d27_5) rfl (tlt c2).1 (by decide) (by decide)) ?_
  have bd3 : ¬ i1 < (0 : Int32) ∧ ¬ (6 : Int32) < i1 := ⟨bnd_i1.1, bnd_lt2 c2 (own_n_b (a := 0) (b := 7) (own_len_le (Nat.le_trans (own_len_le sh_l_7).2 (by decide))) (lo := (0 : Int32)) (hi := (7 : Int32)) (by decide) (by decide) (by decide)).2 (by decide +kernel)⟩
  refine Home.run X1 hx hby sg27_10_2 (pc' := 12) (L' := #[.val (.ref o0), .val (.int i1), .val (.int (2 : Int32)), .val (.ref o3), .val (.ref o4)]) (S' := [(.int i1), (.ref o0)]) rfl ?_
  refine Home.st (own_pure (own_virtual X1 hx hZ hown (own_w156 hw) (own_w157 hw) (notFace_of_selects (args := #[]) (mvT hZ (own_w159 hw))) (own_w159 hw) (own_w158 hw) (own_w9 hw) (own_w160 hw) (by decide) (rm28_2 l Z a0 hw [] o0 i1 sv_COMPACT_STRINGS p4 k_p4 l_7 sv_SIOOBE_FORMATTER h0 n0 O0 bd3 c2 (Nat.le_trans (own_len_le sh_l_7).2 (by decide)) E_o0 S_COMPACT_STRINGS F_coder_o0 hCS F_value_o0 V_p4 S_SIOOBE_FORMATTER isr_sv_SIOOBE_FORMATTER) e1 E_o0 rfl (by rw [hml]; rfl) (argsL := [(.int i1)]) (rest := []) (lenOf own_pd30 rfl) rfl rfl (W := 0) (by exact hW0) (by decide) (by decide) (hb hby d27_12) (by decide) (by decide))) fun T4 X4 e4 => ?_
  refine Home.run X4 hx hby sg27_15_4 (pc' := 20) (L' := #[.val (.ref o0), .val (.int i1), .val (.int (2 : Int32)), .val (.ref o3), .val (.ref o4)]) (S' := [(.ref o4), (.ref o3), (.int (2 : Int32)), (.int i1), (.int ((own_at l_7 i1) &&& (255 : Int32)))]) rfl ?_
  refine Home.st (own_pure (own_static X4 hx hZ hown (own_w178 hw) (own_w179 hw) (own_w6 hw) (own_w180 hw) (by decide) (rm33_2 l Z a0 hw [] i1 o3 o4 k_o3 u1 u2 u3 k_o4 u4 u5 u6 h0 n0 O0 bd3 V_o3 bnd_u1 bnd_u2 bnd_u3 V_o4 bnd_u4 bnd_u5 bnd_u6) e4 rfl (by rw [hml]; rfl) (argsL := [(.int i1), (.int (2 : Int32)), (.ref o3), (.ref o4)]) (rest := [(.int ((own_at l_7 i1) &&& (255 : Int32)))]) (lenOf own_pd31 rfl) rfl rfl (W := 1) (by exact hW0) (by decide) (by decide) (hb hby d27_20) (by decide) (by decide))) fun T5 X5 e5 => ?_
  show Home T5 (mkF m 23 #[.val (.ref o0), .val (.int i1), .val (.int (2 : Int32)), .val (.ref o3), .val (.ref o4)] [(.int (f_rm33_2 i1 u1 u2 u3 u4 u5 u6)), (.int ((own_at l_7 i1) &&& (255 : Int32)))])
  obtain ⟨r6, hr6⟩ : ∃ z, z = (f_rm33_2 i1 u1 u2 u3 u4 u5 u6) := ⟨_, rfl⟩
  rw [← hr6]
  suffices J8 : ∀ {T : State} (X : Stand p l e ({ frames := 4, cells := 0, slots := 0, locals := 53 } : Room) s m #[(.ref o0), (.int i1), (.int (2 : Int32)), (.ref o3), (.ref o4)] below meth c T [] 0 0) (eT : T.heap = h0) (v9 : Int32) (hv9 : v9 = (if ((own_at l_7 i1) &&& (255 : Int32)) = r6 then (1 : Int32) else (0 : Int32))), @Home p e below _ T (mkF m 31 #[.val (.ref o0), .val (.int i1), .val (.int (2 : Int32)), .val (.ref o3), .val (.ref o4)] [(.int v9)]) by
   by_cases c7 : ((own_at l_7 i1) &&& (255 : Int32)) = r6
   ·
    refine Home.go (fun _ => XS.icmpNo X5.here hx rfl (hb hby d27_23) rfl (teq c7).2) ?_
    refine Home.run X5 hx hby sg27_26_2 (pc' := 31) (L' := #[.val (.ref o0), .val (.int i1), .val (.int (2 : Int32)), .val (.ref o3), .val (.ref o4)]) (S' := [(.int (1 : Int32))]) rfl ?_
    exact J8 X5 e5 _ (by simp only [if_pos c7])
   ·
    refine Home.go (fun _ => XS.icmpYes X5.here hx rfl (pc0 := 23) (pc' := 30) rfl (hb hby d27_23) rfl (feq c7).2 (by decide) (by decide)) ?_
    refine Home.run X5 hx hby sg27_30_1 (pc' := 31) (L' := #[.val (.ref o0), .val (.int i1), .val (.int (2 : Int32)), .val (.ref o3), .val (.ref o4)]) (S' := [(.int (0 : Int32))]) rfl ?_
    exact J8 X5 e5 _ (by simp only [if_neg c7])
  intro TJ8 XJ8 eJ8 v9 hv9
  have bv9 : ¬ v9 < (0 : Int32) ∧ ¬ (1 : Int32) < v9 := by rw [hv9]; exact (bnd_ite (bnd_mono (bnd_lit (1 : Int32)) (by decide +kernel) (by decide +kernel)) (bnd_mono (bnd_lit (0 : Int32)) (by decide +kernel) (by decide +kernel)))
  show Home TJ8 (mkF m 31 #[.val (.ref o0), .val (.int i1), .val (.int (2 : Int32)), .val (.ref o3), .val (.ref o4)] [(.int v9)])
  exact Home.retN XJ8 hx hlk (t := .boolean) hret (by simp) (hb hby d27_31) ⟨congrArg some (congrArg Value.int (by subst hv9; subst hr6; first | rfl | (simp only [f_rm27_2, if_pos c2, nar_bool_id bv9 (by decide +kernel) (by decide +kernel), nar_i2c, nar_i2b] <;> rfl) | (simp [f_rm27_2, if_pos c2, nar_bool_id bv9 (by decide +kernel) (by decide +kernel)]; done))), rfl, eJ8⟩ (by decide) (by decide)
 ·
  refine Home.go (fun _ => XS.icmpNo X1.here hx rfl (hb hby d27_5) rfl (flt c2).1) ?_
  refine Home.run X1 hx hby sg27_8_1 (pc' := 9) (L' := #[.val (.ref o0), .val (.int i1), .val (.int (2 : Int32)), .val (.ref o3), .val (.ref o4)]) (S' := [(.int (1 : Int32))]) rfl ?_
  exact Home.retN X1 hx hlk (t := .boolean) hret (by simp) (hb hby d27_9) ⟨congrArg some (congrArg Value.int (by first | rfl | (simp only [f_rm27_2, if_neg c2, nar_i2c, nar_i2b] <;> rfl) | (simp [f_rm27_2, if_neg c2]; done))), rfl, e1⟩ (by decide) (by decide)
theorem f_rm27_2_bnd (i1 : Int32) (l_7 : List Int32) (u1 : Int32) (u2 : Int32) (u3 : Int32) (u4 : Int32) (u5 : Int32) (u6 : Int32) (bnd_i1 : ¬ i1 < (0 : Int32) ∧ ¬ (7 : Int32) < i1) (bnd_u1 : ¬ u1 < (0 : Int32) ∧ ¬ (255 : Int32) < u1) (bnd_u2 : ¬ u2 < (0 : Int32) ∧ ¬ (255 : Int32) < u2) (bnd_u3 : ¬ u3 < (0 : Int32) ∧ ¬ (255 : Int32) < u3) (bnd_u4 : ¬ u4 < (0 : Int32) ∧ ¬ (255 : Int32) < u4) (bnd_u5 : ¬ u5 < (0 : Int32) ∧ ¬ (255 : Int32) < u5) (bnd_u6 : ¬ u6 < (0 : Int32) ∧ ¬ (255 : Int32) < u6) : ¬ (f_rm27_2 i1 l_7 u1 u2 u3 u4 u5 u6) < (0 : Int32) ∧ ¬ (1 : Int32) < (f_rm27_2 i1 l_7 u1 u2 u3 u4 u5 u6) := by unfold f_rm27_2; (repeat' split) <;> first | exact bnd_mono (bnd_lit (1 : Int32)) (by decide +kernel) (by decide +kernel) | exact bnd_mono (bnd_lit (0 : Int32)) (by decide +kernel) (by decide +kernel)
theorem rm1_4 (l : Launch) (Z : State) (a0 : Array Value) (hw : HW a0 Z) (ws : List Jvm.Cond) (o1 : Addr) (k_o1 : ClassId) (u1 u2 u3 sv_COMPACT_STRINGS : Int32) (h0 : Heap) (n0 : Nat) (O0 : Old Z n0 h0) (V_o1 : Arv Z h0 o1 k_o1 .char (3 : Int32) [(.int u1), (.int u2), (.int u3)] (.int (0 : Int32))) (bnd_u1 : ¬ u1 < (0 : Int32) ∧ ¬ (255 : Int32) < u1) (bnd_u2 : ¬ u2 < (0 : Int32) ∧ ¬ (255 : Int32) < u2) (bnd_u3 : ¬ u3 < (0 : Int32) ∧ ¬ (255 : Int32) < u3) (S_COMPACT_STRINGS : Sta Z Z.heap "java/lang/String" "COMPACT_STRINGS" "Z" (.int sv_COMPACT_STRINGS)) (hCS : ¬ (sv_COMPACT_STRINGS = (0 : Int32))) :
    Con l Z (⟨"com/example/wary_meter/warymeter/RefusalMessagePinLaw", "mk", "(I[C)Ljava/lang/String;"⟩ : MethodName) method_2_code 2 (some (.object "java/lang/String")) ws ({ frames := 4, cells := 3, slots := 10, locals := 66 } : Room) #[(.int (3 : Int32)), (.ref o1)] h0 (fun v h L => ∃ (b1 : Addr), ∃ (b1_3_2_13 : Addr), ∃ (k1_3_2_13 : ClassId), v = some (.ref b1) ∧ Fr n0 L ∧ h0.size ≤ b1 ∧ h0.size ≤ b1_3_2_13 ∧ Keep h0 h [] ∧ Exa Z h b1 "java/lang/String" ∧ Fld Z h b1 "java/lang/String" "value" "[B" (.ref b1_3_2_13) ∧ Fld Z h b1 "java/lang/String" "coder" "B" (.int (0 : Int32)) ∧ Arv Z h b1_3_2_13 k1_3_2_13 .byte (3 : Int32) [(.int (u1.toInt8.toInt32)), (.int (u2.toInt8.toInt32)), (.int (u3.toInt8.toInt32))] (.int (0 : Int32))) := by
 refine own_body (plainFor_of_name own_pn0) (fun m => ef_rm1_4 m (3 : Int32) o1) ?_
 intro p e s m below meth c s₁ hx hby hlk hml hret hZ hown hnm X0 e0
 have N0 := Fr.nil n0
 refine Home.run X0 hx hby sg1_0_1 (pc' := 1) (L' := #[.val (.int (3 : Int32)), .val (.ref o1)]) (S' := [(.int (3 : Int32))]) rfl ?_
 refine Home.go (fun _ => XS.ifYes X0.here hx rfl (pc0 := 1) (pc' := 7) rfl (hb hby d1_1) rfl ((if0 _ _).trans (feq (by decide)).2) (by decide) (by decide)) ?_
 refine Home.run X0 hx hby sg1_7_2 (pc' := 9) (L' := #[.val (.int (3 : Int32)), .val (.ref o1)]) (S' := [(.int (1 : Int32)), (.int (3 : Int32))]) rfl ?_
 refine Home.go (fun _ => XS.icmpYes X0.here hx rfl (pc0 := 9) (pc' := 19) rfl (hb hby d1_9) rfl (feq (by decide)).2 (by decide) (by decide)) ?_
 refine Home.run X0 hx hby sg1_19_2 (pc' := 21) (L' := #[.val (.int (3 : Int32)), .val (.ref o1)]) (S' := [(.int (2 : Int32)), (.int (3 : Int32))]) rfl ?_
 refine Home.go (fun _ => XS.icmpYes X0.here hx rfl (pc0 := 21) (pc' := 47) rfl (hb hby d1_21) rfl (feq (by decide)).2 (by decide) (by decide)) ?_
 refine Home.nw (own_newO X0 hx hZ hown (own_w194 hw) (own_w10 hw) (own_w9 hw) e0 rfl (hb hby d1_47) (by decide) (by decide)) fun T1 h1 b1 g1 X1 e1 E1 A1 D1 => ?_
 have g_b1 : n0 ≤ b1 := Nat.le_trans (Old.le O0) (Nat.le_of_eq g1.symm)
 have F_value_b1 : Fld Z h1 b1 "java/lang/String" "value" "[B" .null := D1 (Or.inr (own_w12 hw)) (ty := (.array .byte)) (by decide)
 have F_coder_b1 : Fld Z h1 b1 "java/lang/String" "coder" "B" (.int (0 : Int32)) := D1 (Or.inr (own_w13 hw)) (ty := .byte) (by decide)
 have O1 := O0.ext E1
 have K1 : Keep h0 h1 ([] : List Addr) := Keep.ext (Keep.refl h0 ([] : List Addr)) E1
 show Home T1 (mkF m 50 #[.val (.int (3 : Int32)), .val (.ref o1)] [(.ref b1)])
 refine Home.run X1 hx hby sg1_50_2 (pc' := 52) (L' := #[.val (.int (3 : Int32)), .val (.ref o1)]) (S' := [(.int (3 : Int32)), (.ref b1), (.ref b1)]) rfl ?_
 refine Home.na (own_newP (aty := .char) X1 hx hZ (own_w0 hw) e1 (g := (mkF m 52 #[.val (.int (3 : Int32)), .val (.ref o1)] [(.int (3 : Int32)), (.ref b1), (.ref b1)])) rfl (hb hby d1_52) rfl (by decide) (cap := 3) (by decide) (by decide) (by decide) (by decide)) fun T2 h2 k2 b2 g2 X2 e2 E2 A2 => ?_
 have g_b2 : n0 ≤ b2 := Nat.le_trans (Old.le O1) (Nat.le_of_eq g2.symm)
 have V2 : Arv Z h2 b2 k2 .char (3 : Int32) [(.int (0 : Int32)), (.int (0 : Int32)), (.int (0 : Int32))] (.int (0 : Int32)) := (Arv.new A2 (by decide)).pad (pad_rep [] (.int (0 : Int32)) 3)
 have O2 := O1.ext E2
 have K2 : Keep h0 h2 ([] : List Addr) := Keep.ext K1 E2
 refine Home.run X2 hx hby sg1_54_4 (pc' := 58) (L' := #[.val (.int (3 : Int32)), .val (.ref o1)]) (S' := [(.int (0 : Int32)), (.ref o1), (.int (0 : Int32)), (.ref b2), (.ref b2), (.ref b1), (.ref b1)]) rfl ?_
 obtain ⟨cl3, Ar3, q3, S3, M3, H3, G3⟩ := id (V_o1.keep K2 nin0)
 have ib3 : ¬ ((0 : Int32) < 0 ∨ cl3.slots.size ≤ ((0 : Int32)).toNatClampNeg) := inb_of S3 ⟨by decide, by decide⟩
 refine Home.go (X2.caload hx (j := (0 : Int32)) (v := (.int u1)) (by rw [e2]; exact Ar3.1) (State.isArrayOf_alike hZ.alike Ar3.2.1) Ar3.2.2 ib3 (Has.at H3 ib3 rfl) rfl rfl (hb hby d1_58)) ?_
 show Home T2 (mkF m 59 #[.val (.int (3 : Int32)), .val (.ref o1)] [(.int u1), (.int (0 : Int32)), (.ref b2), (.ref b2), (.ref b1), (.ref b1)])
 obtain ⟨cl4, Ar4, q4, S4, M4, H4, G4⟩ := id V2
 refine Home.wr (stC X2 hx hZ e2 Ar4 (j := (0 : Int32)) (inb_of S4 ⟨by decide, by decide⟩) rfl rfl (hb hby d1_59)) fun T4 h4 X4 e4 W4 => ?_
 have W4' := Wr.to W4 (congrArg Value.int (nar_char_id bnd_u1 (by decide +kernel) (by decide +kernel)))
 have V4 : Arv Z h4 b2 k2 .char (3 : Int32) [(.int u1), (.int (0 : Int32)), (.int (0 : Int32))] (.int (0 : Int32)) := Arv.set Ar4 q4 S4 M4 H4 G4 (fits_char_b bnd_u1 (by decide +kernel) (by decide +kernel)) W4' 0 rfl (Nat.le_of_ble_eq_true rfl)
 have O4 := O2.wr W4 g_b2
 have K4 : Keep h0 h4 ([] : List Addr) := Keep.wr K2 W4 (Or.inr (Nat.le_trans E1.1 (Nat.le_of_eq g2.symm)))
 have N4 := Fr.snoc X4 N0 g_b2
 refine Home.run X4 hx hby sg1_60_4 (pc' := 64) (L' := #[.val (.int (3 : Int32)), .val (.ref o1)]) (S' := [(.int (1 : Int32)), (.ref o1), (.int (1 : Int32)), (.ref b2), (.ref b2), (.ref b1), (.ref b1)]) rfl ?_
 obtain ⟨cl5, Ar5, q5, S5, M5, H5, G5⟩ := id (V_o1.keep K4 nin0)
 have ib5 : ¬ ((1 : Int32) < 0 ∨ cl5.slots.size ≤ ((1 : Int32)).toNatClampNeg) := inb_of S5 ⟨by decide, by decide⟩
 refine Home.go (X4.caload hx (j := (1 : Int32)) (v := (.int u2)) (by rw [e4]; exact Ar5.1) (State.isArrayOf_alike hZ.alike Ar5.2.1) Ar5.2.2 ib5 (Has.at H5 ib5 rfl) rfl rfl (hb hby d1_64)) ?_
 show Home T4 (mkF m 65 #[.val (.int (3 : Int32)), .val (.ref o1)] [(.int u2), (.int (1 : Int32)), (.ref b2), (.ref b2), (.ref b1), (.ref b1)])
 obtain ⟨cl6, Ar6, q6, S6, M6, H6, G6⟩ := id V4
 refine Home.wr (stC X4 hx hZ e4 Ar6 (j := (1 : Int32)) (inb_of S6 ⟨by decide, by decide⟩) rfl rfl (hb hby d1_65)) fun T6 h6 X6 e6 W6 => ?_
 have W6' := Wr.to W6 (congrArg Value.int (nar_char_id bnd_u2 (by decide +kernel) (by decide +kernel)))
 have V6 : Arv Z h6 b2 k2 .char (3 : Int32) [(.int u1), (.int u2), (.int (0 : Int32))] (.int (0 : Int32)) := Arv.set Ar6 q6 S6 M6 H6 G6 (fits_char_b bnd_u2 (by decide +kernel) (by decide +kernel)) W6' 1 rfl (Nat.le_of_ble_eq_true rfl)
 have O6 := O4.wr W6 g_b2
 have K6 : Keep h0 h6 ([] : List Addr) := Keep.wr K4 W6 (Or.inr (Nat.le_trans E1.1 (Nat.le_of_eq g2.symm)))
 have N6 := Fr.snoc X6 N4 g_b2
 refine Home.run X6 hx hby sg1_66_4 (pc' := 70) (L' := #[.val (.int (3 : Int32)), .val (.ref o1)]) (S' := [(.int (2 : Int32)), (.ref o1), (.int (2 : Int32)), (.ref b2), (.ref b2), (.ref b1), (.ref b1)]) rfl ?_
 obtain ⟨cl7, Ar7, q7, S7, M7, H7, G7⟩ := id (V_o1.keep K6 nin0)
 have ib7 : ¬ ((2 : Int32) < 0 ∨ cl7.slots.size ≤ ((2 : Int32)).toNatClampNeg) := inb_of S7 ⟨by decide, by decide⟩
 refine Home.go (X6.caload hx (j := (2 : Int32)) (v := (.int u3)) (by rw [e6]; exact Ar7.1) (State.isArrayOf_alike hZ.alike Ar7.2.1) Ar7.2.2 ib7 (Has.at H7 ib7 rfl) rfl rfl (hb hby d1_70)) ?_
 show Home T6 (mkF m 71 #[.val (.int (3 : Int32)), .val (.ref o1)] [(.int u3), (.int (2 : Int32)), (.ref b2), (.ref b2), (.ref b1), (.ref b1)])
 obtain ⟨cl8, Ar8, q8, S8, M8, H8, G8⟩ := id V6
 refine Home.wr (stC X6 hx hZ e6 Ar8 (j := (2 : Int32)) (inb_of S8 ⟨by decide, by decide⟩) rfl rfl (hb hby d1_71)) fun T8 h8 X8 e8 W8 => ?_
 have W8' := Wr.to W8 (congrArg Value.int (nar_char_id bnd_u3 (by decide +kernel) (by decide +kernel)))
 have V8 : Arv Z h8 b2 k2 .char (3 : Int32) [(.int u1), (.int u2), (.int u3)] (.int (0 : Int32)) := Arv.set Ar8 q8 S8 M8 H8 G8 (fits_char_b bnd_u3 (by decide +kernel) (by decide +kernel)) W8' 2 rfl (Nat.le_of_ble_eq_true rfl)
 have O8 := O6.wr W8 g_b2
 have K8 : Keep h0 h8 ([] : List Addr) := Keep.wr K6 W8 (Or.inr (Nat.le_trans E1.1 (Nat.le_of_eq g2.symm)))
 have N8 := Fr.snoc X8 N6 g_b2
 have q9 := ((((A1.ext E2).wr W4).wr W6).wr W8)
 have ne10 : b1 ≠ b2 := (Nat.ne_of_lt (Nat.lt_of_lt_of_le A1.lt (Nat.le_trans (Nat.le_refl _) (Nat.le_of_eq g2.symm))))
 have q11 := ((((F_coder_b1.ext E2).other W4 (Or.inl ne10)).other W6 (Or.inl ne10)).other W8 (Or.inl ne10))
 have q12 := ((((F_value_b1.ext E2).other W4 (Or.inl ne10)).other W6 (Or.inl ne10)).other W8 (Or.inl ne10))
 refine Home.call (own_special X8 hx hZ hown rfl (own_w195 hw) (own_w196 hw) (own_w9 hw) (own_w197 hw) (by decide) (rm38_1 l Z a0 hw [] b1 b2 k2 u1 u2 u3 sv_COMPACT_STRINGS h8 n0 O8 V8 S_COMPACT_STRINGS q9 q11 q12 bnd_u1 bnd_u2 bnd_u3 g_b1 hCS) e8 rfl (by rw [hml]; rfl) (a := b1) (argsL := [(.ref b2)]) (rest := [(.ref b1)]) (lenOf own_pd9 rfl) rfl rfl (W := 1) (by exact hW0) (by decide) (by decide) (hb hby d1_72) (by decide) (by decide)) ?_
 rintro _ T13 L13 X13 ⟨b1_3_2_13, k1_3_2_13, rfl, N13q, sz_b1_3_2_13, K13q, P13_0, P13_1, P13_2, P13_3⟩
 have g_b1_3_2_13 : n0 ≤ b1_3_2_13 := Nat.le_trans (Old.le O8) sz_b1_3_2_13
 have O13 := Old.keep O8 K13q (allS g_b1 all0)
 have K13 : Keep h0 T13.heap ([] : List Addr) := Keep.trans K8 K13q (allS (Or.inr (Nat.le_trans (Nat.le_refl _) (Nat.le_of_eq g1.symm))) all0)
 have N13 := Fr.app N8 N13q
 show Home T13 (mkF m 75 #[.val (.int (3 : Int32)), .val (.ref o1)] [(.ref b1)])
 have le14 : h0.size ≤ h2.size := Nat.le_trans E1.1 E2.1
 have le15 : h0.size ≤ h4.size := Nat.le_trans le14 (Nat.le_of_eq W4.size.symm)
 have le16 : h0.size ≤ h6.size := Nat.le_trans le15 (Nat.le_of_eq W6.size.symm)
 have le17 : h0.size ≤ h8.size := Nat.le_trans le16 (Nat.le_of_eq W8.size.symm)
 exact Home.retR X13 hx hlk hret rfl rfl (hb hby d1_75) ⟨b1, b1_3_2_13, k1_3_2_13, rfl, N13, (Nat.le_trans (Nat.le_refl _) (Nat.le_of_eq g1.symm)), (Nat.le_trans le17 sz_b1_3_2_13), K13, P13_0, P13_2, P13_1, P13_3⟩ (by decide) (by decide)
theorem rm10_4 (l : Launch) (Z : State) (a0 : Array Value) (hw : HW a0 Z) (ws : List Jvm.Cond) (o0 p2 : Addr) (k_p2 : ClassId) (l_1 : List Int32) (sv_COMPACT_STRINGS : Int32) (h0 : Heap) (n0 : Nat) (O0 : Old Z n0 h0) (F_value_o0 : Fld Z h0 o0 "java/lang/String" "value" "[B" (.ref p2)) (V_p2 : Arv Z h0 p2 k_p2 .byte (own_n l_1) (List.map Value.int l_1) (.int (0 : Int32))) (E_o0 : Exa Z h0 o0 "java/lang/String") (S_COMPACT_STRINGS : Sta Z Z.heap "java/lang/String" "COMPACT_STRINGS" "Z" (.int sv_COMPACT_STRINGS)) (F_coder_o0 : Fld Z h0 o0 "java/lang/String" "coder" "B" (.int (0 : Int32))) (hCS : ¬ (sv_COMPACT_STRINGS = (0 : Int32))) (sh_l_1 : l_1.length ≤ 8) :
    Con l Z (⟨"java/lang/String", "length", "()I"⟩ : MethodName) jdk_42_method_54_code 1 (some .int) ws ({ frames := 1, cells := 0, slots := 0, locals := 13 } : Room) #[(.ref o0)] h0 (Pur (some (.int (own_n l_1))) h0) := by
 refine own_body (plainFor_of_name own_pn2) (fun m => ef_rm10_4 m o0) ?_
 intro p e s m below meth c s₁ hx hby hlk hml hret hZ hown hnm X0 e0
 have N0 := Fr.nil n0
 refine Home.run X0 hx hby sg10_0_1 (pc' := 1) (L' := #[.val (.ref o0)]) (S' := [(.ref o0)]) rfl ?_
 refine Home.st (getF X0 hx hZ hown (host := "") (Or.inl (own_w69 hw)) Via.refl e0 F_value_o0 rfl rfl (hb hby d10_1)) fun T1 X1 e1 => ?_
 obtain ⟨cl2, Ar2, q2, S2, M2, H2, G2⟩ := id V_p2
 refine Home.go (own_alen X1 hx hZ e1 Ar2 S2 M2 rfl rfl (hb hby d10_4)) ?_
 refine Home.run X1 hx hby sg10_5_1 (pc' := 6) (L' := #[.val (.ref o0)]) (S' := [(.ref o0), (.int (own_n l_1))]) rfl ?_
 refine Home.st (own_pure (own_virtual X1 hx hZ hown (own_w70 hw) (own_w71 hw) (notFace_of_selects (args := #[]) (mvT hZ (own_w73 hw))) (own_w73 hw) (own_w72 hw) (own_w9 hw) (own_w74 hw) (by decide) (rm11_0 l Z a0 hw [] o0 sv_COMPACT_STRINGS h0 n0 O0 S_COMPACT_STRINGS hCS F_coder_o0) e1 E_o0 rfl (by rw [hml]; rfl) (argsL := []) (rest := [(.int (own_n l_1))]) (lenOf own_pd13 rfl) rfl rfl (W := 1) (by exact hW0) (by decide) (by decide) (hb hby d10_6) (by decide) (by decide))) fun T3 X3 e3 => ?_
 refine Home.run X3 hx hby sg10_9_1 (pc' := 10) (L' := #[.val (.ref o0)]) (S' := [(.int ((own_n l_1) >>> ((0 : Int32) &&& 31)))]) rfl ?_
 rw [own_shr0]
 exact Home.retI X3 hx hlk hret (hb hby d10_10) ⟨rfl, rfl, e3⟩ (by decide) (by decide)
theorem rm32_3 (l : Launch) (Z : State) (a0 : Array Value) (hw : HW a0 Z) (ws : List Jvm.Cond) (i0 : Int32) (o2 : Value) (l_1 : List Int32) (h0 : Heap) (n0 : Nat) (O0 : Old Z n0 h0) (bnd_i0 : ¬ i0 < (0 : Int32) ∧ ¬ (7 : Int32) < i0) (pt0 : i0 < (own_n l_1)) (sh_l_1 : l_1.length ≤ 8) (isr_o2 : o2.isRef = true) :
    Con l Z (⟨"jdk/internal/util/Preconditions", "checkIndex", "(IILjava/util/function/BiFunction;)I"⟩ : MethodName) jdk_41_method_11_code 3 (some .int) ws ({ frames := 0, cells := 0, slots := 0, locals := 0 } : Room) #[(.int i0), (.int (own_n l_1)), o2] h0 (Pur (some (.int i0)) h0) := by
 refine own_body (plainFor_of_name own_pn9) (fun m => ef_rm32_3 m i0 (own_n l_1) o2 (isr_o2)) ?_
 intro p e s m below meth c s₁ hx hby hlk hml hret hZ hown hnm X0 e0
 have N0 := Fr.nil n0
 refine Home.run X0 hx hby sg32_0_1 (pc' := 1) (L' := #[.val (.int i0), .val (.int (own_n l_1)), .val o2]) (S' := [(.int i0)]) rfl ?_
 refine Home.go (fun _ => XS.ifNo X0.here hx rfl (hb hby d32_1) rfl ((if0 _ _).trans (flt (bnd_nlt bnd_i0 (bnd_lit (0 : Int32)) (by decide +kernel))).1)) ?_
 refine Home.run X0 hx hby sg32_4_2 (pc' := 6) (L' := #[.val (.int i0), .val (.int (own_n l_1)), .val o2]) (S' := [(.int (own_n l_1)), (.int i0)]) rfl ?_
 refine Home.go (fun _ => XS.icmpYes X0.here hx rfl (pc0 := 6) (pc' := 16) rfl (hb hby d32_6) rfl (tlt pt0).1 (by decide) (by decide)) ?_
 refine Home.run X0 hx hby sg32_16_1 (pc' := 17) (L' := #[.val (.int i0), .val (.int (own_n l_1)), .val o2]) (S' := [(.int i0)]) rfl ?_
 exact Home.retI X0 hx hlk hret (hb hby d32_17) ⟨rfl, rfl, e0⟩ (by decide) (by decide)
theorem rm31_3 (l : Launch) (Z : State) (a0 : Array Value) (hw : HW a0 Z) (ws : List Jvm.Cond) (i0 : Int32) (l_1 : List Int32) (sv_SIOOBE_FORMATTER : Value) (h0 : Heap) (n0 : Nat) (O0 : Old Z n0 h0) (bnd_i0 : ¬ i0 < (0 : Int32) ∧ ¬ (7 : Int32) < i0) (pt0 : i0 < (own_n l_1)) (sh_l_1 : l_1.length ≤ 8) (S_SIOOBE_FORMATTER : Sta Z Z.heap "jdk/internal/util/Preconditions" "SIOOBE_FORMATTER" "Ljava/util/function/BiFunction;" sv_SIOOBE_FORMATTER) (isr_sv_SIOOBE_FORMATTER : sv_SIOOBE_FORMATTER.isRef = true) :
    Con l Z (⟨"java/lang/String", "checkIndex", "(II)V"⟩ : MethodName) jdk_42_method_155_code 2 none ws ({ frames := 1, cells := 0, slots := 0, locals := 14 } : Room) #[(.int i0), (.int (own_n l_1))] h0 (Pur none h0) := by
 refine own_body (plainFor_of_name own_pn2) (fun m => ef_rm31_3 m i0 (own_n l_1)) ?_
 intro p e s m below meth c s₁ hx hby hlk hml hret hZ hown hnm X0 e0
 have N0 := Fr.nil n0
 refine Home.run X0 hx hby sg31_0_2 (pc' := 2) (L' := #[.val (.int i0), .val (.int (own_n l_1))]) (S' := [(.int (own_n l_1)), (.int i0)]) rfl ?_
 refine Home.st (getS2 X0 hx hZ hown (host := "") (Or.inl (own_w173 hw)) Via.refl e0 (S_SIOOBE_FORMATTER.ext O0.2) rfl (hb hby d31_2)) fun T1 X1 e1 => ?_
 refine Home.st (own_pure (own_static X1 hx hZ hown (own_w175 hw) (own_w176 hw) (own_w174 hw) (own_w177 hw) (by decide) (rm32_3 l Z a0 hw [] i0 sv_SIOOBE_FORMATTER l_1 h0 n0 O0 bnd_i0 pt0 (Nat.le_trans (own_len_le sh_l_1).2 (by decide)) isr_sv_SIOOBE_FORMATTER) e1 rfl (by rw [hml]; rfl) (argsL := [(.int i0), (.int (own_n l_1)), sv_SIOOBE_FORMATTER]) (rest := []) (lenOf own_pd28 rfl) rfl rfl (W := 0) (by exact hW0) (by decide) (by decide) (hb hby d31_5) (by decide) (by decide))) fun T2 X2 e2 => ?_
 refine Home.run X2 hx hby sg31_8_1 (pc' := 9) (L' := #[.val (.int i0), .val (.int (own_n l_1))]) (S' := []) rfl ?_
 exact Home.ret0 X2 hx hlk hret (hb hby d31_9) ⟨rfl, rfl, e2⟩ (by decide) (by decide)
theorem rm30_3 (l : Launch) (Z : State) (a0 : Array Value) (hw : HW a0 Z) (ws : List Jvm.Cond) (o0 : Addr) (i1 : Int32) (k_o0 : ClassId) (l_1 : List Int32) (sv_SIOOBE_FORMATTER : Value) (h0 : Heap) (n0 : Nat) (O0 : Old Z n0 h0) (bnd_i1 : ¬ i1 < (0 : Int32) ∧ ¬ (7 : Int32) < i1) (pt0 : i1 < (own_n l_1)) (sh_l_1 : l_1.length ≤ 8) (V_o0 : Arv Z h0 o0 k_o0 .byte (own_n l_1) (List.map Value.int l_1) (.int (0 : Int32))) (S_SIOOBE_FORMATTER : Sta Z Z.heap "jdk/internal/util/Preconditions" "SIOOBE_FORMATTER" "Ljava/util/function/BiFunction;" sv_SIOOBE_FORMATTER) (isr_sv_SIOOBE_FORMATTER : sv_SIOOBE_FORMATTER.isRef = true) :
    Con l Z (⟨"java/lang/StringLatin1", "charAt", "([BI)C"⟩ : MethodName) jdk_43_method_2_code 2 (some .char) ws ({ frames := 2, cells := 0, slots := 0, locals := 27 } : Room) #[(.ref o0), (.int i1)] h0 (Pur (some (.int ((own_at l_1 i1) &&& (255 : Int32)))) h0) := by
 refine own_body (plainFor_of_name own_pn1) (fun m => ef_rm30_3 m o0 i1) ?_
 intro p e s m below meth c s₁ hx hby hlk hml hret hZ hown hnm X0 e0
 have N0 := Fr.nil n0
 refine Home.run X0 hx hby sg30_0_2 (pc' := 2) (L' := #[.val (.ref o0), .val (.int i1)]) (S' := [(.ref o0), (.int i1)]) rfl ?_
 obtain ⟨cl1, Ar1, q1, S1, M1, H1, G1⟩ := id V_o0
 refine Home.go (own_alen X0 hx hZ e0 Ar1 S1 M1 rfl rfl (hb hby d30_2)) ?_
 refine Home.st (own_pure (own_static X0 hx hZ hown (own_w170 hw) (own_w171 hw) (own_w9 hw) (own_w172 hw) (by decide) (rm31_3 l Z a0 hw [] i1 l_1 sv_SIOOBE_FORMATTER h0 n0 O0 bnd_i1 pt0 (Nat.le_trans (own_len_le sh_l_1).2 (by decide)) S_SIOOBE_FORMATTER isr_sv_SIOOBE_FORMATTER) e0 rfl (by rw [hml]; rfl) (argsL := [(.int i1), (.int (own_n l_1))]) (rest := []) (lenOf own_pd22 rfl) rfl rfl (W := 0) (by exact hW0) (by decide) (by decide) (hb hby d30_3) (by decide) (by decide))) fun T2 X2 e2 => ?_
 refine Home.run X2 hx hby sg30_6_2 (pc' := 8) (L' := #[.val (.ref o0), .val (.int i1)]) (S' := [(.int i1), (.ref o0)]) rfl ?_
 obtain ⟨cl3, Ar3, q3, S3, M3, H3, G3⟩ := id V_o0
 have ib3 : ¬ (i1 < 0 ∨ cl3.slots.size ≤ (i1).toNatClampNeg) := inb_of S3 ⟨(bnd_nlt bnd_i1 (bnd_lit (0 : Int32)) (by decide +kernel)), pt0⟩
 refine Home.go (X2.baloadBytes hx (j := i1) (v := .int (own_at l_1 i1)) (by rw [e2]; exact Ar3.1) (State.isArrayOf_alike hZ.alike Ar3.2.1) Ar3.2.2 ib3 (Has.at H3 ib3 (own_getD l_1 _)) rfl rfl (hb hby d30_8)) ?_
 show Home T2 (mkF m 9 #[.val (.ref o0), .val (.int i1)] [(.int (own_at l_1 i1))])
 refine Home.run X2 hx hby sg30_9_3 (pc' := 14) (L' := #[.val (.ref o0), .val (.int i1)]) (S' := [(.int (((own_at l_1 i1) &&& (255 : Int32)).toUInt32.toUInt16.toUInt32.toInt32))]) rfl ?_
 rw [i2c_id (bnd_and (own_at l_1 i1) (255 : Int32) (by decide)) (by decide +kernel) (by decide +kernel)]
 exact Home.retN X2 hx hlk (t := .char) hret (by simp) (hb hby d30_14) ⟨congrArg some (congrArg Value.int (by first | rfl | exact nar_i2c _ | exact nar_i2b _ | exact nar_char_id (bnd_and (own_at l_1 i1) (255 : Int32) (by decide)) (by decide +kernel) (by decide +kernel))), rfl, e2⟩ (by decide) (by decide)
theorem rm28_3 (l : Launch) (Z : State) (a0 : Array Value) (hw : HW a0 Z) (ws : List Jvm.Cond) (o0 : Addr) (i1 sv_COMPACT_STRINGS : Int32) (p2 : Addr) (k_p2 : ClassId) (l_1 : List Int32) (sv_SIOOBE_FORMATTER : Value) (h0 : Heap) (n0 : Nat) (O0 : Old Z n0 h0) (bnd_i1 : ¬ i1 < (0 : Int32) ∧ ¬ (7 : Int32) < i1) (pt0 : i1 < (own_n l_1)) (sh_l_1 : l_1.length ≤ 8) (E_o0 : Exa Z h0 o0 "java/lang/String") (S_COMPACT_STRINGS : Sta Z Z.heap "java/lang/String" "COMPACT_STRINGS" "Z" (.int sv_COMPACT_STRINGS)) (F_coder_o0 : Fld Z h0 o0 "java/lang/String" "coder" "B" (.int (0 : Int32))) (hCS : ¬ (sv_COMPACT_STRINGS = (0 : Int32))) (F_value_o0 : Fld Z h0 o0 "java/lang/String" "value" "[B" (.ref p2)) (V_p2 : Arv Z h0 p2 k_p2 .byte (own_n l_1) (List.map Value.int l_1) (.int (0 : Int32))) (S_SIOOBE_FORMATTER : Sta Z Z.heap "jdk/internal/util/Preconditions" "SIOOBE_FORMATTER" "Ljava/util/function/BiFunction;" sv_SIOOBE_FORMATTER) (isr_sv_SIOOBE_FORMATTER : sv_SIOOBE_FORMATTER.isRef = true) :
    Con l Z (⟨"java/lang/String", "charAt", "(I)C"⟩ : MethodName) jdk_42_method_56_code 2 (some .char) ws ({ frames := 3, cells := 0, slots := 0, locals := 40 } : Room) #[(.ref o0), (.int i1)] h0 (Pur (some (.int ((own_at l_1 i1) &&& (255 : Int32)))) h0) := by
 refine own_body (plainFor_of_name own_pn2) (fun m => ef_rm28_3 m o0 i1) ?_
 intro p e s m below meth c s₁ hx hby hlk hml hret hZ hown hnm X0 e0
 have N0 := Fr.nil n0
 refine Home.run X0 hx hby sg28_0_1 (pc' := 1) (L' := #[.val (.ref o0), .val (.int i1)]) (S' := [(.ref o0)]) rfl ?_
 refine Home.st (own_pure (own_virtual X0 hx hZ hown (own_w161 hw) (own_w162 hw) (notFace_of_selects (args := #[]) (mvT hZ (own_w164 hw))) (own_w164 hw) (own_w163 hw) (own_w9 hw) (own_w165 hw) (by decide) (rm29_0 l Z a0 hw [] o0 sv_COMPACT_STRINGS h0 n0 O0 S_COMPACT_STRINGS hCS F_coder_o0) e0 E_o0 rfl (by rw [hml]; rfl) (argsL := []) (rest := []) (lenOf own_pd21 rfl) rfl rfl (W := 0) (by exact hW0) (by decide) (by decide) (hb hby d28_1) (by decide) (by decide))) fun T1 X1 e1 => ?_
 refine Home.go (fun _ => XS.ifNo X1.here hx rfl (hb hby d28_4) rfl ((if0 _ _).trans (feq (by decide)).1)) ?_
 refine Home.run X1 hx hby sg28_7_1 (pc' := 8) (L' := #[.val (.ref o0), .val (.int i1)]) (S' := [(.ref o0)]) rfl ?_
 refine Home.st (getF X1 hx hZ hown (host := "") (Or.inl (own_w69 hw)) Via.refl e1 F_value_o0 rfl rfl (hb hby d28_8)) fun T2 X2 e2 => ?_
 refine Home.run X2 hx hby sg28_11_1 (pc' := 12) (L' := #[.val (.ref o0), .val (.int i1)]) (S' := [(.int i1), (.ref p2)]) rfl ?_
 refine Home.st (own_pure (own_static X2 hx hZ hown (own_w166 hw) (own_w167 hw) (own_w168 hw) (own_w169 hw) (by decide) (rm30_3 l Z a0 hw [] p2 i1 k_p2 l_1 sv_SIOOBE_FORMATTER h0 n0 O0 bnd_i1 pt0 (Nat.le_trans (own_len_le sh_l_1).2 (by decide)) V_p2 S_SIOOBE_FORMATTER isr_sv_SIOOBE_FORMATTER) e2 rfl (by rw [hml]; rfl) (argsL := [(.ref p2), (.int i1)]) (rest := []) (lenOf own_pd29 rfl) rfl rfl (W := 0) (by exact hW0) (by decide) (by decide) (hb hby d28_12) (by decide) (by decide))) fun T3 X3 e3 => ?_
 exact Home.retN X3 hx hlk (t := .char) hret (by simp) (hb hby d28_15) ⟨congrArg some (congrArg Value.int (by first | rfl | exact nar_i2c _ | exact nar_i2b _ | exact nar_char_id (bnd_and (own_at l_1 i1) (255 : Int32) (by decide)) (by decide +kernel) (by decide +kernel))), rfl, e3⟩ (by decide) (by decide)
theorem rm33_3 (l : Launch) (Z : State) (a0 : Array Value) (hw : HW a0 Z) (ws : List Jvm.Cond) (i0 : Int32) (o2 o3 : Addr) (k_o2 : ClassId) (u1 u2 u3 : Int32) (k_o3 : ClassId) (u4 u5 u6 : Int32) (h0 : Heap) (n0 : Nat) (O0 : Old Z n0 h0) (bnd_i0 : ¬ i0 < (0 : Int32) ∧ ¬ (7 : Int32) < i0) (V_o2 : Arv Z h0 o2 k_o2 .char (3 : Int32) [(.int u1), (.int u2), (.int u3)] (.int (0 : Int32))) (bnd_u1 : ¬ u1 < (0 : Int32) ∧ ¬ (255 : Int32) < u1) (bnd_u2 : ¬ u2 < (0 : Int32) ∧ ¬ (255 : Int32) < u2) (bnd_u3 : ¬ u3 < (0 : Int32) ∧ ¬ (255 : Int32) < u3) (V_o3 : Arv Z h0 o3 k_o3 .char (3 : Int32) [(.int u4), (.int u5), (.int u6)] (.int (0 : Int32))) (bnd_u4 : ¬ u4 < (0 : Int32) ∧ ¬ (255 : Int32) < u4) (bnd_u5 : ¬ u5 < (0 : Int32) ∧ ¬ (255 : Int32) < u5) (bnd_u6 : ¬ u6 < (0 : Int32) ∧ ¬ (255 : Int32) < u6) :
    Con l Z (⟨"com/example/wary_meter/warymeter/RefusalMessagePinLaw", "exp", "(II[C[C)C"⟩ : MethodName) method_3_code 4 (some .char) ws ({ frames := 0, cells := 0, slots := 0, locals := 0 } : Room) #[(.int i0), (.int (3 : Int32)), (.ref o2), (.ref o3)] h0 (Pur (some (.int (f_rm33_3 i0 u1 u2 u3 u4 u5 u6))) h0) := by
 refine own_body (plainFor_of_name own_pn0) (fun m => ef_rm33_3 m i0 (3 : Int32) o2 o3) ?_
 intro p e s m below meth c s₁ hx hby hlk hml hret hZ hown hnm X0 e0
 have N0 := Fr.nil n0
 refine Home.run X0 hx hby sg33_0_2 (pc' := 2) (L' := #[.val (.int i0), .val (.int (3 : Int32)), .val (.ref o2), .val (.ref o3)]) (S' := [(.int (3 : Int32)), (.int i0)]) rfl ?_
 by_cases c1 : i0 < (3 : Int32)
 ·
  refine Home.go (fun _ => XS.icmpNo X0.here hx rfl (hb hby d33_2) rfl (tlt c1).2.1) ?_
  have bd2 : ¬ i0 < (0 : Int32) ∧ ¬ (2 : Int32) < i0 := ⟨bnd_i0.1, (bnd_dn c1 (by decide +kernel))⟩
  refine Home.run X0 hx hby sg33_5_2 (pc' := 7) (L' := #[.val (.int i0), .val (.int (3 : Int32)), .val (.ref o2), .val (.ref o3)]) (S' := [(.int i0), (.ref o2)]) rfl ?_
  obtain ⟨cl4, Ar4, q4, S4, M4, H4, G4⟩ := id V_o2
  have ib4 : ¬ (i0 < 0 ∨ cl4.slots.size ≤ (i0).toNatClampNeg) := inb_of S4 ⟨(bnd_nlt bd2 (bnd_lit (0 : Int32)) (by decide +kernel)), c1⟩
  refine Home.go (X0.caload hx (j := i0) (v := .int (own_at [u1, u2, u3] i0)) (by rw [e0]; exact Ar4.1) (State.isArrayOf_alike hZ.alike Ar4.2.1) Ar4.2.2 ib4 (Has.at H4 ib4 (own_getD [u1, u2, u3] _)) rfl rfl (hb hby d33_7)) ?_
  exact Home.retN X0 hx hlk (t := .char) hret (by simp) (hb hby d33_8) ⟨congrArg some (congrArg Value.int (by first | rfl | (simp only [f_rm33_3, if_pos c1, nar_i2c, nar_i2b] <;> rfl) | (simp [f_rm33_3, if_pos c1]; done))), rfl, e0⟩ (by decide) (by decide)
 ·
  refine Home.go (fun _ => XS.icmpYes X0.here hx rfl (pc0 := 2) (pc' := 9) rfl (hb hby d33_2) rfl (flt c1).2.1 (by decide) (by decide)) ?_
  have bd3 : ¬ i0 < (3 : Int32) ∧ ¬ (7 : Int32) < i0 := ⟨c1, bnd_i0.2⟩
  refine Home.run X0 hx hby sg33_9_2 (pc' := 11) (L' := #[.val (.int i0), .val (.int (3 : Int32)), .val (.ref o2), .val (.ref o3)]) (S' := [(.int (3 : Int32)), (.int i0)]) rfl ?_
  by_cases c5 : i0 = (3 : Int32)
  ·
   refine Home.go (fun _ => XS.icmpNo X0.here hx rfl (hb hby d33_11) rfl (teq c5).2) ?_
   have bd6 : ¬ i0 < (3 : Int32) ∧ ¬ (3 : Int32) < i0 := ⟨(bnd_eql c5), (bnd_eqr c5)⟩
   refine Home.run X0 hx hby sg33_14_1 (pc' := 16) (L' := #[.val (.int i0), .val (.int (3 : Int32)), .val (.ref o2), .val (.ref o3)]) (S' := [(.int (58 : Int32))]) rfl ?_
   exact Home.retN X0 hx hlk (t := .char) hret (by simp) (hb hby d33_16) ⟨congrArg some (congrArg Value.int (by first | rfl | (simp only [f_rm33_3, if_neg c1, if_pos c5, nar_i2c, nar_i2b] <;> rfl) | (simp [f_rm33_3, if_neg c1, if_pos c5]; done))), rfl, e0⟩ (by decide) (by decide)
  ·
   refine Home.go (fun _ => XS.icmpYes X0.here hx rfl (pc0 := 11) (pc' := 17) rfl (hb hby d33_11) rfl (feq c5).2 (by decide) (by decide)) ?_
   have bd7 : ¬ i0 < (4 : Int32) ∧ ¬ (7 : Int32) < i0 := ⟨(bnd_nel bd3.1 c5 (by decide +kernel)), bd3.2⟩
   refine Home.run X0 hx hby sg33_17_4 (pc' := 21) (L' := #[.val (.int i0), .val (.int (3 : Int32)), .val (.ref o2), .val (.ref o3)]) (S' := [(.int (4 : Int32)), (.int i0)]) rfl ?_
   by_cases c8 : i0 = (4 : Int32)
   ·
    refine Home.go (fun _ => XS.icmpNo X0.here hx rfl (hb hby d33_21) rfl (teq c8).2) ?_
    have bd9 : ¬ i0 < (4 : Int32) ∧ ¬ (4 : Int32) < i0 := ⟨(bnd_eql c8), (bnd_eqr c8)⟩
    refine Home.run X0 hx hby sg33_24_1 (pc' := 26) (L' := #[.val (.int i0), .val (.int (3 : Int32)), .val (.ref o2), .val (.ref o3)]) (S' := [(.int (32 : Int32))]) rfl ?_
    exact Home.retN X0 hx hlk (t := .char) hret (by simp) (hb hby d33_26) ⟨congrArg some (congrArg Value.int (by first | rfl | (simp only [f_rm33_3, if_neg c1, if_neg c5, if_pos c8, nar_i2c, nar_i2b] <;> rfl) | (simp [f_rm33_3, if_neg c1, if_neg c5, if_pos c8]; done))), rfl, e0⟩ (by decide) (by decide)
   ·
    refine Home.go (fun _ => XS.icmpYes X0.here hx rfl (pc0 := 21) (pc' := 27) rfl (hb hby d33_21) rfl (feq c8).2 (by decide) (by decide)) ?_
    have bd10 : ¬ i0 < (5 : Int32) ∧ ¬ (7 : Int32) < i0 := ⟨(bnd_nel bd7.1 c8 (by decide +kernel)), bd7.2⟩
    refine Home.run X0 hx hby sg33_27_6 (pc' := 33) (L' := #[.val (.int i0), .val (.int (3 : Int32)), .val (.ref o2), .val (.ref o3)]) (S' := [(.int ((i0 - (3 : Int32)) - (2 : Int32))), (.ref o3)]) rfl ?_
    obtain ⟨cl11, Ar11, q11, S11, M11, H11, G11⟩ := id V_o3
    have ib11 : ¬ (((i0 - (3 : Int32)) - (2 : Int32)) < 0 ∨ cl11.slots.size ≤ (((i0 - (3 : Int32)) - (2 : Int32))).toNatClampNeg) := inb_of S11 ⟨(bnd_nlt (bnd_sub (bnd_sub bd10 (bnd_lit (3 : Int32)) (lo := (2 : Int32)) (hi := (4 : Int32)) (by decide +kernel) (by decide +kernel) (by decide +kernel) (by decide +kernel)) (bnd_lit (2 : Int32)) (lo := (0 : Int32)) (hi := (2 : Int32)) (by decide +kernel) (by decide +kernel) (by decide +kernel) (by decide +kernel)) (bnd_lit (0 : Int32)) (by decide +kernel)), (bnd_lt (bnd_sub (bnd_sub bd10 (bnd_lit (3 : Int32)) (lo := (2 : Int32)) (hi := (4 : Int32)) (by decide +kernel) (by decide +kernel) (by decide +kernel) (by decide +kernel)) (bnd_lit (2 : Int32)) (lo := (0 : Int32)) (hi := (2 : Int32)) (by decide +kernel) (by decide +kernel) (by decide +kernel) (by decide +kernel)) (bnd_lit (3 : Int32)) (by decide +kernel))⟩
    refine Home.go (X0.caload hx (j := ((i0 - (3 : Int32)) - (2 : Int32))) (v := .int (own_at [u4, u5, u6] ((i0 - (3 : Int32)) - (2 : Int32)))) (by rw [e0]; exact Ar11.1) (State.isArrayOf_alike hZ.alike Ar11.2.1) Ar11.2.2 ib11 (Has.at H11 ib11 (own_getD [u4, u5, u6] _)) rfl rfl (hb hby d33_33)) ?_
    exact Home.retN X0 hx hlk (t := .char) hret (by simp) (hb hby d33_34) ⟨congrArg some (congrArg Value.int (by first | rfl | (simp only [f_rm33_3, if_neg c1, if_neg c5, if_neg c8, nar_i2c, nar_i2b] <;> rfl) | (simp [f_rm33_3, if_neg c1, if_neg c5, if_neg c8]; done))), rfl, e0⟩ (by decide) (by decide)
theorem rm27_3 (l : Launch) (Z : State) (a0 : Array Value) (hw : HW a0 Z) (ws : List Jvm.Cond) (o0 : Addr) (i1 : Int32) (o3 o4 p4 : Addr) (k_p4 : ClassId) (l_7 : List Int32) (sv_COMPACT_STRINGS : Int32) (sv_SIOOBE_FORMATTER : Value) (k_o3 : ClassId) (u1 u2 u3 : Int32) (k_o4 : ClassId) (u4 u5 u6 : Int32) (h0 : Heap) (n0 : Nat) (O0 : Old Z n0 h0) (bnd_i1 : ¬ i1 < (0 : Int32) ∧ ¬ (7 : Int32) < i1) (E_o0 : Exa Z h0 o0 "java/lang/String") (F_value_o0 : Fld Z h0 o0 "java/lang/String" "value" "[B" (.ref p4)) (V_p4 : Arv Z h0 p4 k_p4 .byte (own_n l_7) (List.map Value.int l_7) (.int (0 : Int32))) (S_COMPACT_STRINGS : Sta Z Z.heap "java/lang/String" "COMPACT_STRINGS" "Z" (.int sv_COMPACT_STRINGS)) (F_coder_o0 : Fld Z h0 o0 "java/lang/String" "coder" "B" (.int (0 : Int32))) (hCS : ¬ (sv_COMPACT_STRINGS = (0 : Int32))) (sh_l_7 : l_7.length ≤ 8) (S_SIOOBE_FORMATTER : Sta Z Z.heap "jdk/internal/util/Preconditions" "SIOOBE_FORMATTER" "Ljava/util/function/BiFunction;" sv_SIOOBE_FORMATTER) (isr_sv_SIOOBE_FORMATTER : sv_SIOOBE_FORMATTER.isRef = true) (V_o3 : Arv Z h0 o3 k_o3 .char (3 : Int32) [(.int u1), (.int u2), (.int u3)] (.int (0 : Int32))) (V_o4 : Arv Z h0 o4 k_o4 .char (3 : Int32) [(.int u4), (.int u5), (.int u6)] (.int (0 : Int32))) (bnd_u1 : ¬ u1 < (0 : Int32) ∧ ¬ (255 : Int32) < u1) (bnd_u2 : ¬ u2 < (0 : Int32) ∧ ¬ (255 : Int32) < u2) (bnd_u3 : ¬ u3 < (0 : Int32) ∧ ¬ (255 : Int32) < u3) (bnd_u4 : ¬ u4 < (0 : Int32) ∧ ¬ (255 : Int32) < u4) (bnd_u5 : ¬ u5 < (0 : Int32) ∧ ¬ (255 : Int32) < u5) (bnd_u6 : ¬ u6 < (0 : Int32) ∧ ¬ (255 : Int32) < u6) :
    Con l Z (⟨"com/example/wary_meter/warymeter/RefusalMessagePinLaw", "ok", "(Ljava/lang/String;II[C[C)Z"⟩ : MethodName) method_4_code 5 (some .boolean) ws ({ frames := 4, cells := 0, slots := 0, locals := 53 } : Room) #[(.ref o0), (.int i1), (.int (3 : Int32)), (.ref o3), (.ref o4)] h0 (Pur (some (.int (f_rm27_3 i1 l_7 u1 u2 u3 u4 u5 u6))) h0) := by
 refine own_body (plainFor_of_name own_pn0) (fun m => ef_rm27_3 m o0 i1 (3 : Int32) o3 o4) ?_
 intro p e s m below meth c s₁ hx hby hlk hml hret hZ hown hnm X0 e0
 have N0 := Fr.nil n0
 refine Home.run X0 hx hby sg27_0_2 (pc' := 2) (L' := #[.val (.ref o0), .val (.int i1), .val (.int (3 : Int32)), .val (.ref o3), .val (.ref o4)]) (S' := [(.ref o0), (.int i1)]) rfl ?_
 refine Home.st (own_pure (own_virtual X0 hx hZ hown (own_w152 hw) (own_w65 hw) (notFace_of_selects (args := #[]) (mvT hZ (own_w67 hw))) (own_w67 hw) (own_w66 hw) (own_w9 hw) (own_w68 hw) (by decide) (rm10_4 l Z a0 hw [] o0 p4 k_p4 l_7 sv_COMPACT_STRINGS h0 n0 O0 F_value_o0 V_p4 E_o0 S_COMPACT_STRINGS F_coder_o0 hCS (Nat.le_trans (own_len_le sh_l_7).2 (by decide))) e0 E_o0 rfl (by rw [hml]; rfl) (argsL := []) (rest := [(.int i1)]) (lenOf own_pd14 rfl) rfl rfl (W := 1) (by exact hW0) (by decide) (by decide) (hb hby d27_2) (by decide) (by decide))) fun T1 X1 e1 => ?_
 by_cases c2 : i1 < (own_n l_7)
 ·
  refine Home.go (fun _ => XS.icmpYes X1.here hx rfl (pc0 := 5) (pc' := 10) rfl (hb hby d27_5) rfl (tlt c2).1 (by decide) (by decide)) ?_
  refine Home.run X1 hx hby sg27_10_2 (pc' := 12) (L' := #[.val (.ref o0), .val (.int i1), .val (.int (3 : Int32)), .val (.ref o3), .val (.ref o4)]) (S' := [(.int i1), (.ref o0)]) rfl ?_
  refine Home.st (own_pure (own_virtual X1 hx hZ hown (own_w156 hw) (own_w157 hw) (notFace_of_selects (args := #[]) (mvT hZ (own_w159 hw))) (own_w159 hw) (own_w158 hw) (own_w9 hw) (own_w160 hw) (by decide) (rm28_3 l Z a0 hw [] o0 i1 sv_COMPACT_STRINGS p4 k_p4 l_7 sv_SIOOBE_FORMATTER h0 n0 O0 bnd_i1 c2 (Nat.le_trans (own_len_le sh_l_7).2 (by decide)) E_o0 S_COMPACT_STRINGS F_coder_o0 hCS F_value_o0 V_p4 S_SIOOBE_FORMATTER isr_sv_SIOOBE_FORMATTER) e1 E_o0 rfl (by rw [hml]; rfl) (argsL := [(.int i1)]) (rest := []) (lenOf own_pd30 rfl) rfl rfl (W := 0) (by exact hW0) (by decide) (by decide) (hb hby d27_12) (by decide) (by decide))) fun T3 X3 e3 => ?_
  refine Home.run X3 hx hby sg27_15_4 (pc' := 20) (L' := #[.val (.ref o0), .val (.int i1), .val (.int (3 : Int32)), .val (.ref o3), .val (.ref o4)]) (S' := [(.ref o4), (.ref o3), (.int (3 : Int32)), (.int i1), (.int ((own_at l_7 i1) &&& (255 : Int32)))]) rfl ?_
  refine Home.st (own_pure (own_static X3 hx hZ hown (own_w178 hw) (own_w179 hw) (own_w6 hw) (own_w180 hw) (by decide) (rm33_3 l Z a0 hw [] i1 o3 o4 k_o3 u1 u2 u3 k_o4 u4 u5 u6 h0 n0 O0 bnd_i1 V_o3 bnd_u1 bnd_u2 bnd_u3 V_o4 bnd_u4 bnd_u5 bnd_u6) e3 rfl (by rw [hml]; rfl) (argsL := [(.int i1), (.int (3 : Int32)), (.ref o3), (.ref o4)]) (rest := [(.int ((own_at l_7 i1) &&& (255 : Int32)))]) (lenOf own_pd31 rfl) rfl rfl (W := 1) (by exact hW0) (by decide) (by decide) (hb hby d27_20) (by decide) (by decide))) fun T4 X4 e4 => ?_
  show Home T4 (mkF m 23 #[.val (.ref o0), .val (.int i1), .val (.int (3 : Int32)), .val (.ref o3), .val (.ref o4)] [(.int (f_rm33_3 i1 u1 u2 u3 u4 u5 u6)), (.int ((own_at l_7 i1) &&& (255 : Int32)))])
  obtain ⟨r5, hr5⟩ : ∃ z, z = (f_rm33_3 i1 u1 u2 u3 u4 u5 u6) := ⟨_, rfl⟩
  rw [← hr5]
  suffices J7 : ∀ {T : State} (X : Stand p l e ({ frames := 4, cells := 0, slots := 0, locals := 53 } : Room) s m #[(.ref o0), (.int i1), (.int (3 : Int32)), (.ref o3), (.ref o4)] below meth c T [] 0 0) (eT : T.heap = h0) (v8 : Int32) (hv8 : v8 = (if ((own_at l_7 i1) &&& (255 : Int32)) = r5 then (1 : Int32) else (0 : Int32))), @Home p e below _ T (mkF m 31 #[.val (.ref o0), .val (.int i1), .val (.int (3 : Int32)), .val (.ref o3), .val (.ref o4)] [(.int v8)]) by
   by_cases c6 : ((own_at l_7 i1) &&& (255 : Int32)) = r5
   ·
    refine Home.go (fun _ => XS.icmpNo X4.here hx rfl (hb hby d27_23) rfl (teq c6).2) ?_
    refine Home.run X4 hx hby sg27_26_2 (pc' := 31) (L' := #[.val (.ref o0), .val (.int i1), .val (.int (3 : Int32)), .val (.ref o3), .val (.ref o4)]) (S' := [(.int (1 : Int32))]) rfl ?_
    exact J7 X4 e4 _ (by simp only [if_pos c6])
   ·
    refine Home.go (fun _ => XS.icmpYes X4.here hx rfl (pc0 := 23) (pc' := 30) rfl (hb hby d27_23) rfl (feq c6).2 (by decide) (by decide)) ?_
    refine Home.run X4 hx hby sg27_30_1 (pc' := 31) (L' := #[.val (.ref o0), .val (.int i1), .val (.int (3 : Int32)), .val (.ref o3), .val (.ref o4)]) (S' := [(.int (0 : Int32))]) rfl ?_
    exact J7 X4 e4 _ (by simp only [if_neg c6])
  intro TJ7 XJ7 eJ7 v8 hv8
  have bv8 : ¬ v8 < (0 : Int32) ∧ ¬ (1 : Int32) < v8 := by rw [hv8]; exact (bnd_ite (bnd_mono (bnd_lit (1 : Int32)) (by decide +kernel) (by decide +kernel)) (bnd_mono (bnd_lit (0 : Int32)) (by decide +kernel) (by decide +kernel)))
  show Home TJ7 (mkF m 31 #[.val (.ref o0), .val (.int i1), .val (.int (3 : Int32)), .val (.ref o3), .val (.ref o4)] [(.int v8)])
  exact Home.retN XJ7 hx hlk (t := .boolean) hret (by simp) (hb hby d27_31) ⟨congrArg some (congrArg Value.int (by subst hv8; subst hr5; first | rfl | (simp only [f_rm27_3, if_pos c2, nar_bool_id bv8 (by decide +kernel) (by decide +kernel), nar_i2c, nar_i2b] <;> rfl) | (simp [f_rm27_3, if_pos c2, nar_bool_id bv8 (by decide +kernel) (by decide +kernel)]; done))), rfl, eJ7⟩ (by decide) (by decide)
 ·
  refine Home.go (fun _ => XS.icmpNo X1.here hx rfl (hb hby d27_5) rfl (flt c2).1) ?_
  refine Home.run X1 hx hby sg27_8_1 (pc' := 9) (L' := #[.val (.ref o0), .val (.int i1), .val (.int (3 : Int32)), .val (.ref o3), .val (.ref o4)]) (S' := [(.int (1 : Int32))]) rfl ?_
  exact Home.retN X1 hx hlk (t := .boolean) hret (by simp) (hb hby d27_9) ⟨congrArg some (congrArg Value.int (by first | rfl | (simp only [f_rm27_3, if_neg c2, nar_i2c, nar_i2b] <;> rfl) | (simp [f_rm27_3, if_neg c2]; done))), rfl, e1⟩ (by decide) (by decide)
theorem f_rm27_3_bnd (i1 : Int32) (l_7 : List Int32) (u1 : Int32) (u2 : Int32) (u3 : Int32) (u4 : Int32) (u5 : Int32) (u6 : Int32) (bnd_i1 : ¬ i1 < (0 : Int32) ∧ ¬ (7 : Int32) < i1) (bnd_u1 : ¬ u1 < (0 : Int32) ∧ ¬ (255 : Int32) < u1) (bnd_u2 : ¬ u2 < (0 : Int32) ∧ ¬ (255 : Int32) < u2) (bnd_u3 : ¬ u3 < (0 : Int32) ∧ ¬ (255 : Int32) < u3) (bnd_u4 : ¬ u4 < (0 : Int32) ∧ ¬ (255 : Int32) < u4) (bnd_u5 : ¬ u5 < (0 : Int32) ∧ ¬ (255 : Int32) < u5) (bnd_u6 : ¬ u6 < (0 : Int32) ∧ ¬ (255 : Int32) < u6) : ¬ (f_rm27_3 i1 l_7 u1 u2 u3 u4 u5 u6) < (0 : Int32) ∧ ¬ (1 : Int32) < (f_rm27_3 i1 l_7 u1 u2 u3 u4 u5 u6) := by unfold f_rm27_3; (repeat' split) <;> first | exact bnd_mono (bnd_lit (1 : Int32)) (by decide +kernel) (by decide +kernel) | exact bnd_mono (bnd_lit (0 : Int32)) (by decide +kernel) (by decide +kernel)
theorem own_four {a : Int32} (h : ¬ a < (0 : Int32) ∧ ¬ (3 : Int32) < a) : a = 0 ∨ a = 1 ∨ a = 2 ∨ a = 3 := by
  simp only [Int32.lt_iff_toInt_lt] at h
  have e0 : (0 : Int32).toInt = 0 := rfl
  have e1 : (1 : Int32).toInt = 1 := rfl
  have e2 : (2 : Int32).toInt = 2 := rfl
  have e3 : (3 : Int32).toInt = 3 := rfl
  rw [e0, e3] at h
  simp only [← Int32.toInt_inj, e0, e1, e2, e3]
  omega
theorem own_by {x : Int32} (h : ¬ x < (0 : Int32) ∧ ¬ (255 : Int32) < x) : ∃ n, n < 256 ∧ x = Int32.ofNat n := by
  simp only [Int32.lt_iff_toInt_lt] at h
  have e0 : (0 : Int32).toInt = 0 := rfl
  have e1 : (255 : Int32).toInt = 255 := rfl
  rw [e0, e1] at h
  refine ⟨x.toInt.toNat, by omega, ?_⟩
  rw [← Int32.toInt_inj, Int32.toInt_ofNat_small (by omega)]
  omega
theorem own_bN : ∀ n < 256, (Int32.ofNat n).toInt8.toInt32 &&& (255 : Int32) = Int32.ofNat n := by decide +kernel
theorem own_b255 {x : Int32} (h : ¬ x < (0 : Int32) ∧ ¬ (255 : Int32) < x) : x.toInt8.toInt32 &&& (255 : Int32) = x := by
  obtain ⟨n, hn, rfl⟩ := own_by h
  exact own_bN n hn
theorem own_ok0 (p0 p1 p2 n : Int32) (hp0 : ¬ p0 < (0 : Int32) ∧ ¬ (255 : Int32) < p0) (hp1 : ¬ p1 < (0 : Int32) ∧ ¬ (255 : Int32) < p1) (hp2 : ¬ p2 < (0 : Int32) ∧ ¬ (255 : Int32) < p2) (hn : ¬ n < (0 : Int32) ∧ ¬ (3 : Int32) < n) : ∀ j ∈ ([0, 1, 2, 3, 4, 5, 6, 7] : List Int32), f_rm27_0 j ((([] ++ []) ++ [(58 : Int32), (32 : Int32)]) ++ (cs_rm1_1 n p0 p1 p2)) p0 p1 p2 = 1 := by
  have ep0 := own_b255 hp0
  have cp0 := nar_char_id hp0 (by decide) (by decide)
  have ep1 := own_b255 hp1
  have cp1 := nar_char_id hp1 (by decide) (by decide)
  have ep2 := own_b255 hp2
  have cp2 := nar_char_id hp2 (by decide) (by decide)
  intro j hj
  simp only [List.mem_cons, List.not_mem_nil, or_false] at hj
  rcases own_four hn with rfl | rfl | rfl | rfl <;> rcases hj with rfl | rfl | rfl | rfl | rfl | rfl | rfl | rfl <;> simp +decide [f_rm27_0, f_rm33_0, cs_rm1_1, own_n, own_at, ep0, cp0, ep1, cp1, ep2, cp2]
theorem own_ok1 (w0 w1 w2 p0 p1 p2 n : Int32) (hw0 : ¬ w0 < (0 : Int32) ∧ ¬ (255 : Int32) < w0) (hw1 : ¬ w1 < (0 : Int32) ∧ ¬ (255 : Int32) < w1) (hw2 : ¬ w2 < (0 : Int32) ∧ ¬ (255 : Int32) < w2) (hp0 : ¬ p0 < (0 : Int32) ∧ ¬ (255 : Int32) < p0) (hp1 : ¬ p1 < (0 : Int32) ∧ ¬ (255 : Int32) < p1) (hp2 : ¬ p2 < (0 : Int32) ∧ ¬ (255 : Int32) < p2) (hn : ¬ n < (0 : Int32) ∧ ¬ (3 : Int32) < n) : ∀ j ∈ ([0, 1, 2, 3, 4, 5, 6, 7] : List Int32), f_rm27_1 j ((([] ++ [(w0.toInt8.toInt32)]) ++ [(58 : Int32), (32 : Int32)]) ++ (cs_rm1_1 n p0 p1 p2)) w0 w1 w2 p0 p1 p2 = 1 := by
  have ew0 := own_b255 hw0
  have cw0 := nar_char_id hw0 (by decide) (by decide)
  have ew1 := own_b255 hw1
  have cw1 := nar_char_id hw1 (by decide) (by decide)
  have ew2 := own_b255 hw2
  have cw2 := nar_char_id hw2 (by decide) (by decide)
  have ep0 := own_b255 hp0
  have cp0 := nar_char_id hp0 (by decide) (by decide)
  have ep1 := own_b255 hp1
  have cp1 := nar_char_id hp1 (by decide) (by decide)
  have ep2 := own_b255 hp2
  have cp2 := nar_char_id hp2 (by decide) (by decide)
  intro j hj
  simp only [List.mem_cons, List.not_mem_nil, or_false] at hj
  rcases own_four hn with rfl | rfl | rfl | rfl <;> rcases hj with rfl | rfl | rfl | rfl | rfl | rfl | rfl | rfl <;> simp +decide [f_rm27_1, f_rm33_1, cs_rm1_1, own_n, own_at, ew0, cw0, ew1, cw1, ew2, cw2, ep0, cp0, ep1, cp1, ep2, cp2]
theorem own_ok2 (w0 w1 w2 p0 p1 p2 n : Int32) (hw0 : ¬ w0 < (0 : Int32) ∧ ¬ (255 : Int32) < w0) (hw1 : ¬ w1 < (0 : Int32) ∧ ¬ (255 : Int32) < w1) (hw2 : ¬ w2 < (0 : Int32) ∧ ¬ (255 : Int32) < w2) (hp0 : ¬ p0 < (0 : Int32) ∧ ¬ (255 : Int32) < p0) (hp1 : ¬ p1 < (0 : Int32) ∧ ¬ (255 : Int32) < p1) (hp2 : ¬ p2 < (0 : Int32) ∧ ¬ (255 : Int32) < p2) (hn : ¬ n < (0 : Int32) ∧ ¬ (3 : Int32) < n) : ∀ j ∈ ([0, 1, 2, 3, 4, 5, 6, 7] : List Int32), f_rm27_2 j ((([] ++ [(w0.toInt8.toInt32), (w1.toInt8.toInt32)]) ++ [(58 : Int32), (32 : Int32)]) ++ (cs_rm1_1 n p0 p1 p2)) w0 w1 w2 p0 p1 p2 = 1 := by
  have ew0 := own_b255 hw0
  have cw0 := nar_char_id hw0 (by decide) (by decide)
  have ew1 := own_b255 hw1
  have cw1 := nar_char_id hw1 (by decide) (by decide)
  have ew2 := own_b255 hw2
  have cw2 := nar_char_id hw2 (by decide) (by decide)
  have ep0 := own_b255 hp0
  have cp0 := nar_char_id hp0 (by decide) (by decide)
  have ep1 := own_b255 hp1
  have cp1 := nar_char_id hp1 (by decide) (by decide)
  have ep2 := own_b255 hp2
  have cp2 := nar_char_id hp2 (by decide) (by decide)
  intro j hj
  simp only [List.mem_cons, List.not_mem_nil, or_false] at hj
  rcases own_four hn with rfl | rfl | rfl | rfl <;> rcases hj with rfl | rfl | rfl | rfl | rfl | rfl | rfl | rfl <;> simp +decide [f_rm27_2, f_rm33_2, cs_rm1_1, own_n, own_at, ew0, cw0, ew1, cw1, ew2, cw2, ep0, cp0, ep1, cp1, ep2, cp2]
theorem own_ok3 (w0 w1 w2 p0 p1 p2 n : Int32) (hw0 : ¬ w0 < (0 : Int32) ∧ ¬ (255 : Int32) < w0) (hw1 : ¬ w1 < (0 : Int32) ∧ ¬ (255 : Int32) < w1) (hw2 : ¬ w2 < (0 : Int32) ∧ ¬ (255 : Int32) < w2) (hp0 : ¬ p0 < (0 : Int32) ∧ ¬ (255 : Int32) < p0) (hp1 : ¬ p1 < (0 : Int32) ∧ ¬ (255 : Int32) < p1) (hp2 : ¬ p2 < (0 : Int32) ∧ ¬ (255 : Int32) < p2) (hn : ¬ n < (0 : Int32) ∧ ¬ (3 : Int32) < n) : ∀ j ∈ ([0, 1, 2, 3, 4, 5, 6, 7] : List Int32), f_rm27_3 j ((([] ++ [(w0.toInt8.toInt32), (w1.toInt8.toInt32), (w2.toInt8.toInt32)]) ++ [(58 : Int32), (32 : Int32)]) ++ (cs_rm1_1 n p0 p1 p2)) w0 w1 w2 p0 p1 p2 = 1 := by
  have ew0 := own_b255 hw0
  have cw0 := nar_char_id hw0 (by decide) (by decide)
  have ew1 := own_b255 hw1
  have cw1 := nar_char_id hw1 (by decide) (by decide)
  have ew2 := own_b255 hw2
  have cw2 := nar_char_id hw2 (by decide) (by decide)
  have ep0 := own_b255 hp0
  have cp0 := nar_char_id hp0 (by decide) (by decide)
  have ep1 := own_b255 hp1
  have cp1 := nar_char_id hp1 (by decide) (by decide)
  have ep2 := own_b255 hp2
  have cp2 := nar_char_id hp2 (by decide) (by decide)
  intro j hj
  simp only [List.mem_cons, List.not_mem_nil, or_false] at hj
  rcases own_four hn with rfl | rfl | rfl | rfl <;> rcases hj with rfl | rfl | rfl | rfl | rfl | rfl | rfl | rfl <;> simp +decide [f_rm27_3, f_rm33_3, cs_rm1_1, own_n, own_at, ew0, cw0, ew1, cw1, ew2, cw2, ep0, cp0, ep1, cp1, ep2, cp2]
theorem own_end0 (i0 : Int32) (i1 : Int32) (sv_COMPACT_STRINGS : Int32) (v1 : Int32) (hv1 : v1 = (((i0.toUInt32 >>> ((24 : Int32) &&& 31).toUInt32).toInt32) &&& (3 : Int32))) (v2 : Int32) (hv2 : v2 = (((i1.toUInt32 >>> ((24 : Int32) &&& 31).toUInt32).toInt32) &&& (3 : Int32))) (r18 : Int32) (hr18 : r18 = (((i0.toUInt32 >>> ((8 : Int32) &&& 31).toUInt32).toInt32) &&& (255 : Int32))) (r19 : Int32) (hr19 : r19 = (((i0.toUInt32 >>> ((16 : Int32) &&& 31).toUInt32).toInt32) &&& (255 : Int32))) (r20 : Int32) (hr20 : r20 = (((i1.toUInt32 >>> ((8 : Int32) &&& 31).toUInt32).toInt32) &&& (255 : Int32))) (r21 : Int32) (hr21 : r21 = (((i1.toUInt32 >>> ((16 : Int32) &&& 31).toUInt32).toInt32) &&& (255 : Int32))) (r47 : List Int32) (hr47 : r47 = ((([] ++ []) ++ [(58 : Int32), (32 : Int32)]) ++ (cs_rm1_1 v2 (i1 &&& (255 : Int32)) r20 r21))) (r55 : Int32) (hr55 : r55 = (f_rm27_0 (0 : Int32) r47 (i1 &&& (255 : Int32)) r20 r21)) (v88 : Int32) (hv88 : v88 = (if r55 = (0 : Int32) then (0 : Int32) else (if (f_rm27_0 (1 : Int32) r47 (i1 &&& (255 : Int32)) r20 r21) = (0 : Int32) then (0 : Int32) else (if (f_rm27_0 (2 : Int32) r47 (i1 &&& (255 : Int32)) r20 r21) = (0 : Int32) then (0 : Int32) else (if (f_rm27_0 (3 : Int32) r47 (i1 &&& (255 : Int32)) r20 r21) = (0 : Int32) then (0 : Int32) else (if (f_rm27_0 (4 : Int32) r47 (i1 &&& (255 : Int32)) r20 r21) = (0 : Int32) then (0 : Int32) else (if (f_rm27_0 (5 : Int32) r47 (i1 &&& (255 : Int32)) r20 r21) = (0 : Int32) then (0 : Int32) else (if (f_rm27_0 (6 : Int32) r47 (i1 &&& (255 : Int32)) r20 r21) = (0 : Int32) then (0 : Int32) else (if (f_rm27_0 (7 : Int32) r47 (i1 &&& (255 : Int32)) r20 r21) = (0 : Int32) then (0 : Int32) else (1 : Int32)))))))))) (c3 : v1 = (0 : Int32)) (c49 : (own_n r47) = ((2 : Int32) + v2)) : nar .boolean v88 = (1 : Int32) := by
  have q := own_ok0 (i1 &&& (255 : Int32)) r20 r21 v2 (bnd_and _ _ (by decide)) (show ¬ r20 < (0 : Int32) ∧ ¬ (255 : Int32) < r20 by rw [hr20]; exact bnd_and _ _ (by decide)) (show ¬ r21 < (0 : Int32) ∧ ¬ (255 : Int32) < r21 by rw [hr21]; exact bnd_and _ _ (by decide)) (show ¬ v2 < (0 : Int32) ∧ ¬ (3 : Int32) < v2 by rw [hv2]; exact bnd_and _ _ (by decide))
  rw [← hr47] at q
  have z0 := q 0 (by decide)
  have z1 := q 1 (by decide)
  have z2 := q 2 (by decide)
  have z3 := q 3 (by decide)
  have z4 := q 4 (by decide)
  have z5 := q 5 (by decide)
  have z6 := q 6 (by decide)
  have z7 := q 7 (by decide)
  subst hv88 hr55
  simp only [z0, z1, z2, z3, z4, z5, z6, z7]
  decide
theorem own_end1 (i0 : Int32) (i1 : Int32) (sv_COMPACT_STRINGS : Int32) (v1 : Int32) (hv1 : v1 = (((i0.toUInt32 >>> ((24 : Int32) &&& 31).toUInt32).toInt32) &&& (3 : Int32))) (v2 : Int32) (hv2 : v2 = (((i1.toUInt32 >>> ((24 : Int32) &&& 31).toUInt32).toInt32) &&& (3 : Int32))) (r18 : Int32) (hr18 : r18 = (((i0.toUInt32 >>> ((8 : Int32) &&& 31).toUInt32).toInt32) &&& (255 : Int32))) (r19 : Int32) (hr19 : r19 = (((i0.toUInt32 >>> ((16 : Int32) &&& 31).toUInt32).toInt32) &&& (255 : Int32))) (r20 : Int32) (hr20 : r20 = (((i1.toUInt32 >>> ((8 : Int32) &&& 31).toUInt32).toInt32) &&& (255 : Int32))) (r21 : Int32) (hr21 : r21 = (((i1.toUInt32 >>> ((16 : Int32) &&& 31).toUInt32).toInt32) &&& (255 : Int32))) (r47 : List Int32) (hr47 : r47 = ((([] ++ []) ++ [(58 : Int32), (32 : Int32)]) ++ (cs_rm1_1 v2 (i1 &&& (255 : Int32)) r20 r21))) (c3 : v1 = (0 : Int32)) (c49 : ¬ ((own_n r47) = ((2 : Int32) + v2))) : nar .boolean (0 : Int32) = (1 : Int32) := by
  refine absurd ?_ c49
  rw [hr47]
  rcases own_four (show ¬ v2 < (0 : Int32) ∧ ¬ (3 : Int32) < v2 by rw [hv2]; exact bnd_and _ _ (by decide)) with e | e | e | e <;> rw [e] <;> first | rfl | simp +decide [cs_rm1_1, own_n]
theorem own_end2 (i0 : Int32) (i1 : Int32) (sv_COMPACT_STRINGS : Int32) (v1 : Int32) (hv1 : v1 = (((i0.toUInt32 >>> ((24 : Int32) &&& 31).toUInt32).toInt32) &&& (3 : Int32))) (v2 : Int32) (hv2 : v2 = (((i1.toUInt32 >>> ((24 : Int32) &&& 31).toUInt32).toInt32) &&& (3 : Int32))) (r104 : Int32) (hr104 : r104 = (((i0.toUInt32 >>> ((8 : Int32) &&& 31).toUInt32).toInt32) &&& (255 : Int32))) (r105 : Int32) (hr105 : r105 = (((i0.toUInt32 >>> ((16 : Int32) &&& 31).toUInt32).toInt32) &&& (255 : Int32))) (r106 : Int32) (hr106 : r106 = (((i1.toUInt32 >>> ((8 : Int32) &&& 31).toUInt32).toInt32) &&& (255 : Int32))) (r107 : Int32) (hr107 : r107 = (((i1.toUInt32 >>> ((16 : Int32) &&& 31).toUInt32).toInt32) &&& (255 : Int32))) (r137 : List Int32) (hr137 : r137 = ((([] ++ [((i0 &&& (255 : Int32)).toInt8.toInt32)]) ++ [(58 : Int32), (32 : Int32)]) ++ (cs_rm1_1 v2 (i1 &&& (255 : Int32)) r106 r107))) (r151 : Int32) (hr151 : r151 = (f_rm27_1 (0 : Int32) r137 (i0 &&& (255 : Int32)) r104 r105 (i1 &&& (255 : Int32)) r106 r107)) (v184 : Int32) (hv184 : v184 = (if r151 = (0 : Int32) then (0 : Int32) else (if (f_rm27_1 (1 : Int32) r137 (i0 &&& (255 : Int32)) r104 r105 (i1 &&& (255 : Int32)) r106 r107) = (0 : Int32) then (0 : Int32) else (if (f_rm27_1 (2 : Int32) r137 (i0 &&& (255 : Int32)) r104 r105 (i1 &&& (255 : Int32)) r106 r107) = (0 : Int32) then (0 : Int32) else (if (f_rm27_1 (3 : Int32) r137 (i0 &&& (255 : Int32)) r104 r105 (i1 &&& (255 : Int32)) r106 r107) = (0 : Int32) then (0 : Int32) else (if (f_rm27_1 (4 : Int32) r137 (i0 &&& (255 : Int32)) r104 r105 (i1 &&& (255 : Int32)) r106 r107) = (0 : Int32) then (0 : Int32) else (if (f_rm27_1 (5 : Int32) r137 (i0 &&& (255 : Int32)) r104 r105 (i1 &&& (255 : Int32)) r106 r107) = (0 : Int32) then (0 : Int32) else (if (f_rm27_1 (6 : Int32) r137 (i0 &&& (255 : Int32)) r104 r105 (i1 &&& (255 : Int32)) r106 r107) = (0 : Int32) then (0 : Int32) else (if (f_rm27_1 (7 : Int32) r137 (i0 &&& (255 : Int32)) r104 r105 (i1 &&& (255 : Int32)) r106 r107) = (0 : Int32) then (0 : Int32) else (1 : Int32)))))))))) (c3 : ¬ (v1 = (0 : Int32))) (c89 : v1 = (1 : Int32)) (c139 : (own_n r137) = ((3 : Int32) + v2)) : nar .boolean v184 = (1 : Int32) := by
  have q := own_ok1 (i0 &&& (255 : Int32)) r104 r105 (i1 &&& (255 : Int32)) r106 r107 v2 (bnd_and _ _ (by decide)) (show ¬ r104 < (0 : Int32) ∧ ¬ (255 : Int32) < r104 by rw [hr104]; exact bnd_and _ _ (by decide)) (show ¬ r105 < (0 : Int32) ∧ ¬ (255 : Int32) < r105 by rw [hr105]; exact bnd_and _ _ (by decide)) (bnd_and _ _ (by decide)) (show ¬ r106 < (0 : Int32) ∧ ¬ (255 : Int32) < r106 by rw [hr106]; exact bnd_and _ _ (by decide)) (show ¬ r107 < (0 : Int32) ∧ ¬ (255 : Int32) < r107 by rw [hr107]; exact bnd_and _ _ (by decide)) (show ¬ v2 < (0 : Int32) ∧ ¬ (3 : Int32) < v2 by rw [hv2]; exact bnd_and _ _ (by decide))
  rw [← hr137] at q
  have z0 := q 0 (by decide)
  have z1 := q 1 (by decide)
  have z2 := q 2 (by decide)
  have z3 := q 3 (by decide)
  have z4 := q 4 (by decide)
  have z5 := q 5 (by decide)
  have z6 := q 6 (by decide)
  have z7 := q 7 (by decide)
  subst hv184 hr151
  simp only [z0, z1, z2, z3, z4, z5, z6, z7]
  decide
theorem own_end3 (i0 : Int32) (i1 : Int32) (sv_COMPACT_STRINGS : Int32) (v1 : Int32) (hv1 : v1 = (((i0.toUInt32 >>> ((24 : Int32) &&& 31).toUInt32).toInt32) &&& (3 : Int32))) (v2 : Int32) (hv2 : v2 = (((i1.toUInt32 >>> ((24 : Int32) &&& 31).toUInt32).toInt32) &&& (3 : Int32))) (r104 : Int32) (hr104 : r104 = (((i0.toUInt32 >>> ((8 : Int32) &&& 31).toUInt32).toInt32) &&& (255 : Int32))) (r105 : Int32) (hr105 : r105 = (((i0.toUInt32 >>> ((16 : Int32) &&& 31).toUInt32).toInt32) &&& (255 : Int32))) (r106 : Int32) (hr106 : r106 = (((i1.toUInt32 >>> ((8 : Int32) &&& 31).toUInt32).toInt32) &&& (255 : Int32))) (r107 : Int32) (hr107 : r107 = (((i1.toUInt32 >>> ((16 : Int32) &&& 31).toUInt32).toInt32) &&& (255 : Int32))) (r137 : List Int32) (hr137 : r137 = ((([] ++ [((i0 &&& (255 : Int32)).toInt8.toInt32)]) ++ [(58 : Int32), (32 : Int32)]) ++ (cs_rm1_1 v2 (i1 &&& (255 : Int32)) r106 r107))) (c3 : ¬ (v1 = (0 : Int32))) (c89 : v1 = (1 : Int32)) (c139 : ¬ ((own_n r137) = ((3 : Int32) + v2))) : nar .boolean (0 : Int32) = (1 : Int32) := by
  refine absurd ?_ c139
  rw [hr137]
  rcases own_four (show ¬ v2 < (0 : Int32) ∧ ¬ (3 : Int32) < v2 by rw [hv2]; exact bnd_and _ _ (by decide)) with e | e | e | e <;> rw [e] <;> first | rfl | simp +decide [cs_rm1_1, own_n]
theorem own_end4 (i0 : Int32) (i1 : Int32) (sv_COMPACT_STRINGS : Int32) (v1 : Int32) (hv1 : v1 = (((i0.toUInt32 >>> ((24 : Int32) &&& 31).toUInt32).toInt32) &&& (3 : Int32))) (v2 : Int32) (hv2 : v2 = (((i1.toUInt32 >>> ((24 : Int32) &&& 31).toUInt32).toInt32) &&& (3 : Int32))) (r201 : Int32) (hr201 : r201 = (((i0.toUInt32 >>> ((8 : Int32) &&& 31).toUInt32).toInt32) &&& (255 : Int32))) (r202 : Int32) (hr202 : r202 = (((i0.toUInt32 >>> ((16 : Int32) &&& 31).toUInt32).toInt32) &&& (255 : Int32))) (r203 : Int32) (hr203 : r203 = (((i1.toUInt32 >>> ((8 : Int32) &&& 31).toUInt32).toInt32) &&& (255 : Int32))) (r204 : Int32) (hr204 : r204 = (((i1.toUInt32 >>> ((16 : Int32) &&& 31).toUInt32).toInt32) &&& (255 : Int32))) (r234 : List Int32) (hr234 : r234 = ((([] ++ [((i0 &&& (255 : Int32)).toInt8.toInt32), (r201.toInt8.toInt32)]) ++ [(58 : Int32), (32 : Int32)]) ++ (cs_rm1_1 v2 (i1 &&& (255 : Int32)) r203 r204))) (r248 : Int32) (hr248 : r248 = (f_rm27_2 (0 : Int32) r234 (i0 &&& (255 : Int32)) r201 r202 (i1 &&& (255 : Int32)) r203 r204)) (v281 : Int32) (hv281 : v281 = (if r248 = (0 : Int32) then (0 : Int32) else (if (f_rm27_2 (1 : Int32) r234 (i0 &&& (255 : Int32)) r201 r202 (i1 &&& (255 : Int32)) r203 r204) = (0 : Int32) then (0 : Int32) else (if (f_rm27_2 (2 : Int32) r234 (i0 &&& (255 : Int32)) r201 r202 (i1 &&& (255 : Int32)) r203 r204) = (0 : Int32) then (0 : Int32) else (if (f_rm27_2 (3 : Int32) r234 (i0 &&& (255 : Int32)) r201 r202 (i1 &&& (255 : Int32)) r203 r204) = (0 : Int32) then (0 : Int32) else (if (f_rm27_2 (4 : Int32) r234 (i0 &&& (255 : Int32)) r201 r202 (i1 &&& (255 : Int32)) r203 r204) = (0 : Int32) then (0 : Int32) else (if (f_rm27_2 (5 : Int32) r234 (i0 &&& (255 : Int32)) r201 r202 (i1 &&& (255 : Int32)) r203 r204) = (0 : Int32) then (0 : Int32) else (if (f_rm27_2 (6 : Int32) r234 (i0 &&& (255 : Int32)) r201 r202 (i1 &&& (255 : Int32)) r203 r204) = (0 : Int32) then (0 : Int32) else (if (f_rm27_2 (7 : Int32) r234 (i0 &&& (255 : Int32)) r201 r202 (i1 &&& (255 : Int32)) r203 r204) = (0 : Int32) then (0 : Int32) else (1 : Int32)))))))))) (c3 : ¬ (v1 = (0 : Int32))) (c89 : ¬ (v1 = (1 : Int32))) (c185 : v1 = (2 : Int32)) (c236 : (own_n r234) = ((4 : Int32) + v2)) : nar .boolean v281 = (1 : Int32) := by
  have q := own_ok2 (i0 &&& (255 : Int32)) r201 r202 (i1 &&& (255 : Int32)) r203 r204 v2 (bnd_and _ _ (by decide)) (show ¬ r201 < (0 : Int32) ∧ ¬ (255 : Int32) < r201 by rw [hr201]; exact bnd_and _ _ (by decide)) (show ¬ r202 < (0 : Int32) ∧ ¬ (255 : Int32) < r202 by rw [hr202]; exact bnd_and _ _ (by decide)) (bnd_and _ _ (by decide)) (show ¬ r203 < (0 : Int32) ∧ ¬ (255 : Int32) < r203 by rw [hr203]; exact bnd_and _ _ (by decide)) (show ¬ r204 < (0 : Int32) ∧ ¬ (255 : Int32) < r204 by rw [hr204]; exact bnd_and _ _ (by decide)) (show ¬ v2 < (0 : Int32) ∧ ¬ (3 : Int32) < v2 by rw [hv2]; exact bnd_and _ _ (by decide))
  rw [← hr234] at q
  have z0 := q 0 (by decide)
  have z1 := q 1 (by decide)
  have z2 := q 2 (by decide)
  have z3 := q 3 (by decide)
  have z4 := q 4 (by decide)
  have z5 := q 5 (by decide)
  have z6 := q 6 (by decide)
  have z7 := q 7 (by decide)
  subst hv281 hr248
  simp only [z0, z1, z2, z3, z4, z5, z6, z7]
  decide
theorem own_end5 (i0 : Int32) (i1 : Int32) (sv_COMPACT_STRINGS : Int32) (v1 : Int32) (hv1 : v1 = (((i0.toUInt32 >>> ((24 : Int32) &&& 31).toUInt32).toInt32) &&& (3 : Int32))) (v2 : Int32) (hv2 : v2 = (((i1.toUInt32 >>> ((24 : Int32) &&& 31).toUInt32).toInt32) &&& (3 : Int32))) (r201 : Int32) (hr201 : r201 = (((i0.toUInt32 >>> ((8 : Int32) &&& 31).toUInt32).toInt32) &&& (255 : Int32))) (r202 : Int32) (hr202 : r202 = (((i0.toUInt32 >>> ((16 : Int32) &&& 31).toUInt32).toInt32) &&& (255 : Int32))) (r203 : Int32) (hr203 : r203 = (((i1.toUInt32 >>> ((8 : Int32) &&& 31).toUInt32).toInt32) &&& (255 : Int32))) (r204 : Int32) (hr204 : r204 = (((i1.toUInt32 >>> ((16 : Int32) &&& 31).toUInt32).toInt32) &&& (255 : Int32))) (r234 : List Int32) (hr234 : r234 = ((([] ++ [((i0 &&& (255 : Int32)).toInt8.toInt32), (r201.toInt8.toInt32)]) ++ [(58 : Int32), (32 : Int32)]) ++ (cs_rm1_1 v2 (i1 &&& (255 : Int32)) r203 r204))) (c3 : ¬ (v1 = (0 : Int32))) (c89 : ¬ (v1 = (1 : Int32))) (c185 : v1 = (2 : Int32)) (c236 : ¬ ((own_n r234) = ((4 : Int32) + v2))) : nar .boolean (0 : Int32) = (1 : Int32) := by
  refine absurd ?_ c236
  rw [hr234]
  rcases own_four (show ¬ v2 < (0 : Int32) ∧ ¬ (3 : Int32) < v2 by rw [hv2]; exact bnd_and _ _ (by decide)) with e | e | e | e <;> rw [e] <;> first | rfl | simp +decide [cs_rm1_1, own_n]
theorem own_end6 (i0 : Int32) (i1 : Int32) (sv_COMPACT_STRINGS : Int32) (v1 : Int32) (hv1 : v1 = (((i0.toUInt32 >>> ((24 : Int32) &&& 31).toUInt32).toInt32) &&& (3 : Int32))) (v2 : Int32) (hv2 : v2 = (((i1.toUInt32 >>> ((24 : Int32) &&& 31).toUInt32).toInt32) &&& (3 : Int32))) (r293 : Int32) (hr293 : r293 = (((i0.toUInt32 >>> ((8 : Int32) &&& 31).toUInt32).toInt32) &&& (255 : Int32))) (r294 : Int32) (hr294 : r294 = (((i0.toUInt32 >>> ((16 : Int32) &&& 31).toUInt32).toInt32) &&& (255 : Int32))) (r295 : Int32) (hr295 : r295 = (((i1.toUInt32 >>> ((8 : Int32) &&& 31).toUInt32).toInt32) &&& (255 : Int32))) (r296 : Int32) (hr296 : r296 = (((i1.toUInt32 >>> ((16 : Int32) &&& 31).toUInt32).toInt32) &&& (255 : Int32))) (r326 : List Int32) (hr326 : r326 = ((([] ++ [((i0 &&& (255 : Int32)).toInt8.toInt32), (r293.toInt8.toInt32), (r294.toInt8.toInt32)]) ++ [(58 : Int32), (32 : Int32)]) ++ (cs_rm1_1 v2 (i1 &&& (255 : Int32)) r295 r296))) (r340 : Int32) (hr340 : r340 = (f_rm27_3 (0 : Int32) r326 (i0 &&& (255 : Int32)) r293 r294 (i1 &&& (255 : Int32)) r295 r296)) (v373 : Int32) (hv373 : v373 = (if r340 = (0 : Int32) then (0 : Int32) else (if (f_rm27_3 (1 : Int32) r326 (i0 &&& (255 : Int32)) r293 r294 (i1 &&& (255 : Int32)) r295 r296) = (0 : Int32) then (0 : Int32) else (if (f_rm27_3 (2 : Int32) r326 (i0 &&& (255 : Int32)) r293 r294 (i1 &&& (255 : Int32)) r295 r296) = (0 : Int32) then (0 : Int32) else (if (f_rm27_3 (3 : Int32) r326 (i0 &&& (255 : Int32)) r293 r294 (i1 &&& (255 : Int32)) r295 r296) = (0 : Int32) then (0 : Int32) else (if (f_rm27_3 (4 : Int32) r326 (i0 &&& (255 : Int32)) r293 r294 (i1 &&& (255 : Int32)) r295 r296) = (0 : Int32) then (0 : Int32) else (if (f_rm27_3 (5 : Int32) r326 (i0 &&& (255 : Int32)) r293 r294 (i1 &&& (255 : Int32)) r295 r296) = (0 : Int32) then (0 : Int32) else (if (f_rm27_3 (6 : Int32) r326 (i0 &&& (255 : Int32)) r293 r294 (i1 &&& (255 : Int32)) r295 r296) = (0 : Int32) then (0 : Int32) else (if (f_rm27_3 (7 : Int32) r326 (i0 &&& (255 : Int32)) r293 r294 (i1 &&& (255 : Int32)) r295 r296) = (0 : Int32) then (0 : Int32) else (1 : Int32)))))))))) (c3 : ¬ (v1 = (0 : Int32))) (c89 : ¬ (v1 = (1 : Int32))) (c185 : ¬ (v1 = (2 : Int32))) (c328 : (own_n r326) = ((5 : Int32) + v2)) : nar .boolean v373 = (1 : Int32) := by
  have q := own_ok3 (i0 &&& (255 : Int32)) r293 r294 (i1 &&& (255 : Int32)) r295 r296 v2 (bnd_and _ _ (by decide)) (show ¬ r293 < (0 : Int32) ∧ ¬ (255 : Int32) < r293 by rw [hr293]; exact bnd_and _ _ (by decide)) (show ¬ r294 < (0 : Int32) ∧ ¬ (255 : Int32) < r294 by rw [hr294]; exact bnd_and _ _ (by decide)) (bnd_and _ _ (by decide)) (show ¬ r295 < (0 : Int32) ∧ ¬ (255 : Int32) < r295 by rw [hr295]; exact bnd_and _ _ (by decide)) (show ¬ r296 < (0 : Int32) ∧ ¬ (255 : Int32) < r296 by rw [hr296]; exact bnd_and _ _ (by decide)) (show ¬ v2 < (0 : Int32) ∧ ¬ (3 : Int32) < v2 by rw [hv2]; exact bnd_and _ _ (by decide))
  rw [← hr326] at q
  have z0 := q 0 (by decide)
  have z1 := q 1 (by decide)
  have z2 := q 2 (by decide)
  have z3 := q 3 (by decide)
  have z4 := q 4 (by decide)
  have z5 := q 5 (by decide)
  have z6 := q 6 (by decide)
  have z7 := q 7 (by decide)
  subst hv373 hr340
  simp only [z0, z1, z2, z3, z4, z5, z6, z7]
  decide
theorem own_end7 (i0 : Int32) (i1 : Int32) (sv_COMPACT_STRINGS : Int32) (v1 : Int32) (hv1 : v1 = (((i0.toUInt32 >>> ((24 : Int32) &&& 31).toUInt32).toInt32) &&& (3 : Int32))) (v2 : Int32) (hv2 : v2 = (((i1.toUInt32 >>> ((24 : Int32) &&& 31).toUInt32).toInt32) &&& (3 : Int32))) (r293 : Int32) (hr293 : r293 = (((i0.toUInt32 >>> ((8 : Int32) &&& 31).toUInt32).toInt32) &&& (255 : Int32))) (r294 : Int32) (hr294 : r294 = (((i0.toUInt32 >>> ((16 : Int32) &&& 31).toUInt32).toInt32) &&& (255 : Int32))) (r295 : Int32) (hr295 : r295 = (((i1.toUInt32 >>> ((8 : Int32) &&& 31).toUInt32).toInt32) &&& (255 : Int32))) (r296 : Int32) (hr296 : r296 = (((i1.toUInt32 >>> ((16 : Int32) &&& 31).toUInt32).toInt32) &&& (255 : Int32))) (r326 : List Int32) (hr326 : r326 = ((([] ++ [((i0 &&& (255 : Int32)).toInt8.toInt32), (r293.toInt8.toInt32), (r294.toInt8.toInt32)]) ++ [(58 : Int32), (32 : Int32)]) ++ (cs_rm1_1 v2 (i1 &&& (255 : Int32)) r295 r296))) (c3 : ¬ (v1 = (0 : Int32))) (c89 : ¬ (v1 = (1 : Int32))) (c185 : ¬ (v1 = (2 : Int32))) (c328 : ¬ ((own_n r326) = ((5 : Int32) + v2))) : nar .boolean (0 : Int32) = (1 : Int32) := by
  refine absurd ?_ c328
  rw [hr326]
  rcases own_four (show ¬ v2 < (0 : Int32) ∧ ¬ (3 : Int32) < v2 by rw [hv2]; exact bnd_and _ _ (by decide)) with e | e | e | e <;> rw [e] <;> first | rfl | simp +decide [cs_rm1_1, own_n]
theorem rm0 (l : Launch) (Z : State) (a0 : Array Value) (hw : HW a0 Z) (ws : List Jvm.Cond) (i0 i1 sv_COMPACT_STRINGS : Int32) (sv_SIOOBE_FORMATTER : Value) (h0 : Heap) (n0 : Nat) (O0 : Old Z n0 h0) (S_COMPACT_STRINGS : Sta Z Z.heap "java/lang/String" "COMPACT_STRINGS" "Z" (.int sv_COMPACT_STRINGS)) (hCS : ¬ (sv_COMPACT_STRINGS = (0 : Int32))) (S_SIOOBE_FORMATTER : Sta Z Z.heap "jdk/internal/util/Preconditions" "SIOOBE_FORMATTER" "Ljava/util/function/BiFunction;" sv_SIOOBE_FORMATTER) (isr_sv_SIOOBE_FORMATTER : sv_SIOOBE_FORMATTER.isRef = true) :
    ConW l Z own_EL ([] : List Addr) false x code maxLocals ret ws room_1 #[(.int i0), (.int i1)] h0 (fun v h L => v = some (.int (1 : Int32)) ∧ Fr n0 L) := by
 refine own_bodyW (plainFor_of_name own_pn0) (fun m => ef_rm0 m i0 i1) ?_
 intro p e s m below meth c s₁ hx hby hlk hml hret hZ hown hnm X0 e0 Cd0
 have N0 := Fr.nil n0
 refine Home.run X0 hx hby sg0_0_6 (pc' := 7) (L' := #[.val (.int i0), .val (.int i1), .val (.int (((i0.toUInt32 >>> ((24 : Int32) &&& 31).toUInt32).toInt32) &&& (3 : Int32))), .unset, .unset, .unset, .unset]) (S' := []) rfl ?_
 obtain ⟨v1, hv1⟩ : ∃ z, z = (((i0.toUInt32 >>> ((24 : Int32) &&& 31).toUInt32).toInt32) &&& (3 : Int32)) := ⟨_, rfl⟩
 rw [← hv1]
 have bv1 : ¬ v1 < (0 : Int32) ∧ ¬ (3 : Int32) < v1 := by rw [hv1]; exact (bnd_and ((i0.toUInt32 >>> ((24 : Int32) &&& 31).toUInt32).toInt32) (3 : Int32) (by decide))
 refine Home.run X0 hx hby sg0_7_6 (pc' := 14) (L' := #[.val (.int i0), .val (.int i1), .val (.int v1), .val (.int (((i1.toUInt32 >>> ((24 : Int32) &&& 31).toUInt32).toInt32) &&& (3 : Int32))), .unset, .unset, .unset]) (S' := []) rfl ?_
 obtain ⟨v2, hv2⟩ : ∃ z, z = (((i1.toUInt32 >>> ((24 : Int32) &&& 31).toUInt32).toInt32) &&& (3 : Int32)) := ⟨_, rfl⟩
 rw [← hv2]
 have bv2 : ¬ v2 < (0 : Int32) ∧ ¬ (3 : Int32) < v2 := by rw [hv2]; exact (bnd_and ((i1.toUInt32 >>> ((24 : Int32) &&& 31).toUInt32).toInt32) (3 : Int32) (by decide))
 by_cases c3 : v1 = (0 : Int32)
 ·
  have bd4 : ¬ v1 < (0 : Int32) ∧ ¬ (0 : Int32) < v1 := ⟨(bnd_eql c3), (bnd_eqr c3)⟩
  have fx5 : v1 = (0 : Int32) := bnd_fix bd4
  try rw [fx5]
  show Home s₁ (mkF m 14 #[.val (.int i0), .val (.int i1), .val (.int (0 : Int32)), .val (.int v2), .unset, .unset, .unset] [])
  refine Home.run X0 hx hby sg0_14_1 (pc' := 15) (L' := #[.val (.int i0), .val (.int i1), .val (.int (0 : Int32)), .val (.int v2), .unset, .unset, .unset]) (S' := [(.int (3 : Int32))]) rfl ?_
  refine Home.na (own_newP (aty := .char) X0 hx hZ (own_w0 hw) e0 (g := (mkF m 15 #[.val (.int i0), .val (.int i1), .val (.int (0 : Int32)), .val (.int v2), .unset, .unset, .unset] [(.int (3 : Int32))])) rfl (hb hby at_15) rfl (by decide) (cap := 3) (by decide) (by decide) (by decide) (by decide)) fun T7 h7 k7 b7 g7 X7 e7 E7 A7 => ?_
  have g_b7 : n0 ≤ b7 := Nat.le_trans (Old.le O0) (Nat.le_of_eq g7.symm)
  have V7 : Arv Z h7 b7 k7 .char (3 : Int32) [(.int (0 : Int32)), (.int (0 : Int32)), (.int (0 : Int32))] (.int (0 : Int32)) := (Arv.new A7 (by decide)).pad (pad_rep [] (.int (0 : Int32)) 3)
  have O7 := O0.ext E7
  have K7 : Keep h0 h7 ([] : List Addr) := Keep.ext (Keep.refl h0 ([] : List Addr)) E7
  have Cd7 := Cold.ext Cd0 E7
  refine Home.run X7 hx hby sg0_17_6 (pc' := 25) (L' := #[.val (.int i0), .val (.int i1), .val (.int (0 : Int32)), .val (.int v2), .unset, .unset, .unset]) (S' := [(.int ((i0 &&& (255 : Int32)).toUInt32.toUInt16.toUInt32.toInt32)), (.int (0 : Int32)), (.ref b7), (.ref b7)]) rfl ?_
  rw [i2c_id (bnd_and i0 (255 : Int32) (by decide)) (by decide +kernel) (by decide +kernel)]
  obtain ⟨cl8, Ar8, q8, S8, M8, H8, G8⟩ := id V7
  refine Home.wr (stC X7 hx hZ e7 Ar8 (j := (0 : Int32)) (inb_of S8 ⟨by decide, by decide⟩) rfl rfl (hb hby at_25)) fun T8 h8 X8 e8 W8 => ?_
  have W8' := Wr.to W8 (congrArg Value.int (nar_char_id (bnd_and i0 (255 : Int32) (by decide)) (by decide +kernel) (by decide +kernel)))
  have V8 : Arv Z h8 b7 k7 .char (3 : Int32) [(.int (i0 &&& (255 : Int32))), (.int (0 : Int32)), (.int (0 : Int32))] (.int (0 : Int32)) := Arv.set Ar8 q8 S8 M8 H8 G8 (fits_char_b (bnd_and i0 (255 : Int32) (by decide)) (by decide +kernel) (by decide +kernel)) W8' 0 rfl (Nat.le_of_ble_eq_true rfl)
  have O8 := O7.wr W8 g_b7
  have K8 : Keep h0 h8 ([] : List Addr) := Keep.wr K7 W8 (Or.inr (Nat.le_trans (Nat.le_refl _) (Nat.le_of_eq g7.symm)))
  have Cd8 := Cold.wr Cd7 W8 (Safe.arv hZ.alike V7 (by simp))
  have N8 := Fr.snoc X8 N0 g_b7
  show Home T8 (mkF m 26 #[.val (.int i0), .val (.int i1), .val (.int (0 : Int32)), .val (.int v2), .unset, .unset, .unset] [(.ref b7)])
  refine Home.run X8 hx hby sg0_26_8 (pc' := 37) (L' := #[.val (.int i0), .val (.int i1), .val (.int (0 : Int32)), .val (.int v2), .unset, .unset, .unset]) (S' := [(.int ((((i0.toUInt32 >>> ((8 : Int32) &&& 31).toUInt32).toInt32) &&& (255 : Int32)).toUInt32.toUInt16.toUInt32.toInt32)), (.int (1 : Int32)), (.ref b7), (.ref b7)]) rfl ?_
  rw [i2c_id (bnd_and ((i0.toUInt32 >>> ((8 : Int32) &&& 31).toUInt32).toInt32) (255 : Int32) (by decide)) (by decide +kernel) (by decide +kernel)]
  obtain ⟨cl9, Ar9, q9, S9, M9, H9, G9⟩ := id V8
  refine Home.wr (stC X8 hx hZ e8 Ar9 (j := (1 : Int32)) (inb_of S9 ⟨by decide, by decide⟩) rfl rfl (hb hby at_37)) fun T9 h9 X9 e9 W9 => ?_
  have W9' := Wr.to W9 (congrArg Value.int (nar_char_id (bnd_and ((i0.toUInt32 >>> ((8 : Int32) &&& 31).toUInt32).toInt32) (255 : Int32) (by decide)) (by decide +kernel) (by decide +kernel)))
  have V9 : Arv Z h9 b7 k7 .char (3 : Int32) [(.int (i0 &&& (255 : Int32))), (.int (((i0.toUInt32 >>> ((8 : Int32) &&& 31).toUInt32).toInt32) &&& (255 : Int32))), (.int (0 : Int32))] (.int (0 : Int32)) := Arv.set Ar9 q9 S9 M9 H9 G9 (fits_char_b (bnd_and ((i0.toUInt32 >>> ((8 : Int32) &&& 31).toUInt32).toInt32) (255 : Int32) (by decide)) (by decide +kernel) (by decide +kernel)) W9' 1 rfl (Nat.le_of_ble_eq_true rfl)
  have O9 := O8.wr W9 g_b7
  have K9 : Keep h0 h9 ([] : List Addr) := Keep.wr K8 W9 (Or.inr (Nat.le_trans (Nat.le_refl _) (Nat.le_of_eq g7.symm)))
  have Cd9 := Cold.wr Cd8 W9 (Safe.arv hZ.alike V8 (by simp))
  have N9 := Fr.snoc X9 N8 g_b7
  show Home T9 (mkF m 38 #[.val (.int i0), .val (.int i1), .val (.int (0 : Int32)), .val (.int v2), .unset, .unset, .unset] [(.ref b7)])
  refine Home.run X9 hx hby sg0_38_8 (pc' := 49) (L' := #[.val (.int i0), .val (.int i1), .val (.int (0 : Int32)), .val (.int v2), .unset, .unset, .unset]) (S' := [(.int ((((i0.toUInt32 >>> ((16 : Int32) &&& 31).toUInt32).toInt32) &&& (255 : Int32)).toUInt32.toUInt16.toUInt32.toInt32)), (.int (2 : Int32)), (.ref b7), (.ref b7)]) rfl ?_
  rw [i2c_id (bnd_and ((i0.toUInt32 >>> ((16 : Int32) &&& 31).toUInt32).toInt32) (255 : Int32) (by decide)) (by decide +kernel) (by decide +kernel)]
  obtain ⟨cl10, Ar10, q10, S10, M10, H10, G10⟩ := id V9
  refine Home.wr (stC X9 hx hZ e9 Ar10 (j := (2 : Int32)) (inb_of S10 ⟨by decide, by decide⟩) rfl rfl (hb hby at_49)) fun T10 h10 X10 e10 W10 => ?_
  have W10' := Wr.to W10 (congrArg Value.int (nar_char_id (bnd_and ((i0.toUInt32 >>> ((16 : Int32) &&& 31).toUInt32).toInt32) (255 : Int32) (by decide)) (by decide +kernel) (by decide +kernel)))
  have V10 : Arv Z h10 b7 k7 .char (3 : Int32) [(.int (i0 &&& (255 : Int32))), (.int (((i0.toUInt32 >>> ((8 : Int32) &&& 31).toUInt32).toInt32) &&& (255 : Int32))), (.int (((i0.toUInt32 >>> ((16 : Int32) &&& 31).toUInt32).toInt32) &&& (255 : Int32)))] (.int (0 : Int32)) := Arv.set Ar10 q10 S10 M10 H10 G10 (fits_char_b (bnd_and ((i0.toUInt32 >>> ((16 : Int32) &&& 31).toUInt32).toInt32) (255 : Int32) (by decide)) (by decide +kernel) (by decide +kernel)) W10' 2 rfl (Nat.le_of_ble_eq_true rfl)
  have O10 := O9.wr W10 g_b7
  have K10 : Keep h0 h10 ([] : List Addr) := Keep.wr K9 W10 (Or.inr (Nat.le_trans (Nat.le_refl _) (Nat.le_of_eq g7.symm)))
  have Cd10 := Cold.wr Cd9 W10 (Safe.arv hZ.alike V9 (by simp))
  have N10 := Fr.snoc X10 N9 g_b7
  show Home T10 (mkF m 50 #[.val (.int i0), .val (.int i1), .val (.int (0 : Int32)), .val (.int v2), .unset, .unset, .unset] [(.ref b7)])
  refine Home.run X10 hx hby sg0_50_2 (pc' := 53) (L' := #[.val (.int i0), .val (.int i1), .val (.int (0 : Int32)), .val (.int v2), .val (.ref b7), .unset, .unset]) (S' := [(.int (3 : Int32))]) rfl ?_
  refine Home.na (own_newP (aty := .char) X10 hx hZ (own_w0 hw) e10 (g := (mkF m 53 #[.val (.int i0), .val (.int i1), .val (.int (0 : Int32)), .val (.int v2), .val (.ref b7), .unset, .unset] [(.int (3 : Int32))])) rfl (hb hby at_53) rfl (by decide) (cap := 3) (by decide) (by decide) (by decide) (by decide)) fun T11 h11 k11 b11 g11 X11 e11 E11 A11 => ?_
  have g_b11 : n0 ≤ b11 := Nat.le_trans (Old.le O10) (Nat.le_of_eq g11.symm)
  have V11 : Arv Z h11 b11 k11 .char (3 : Int32) [(.int (0 : Int32)), (.int (0 : Int32)), (.int (0 : Int32))] (.int (0 : Int32)) := (Arv.new A11 (by decide)).pad (pad_rep [] (.int (0 : Int32)) 3)
  have O11 := O10.ext E11
  have K11 : Keep h0 h11 ([] : List Addr) := Keep.ext K10 E11
  have Cd11 := Cold.ext Cd10 E11
  refine Home.run X11 hx hby sg0_55_6 (pc' := 63) (L' := #[.val (.int i0), .val (.int i1), .val (.int (0 : Int32)), .val (.int v2), .val (.ref b7), .unset, .unset]) (S' := [(.int ((i1 &&& (255 : Int32)).toUInt32.toUInt16.toUInt32.toInt32)), (.int (0 : Int32)), (.ref b11), (.ref b11)]) rfl ?_
  rw [i2c_id (bnd_and i1 (255 : Int32) (by decide)) (by decide +kernel) (by decide +kernel)]
  obtain ⟨cl12, Ar12, q12, S12, M12, H12, G12⟩ := id V11
  refine Home.wr (stC X11 hx hZ e11 Ar12 (j := (0 : Int32)) (inb_of S12 ⟨by decide, by decide⟩) rfl rfl (hb hby at_63)) fun T12 h12 X12 e12 W12 => ?_
  have W12' := Wr.to W12 (congrArg Value.int (nar_char_id (bnd_and i1 (255 : Int32) (by decide)) (by decide +kernel) (by decide +kernel)))
  have V12 : Arv Z h12 b11 k11 .char (3 : Int32) [(.int (i1 &&& (255 : Int32))), (.int (0 : Int32)), (.int (0 : Int32))] (.int (0 : Int32)) := Arv.set Ar12 q12 S12 M12 H12 G12 (fits_char_b (bnd_and i1 (255 : Int32) (by decide)) (by decide +kernel) (by decide +kernel)) W12' 0 rfl (Nat.le_of_ble_eq_true rfl)
  have O12 := O11.wr W12 g_b11
  have le13 : h0.size ≤ h8.size := Nat.le_trans E7.1 (Nat.le_of_eq W8.size.symm)
  have le14 : h0.size ≤ h9.size := Nat.le_trans le13 (Nat.le_of_eq W9.size.symm)
  have le15 : h0.size ≤ h10.size := Nat.le_trans le14 (Nat.le_of_eq W10.size.symm)
  have K12 : Keep h0 h12 ([] : List Addr) := Keep.wr K11 W12 (Or.inr (Nat.le_trans le15 (Nat.le_of_eq g11.symm)))
  have Cd12 := Cold.wr Cd11 W12 (Safe.arv hZ.alike V11 (by simp))
  have N12 := Fr.snoc X12 N10 g_b11
  show Home T12 (mkF m 64 #[.val (.int i0), .val (.int i1), .val (.int (0 : Int32)), .val (.int v2), .val (.ref b7), .unset, .unset] [(.ref b11)])
  refine Home.run X12 hx hby sg0_64_8 (pc' := 75) (L' := #[.val (.int i0), .val (.int i1), .val (.int (0 : Int32)), .val (.int v2), .val (.ref b7), .unset, .unset]) (S' := [(.int ((((i1.toUInt32 >>> ((8 : Int32) &&& 31).toUInt32).toInt32) &&& (255 : Int32)).toUInt32.toUInt16.toUInt32.toInt32)), (.int (1 : Int32)), (.ref b11), (.ref b11)]) rfl ?_
  rw [i2c_id (bnd_and ((i1.toUInt32 >>> ((8 : Int32) &&& 31).toUInt32).toInt32) (255 : Int32) (by decide)) (by decide +kernel) (by decide +kernel)]
  obtain ⟨cl16, Ar16, q16, S16, M16, H16, G16⟩ := id V12
  refine Home.wr (stC X12 hx hZ e12 Ar16 (j := (1 : Int32)) (inb_of S16 ⟨by decide, by decide⟩) rfl rfl (hb hby at_75)) fun T16 h16 X16 e16 W16 => ?_
  have W16' := Wr.to W16 (congrArg Value.int (nar_char_id (bnd_and ((i1.toUInt32 >>> ((8 : Int32) &&& 31).toUInt32).toInt32) (255 : Int32) (by decide)) (by decide +kernel) (by decide +kernel)))
  have V16 : Arv Z h16 b11 k11 .char (3 : Int32) [(.int (i1 &&& (255 : Int32))), (.int (((i1.toUInt32 >>> ((8 : Int32) &&& 31).toUInt32).toInt32) &&& (255 : Int32))), (.int (0 : Int32))] (.int (0 : Int32)) := Arv.set Ar16 q16 S16 M16 H16 G16 (fits_char_b (bnd_and ((i1.toUInt32 >>> ((8 : Int32) &&& 31).toUInt32).toInt32) (255 : Int32) (by decide)) (by decide +kernel) (by decide +kernel)) W16' 1 rfl (Nat.le_of_ble_eq_true rfl)
  have O16 := O12.wr W16 g_b11
  have K16 : Keep h0 h16 ([] : List Addr) := Keep.wr K12 W16 (Or.inr (Nat.le_trans le15 (Nat.le_of_eq g11.symm)))
  have Cd16 := Cold.wr Cd12 W16 (Safe.arv hZ.alike V12 (by simp))
  have N16 := Fr.snoc X16 N12 g_b11
  show Home T16 (mkF m 76 #[.val (.int i0), .val (.int i1), .val (.int (0 : Int32)), .val (.int v2), .val (.ref b7), .unset, .unset] [(.ref b11)])
  refine Home.run X16 hx hby sg0_76_8 (pc' := 87) (L' := #[.val (.int i0), .val (.int i1), .val (.int (0 : Int32)), .val (.int v2), .val (.ref b7), .unset, .unset]) (S' := [(.int ((((i1.toUInt32 >>> ((16 : Int32) &&& 31).toUInt32).toInt32) &&& (255 : Int32)).toUInt32.toUInt16.toUInt32.toInt32)), (.int (2 : Int32)), (.ref b11), (.ref b11)]) rfl ?_
  rw [i2c_id (bnd_and ((i1.toUInt32 >>> ((16 : Int32) &&& 31).toUInt32).toInt32) (255 : Int32) (by decide)) (by decide +kernel) (by decide +kernel)]
  obtain ⟨cl17, Ar17, q17, S17, M17, H17, G17⟩ := id V16
  refine Home.wr (stC X16 hx hZ e16 Ar17 (j := (2 : Int32)) (inb_of S17 ⟨by decide, by decide⟩) rfl rfl (hb hby at_87)) fun T17 h17 X17 e17 W17 => ?_
  have W17' := Wr.to W17 (congrArg Value.int (nar_char_id (bnd_and ((i1.toUInt32 >>> ((16 : Int32) &&& 31).toUInt32).toInt32) (255 : Int32) (by decide)) (by decide +kernel) (by decide +kernel)))
  have V17 : Arv Z h17 b11 k11 .char (3 : Int32) [(.int (i1 &&& (255 : Int32))), (.int (((i1.toUInt32 >>> ((8 : Int32) &&& 31).toUInt32).toInt32) &&& (255 : Int32))), (.int (((i1.toUInt32 >>> ((16 : Int32) &&& 31).toUInt32).toInt32) &&& (255 : Int32)))] (.int (0 : Int32)) := Arv.set Ar17 q17 S17 M17 H17 G17 (fits_char_b (bnd_and ((i1.toUInt32 >>> ((16 : Int32) &&& 31).toUInt32).toInt32) (255 : Int32) (by decide)) (by decide +kernel) (by decide +kernel)) W17' 2 rfl (Nat.le_of_ble_eq_true rfl)
  have O17 := O16.wr W17 g_b11
  have K17 : Keep h0 h17 ([] : List Addr) := Keep.wr K16 W17 (Or.inr (Nat.le_trans le15 (Nat.le_of_eq g11.symm)))
  have Cd17 := Cold.wr Cd16 W17 (Safe.arv hZ.alike V16 (by simp))
  have N17 := Fr.snoc X17 N16 g_b11
  show Home T17 (mkF m 88 #[.val (.int i0), .val (.int i1), .val (.int (0 : Int32)), .val (.int v2), .val (.ref b7), .unset, .unset] [(.ref b11)])
  refine Home.run X17 hx hby sg0_88_1 (pc' := 90) (L' := #[.val (.int i0), .val (.int i1), .val (.int (0 : Int32)), .val (.int v2), .val (.ref b7), .val (.ref b11), .unset]) (S' := []) rfl ?_
  obtain ⟨r18, hr18⟩ : ∃ z, z = (((i0.toUInt32 >>> ((8 : Int32) &&& 31).toUInt32).toInt32) &&& (255 : Int32)) := ⟨_, rfl⟩
  rw [← hr18] at V10
  have br18 : ¬ r18 < (0 : Int32) ∧ ¬ (255 : Int32) < r18 := by rw [hr18]; exact (bnd_and ((i0.toUInt32 >>> ((8 : Int32) &&& 31).toUInt32).toInt32) (255 : Int32) (by decide))
  obtain ⟨r19, hr19⟩ : ∃ z, z = (((i0.toUInt32 >>> ((16 : Int32) &&& 31).toUInt32).toInt32) &&& (255 : Int32)) := ⟨_, rfl⟩
  rw [← hr19] at V10
  have br19 : ¬ r19 < (0 : Int32) ∧ ¬ (255 : Int32) < r19 := by rw [hr19]; exact (bnd_and ((i0.toUInt32 >>> ((16 : Int32) &&& 31).toUInt32).toInt32) (255 : Int32) (by decide))
  obtain ⟨r20, hr20⟩ : ∃ z, z = (((i1.toUInt32 >>> ((8 : Int32) &&& 31).toUInt32).toInt32) &&& (255 : Int32)) := ⟨_, rfl⟩
  rw [← hr20] at V17
  have br20 : ¬ r20 < (0 : Int32) ∧ ¬ (255 : Int32) < r20 := by rw [hr20]; exact (bnd_and ((i1.toUInt32 >>> ((8 : Int32) &&& 31).toUInt32).toInt32) (255 : Int32) (by decide))
  obtain ⟨r21, hr21⟩ : ∃ z, z = (((i1.toUInt32 >>> ((16 : Int32) &&& 31).toUInt32).toInt32) &&& (255 : Int32)) := ⟨_, rfl⟩
  rw [← hr21] at V17
  have br21 : ¬ r21 < (0 : Int32) ∧ ¬ (255 : Int32) < r21 := by rw [hr21]; exact (bnd_and ((i1.toUInt32 >>> ((16 : Int32) &&& 31).toUInt32).toInt32) (255 : Int32) (by decide))
  refine Home.nw (own_newO X17 hx hZ hown (own_w1 hw) (own_w2 hw) (own_w3 hw) e17 rfl (hb hby at_90) (by decide) (by decide)) fun T22 h22 b22 g22 X22 e22 E22 A22 D22 => ?_
  have g_b22 : n0 ≤ b22 := Nat.le_trans (Old.le O17) (Nat.le_of_eq g22.symm)
  have F_where_b22 : Fld Z h22 b22 "com/example/wary_meter/warymeter/Refusal" "where" "Ljava/lang/String;" .null := D22 (Or.inr (own_w28 hw)) (ty := (.object "java/lang/String")) (by decide)
  have F_problem_b22 : Fld Z h22 b22 "com/example/wary_meter/warymeter/Refusal" "problem" "Ljava/lang/String;" .null := D22 (Or.inr (own_w30 hw)) (ty := (.object "java/lang/String")) (by decide)
  have O22 := O17.ext E22
  have K22 : Keep h0 h22 ([] : List Addr) := Keep.ext K17 E22
  have Cd22 := Cold.ext Cd17 E22
  show Home T22 (mkF m 93 #[.val (.int i0), .val (.int i1), .val (.int (0 : Int32)), .val (.int v2), .val (.ref b7), .val (.ref b11), .unset] [(.ref b22)])
  refine Home.run X22 hx hby sg0_93_3 (pc' := 97) (L' := #[.val (.int i0), .val (.int i1), .val (.int (0 : Int32)), .val (.int v2), .val (.ref b7), .val (.ref b11), .unset]) (S' := [(.ref b7), (.int (0 : Int32)), (.ref b22), (.ref b22)]) rfl ?_
  refine Home.call (own_staticW X22 hx hZ hown (own_hEL hw) Cd22 all0 (own_w4 hw) (own_w5 hw) (own_w6 hw) (own_w7 hw) (by decide) (rm1_0 l Z a0 hw [] b7 h22 n0 O22) e22 rfl (by rw [hml]; rfl) (argsL := [(.int (0 : Int32)), (.ref b7)]) (rest := [(.ref b22), (.ref b22)]) (lenOf own_pd0 rfl) rfl rfl (W := 2) (by exact hW0) (by decide) (by decide) (hb hby at_97) (by decide) (by decide)) ?_
  rintro _ T23 L23 X23 ⟨⟨ad1_23, b1_23, k1_23, rfl, N23q, K23q, P23_0, P23_1, P23_2, P23_3⟩, hZ, hown, Cd23, sR23⟩
  have O23 := Old.keep O22 K23q all0
  have K23 : Keep h0 T23.heap ([] : List Addr) := Keep.trans K22 K23q all0
  have N23 := Fr.app N17 N23q
  refine Home.run X23 hx hby sg0_100_2 (pc' := 103) (L' := #[.val (.int i0), .val (.int i1), .val (.int (0 : Int32)), .val (.int v2), .val (.ref b7), .val (.ref b11), .unset]) (S' := [(.ref b11), (.int v2), (.ref ad1_23), (.ref b22), (.ref b22)]) rfl ?_
  have q24 := ((V17.ext E22).keep K23q nin0)
  refine Home.call (own_staticW X23 hx hZ hown (own_hEL hw) Cd23 all0 (own_w4 hw) (own_w5 hw) (own_w6 hw) (own_w7 hw) (by decide) (rm1_1 l Z a0 hw [] v2 b11 k11 (i1 &&& (255 : Int32)) r20 r21 sv_COMPACT_STRINGS T23.heap n0 O23 bv2 q24 S_COMPACT_STRINGS (bnd_and i1 (255 : Int32) (by decide)) hCS br20 br21) rfl rfl (by rw [hml]; rfl) (argsL := [(.int v2), (.ref b11)]) (rest := [(.ref ad1_23), (.ref b22), (.ref b22)]) (lenOf own_pd0 rfl) rfl rfl (W := 3) (by exact hW0) (by decide) (by decide) (hb hby at_103) (by decide) (by decide)) ?_
  rintro _ T25 L25 X25 ⟨⟨rs_25, rb_25, rk_25, rfl, N25q, K25q, P25_0, P25_1, P25_2, P25_3⟩, hZ, hown, Cd25, sR25⟩
  have O25 := Old.keep O23 K25q all0
  have K25 : Keep h0 T25.heap ([] : List Addr) := Keep.trans K23 K25q all0
  have N25 := Fr.app N23 N25q
  show Home T25 (mkF m 106 #[.val (.int i0), .val (.int i1), .val (.int (0 : Int32)), .val (.int v2), .val (.ref b7), .val (.ref b11), .unset] [(.ref rs_25), (.ref ad1_23), (.ref b22), (.ref b22)])
  have q26 := ((A22.keep K23q).keep K25q)
  have q27 := ((F_where_b22.keep K23q nin0).keep K25q nin0)
  have q28 := ((F_problem_b22.keep K23q nin0).keep K25q nin0)
  refine Home.call (own_special X25 hx hZ hown rfl (own_w16 hw) (own_w17 hw) (own_w3 hw) (own_w18 hw) (by decide) (rm2_0 l Z a0 hw [] b22 ad1_23 rs_25 T25.heap n0 O25 q26 q27 g_b22 q28) rfl rfl (by rw [hml]; rfl) (a := b22) (argsL := [(.ref ad1_23), (.ref rs_25)]) (rest := [(.ref b22)]) (lenOf own_pd11 rfl) rfl rfl (W := 1) (by exact hW0) (by decide) (by decide) (hb hby at_106) (by decide) (by decide)) ?_
  rintro _ T29 L29 X29 ⟨rfl, N29q, K29q, P29_0, P29_1, P29_2⟩
  have Cd29 := Cold.keep Cd25 K29q (allS (Safe.exa hZ.alike q26 (by decide) (by decide)) all0)
  have le30 : h0.size ≤ h11.size := Nat.le_trans le15 E11.1
  have le31 : h0.size ≤ h12.size := Nat.le_trans le30 (Nat.le_of_eq W12.size.symm)
  have le32 : h0.size ≤ h16.size := Nat.le_trans le31 (Nat.le_of_eq W16.size.symm)
  have le33 : h0.size ≤ h17.size := Nat.le_trans le32 (Nat.le_of_eq W17.size.symm)
  have O29 := Old.keep O25 K29q (allS g_b22 all0)
  have K29 : Keep h0 T29.heap ([] : List Addr) := Keep.trans K25 K29q (allS (Or.inr (Nat.le_trans le33 (Nat.le_of_eq g22.symm))) all0)
  have N29 := Fr.app N25 N29q
  show Home T29 (mkF m 109 #[.val (.int i0), .val (.int i1), .val (.int (0 : Int32)), .val (.int v2), .val (.ref b7), .val (.ref b11), .unset] [(.ref b22)])
  have q34 := ((P23_0.keep K25q).keep K29q)
  have ne35 : ad1_23 ≠ b22 := (ne_exa q34 P29_0 (by decide))
  have q36 := ((P23_2.keep K25q nin0).keep K29q (ninS ne35 nin0))
  have ne37 : b1_23 ≠ b22 := (Ne.symm (own_neAV (A22.keep K23q) (own_w2 hw) P23_3))
  have q38 := ((P23_3.keep K25q nin0).keep K29q (ninS ne37 nin0))
  have q39 := ((P23_1.keep K25q nin0).keep K29q (ninS ne35 nin0))
  have q40 := (P25_0.keep K29q)
  have ne41 : rs_25 ≠ b22 := (ne_exa q40 P29_0 (by decide))
  have q42 := (P25_2.keep K29q (ninS ne41 nin0))
  have ne43 : rb_25 ≠ b22 := (Ne.symm (own_neAV ((A22.keep K23q).keep K25q) (own_w2 hw) P25_3))
  have q44 := (P25_3.keep K29q (ninS ne43 nin0))
  have q45 := (P25_1.keep K29q (ninS ne41 nin0))
  refine Home.call (own_virtualW X29 hx hZ hown (own_hEL hw) Cd29 all0 (own_w31 hw) (own_w32 hw) (notFace_of_selects (args := #[]) (mvT hZ (own_w34 hw))) (own_w34 hw) (own_w33 hw) (own_w3 hw) (own_w35 hw) (by decide) (rm5_0 l Z a0 hw [] b22 sv_COMPACT_STRINGS ad1_23 b1_23 k1_23 [] rs_25 rb_25 rk_25 (cs_rm1_1 v2 (i1 &&& (255 : Int32)) r20 r21) T29.heap n0 O29 S_COMPACT_STRINGS hCS P29_1 q34 q36 q38 q39 (Nat.le_trans (own_len_lit (l := []) (n := 0) rfl).2 (by decide)) P29_2 q40 q42 q44 q45 (cs_rm1_1_short v2 (i1 &&& (255 : Int32)) r20 r21)) rfl P29_0 rfl (by rw [hml]; rfl) (argsL := []) (rest := []) (lenOf own_pd27 rfl) rfl rfl (W := 0) (by exact hW0) (by decide) (by decide) (hb hby at_109) (by decide) (by decide)) ?_
  rintro _ T46 L46 X46 ⟨⟨b1_14_46, b2_2_8_1_2_14_46, k2_2_8_1_2_14_46, rfl, N46q, sz_b1_14_46, sz_b2_2_8_1_2_14_46, K46q, P46_0, P46_1, P46_2, P46_3⟩, hZ, hown, Cd46, sR46⟩
  have Ce46 := Cold.put Cd46 (sR46 rfl _ rfl)
  have g_b1_14_46 : n0 ≤ b1_14_46 := Nat.le_trans (Old.le O29) sz_b1_14_46
  have g_b2_2_8_1_2_14_46 : n0 ≤ b2_2_8_1_2_14_46 := Nat.le_trans (Old.le O29) sz_b2_2_8_1_2_14_46
  have O46 := Old.keep O29 K46q all0
  have K46 : Keep h0 T46.heap ([] : List Addr) := Keep.trans K29 K46q all0
  have N46 := Fr.app N29 N46q
  show Home T46 (mkF m 112 #[.val (.int i0), .val (.int i1), .val (.int (0 : Int32)), .val (.int v2), .val (.ref b7), .val (.ref b11), .unset] [(.ref b1_14_46)])
  obtain ⟨r47, hr47⟩ : ∃ z, z = ((([] ++ []) ++ [(58 : Int32), (32 : Int32)]) ++ (cs_rm1_1 v2 (i1 &&& (255 : Int32)) r20 r21)) := ⟨_, rfl⟩
  rw [← hr47] at P46_3
  refine Home.run X46 hx hby sg0_112_2 (pc' := 116) (L' := #[.val (.int i0), .val (.int i1), .val (.int (0 : Int32)), .val (.int v2), .val (.ref b7), .val (.ref b11), .val (.ref b1_14_46)]) (S' := [(.ref b1_14_46)]) rfl ?_
  refine Home.st (own_pure (own_virtual X46 hx hZ hown (own_w152 hw) (own_w65 hw) (notFace_of_selects (args := #[]) (mvT hZ (own_w67 hw))) (own_w67 hw) (own_w66 hw) (own_w9 hw) (own_w68 hw) (by decide) (rm10_1 l Z a0 hw [] b1_14_46 b2_2_8_1_2_14_46 k2_2_8_1_2_14_46 r47 sv_COMPACT_STRINGS T46.heap n0 O46 P46_1 P46_3 P46_0 S_COMPACT_STRINGS P46_2 hCS (Nat.le_trans (show 2 ≤ r47.length ∧ r47.length ≤ 5 by rw [hr47]; exact (own_len_app (own_len_app (own_len_app (own_len_lit (l := []) (n := 0) rfl) (own_len_lit (l := []) (n := 0) rfl)) (own_len_lit (l := [(58 : Int32), (32 : Int32)]) (n := 2) rfl)) (own_len_le (cs_rm1_1_short v2 (i1 &&& (255 : Int32)) r20 r21)))).2 (by decide))) rfl P46_0 rfl (by rw [hml]; rfl) (argsL := []) (rest := []) (lenOf own_pd14 rfl) rfl rfl (W := 0) (by exact hW0) (by decide) (by decide) (hb hby at_116) (by decide) (by decide))) fun T48 X48 e48 => ?_
  refine Home.run X48 hx hby sg0_119_5 (pc' := 124) (L' := #[.val (.int i0), .val (.int i1), .val (.int (0 : Int32)), .val (.int v2), .val (.ref b7), .val (.ref b11), .val (.ref b1_14_46)]) (S' := [(.int ((2 : Int32) + v2)), (.int (own_n r47))]) rfl ?_
  by_cases c49 : (own_n r47) = ((2 : Int32) + v2)
  ·
   refine Home.go (fun _ => XS.icmpYes X48.here hx rfl (pc0 := 124) (pc' := 129) rfl (hb hby at_124) rfl (teq c49).1 (by decide) (by decide)) ?_
   refine Home.run X48 hx hby sg0_129_5 (pc' := 137) (L' := #[.val (.int i0), .val (.int i1), .val (.int (0 : Int32)), .val (.int v2), .val (.ref b7), .val (.ref b11), .val (.ref b1_14_46)]) (S' := [(.ref b11), (.ref b7), (.int (0 : Int32)), (.int (0 : Int32)), (.ref b1_14_46)]) rfl ?_
   have le50 : h11.size ≤ h16.size := Nat.le_trans (Nat.le_of_eq W12.size.symm) (Nat.le_of_eq W16.size.symm)
   have le51 : h11.size ≤ h17.size := Nat.le_trans le50 (Nat.le_of_eq W17.size.symm)
   have ne52 : b11 ≠ b22 := (Nat.ne_of_lt (Nat.lt_of_lt_of_le V11.lt (Nat.le_trans le51 (Nat.le_of_eq g22.symm))))
   have q53 := (((q24.keep K25q nin0).keep K29q (ninS ne52 nin0)).keep K46q nin0)
   refine Home.st (own_pure (own_static X48 hx hZ hown (own_w153 hw) (own_w154 hw) (own_w6 hw) (own_w155 hw) (by decide) (rm27_0 l Z a0 hw [] b1_14_46 (0 : Int32) b7 b11 b2_2_8_1_2_14_46 k2_2_8_1_2_14_46 r47 sv_COMPACT_STRINGS sv_SIOOBE_FORMATTER k11 (i1 &&& (255 : Int32)) r20 r21 T46.heap n0 O46 (bnd_mono (bnd_lit (0 : Int32)) (by decide +kernel) (by decide +kernel)) P46_0 P46_1 P46_3 S_COMPACT_STRINGS P46_2 hCS (Nat.le_trans (show 2 ≤ r47.length ∧ r47.length ≤ 5 by rw [hr47]; exact (own_len_app (own_len_app (own_len_app (own_len_lit (l := []) (n := 0) rfl) (own_len_lit (l := []) (n := 0) rfl)) (own_len_lit (l := [(58 : Int32), (32 : Int32)]) (n := 2) rfl)) (own_len_le (cs_rm1_1_short v2 (i1 &&& (255 : Int32)) r20 r21)))).2 (by decide)) S_SIOOBE_FORMATTER isr_sv_SIOOBE_FORMATTER q53 (bnd_and i1 (255 : Int32) (by decide)) br20 br21) e48 rfl (by rw [hml]; rfl) (argsL := [(.ref b1_14_46), (.int (0 : Int32)), (.int (0 : Int32)), (.ref b7), (.ref b11)]) (rest := []) (lenOf own_pd32 rfl) rfl rfl (W := 0) (by exact hW0) (by decide) (by decide) (hb hby at_137) (by decide) (by decide))) fun T54 X54 e54 => ?_
   show Home T54 (mkF m 140 #[.val (.int i0), .val (.int i1), .val (.int (0 : Int32)), .val (.int v2), .val (.ref b7), .val (.ref b11), .val (.ref b1_14_46)] [(.int (f_rm27_0 (0 : Int32) r47 (i1 &&& (255 : Int32)) r20 r21))])
   obtain ⟨r55, hr55⟩ : ∃ z, z = (f_rm27_0 (0 : Int32) r47 (i1 &&& (255 : Int32)) r20 r21) := ⟨_, rfl⟩
   rw [← hr55]
   have br55 : ¬ r55 < (0 : Int32) ∧ ¬ (1 : Int32) < r55 := by rw [hr55]; exact f_rm27_0_bnd (0 : Int32) r47 (i1 &&& (255 : Int32)) r20 r21 (bnd_mono (bnd_lit (0 : Int32)) (by decide +kernel) (by decide +kernel)) (bnd_and i1 (255 : Int32) (by decide)) br20 br21
   suffices J87 : ∀ {T : State} {lc : List Loc} (X : Stand p l e room_1 (s.setVm T46.vm) m #[(.int i0), (.int i1)] below meth c T lc 14 66) (N : Fr n0 lc) (eT : T.heap = T46.heap) (v88 : Int32) (hv88 : v88 = (if r55 = (0 : Int32) then (0 : Int32) else (if (f_rm27_0 (1 : Int32) r47 (i1 &&& (255 : Int32)) r20 r21) = (0 : Int32) then (0 : Int32) else (if (f_rm27_0 (2 : Int32) r47 (i1 &&& (255 : Int32)) r20 r21) = (0 : Int32) then (0 : Int32) else (if (f_rm27_0 (3 : Int32) r47 (i1 &&& (255 : Int32)) r20 r21) = (0 : Int32) then (0 : Int32) else (if (f_rm27_0 (4 : Int32) r47 (i1 &&& (255 : Int32)) r20 r21) = (0 : Int32) then (0 : Int32) else (if (f_rm27_0 (5 : Int32) r47 (i1 &&& (255 : Int32)) r20 r21) = (0 : Int32) then (0 : Int32) else (if (f_rm27_0 (6 : Int32) r47 (i1 &&& (255 : Int32)) r20 r21) = (0 : Int32) then (0 : Int32) else (if (f_rm27_0 (7 : Int32) r47 (i1 &&& (255 : Int32)) r20 r21) = (0 : Int32) then (0 : Int32) else (1 : Int32)))))))))), @Home p e below _ T (mkF m 248 #[.val (.int i0), .val (.int i1), .val (.int (0 : Int32)), .val (.int v2), .val (.ref b7), .val (.ref b11), .val (.ref b1_14_46)] [(.int v88)]) by
    by_cases c56 : r55 = (0 : Int32)
    ·
     refine Home.go (fun _ => XS.ifYes X54.here hx rfl (pc0 := 140) (pc' := 247) rfl (hb hby at_140) rfl ((if0 _ _).trans (teq c56).1) (by decide) (by decide)) ?_
     have bd57 : ¬ r55 < (0 : Int32) ∧ ¬ (0 : Int32) < r55 := ⟨(bnd_eql c56), (bnd_eqr c56)⟩
     refine Home.run X54 hx hby sg0_247_1 (pc' := 248) (L' := #[.val (.int i0), .val (.int i1), .val (.int (0 : Int32)), .val (.int v2), .val (.ref b7), .val (.ref b11), .val (.ref b1_14_46)]) (S' := [(.int (0 : Int32))]) rfl ?_
     exact J87 X54 N46 e54 _ (by simp only [if_pos c56])
    ·
     refine Home.go (fun _ => XS.ifNo X54.here hx rfl (hb hby at_140) rfl ((if0 _ _).trans (feq c56).1)) ?_
     have bd58 : ¬ r55 < (1 : Int32) ∧ ¬ (1 : Int32) < r55 := ⟨(bnd_nel br55.1 c56 (by decide +kernel)), br55.2⟩
     refine Home.run X54 hx hby sg0_143_5 (pc' := 151) (L' := #[.val (.int i0), .val (.int i1), .val (.int (0 : Int32)), .val (.int v2), .val (.ref b7), .val (.ref b11), .val (.ref b1_14_46)]) (S' := [(.ref b11), (.ref b7), (.int (0 : Int32)), (.int (1 : Int32)), (.ref b1_14_46)]) rfl ?_
     refine Home.st (own_pure (own_static X54 hx hZ hown (own_w153 hw) (own_w154 hw) (own_w6 hw) (own_w155 hw) (by decide) (rm27_0 l Z a0 hw [] b1_14_46 (1 : Int32) b7 b11 b2_2_8_1_2_14_46 k2_2_8_1_2_14_46 r47 sv_COMPACT_STRINGS sv_SIOOBE_FORMATTER k11 (i1 &&& (255 : Int32)) r20 r21 T46.heap n0 O46 (bnd_mono (bnd_lit (1 : Int32)) (by decide +kernel) (by decide +kernel)) P46_0 P46_1 P46_3 S_COMPACT_STRINGS P46_2 hCS (Nat.le_trans (show 2 ≤ r47.length ∧ r47.length ≤ 5 by rw [hr47]; exact (own_len_app (own_len_app (own_len_app (own_len_lit (l := []) (n := 0) rfl) (own_len_lit (l := []) (n := 0) rfl)) (own_len_lit (l := [(58 : Int32), (32 : Int32)]) (n := 2) rfl)) (own_len_le (cs_rm1_1_short v2 (i1 &&& (255 : Int32)) r20 r21)))).2 (by decide)) S_SIOOBE_FORMATTER isr_sv_SIOOBE_FORMATTER q53 (bnd_and i1 (255 : Int32) (by decide)) br20 br21) e54 rfl (by rw [hml]; rfl) (argsL := [(.ref b1_14_46), (.int (1 : Int32)), (.int (0 : Int32)), (.ref b7), (.ref b11)]) (rest := []) (lenOf own_pd32 rfl) rfl rfl (W := 0) (by exact hW0) (by decide) (by decide) (hb hby at_151) (by decide) (by decide))) fun T59 X59 e59 => ?_
     by_cases c60 : (f_rm27_0 (1 : Int32) r47 (i1 &&& (255 : Int32)) r20 r21) = (0 : Int32)
     ·
      refine Home.go (fun _ => XS.ifYes X59.here hx rfl (pc0 := 154) (pc' := 247) rfl (hb hby at_154) rfl ((if0 _ _).trans (teq c60).1) (by decide) (by decide)) ?_
      have bd61 : ¬ (f_rm27_0 (1 : Int32) r47 (i1 &&& (255 : Int32)) r20 r21) < (0 : Int32) ∧ ¬ (0 : Int32) < (f_rm27_0 (1 : Int32) r47 (i1 &&& (255 : Int32)) r20 r21) := ⟨(bnd_eql c60), (bnd_eqr c60)⟩
      refine Home.run X59 hx hby sg0_247_1 (pc' := 248) (L' := #[.val (.int i0), .val (.int i1), .val (.int (0 : Int32)), .val (.int v2), .val (.ref b7), .val (.ref b11), .val (.ref b1_14_46)]) (S' := [(.int (0 : Int32))]) rfl ?_
      exact J87 X59 N46 e59 _ (by simp only [if_neg c56, if_pos c60])
     ·
      refine Home.go (fun _ => XS.ifNo X59.here hx rfl (hb hby at_154) rfl ((if0 _ _).trans (feq c60).1)) ?_
      have bd62 : ¬ (f_rm27_0 (1 : Int32) r47 (i1 &&& (255 : Int32)) r20 r21) < (1 : Int32) ∧ ¬ (1 : Int32) < (f_rm27_0 (1 : Int32) r47 (i1 &&& (255 : Int32)) r20 r21) := ⟨(bnd_nel (f_rm27_0_bnd (1 : Int32) r47 (i1 &&& (255 : Int32)) r20 r21 (bnd_mono (bnd_lit (1 : Int32)) (by decide +kernel) (by decide +kernel)) (bnd_and i1 (255 : Int32) (by decide)) br20 br21).1 c60 (by decide +kernel)), (f_rm27_0_bnd (1 : Int32) r47 (i1 &&& (255 : Int32)) r20 r21 (bnd_mono (bnd_lit (1 : Int32)) (by decide +kernel) (by decide +kernel)) (bnd_and i1 (255 : Int32) (by decide)) br20 br21).2⟩
      refine Home.run X59 hx hby sg0_157_5 (pc' := 165) (L' := #[.val (.int i0), .val (.int i1), .val (.int (0 : Int32)), .val (.int v2), .val (.ref b7), .val (.ref b11), .val (.ref b1_14_46)]) (S' := [(.ref b11), (.ref b7), (.int (0 : Int32)), (.int (2 : Int32)), (.ref b1_14_46)]) rfl ?_
      refine Home.st (own_pure (own_static X59 hx hZ hown (own_w153 hw) (own_w154 hw) (own_w6 hw) (own_w155 hw) (by decide) (rm27_0 l Z a0 hw [] b1_14_46 (2 : Int32) b7 b11 b2_2_8_1_2_14_46 k2_2_8_1_2_14_46 r47 sv_COMPACT_STRINGS sv_SIOOBE_FORMATTER k11 (i1 &&& (255 : Int32)) r20 r21 T46.heap n0 O46 (bnd_mono (bnd_lit (2 : Int32)) (by decide +kernel) (by decide +kernel)) P46_0 P46_1 P46_3 S_COMPACT_STRINGS P46_2 hCS (Nat.le_trans (show 2 ≤ r47.length ∧ r47.length ≤ 5 by rw [hr47]; exact (own_len_app (own_len_app (own_len_app (own_len_lit (l := []) (n := 0) rfl) (own_len_lit (l := []) (n := 0) rfl)) (own_len_lit (l := [(58 : Int32), (32 : Int32)]) (n := 2) rfl)) (own_len_le (cs_rm1_1_short v2 (i1 &&& (255 : Int32)) r20 r21)))).2 (by decide)) S_SIOOBE_FORMATTER isr_sv_SIOOBE_FORMATTER q53 (bnd_and i1 (255 : Int32) (by decide)) br20 br21) e59 rfl (by rw [hml]; rfl) (argsL := [(.ref b1_14_46), (.int (2 : Int32)), (.int (0 : Int32)), (.ref b7), (.ref b11)]) (rest := []) (lenOf own_pd32 rfl) rfl rfl (W := 0) (by exact hW0) (by decide) (by decide) (hb hby at_165) (by decide) (by decide))) fun T63 X63 e63 => ?_
      by_cases c64 : (f_rm27_0 (2 : Int32) r47 (i1 &&& (255 : Int32)) r20 r21) = (0 : Int32)
      ·
       refine Home.go (fun _ => XS.ifYes X63.here hx rfl (pc0 := 168) (pc' := 247) rfl (hb hby at_168) rfl ((if0 _ _).trans (teq c64).1) (by decide) (by decide)) ?_
       have bd65 : ¬ (f_rm27_0 (2 : Int32) r47 (i1 &&& (255 : Int32)) r20 r21) < (0 : Int32) ∧ ¬ (0 : Int32) < (f_rm27_0 (2 : Int32) r47 (i1 &&& (255 : Int32)) r20 r21) := ⟨(bnd_eql c64), (bnd_eqr c64)⟩
       refine Home.run X63 hx hby sg0_247_1 (pc' := 248) (L' := #[.val (.int i0), .val (.int i1), .val (.int (0 : Int32)), .val (.int v2), .val (.ref b7), .val (.ref b11), .val (.ref b1_14_46)]) (S' := [(.int (0 : Int32))]) rfl ?_
       exact J87 X63 N46 e63 _ (by simp only [if_neg c56, if_neg c60, if_pos c64])
      ·
       refine Home.go (fun _ => XS.ifNo X63.here hx rfl (hb hby at_168) rfl ((if0 _ _).trans (feq c64).1)) ?_
       have bd66 : ¬ (f_rm27_0 (2 : Int32) r47 (i1 &&& (255 : Int32)) r20 r21) < (1 : Int32) ∧ ¬ (1 : Int32) < (f_rm27_0 (2 : Int32) r47 (i1 &&& (255 : Int32)) r20 r21) := ⟨(bnd_nel (f_rm27_0_bnd (2 : Int32) r47 (i1 &&& (255 : Int32)) r20 r21 (bnd_mono (bnd_lit (2 : Int32)) (by decide +kernel) (by decide +kernel)) (bnd_and i1 (255 : Int32) (by decide)) br20 br21).1 c64 (by decide +kernel)), (f_rm27_0_bnd (2 : Int32) r47 (i1 &&& (255 : Int32)) r20 r21 (bnd_mono (bnd_lit (2 : Int32)) (by decide +kernel) (by decide +kernel)) (bnd_and i1 (255 : Int32) (by decide)) br20 br21).2⟩
       refine Home.run X63 hx hby sg0_171_5 (pc' := 179) (L' := #[.val (.int i0), .val (.int i1), .val (.int (0 : Int32)), .val (.int v2), .val (.ref b7), .val (.ref b11), .val (.ref b1_14_46)]) (S' := [(.ref b11), (.ref b7), (.int (0 : Int32)), (.int (3 : Int32)), (.ref b1_14_46)]) rfl ?_
       refine Home.st (own_pure (own_static X63 hx hZ hown (own_w153 hw) (own_w154 hw) (own_w6 hw) (own_w155 hw) (by decide) (rm27_0 l Z a0 hw [] b1_14_46 (3 : Int32) b7 b11 b2_2_8_1_2_14_46 k2_2_8_1_2_14_46 r47 sv_COMPACT_STRINGS sv_SIOOBE_FORMATTER k11 (i1 &&& (255 : Int32)) r20 r21 T46.heap n0 O46 (bnd_mono (bnd_lit (3 : Int32)) (by decide +kernel) (by decide +kernel)) P46_0 P46_1 P46_3 S_COMPACT_STRINGS P46_2 hCS (Nat.le_trans (show 2 ≤ r47.length ∧ r47.length ≤ 5 by rw [hr47]; exact (own_len_app (own_len_app (own_len_app (own_len_lit (l := []) (n := 0) rfl) (own_len_lit (l := []) (n := 0) rfl)) (own_len_lit (l := [(58 : Int32), (32 : Int32)]) (n := 2) rfl)) (own_len_le (cs_rm1_1_short v2 (i1 &&& (255 : Int32)) r20 r21)))).2 (by decide)) S_SIOOBE_FORMATTER isr_sv_SIOOBE_FORMATTER q53 (bnd_and i1 (255 : Int32) (by decide)) br20 br21) e63 rfl (by rw [hml]; rfl) (argsL := [(.ref b1_14_46), (.int (3 : Int32)), (.int (0 : Int32)), (.ref b7), (.ref b11)]) (rest := []) (lenOf own_pd32 rfl) rfl rfl (W := 0) (by exact hW0) (by decide) (by decide) (hb hby at_179) (by decide) (by decide))) fun T67 X67 e67 => ?_
       by_cases c68 : (f_rm27_0 (3 : Int32) r47 (i1 &&& (255 : Int32)) r20 r21) = (0 : Int32)
       ·
        refine Home.go (fun _ => XS.ifYes X67.here hx rfl (pc0 := 182) (pc' := 247) rfl (hb hby at_182) rfl ((if0 _ _).trans (teq c68).1) (by decide) (by decide)) ?_
        have bd69 : ¬ (f_rm27_0 (3 : Int32) r47 (i1 &&& (255 : Int32)) r20 r21) < (0 : Int32) ∧ ¬ (0 : Int32) < (f_rm27_0 (3 : Int32) r47 (i1 &&& (255 : Int32)) r20 r21) := ⟨(bnd_eql c68), (bnd_eqr c68)⟩
        refine Home.run X67 hx hby sg0_247_1 (pc' := 248) (L' := #[.val (.int i0), .val (.int i1), .val (.int (0 : Int32)), .val (.int v2), .val (.ref b7), .val (.ref b11), .val (.ref b1_14_46)]) (S' := [(.int (0 : Int32))]) rfl ?_
        exact J87 X67 N46 e67 _ (by simp only [if_neg c56, if_neg c60, if_neg c64, if_pos c68])
       ·
        refine Home.go (fun _ => XS.ifNo X67.here hx rfl (hb hby at_182) rfl ((if0 _ _).trans (feq c68).1)) ?_
        have bd70 : ¬ (f_rm27_0 (3 : Int32) r47 (i1 &&& (255 : Int32)) r20 r21) < (1 : Int32) ∧ ¬ (1 : Int32) < (f_rm27_0 (3 : Int32) r47 (i1 &&& (255 : Int32)) r20 r21) := ⟨(bnd_nel (f_rm27_0_bnd (3 : Int32) r47 (i1 &&& (255 : Int32)) r20 r21 (bnd_mono (bnd_lit (3 : Int32)) (by decide +kernel) (by decide +kernel)) (bnd_and i1 (255 : Int32) (by decide)) br20 br21).1 c68 (by decide +kernel)), (f_rm27_0_bnd (3 : Int32) r47 (i1 &&& (255 : Int32)) r20 r21 (bnd_mono (bnd_lit (3 : Int32)) (by decide +kernel) (by decide +kernel)) (bnd_and i1 (255 : Int32) (by decide)) br20 br21).2⟩
        refine Home.run X67 hx hby sg0_185_5 (pc' := 193) (L' := #[.val (.int i0), .val (.int i1), .val (.int (0 : Int32)), .val (.int v2), .val (.ref b7), .val (.ref b11), .val (.ref b1_14_46)]) (S' := [(.ref b11), (.ref b7), (.int (0 : Int32)), (.int (4 : Int32)), (.ref b1_14_46)]) rfl ?_
        refine Home.st (own_pure (own_static X67 hx hZ hown (own_w153 hw) (own_w154 hw) (own_w6 hw) (own_w155 hw) (by decide) (rm27_0 l Z a0 hw [] b1_14_46 (4 : Int32) b7 b11 b2_2_8_1_2_14_46 k2_2_8_1_2_14_46 r47 sv_COMPACT_STRINGS sv_SIOOBE_FORMATTER k11 (i1 &&& (255 : Int32)) r20 r21 T46.heap n0 O46 (bnd_mono (bnd_lit (4 : Int32)) (by decide +kernel) (by decide +kernel)) P46_0 P46_1 P46_3 S_COMPACT_STRINGS P46_2 hCS (Nat.le_trans (show 2 ≤ r47.length ∧ r47.length ≤ 5 by rw [hr47]; exact (own_len_app (own_len_app (own_len_app (own_len_lit (l := []) (n := 0) rfl) (own_len_lit (l := []) (n := 0) rfl)) (own_len_lit (l := [(58 : Int32), (32 : Int32)]) (n := 2) rfl)) (own_len_le (cs_rm1_1_short v2 (i1 &&& (255 : Int32)) r20 r21)))).2 (by decide)) S_SIOOBE_FORMATTER isr_sv_SIOOBE_FORMATTER q53 (bnd_and i1 (255 : Int32) (by decide)) br20 br21) e67 rfl (by rw [hml]; rfl) (argsL := [(.ref b1_14_46), (.int (4 : Int32)), (.int (0 : Int32)), (.ref b7), (.ref b11)]) (rest := []) (lenOf own_pd32 rfl) rfl rfl (W := 0) (by exact hW0) (by decide) (by decide) (hb hby at_193) (by decide) (by decide))) fun T71 X71 e71 => ?_
        by_cases c72 : (f_rm27_0 (4 : Int32) r47 (i1 &&& (255 : Int32)) r20 r21) = (0 : Int32)
        ·
         refine Home.go (fun _ => XS.ifYes X71.here hx rfl (pc0 := 196) (pc' := 247) rfl (hb hby at_196) rfl ((if0 _ _).trans (teq c72).1) (by decide) (by decide)) ?_
         have bd73 : ¬ (f_rm27_0 (4 : Int32) r47 (i1 &&& (255 : Int32)) r20 r21) < (0 : Int32) ∧ ¬ (0 : Int32) < (f_rm27_0 (4 : Int32) r47 (i1 &&& (255 : Int32)) r20 r21) := ⟨(bnd_eql c72), (bnd_eqr c72)⟩
         refine Home.run X71 hx hby sg0_247_1 (pc' := 248) (L' := #[.val (.int i0), .val (.int i1), .val (.int (0 : Int32)), .val (.int v2), .val (.ref b7), .val (.ref b11), .val (.ref b1_14_46)]) (S' := [(.int (0 : Int32))]) rfl ?_
         exact J87 X71 N46 e71 _ (by simp only [if_neg c56, if_neg c60, if_neg c64, if_neg c68, if_pos c72])
        ·
         refine Home.go (fun _ => XS.ifNo X71.here hx rfl (hb hby at_196) rfl ((if0 _ _).trans (feq c72).1)) ?_
         have bd74 : ¬ (f_rm27_0 (4 : Int32) r47 (i1 &&& (255 : Int32)) r20 r21) < (1 : Int32) ∧ ¬ (1 : Int32) < (f_rm27_0 (4 : Int32) r47 (i1 &&& (255 : Int32)) r20 r21) := ⟨(bnd_nel (f_rm27_0_bnd (4 : Int32) r47 (i1 &&& (255 : Int32)) r20 r21 (bnd_mono (bnd_lit (4 : Int32)) (by decide +kernel) (by decide +kernel)) (bnd_and i1 (255 : Int32) (by decide)) br20 br21).1 c72 (by decide +kernel)), (f_rm27_0_bnd (4 : Int32) r47 (i1 &&& (255 : Int32)) r20 r21 (bnd_mono (bnd_lit (4 : Int32)) (by decide +kernel) (by decide +kernel)) (bnd_and i1 (255 : Int32) (by decide)) br20 br21).2⟩
         refine Home.run X71 hx hby sg0_199_5 (pc' := 207) (L' := #[.val (.int i0), .val (.int i1), .val (.int (0 : Int32)), .val (.int v2), .val (.ref b7), .val (.ref b11), .val (.ref b1_14_46)]) (S' := [(.ref b11), (.ref b7), (.int (0 : Int32)), (.int (5 : Int32)), (.ref b1_14_46)]) rfl ?_
         refine Home.st (own_pure (own_static X71 hx hZ hown (own_w153 hw) (own_w154 hw) (own_w6 hw) (own_w155 hw) (by decide) (rm27_0 l Z a0 hw [] b1_14_46 (5 : Int32) b7 b11 b2_2_8_1_2_14_46 k2_2_8_1_2_14_46 r47 sv_COMPACT_STRINGS sv_SIOOBE_FORMATTER k11 (i1 &&& (255 : Int32)) r20 r21 T46.heap n0 O46 (bnd_mono (bnd_lit (5 : Int32)) (by decide +kernel) (by decide +kernel)) P46_0 P46_1 P46_3 S_COMPACT_STRINGS P46_2 hCS (Nat.le_trans (show 2 ≤ r47.length ∧ r47.length ≤ 5 by rw [hr47]; exact (own_len_app (own_len_app (own_len_app (own_len_lit (l := []) (n := 0) rfl) (own_len_lit (l := []) (n := 0) rfl)) (own_len_lit (l := [(58 : Int32), (32 : Int32)]) (n := 2) rfl)) (own_len_le (cs_rm1_1_short v2 (i1 &&& (255 : Int32)) r20 r21)))).2 (by decide)) S_SIOOBE_FORMATTER isr_sv_SIOOBE_FORMATTER q53 (bnd_and i1 (255 : Int32) (by decide)) br20 br21) e71 rfl (by rw [hml]; rfl) (argsL := [(.ref b1_14_46), (.int (5 : Int32)), (.int (0 : Int32)), (.ref b7), (.ref b11)]) (rest := []) (lenOf own_pd32 rfl) rfl rfl (W := 0) (by exact hW0) (by decide) (by decide) (hb hby at_207) (by decide) (by decide))) fun T75 X75 e75 => ?_
         by_cases c76 : (f_rm27_0 (5 : Int32) r47 (i1 &&& (255 : Int32)) r20 r21) = (0 : Int32)
         ·
          refine Home.go (fun _ => XS.ifYes X75.here hx rfl (pc0 := 210) (pc' := 247) rfl (hb hby at_210) rfl ((if0 _ _).trans (teq c76).1) (by decide) (by decide)) ?_
          have bd77 : ¬ (f_rm27_0 (5 : Int32) r47 (i1 &&& (255 : Int32)) r20 r21) < (0 : Int32) ∧ ¬ (0 : Int32) < (f_rm27_0 (5 : Int32) r47 (i1 &&& (255 : Int32)) r20 r21) := ⟨(bnd_eql c76), (bnd_eqr c76)⟩
          refine Home.run X75 hx hby sg0_247_1 (pc' := 248) (L' := #[.val (.int i0), .val (.int i1), .val (.int (0 : Int32)), .val (.int v2), .val (.ref b7), .val (.ref b11), .val (.ref b1_14_46)]) (S' := [(.int (0 : Int32))]) rfl ?_
          exact J87 X75 N46 e75 _ (by simp only [if_neg c56, if_neg c60, if_neg c64, if_neg c68, if_neg c72, if_pos c76])
         ·
          refine Home.go (fun _ => XS.ifNo X75.here hx rfl (hb hby at_210) rfl ((if0 _ _).trans (feq c76).1)) ?_
          have bd78 : ¬ (f_rm27_0 (5 : Int32) r47 (i1 &&& (255 : Int32)) r20 r21) < (1 : Int32) ∧ ¬ (1 : Int32) < (f_rm27_0 (5 : Int32) r47 (i1 &&& (255 : Int32)) r20 r21) := ⟨(bnd_nel (f_rm27_0_bnd (5 : Int32) r47 (i1 &&& (255 : Int32)) r20 r21 (bnd_mono (bnd_lit (5 : Int32)) (by decide +kernel) (by decide +kernel)) (bnd_and i1 (255 : Int32) (by decide)) br20 br21).1 c76 (by decide +kernel)), (f_rm27_0_bnd (5 : Int32) r47 (i1 &&& (255 : Int32)) r20 r21 (bnd_mono (bnd_lit (5 : Int32)) (by decide +kernel) (by decide +kernel)) (bnd_and i1 (255 : Int32) (by decide)) br20 br21).2⟩
          refine Home.run X75 hx hby sg0_213_5 (pc' := 222) (L' := #[.val (.int i0), .val (.int i1), .val (.int (0 : Int32)), .val (.int v2), .val (.ref b7), .val (.ref b11), .val (.ref b1_14_46)]) (S' := [(.ref b11), (.ref b7), (.int (0 : Int32)), (.int (6 : Int32)), (.ref b1_14_46)]) rfl ?_
          refine Home.st (own_pure (own_static X75 hx hZ hown (own_w153 hw) (own_w154 hw) (own_w6 hw) (own_w155 hw) (by decide) (rm27_0 l Z a0 hw [] b1_14_46 (6 : Int32) b7 b11 b2_2_8_1_2_14_46 k2_2_8_1_2_14_46 r47 sv_COMPACT_STRINGS sv_SIOOBE_FORMATTER k11 (i1 &&& (255 : Int32)) r20 r21 T46.heap n0 O46 (bnd_mono (bnd_lit (6 : Int32)) (by decide +kernel) (by decide +kernel)) P46_0 P46_1 P46_3 S_COMPACT_STRINGS P46_2 hCS (Nat.le_trans (show 2 ≤ r47.length ∧ r47.length ≤ 5 by rw [hr47]; exact (own_len_app (own_len_app (own_len_app (own_len_lit (l := []) (n := 0) rfl) (own_len_lit (l := []) (n := 0) rfl)) (own_len_lit (l := [(58 : Int32), (32 : Int32)]) (n := 2) rfl)) (own_len_le (cs_rm1_1_short v2 (i1 &&& (255 : Int32)) r20 r21)))).2 (by decide)) S_SIOOBE_FORMATTER isr_sv_SIOOBE_FORMATTER q53 (bnd_and i1 (255 : Int32) (by decide)) br20 br21) e75 rfl (by rw [hml]; rfl) (argsL := [(.ref b1_14_46), (.int (6 : Int32)), (.int (0 : Int32)), (.ref b7), (.ref b11)]) (rest := []) (lenOf own_pd32 rfl) rfl rfl (W := 0) (by exact hW0) (by decide) (by decide) (hb hby at_222) (by decide) (by decide))) fun T79 X79 e79 => ?_
          by_cases c80 : (f_rm27_0 (6 : Int32) r47 (i1 &&& (255 : Int32)) r20 r21) = (0 : Int32)
          ·
           refine Home.go (fun _ => XS.ifYes X79.here hx rfl (pc0 := 225) (pc' := 247) rfl (hb hby at_225) rfl ((if0 _ _).trans (teq c80).1) (by decide) (by decide)) ?_
           have bd81 : ¬ (f_rm27_0 (6 : Int32) r47 (i1 &&& (255 : Int32)) r20 r21) < (0 : Int32) ∧ ¬ (0 : Int32) < (f_rm27_0 (6 : Int32) r47 (i1 &&& (255 : Int32)) r20 r21) := ⟨(bnd_eql c80), (bnd_eqr c80)⟩
           refine Home.run X79 hx hby sg0_247_1 (pc' := 248) (L' := #[.val (.int i0), .val (.int i1), .val (.int (0 : Int32)), .val (.int v2), .val (.ref b7), .val (.ref b11), .val (.ref b1_14_46)]) (S' := [(.int (0 : Int32))]) rfl ?_
           exact J87 X79 N46 e79 _ (by simp only [if_neg c56, if_neg c60, if_neg c64, if_neg c68, if_neg c72, if_neg c76, if_pos c80])
          ·
           refine Home.go (fun _ => XS.ifNo X79.here hx rfl (hb hby at_225) rfl ((if0 _ _).trans (feq c80).1)) ?_
           have bd82 : ¬ (f_rm27_0 (6 : Int32) r47 (i1 &&& (255 : Int32)) r20 r21) < (1 : Int32) ∧ ¬ (1 : Int32) < (f_rm27_0 (6 : Int32) r47 (i1 &&& (255 : Int32)) r20 r21) := ⟨(bnd_nel (f_rm27_0_bnd (6 : Int32) r47 (i1 &&& (255 : Int32)) r20 r21 (bnd_mono (bnd_lit (6 : Int32)) (by decide +kernel) (by decide +kernel)) (bnd_and i1 (255 : Int32) (by decide)) br20 br21).1 c80 (by decide +kernel)), (f_rm27_0_bnd (6 : Int32) r47 (i1 &&& (255 : Int32)) r20 r21 (bnd_mono (bnd_lit (6 : Int32)) (by decide +kernel) (by decide +kernel)) (bnd_and i1 (255 : Int32) (by decide)) br20 br21).2⟩
           refine Home.run X79 hx hby sg0_228_5 (pc' := 237) (L' := #[.val (.int i0), .val (.int i1), .val (.int (0 : Int32)), .val (.int v2), .val (.ref b7), .val (.ref b11), .val (.ref b1_14_46)]) (S' := [(.ref b11), (.ref b7), (.int (0 : Int32)), (.int (7 : Int32)), (.ref b1_14_46)]) rfl ?_
           refine Home.st (own_pure (own_static X79 hx hZ hown (own_w153 hw) (own_w154 hw) (own_w6 hw) (own_w155 hw) (by decide) (rm27_0 l Z a0 hw [] b1_14_46 (7 : Int32) b7 b11 b2_2_8_1_2_14_46 k2_2_8_1_2_14_46 r47 sv_COMPACT_STRINGS sv_SIOOBE_FORMATTER k11 (i1 &&& (255 : Int32)) r20 r21 T46.heap n0 O46 (bnd_mono (bnd_lit (7 : Int32)) (by decide +kernel) (by decide +kernel)) P46_0 P46_1 P46_3 S_COMPACT_STRINGS P46_2 hCS (Nat.le_trans (show 2 ≤ r47.length ∧ r47.length ≤ 5 by rw [hr47]; exact (own_len_app (own_len_app (own_len_app (own_len_lit (l := []) (n := 0) rfl) (own_len_lit (l := []) (n := 0) rfl)) (own_len_lit (l := [(58 : Int32), (32 : Int32)]) (n := 2) rfl)) (own_len_le (cs_rm1_1_short v2 (i1 &&& (255 : Int32)) r20 r21)))).2 (by decide)) S_SIOOBE_FORMATTER isr_sv_SIOOBE_FORMATTER q53 (bnd_and i1 (255 : Int32) (by decide)) br20 br21) e79 rfl (by rw [hml]; rfl) (argsL := [(.ref b1_14_46), (.int (7 : Int32)), (.int (0 : Int32)), (.ref b7), (.ref b11)]) (rest := []) (lenOf own_pd32 rfl) rfl rfl (W := 0) (by exact hW0) (by decide) (by decide) (hb hby at_237) (by decide) (by decide))) fun T83 X83 e83 => ?_
           by_cases c84 : (f_rm27_0 (7 : Int32) r47 (i1 &&& (255 : Int32)) r20 r21) = (0 : Int32)
           ·
            refine Home.go (fun _ => XS.ifYes X83.here hx rfl (pc0 := 240) (pc' := 247) rfl (hb hby at_240) rfl ((if0 _ _).trans (teq c84).1) (by decide) (by decide)) ?_
            have bd85 : ¬ (f_rm27_0 (7 : Int32) r47 (i1 &&& (255 : Int32)) r20 r21) < (0 : Int32) ∧ ¬ (0 : Int32) < (f_rm27_0 (7 : Int32) r47 (i1 &&& (255 : Int32)) r20 r21) := ⟨(bnd_eql c84), (bnd_eqr c84)⟩
            refine Home.run X83 hx hby sg0_247_1 (pc' := 248) (L' := #[.val (.int i0), .val (.int i1), .val (.int (0 : Int32)), .val (.int v2), .val (.ref b7), .val (.ref b11), .val (.ref b1_14_46)]) (S' := [(.int (0 : Int32))]) rfl ?_
            exact J87 X83 N46 e83 _ (by simp only [if_neg c56, if_neg c60, if_neg c64, if_neg c68, if_neg c72, if_neg c76, if_neg c80, if_pos c84])
           ·
            refine Home.go (fun _ => XS.ifNo X83.here hx rfl (hb hby at_240) rfl ((if0 _ _).trans (feq c84).1)) ?_
            have bd86 : ¬ (f_rm27_0 (7 : Int32) r47 (i1 &&& (255 : Int32)) r20 r21) < (1 : Int32) ∧ ¬ (1 : Int32) < (f_rm27_0 (7 : Int32) r47 (i1 &&& (255 : Int32)) r20 r21) := ⟨(bnd_nel (f_rm27_0_bnd (7 : Int32) r47 (i1 &&& (255 : Int32)) r20 r21 (bnd_mono (bnd_lit (7 : Int32)) (by decide +kernel) (by decide +kernel)) (bnd_and i1 (255 : Int32) (by decide)) br20 br21).1 c84 (by decide +kernel)), (f_rm27_0_bnd (7 : Int32) r47 (i1 &&& (255 : Int32)) r20 r21 (bnd_mono (bnd_lit (7 : Int32)) (by decide +kernel) (by decide +kernel)) (bnd_and i1 (255 : Int32) (by decide)) br20 br21).2⟩
            refine Home.run X83 hx hby sg0_243_2 (pc' := 248) (L' := #[.val (.int i0), .val (.int i1), .val (.int (0 : Int32)), .val (.int v2), .val (.ref b7), .val (.ref b11), .val (.ref b1_14_46)]) (S' := [(.int (1 : Int32))]) rfl ?_
            exact J87 X83 N46 e83 _ (by simp only [if_neg c56, if_neg c60, if_neg c64, if_neg c68, if_neg c72, if_neg c76, if_neg c80, if_neg c84])
   intro TJ87 lcJ87 XJ87 NJ87 eJ87 v88 hv88
   have bv88 : ¬ v88 < (0 : Int32) ∧ ¬ (1 : Int32) < v88 := by rw [hv88]; exact (bnd_ite (bnd_mono (bnd_lit (0 : Int32)) (by decide +kernel) (by decide +kernel)) (bnd_ite (bnd_mono (bnd_lit (0 : Int32)) (by decide +kernel) (by decide +kernel)) (bnd_ite (bnd_mono (bnd_lit (0 : Int32)) (by decide +kernel) (by decide +kernel)) (bnd_ite (bnd_mono (bnd_lit (0 : Int32)) (by decide +kernel) (by decide +kernel)) (bnd_ite (bnd_mono (bnd_lit (0 : Int32)) (by decide +kernel) (by decide +kernel)) (bnd_ite (bnd_mono (bnd_lit (0 : Int32)) (by decide +kernel) (by decide +kernel)) (bnd_ite (bnd_mono (bnd_lit (0 : Int32)) (by decide +kernel) (by decide +kernel)) (bnd_ite (bnd_mono (bnd_lit (0 : Int32)) (by decide +kernel) (by decide +kernel)) (bnd_mono (bnd_lit (1 : Int32)) (by decide +kernel) (by decide +kernel))))))))))
   show Home TJ87 (mkF m 248 #[.val (.int i0), .val (.int i1), .val (.int (0 : Int32)), .val (.int v2), .val (.ref b7), .val (.ref b11), .val (.ref b1_14_46)] [(.int v88)])
   exact HomeW.retN XJ87 hx hlk hZ (own_hEL hw) eJ87 Ce46 (t := .boolean) hret (by simp) (hb hby at_248) ⟨congrArg some (congrArg Value.int (own_end0 i0 i1 sv_COMPACT_STRINGS v1 hv1 v2 hv2 r18 hr18 r19 hr19 r20 hr20 r21 hr21 r47 hr47 r55 hr55 v88 hv88 c3 c49)), NJ87⟩ (by decide) (by decide)
  ·
   refine Home.go (fun _ => XS.icmpNo X48.here hx rfl (hb hby at_124) rfl (feq c49).1) ?_
   refine Home.run X48 hx hby sg0_127_1 (pc' := 128) (L' := #[.val (.int i0), .val (.int i1), .val (.int (0 : Int32)), .val (.int v2), .val (.ref b7), .val (.ref b11), .val (.ref b1_14_46)]) (S' := [(.int (0 : Int32))]) rfl ?_
   exact HomeW.retN X48 hx hlk hZ (own_hEL hw) e48 Ce46 (t := .boolean) hret (by simp) (hb hby at_128) ⟨congrArg some (congrArg Value.int (own_end1 i0 i1 sv_COMPACT_STRINGS v1 hv1 v2 hv2 r18 hr18 r19 hr19 r20 hr20 r21 hr21 r47 hr47 c3 c49)), N46⟩ (by decide) (by decide)
 ·
  have bd6 : ¬ v1 < (1 : Int32) ∧ ¬ (3 : Int32) < v1 := ⟨(bnd_nel bv1.1 c3 (by decide +kernel)), bv1.2⟩
  by_cases c89 : v1 = (1 : Int32)
  ·
   have bd90 : ¬ v1 < (1 : Int32) ∧ ¬ (1 : Int32) < v1 := ⟨(bnd_eql c89), (bnd_eqr c89)⟩
   have fx91 : v1 = (1 : Int32) := bnd_fix bd90
   try rw [fx91]
   show Home s₁ (mkF m 14 #[.val (.int i0), .val (.int i1), .val (.int (1 : Int32)), .val (.int v2), .unset, .unset, .unset] [])
   refine Home.run X0 hx hby sg0_14_1 (pc' := 15) (L' := #[.val (.int i0), .val (.int i1), .val (.int (1 : Int32)), .val (.int v2), .unset, .unset, .unset]) (S' := [(.int (3 : Int32))]) rfl ?_
   refine Home.na (own_newP (aty := .char) X0 hx hZ (own_w0 hw) e0 (g := (mkF m 15 #[.val (.int i0), .val (.int i1), .val (.int (1 : Int32)), .val (.int v2), .unset, .unset, .unset] [(.int (3 : Int32))])) rfl (hb hby at_15) rfl (by decide) (cap := 3) (by decide) (by decide) (by decide) (by decide)) fun T93 h93 k93 b93 g93 X93 e93 E93 A93 => ?_
   have g_b93 : n0 ≤ b93 := Nat.le_trans (Old.le O0) (Nat.le_of_eq g93.symm)
   have V93 : Arv Z h93 b93 k93 .char (3 : Int32) [(.int (0 : Int32)), (.int (0 : Int32)), (.int (0 : Int32))] (.int (0 : Int32)) := (Arv.new A93 (by decide)).pad (pad_rep [] (.int (0 : Int32)) 3)
   have O93 := O0.ext E93
   have K93 : Keep h0 h93 ([] : List Addr) := Keep.ext (Keep.refl h0 ([] : List Addr)) E93
   have Cd93 := Cold.ext Cd0 E93
   refine Home.run X93 hx hby sg0_17_6 (pc' := 25) (L' := #[.val (.int i0), .val (.int i1), .val (.int (1 : Int32)), .val (.int v2), .unset, .unset, .unset]) (S' := [(.int ((i0 &&& (255 : Int32)).toUInt32.toUInt16.toUInt32.toInt32)), (.int (0 : Int32)), (.ref b93), (.ref b93)]) rfl ?_
   rw [i2c_id (bnd_and i0 (255 : Int32) (by decide)) (by decide +kernel) (by decide +kernel)]
   obtain ⟨cl94, Ar94, q94, S94, M94, H94, G94⟩ := id V93
   refine Home.wr (stC X93 hx hZ e93 Ar94 (j := (0 : Int32)) (inb_of S94 ⟨by decide, by decide⟩) rfl rfl (hb hby at_25)) fun T94 h94 X94 e94 W94 => ?_
   have W94' := Wr.to W94 (congrArg Value.int (nar_char_id (bnd_and i0 (255 : Int32) (by decide)) (by decide +kernel) (by decide +kernel)))
   have V94 : Arv Z h94 b93 k93 .char (3 : Int32) [(.int (i0 &&& (255 : Int32))), (.int (0 : Int32)), (.int (0 : Int32))] (.int (0 : Int32)) := Arv.set Ar94 q94 S94 M94 H94 G94 (fits_char_b (bnd_and i0 (255 : Int32) (by decide)) (by decide +kernel) (by decide +kernel)) W94' 0 rfl (Nat.le_of_ble_eq_true rfl)
   have O94 := O93.wr W94 g_b93
   have K94 : Keep h0 h94 ([] : List Addr) := Keep.wr K93 W94 (Or.inr (Nat.le_trans (Nat.le_refl _) (Nat.le_of_eq g93.symm)))
   have Cd94 := Cold.wr Cd93 W94 (Safe.arv hZ.alike V93 (by simp))
   have N94 := Fr.snoc X94 N0 g_b93
   show Home T94 (mkF m 26 #[.val (.int i0), .val (.int i1), .val (.int (1 : Int32)), .val (.int v2), .unset, .unset, .unset] [(.ref b93)])
   refine Home.run X94 hx hby sg0_26_8 (pc' := 37) (L' := #[.val (.int i0), .val (.int i1), .val (.int (1 : Int32)), .val (.int v2), .unset, .unset, .unset]) (S' := [(.int ((((i0.toUInt32 >>> ((8 : Int32) &&& 31).toUInt32).toInt32) &&& (255 : Int32)).toUInt32.toUInt16.toUInt32.toInt32)), (.int (1 : Int32)), (.ref b93), (.ref b93)]) rfl ?_
   rw [i2c_id (bnd_and ((i0.toUInt32 >>> ((8 : Int32) &&& 31).toUInt32).toInt32) (255 : Int32) (by decide)) (by decide +kernel) (by decide +kernel)]
   obtain ⟨cl95, Ar95, q95, S95, M95, H95, G95⟩ := id V94
   refine Home.wr (stC X94 hx hZ e94 Ar95 (j := (1 : Int32)) (inb_of S95 ⟨by decide, by decide⟩) rfl rfl (hb hby at_37)) fun T95 h95 X95 e95 W95 => ?_
   have W95' := Wr.to W95 (congrArg Value.int (nar_char_id (bnd_and ((i0.toUInt32 >>> ((8 : Int32) &&& 31).toUInt32).toInt32) (255 : Int32) (by decide)) (by decide +kernel) (by decide +kernel)))
   have V95 : Arv Z h95 b93 k93 .char (3 : Int32) [(.int (i0 &&& (255 : Int32))), (.int (((i0.toUInt32 >>> ((8 : Int32) &&& 31).toUInt32).toInt32) &&& (255 : Int32))), (.int (0 : Int32))] (.int (0 : Int32)) := Arv.set Ar95 q95 S95 M95 H95 G95 (fits_char_b (bnd_and ((i0.toUInt32 >>> ((8 : Int32) &&& 31).toUInt32).toInt32) (255 : Int32) (by decide)) (by decide +kernel) (by decide +kernel)) W95' 1 rfl (Nat.le_of_ble_eq_true rfl)
   have O95 := O94.wr W95 g_b93
   have K95 : Keep h0 h95 ([] : List Addr) := Keep.wr K94 W95 (Or.inr (Nat.le_trans (Nat.le_refl _) (Nat.le_of_eq g93.symm)))
   have Cd95 := Cold.wr Cd94 W95 (Safe.arv hZ.alike V94 (by simp))
   have N95 := Fr.snoc X95 N94 g_b93
   show Home T95 (mkF m 38 #[.val (.int i0), .val (.int i1), .val (.int (1 : Int32)), .val (.int v2), .unset, .unset, .unset] [(.ref b93)])
   refine Home.run X95 hx hby sg0_38_8 (pc' := 49) (L' := #[.val (.int i0), .val (.int i1), .val (.int (1 : Int32)), .val (.int v2), .unset, .unset, .unset]) (S' := [(.int ((((i0.toUInt32 >>> ((16 : Int32) &&& 31).toUInt32).toInt32) &&& (255 : Int32)).toUInt32.toUInt16.toUInt32.toInt32)), (.int (2 : Int32)), (.ref b93), (.ref b93)]) rfl ?_
   rw [i2c_id (bnd_and ((i0.toUInt32 >>> ((16 : Int32) &&& 31).toUInt32).toInt32) (255 : Int32) (by decide)) (by decide +kernel) (by decide +kernel)]
   obtain ⟨cl96, Ar96, q96, S96, M96, H96, G96⟩ := id V95
   refine Home.wr (stC X95 hx hZ e95 Ar96 (j := (2 : Int32)) (inb_of S96 ⟨by decide, by decide⟩) rfl rfl (hb hby at_49)) fun T96 h96 X96 e96 W96 => ?_
   have W96' := Wr.to W96 (congrArg Value.int (nar_char_id (bnd_and ((i0.toUInt32 >>> ((16 : Int32) &&& 31).toUInt32).toInt32) (255 : Int32) (by decide)) (by decide +kernel) (by decide +kernel)))
   have V96 : Arv Z h96 b93 k93 .char (3 : Int32) [(.int (i0 &&& (255 : Int32))), (.int (((i0.toUInt32 >>> ((8 : Int32) &&& 31).toUInt32).toInt32) &&& (255 : Int32))), (.int (((i0.toUInt32 >>> ((16 : Int32) &&& 31).toUInt32).toInt32) &&& (255 : Int32)))] (.int (0 : Int32)) := Arv.set Ar96 q96 S96 M96 H96 G96 (fits_char_b (bnd_and ((i0.toUInt32 >>> ((16 : Int32) &&& 31).toUInt32).toInt32) (255 : Int32) (by decide)) (by decide +kernel) (by decide +kernel)) W96' 2 rfl (Nat.le_of_ble_eq_true rfl)
   have O96 := O95.wr W96 g_b93
   have K96 : Keep h0 h96 ([] : List Addr) := Keep.wr K95 W96 (Or.inr (Nat.le_trans (Nat.le_refl _) (Nat.le_of_eq g93.symm)))
   have Cd96 := Cold.wr Cd95 W96 (Safe.arv hZ.alike V95 (by simp))
   have N96 := Fr.snoc X96 N95 g_b93
   show Home T96 (mkF m 50 #[.val (.int i0), .val (.int i1), .val (.int (1 : Int32)), .val (.int v2), .unset, .unset, .unset] [(.ref b93)])
   refine Home.run X96 hx hby sg0_50_2 (pc' := 53) (L' := #[.val (.int i0), .val (.int i1), .val (.int (1 : Int32)), .val (.int v2), .val (.ref b93), .unset, .unset]) (S' := [(.int (3 : Int32))]) rfl ?_
   refine Home.na (own_newP (aty := .char) X96 hx hZ (own_w0 hw) e96 (g := (mkF m 53 #[.val (.int i0), .val (.int i1), .val (.int (1 : Int32)), .val (.int v2), .val (.ref b93), .unset, .unset] [(.int (3 : Int32))])) rfl (hb hby at_53) rfl (by decide) (cap := 3) (by decide) (by decide) (by decide) (by decide)) fun T97 h97 k97 b97 g97 X97 e97 E97 A97 => ?_
   have g_b97 : n0 ≤ b97 := Nat.le_trans (Old.le O96) (Nat.le_of_eq g97.symm)
   have V97 : Arv Z h97 b97 k97 .char (3 : Int32) [(.int (0 : Int32)), (.int (0 : Int32)), (.int (0 : Int32))] (.int (0 : Int32)) := (Arv.new A97 (by decide)).pad (pad_rep [] (.int (0 : Int32)) 3)
   have O97 := O96.ext E97
   have K97 : Keep h0 h97 ([] : List Addr) := Keep.ext K96 E97
   have Cd97 := Cold.ext Cd96 E97
   refine Home.run X97 hx hby sg0_55_6 (pc' := 63) (L' := #[.val (.int i0), .val (.int i1), .val (.int (1 : Int32)), .val (.int v2), .val (.ref b93), .unset, .unset]) (S' := [(.int ((i1 &&& (255 : Int32)).toUInt32.toUInt16.toUInt32.toInt32)), (.int (0 : Int32)), (.ref b97), (.ref b97)]) rfl ?_
   rw [i2c_id (bnd_and i1 (255 : Int32) (by decide)) (by decide +kernel) (by decide +kernel)]
   obtain ⟨cl98, Ar98, q98, S98, M98, H98, G98⟩ := id V97
   refine Home.wr (stC X97 hx hZ e97 Ar98 (j := (0 : Int32)) (inb_of S98 ⟨by decide, by decide⟩) rfl rfl (hb hby at_63)) fun T98 h98 X98 e98 W98 => ?_
   have W98' := Wr.to W98 (congrArg Value.int (nar_char_id (bnd_and i1 (255 : Int32) (by decide)) (by decide +kernel) (by decide +kernel)))
   have V98 : Arv Z h98 b97 k97 .char (3 : Int32) [(.int (i1 &&& (255 : Int32))), (.int (0 : Int32)), (.int (0 : Int32))] (.int (0 : Int32)) := Arv.set Ar98 q98 S98 M98 H98 G98 (fits_char_b (bnd_and i1 (255 : Int32) (by decide)) (by decide +kernel) (by decide +kernel)) W98' 0 rfl (Nat.le_of_ble_eq_true rfl)
   have O98 := O97.wr W98 g_b97
   have le99 : h0.size ≤ h94.size := Nat.le_trans E93.1 (Nat.le_of_eq W94.size.symm)
   have le100 : h0.size ≤ h95.size := Nat.le_trans le99 (Nat.le_of_eq W95.size.symm)
   have le101 : h0.size ≤ h96.size := Nat.le_trans le100 (Nat.le_of_eq W96.size.symm)
   have K98 : Keep h0 h98 ([] : List Addr) := Keep.wr K97 W98 (Or.inr (Nat.le_trans le101 (Nat.le_of_eq g97.symm)))
   have Cd98 := Cold.wr Cd97 W98 (Safe.arv hZ.alike V97 (by simp))
   have N98 := Fr.snoc X98 N96 g_b97
   show Home T98 (mkF m 64 #[.val (.int i0), .val (.int i1), .val (.int (1 : Int32)), .val (.int v2), .val (.ref b93), .unset, .unset] [(.ref b97)])
   refine Home.run X98 hx hby sg0_64_8 (pc' := 75) (L' := #[.val (.int i0), .val (.int i1), .val (.int (1 : Int32)), .val (.int v2), .val (.ref b93), .unset, .unset]) (S' := [(.int ((((i1.toUInt32 >>> ((8 : Int32) &&& 31).toUInt32).toInt32) &&& (255 : Int32)).toUInt32.toUInt16.toUInt32.toInt32)), (.int (1 : Int32)), (.ref b97), (.ref b97)]) rfl ?_
   rw [i2c_id (bnd_and ((i1.toUInt32 >>> ((8 : Int32) &&& 31).toUInt32).toInt32) (255 : Int32) (by decide)) (by decide +kernel) (by decide +kernel)]
   obtain ⟨cl102, Ar102, q102, S102, M102, H102, G102⟩ := id V98
   refine Home.wr (stC X98 hx hZ e98 Ar102 (j := (1 : Int32)) (inb_of S102 ⟨by decide, by decide⟩) rfl rfl (hb hby at_75)) fun T102 h102 X102 e102 W102 => ?_
   have W102' := Wr.to W102 (congrArg Value.int (nar_char_id (bnd_and ((i1.toUInt32 >>> ((8 : Int32) &&& 31).toUInt32).toInt32) (255 : Int32) (by decide)) (by decide +kernel) (by decide +kernel)))
   have V102 : Arv Z h102 b97 k97 .char (3 : Int32) [(.int (i1 &&& (255 : Int32))), (.int (((i1.toUInt32 >>> ((8 : Int32) &&& 31).toUInt32).toInt32) &&& (255 : Int32))), (.int (0 : Int32))] (.int (0 : Int32)) := Arv.set Ar102 q102 S102 M102 H102 G102 (fits_char_b (bnd_and ((i1.toUInt32 >>> ((8 : Int32) &&& 31).toUInt32).toInt32) (255 : Int32) (by decide)) (by decide +kernel) (by decide +kernel)) W102' 1 rfl (Nat.le_of_ble_eq_true rfl)
   have O102 := O98.wr W102 g_b97
   have K102 : Keep h0 h102 ([] : List Addr) := Keep.wr K98 W102 (Or.inr (Nat.le_trans le101 (Nat.le_of_eq g97.symm)))
   have Cd102 := Cold.wr Cd98 W102 (Safe.arv hZ.alike V98 (by simp))
   have N102 := Fr.snoc X102 N98 g_b97
   show Home T102 (mkF m 76 #[.val (.int i0), .val (.int i1), .val (.int (1 : Int32)), .val (.int v2), .val (.ref b93), .unset, .unset] [(.ref b97)])
   refine Home.run X102 hx hby sg0_76_8 (pc' := 87) (L' := #[.val (.int i0), .val (.int i1), .val (.int (1 : Int32)), .val (.int v2), .val (.ref b93), .unset, .unset]) (S' := [(.int ((((i1.toUInt32 >>> ((16 : Int32) &&& 31).toUInt32).toInt32) &&& (255 : Int32)).toUInt32.toUInt16.toUInt32.toInt32)), (.int (2 : Int32)), (.ref b97), (.ref b97)]) rfl ?_
   rw [i2c_id (bnd_and ((i1.toUInt32 >>> ((16 : Int32) &&& 31).toUInt32).toInt32) (255 : Int32) (by decide)) (by decide +kernel) (by decide +kernel)]
   obtain ⟨cl103, Ar103, q103, S103, M103, H103, G103⟩ := id V102
   refine Home.wr (stC X102 hx hZ e102 Ar103 (j := (2 : Int32)) (inb_of S103 ⟨by decide, by decide⟩) rfl rfl (hb hby at_87)) fun T103 h103 X103 e103 W103 => ?_
   have W103' := Wr.to W103 (congrArg Value.int (nar_char_id (bnd_and ((i1.toUInt32 >>> ((16 : Int32) &&& 31).toUInt32).toInt32) (255 : Int32) (by decide)) (by decide +kernel) (by decide +kernel)))
   have V103 : Arv Z h103 b97 k97 .char (3 : Int32) [(.int (i1 &&& (255 : Int32))), (.int (((i1.toUInt32 >>> ((8 : Int32) &&& 31).toUInt32).toInt32) &&& (255 : Int32))), (.int (((i1.toUInt32 >>> ((16 : Int32) &&& 31).toUInt32).toInt32) &&& (255 : Int32)))] (.int (0 : Int32)) := Arv.set Ar103 q103 S103 M103 H103 G103 (fits_char_b (bnd_and ((i1.toUInt32 >>> ((16 : Int32) &&& 31).toUInt32).toInt32) (255 : Int32) (by decide)) (by decide +kernel) (by decide +kernel)) W103' 2 rfl (Nat.le_of_ble_eq_true rfl)
   have O103 := O102.wr W103 g_b97
   have K103 : Keep h0 h103 ([] : List Addr) := Keep.wr K102 W103 (Or.inr (Nat.le_trans le101 (Nat.le_of_eq g97.symm)))
   have Cd103 := Cold.wr Cd102 W103 (Safe.arv hZ.alike V102 (by simp))
   have N103 := Fr.snoc X103 N102 g_b97
   show Home T103 (mkF m 88 #[.val (.int i0), .val (.int i1), .val (.int (1 : Int32)), .val (.int v2), .val (.ref b93), .unset, .unset] [(.ref b97)])
   refine Home.run X103 hx hby sg0_88_1 (pc' := 90) (L' := #[.val (.int i0), .val (.int i1), .val (.int (1 : Int32)), .val (.int v2), .val (.ref b93), .val (.ref b97), .unset]) (S' := []) rfl ?_
   obtain ⟨r104, hr104⟩ : ∃ z, z = (((i0.toUInt32 >>> ((8 : Int32) &&& 31).toUInt32).toInt32) &&& (255 : Int32)) := ⟨_, rfl⟩
   rw [← hr104] at V96
   have br104 : ¬ r104 < (0 : Int32) ∧ ¬ (255 : Int32) < r104 := by rw [hr104]; exact (bnd_and ((i0.toUInt32 >>> ((8 : Int32) &&& 31).toUInt32).toInt32) (255 : Int32) (by decide))
   obtain ⟨r105, hr105⟩ : ∃ z, z = (((i0.toUInt32 >>> ((16 : Int32) &&& 31).toUInt32).toInt32) &&& (255 : Int32)) := ⟨_, rfl⟩
   rw [← hr105] at V96
   have br105 : ¬ r105 < (0 : Int32) ∧ ¬ (255 : Int32) < r105 := by rw [hr105]; exact (bnd_and ((i0.toUInt32 >>> ((16 : Int32) &&& 31).toUInt32).toInt32) (255 : Int32) (by decide))
   obtain ⟨r106, hr106⟩ : ∃ z, z = (((i1.toUInt32 >>> ((8 : Int32) &&& 31).toUInt32).toInt32) &&& (255 : Int32)) := ⟨_, rfl⟩
   rw [← hr106] at V103
   have br106 : ¬ r106 < (0 : Int32) ∧ ¬ (255 : Int32) < r106 := by rw [hr106]; exact (bnd_and ((i1.toUInt32 >>> ((8 : Int32) &&& 31).toUInt32).toInt32) (255 : Int32) (by decide))
   obtain ⟨r107, hr107⟩ : ∃ z, z = (((i1.toUInt32 >>> ((16 : Int32) &&& 31).toUInt32).toInt32) &&& (255 : Int32)) := ⟨_, rfl⟩
   rw [← hr107] at V103
   have br107 : ¬ r107 < (0 : Int32) ∧ ¬ (255 : Int32) < r107 := by rw [hr107]; exact (bnd_and ((i1.toUInt32 >>> ((16 : Int32) &&& 31).toUInt32).toInt32) (255 : Int32) (by decide))
   refine Home.nw (own_newO X103 hx hZ hown (own_w1 hw) (own_w2 hw) (own_w3 hw) e103 rfl (hb hby at_90) (by decide) (by decide)) fun T108 h108 b108 g108 X108 e108 E108 A108 D108 => ?_
   have g_b108 : n0 ≤ b108 := Nat.le_trans (Old.le O103) (Nat.le_of_eq g108.symm)
   have F_where_b108 : Fld Z h108 b108 "com/example/wary_meter/warymeter/Refusal" "where" "Ljava/lang/String;" .null := D108 (Or.inr (own_w28 hw)) (ty := (.object "java/lang/String")) (by decide)
   have F_problem_b108 : Fld Z h108 b108 "com/example/wary_meter/warymeter/Refusal" "problem" "Ljava/lang/String;" .null := D108 (Or.inr (own_w30 hw)) (ty := (.object "java/lang/String")) (by decide)
   have O108 := O103.ext E108
   have K108 : Keep h0 h108 ([] : List Addr) := Keep.ext K103 E108
   have Cd108 := Cold.ext Cd103 E108
   show Home T108 (mkF m 93 #[.val (.int i0), .val (.int i1), .val (.int (1 : Int32)), .val (.int v2), .val (.ref b93), .val (.ref b97), .unset] [(.ref b108)])
   refine Home.run X108 hx hby sg0_93_3 (pc' := 97) (L' := #[.val (.int i0), .val (.int i1), .val (.int (1 : Int32)), .val (.int v2), .val (.ref b93), .val (.ref b97), .unset]) (S' := [(.ref b93), (.int (1 : Int32)), (.ref b108), (.ref b108)]) rfl ?_
   have le109 : h93.size ≤ h95.size := Nat.le_trans (Nat.le_of_eq W94.size.symm) (Nat.le_of_eq W95.size.symm)
   have le110 : h93.size ≤ h96.size := Nat.le_trans le109 (Nat.le_of_eq W96.size.symm)
   have ne111 : b93 ≠ b97 := (Nat.ne_of_lt (Nat.lt_of_lt_of_le V93.lt (Nat.le_trans le110 (Nat.le_of_eq g97.symm))))
   have q112 := (((((V96.ext E97).other W98 ne111).other W102 ne111).other W103 ne111).ext E108)
   refine Home.call (own_static X108 hx hZ hown (own_w4 hw) (own_w5 hw) (own_w6 hw) (own_w7 hw) (by decide) (rm1_2 l Z a0 hw [] b93 k93 (i0 &&& (255 : Int32)) r104 r105 sv_COMPACT_STRINGS h108 n0 O108 q112 S_COMPACT_STRINGS (bnd_and i0 (255 : Int32) (by decide)) hCS) e108 rfl (by rw [hml]; rfl) (argsL := [(.int (1 : Int32)), (.ref b93)]) (rest := [(.ref b108), (.ref b108)]) (lenOf own_pd0 rfl) rfl rfl (W := 2) (by exact hW0) (by decide) (by decide) (hb hby at_97) (by decide) (by decide)) ?_
   rintro _ T113 L113 X113 ⟨b3_2_113, b1_4_2_113, k1_4_2_113, rfl, N113q, sz_b3_2_113, sz_b1_4_2_113, K113q, P113_0, P113_1, P113_2, P113_3⟩
   have Cd113 := Cold.keep Cd108 K113q all0
   have Cd113b3_2_113 := Cold.put Cd113 ⟨Safe.keep K113q all0 Cd108.2.1.1 (Safe.new sz_b3_2_113), P113_0.lt⟩
   have Cd113b1_4_2_113 := Cold.put Cd113b3_2_113 ⟨Safe.keep K113q all0 Cd108.2.1.1 (Safe.new sz_b1_4_2_113), P113_3.lt⟩
   have g_b3_2_113 : n0 ≤ b3_2_113 := Nat.le_trans (Old.le O108) sz_b3_2_113
   have g_b1_4_2_113 : n0 ≤ b1_4_2_113 := Nat.le_trans (Old.le O108) sz_b1_4_2_113
   have O113 := Old.keep O108 K113q all0
   have K113 : Keep h0 T113.heap ([] : List Addr) := Keep.trans K108 K113q all0
   have N113 := Fr.app N103 N113q
   show Home T113 (mkF m 100 #[.val (.int i0), .val (.int i1), .val (.int (1 : Int32)), .val (.int v2), .val (.ref b93), .val (.ref b97), .unset] [(.ref b3_2_113), (.ref b108), (.ref b108)])
   refine Home.run X113 hx hby sg0_100_2 (pc' := 103) (L' := #[.val (.int i0), .val (.int i1), .val (.int (1 : Int32)), .val (.int v2), .val (.ref b93), .val (.ref b97), .unset]) (S' := [(.ref b97), (.int v2), (.ref b3_2_113), (.ref b108), (.ref b108)]) rfl ?_
   have q114 := ((V103.ext E108).keep K113q nin0)
   refine Home.call (own_staticW X113 hx hZ hown (own_hEL hw) Cd113b1_4_2_113 all0 (own_w4 hw) (own_w5 hw) (own_w6 hw) (own_w7 hw) (by decide) (rm1_1 l Z a0 hw [] v2 b97 k97 (i1 &&& (255 : Int32)) r106 r107 sv_COMPACT_STRINGS T113.heap n0 O113 bv2 q114 S_COMPACT_STRINGS (bnd_and i1 (255 : Int32) (by decide)) hCS br106 br107) rfl rfl (by rw [hml]; rfl) (argsL := [(.int v2), (.ref b97)]) (rest := [(.ref b3_2_113), (.ref b108), (.ref b108)]) (lenOf own_pd0 rfl) rfl rfl (W := 3) (by exact hW0) (by decide) (by decide) (hb hby at_103) (by decide) (by decide)) ?_
   rintro _ T115 L115 X115 ⟨⟨rs_115, rb_115, rk_115, rfl, N115q, K115q, P115_0, P115_1, P115_2, P115_3⟩, hZ, hown, Cd115, sR115⟩
   have O115 := Old.keep O113 K115q all0
   have K115 : Keep h0 T115.heap ([] : List Addr) := Keep.trans K113 K115q all0
   have N115 := Fr.app N113 N115q
   have q116 := ((A108.keep K113q).keep K115q)
   have q117 := ((F_where_b108.keep K113q nin0).keep K115q nin0)
   have q118 := ((F_problem_b108.keep K113q nin0).keep K115q nin0)
   refine Home.call (own_special X115 hx hZ hown rfl (own_w16 hw) (own_w17 hw) (own_w3 hw) (own_w18 hw) (by decide) (rm2_0 l Z a0 hw [] b108 b3_2_113 rs_115 T115.heap n0 O115 q116 q117 g_b108 q118) rfl rfl (by rw [hml]; rfl) (a := b108) (argsL := [(.ref b3_2_113), (.ref rs_115)]) (rest := [(.ref b108)]) (lenOf own_pd11 rfl) rfl rfl (W := 1) (by exact hW0) (by decide) (by decide) (hb hby at_106) (by decide) (by decide)) ?_
   rintro _ T119 L119 X119 ⟨rfl, N119q, K119q, P119_0, P119_1, P119_2⟩
   have Cd119 := Cold.keep Cd115 K119q (allS (Safe.exa hZ.alike q116 (by decide) (by decide)) all0)
   have le120 : h0.size ≤ h97.size := Nat.le_trans le101 E97.1
   have le121 : h0.size ≤ h98.size := Nat.le_trans le120 (Nat.le_of_eq W98.size.symm)
   have le122 : h0.size ≤ h102.size := Nat.le_trans le121 (Nat.le_of_eq W102.size.symm)
   have le123 : h0.size ≤ h103.size := Nat.le_trans le122 (Nat.le_of_eq W103.size.symm)
   have O119 := Old.keep O115 K119q (allS g_b108 all0)
   have K119 : Keep h0 T119.heap ([] : List Addr) := Keep.trans K115 K119q (allS (Or.inr (Nat.le_trans le123 (Nat.le_of_eq g108.symm))) all0)
   have N119 := Fr.app N115 N119q
   show Home T119 (mkF m 109 #[.val (.int i0), .val (.int i1), .val (.int (1 : Int32)), .val (.int v2), .val (.ref b93), .val (.ref b97), .unset] [(.ref b108)])
   have q124 := ((P113_0.keep K115q).keep K119q)
   have ne125 : b3_2_113 ≠ b108 := (Ne.symm (Nat.ne_of_lt (Nat.lt_of_lt_of_le A108.lt (Nat.le_trans (Nat.le_refl _) sz_b3_2_113))))
   have q126 := ((P113_1.keep K115q nin0).keep K119q (ninS ne125 nin0))
   have ne127 : b1_4_2_113 ≠ b108 := (Ne.symm (Nat.ne_of_lt (Nat.lt_of_lt_of_le A108.lt (Nat.le_trans (Nat.le_refl _) sz_b1_4_2_113))))
   have q128 := ((P113_3.keep K115q nin0).keep K119q (ninS ne127 nin0))
   have q129 := ((P113_2.keep K115q nin0).keep K119q (ninS ne125 nin0))
   have q130 := (P115_0.keep K119q)
   have ne131 : rs_115 ≠ b108 := (ne_exa q130 P119_0 (by decide))
   have q132 := (P115_2.keep K119q (ninS ne131 nin0))
   have ne133 : rb_115 ≠ b108 := (Ne.symm (own_neAV ((A108.keep K113q).keep K115q) (own_w2 hw) P115_3))
   have q134 := (P115_3.keep K119q (ninS ne133 nin0))
   have q135 := (P115_1.keep K119q (ninS ne131 nin0))
   refine Home.call (own_virtualW X119 hx hZ hown (own_hEL hw) Cd119 all0 (own_w31 hw) (own_w32 hw) (notFace_of_selects (args := #[]) (mvT hZ (own_w34 hw))) (own_w34 hw) (own_w33 hw) (own_w3 hw) (own_w35 hw) (by decide) (rm5_0 l Z a0 hw [] b108 sv_COMPACT_STRINGS b3_2_113 b1_4_2_113 k1_4_2_113 [((i0 &&& (255 : Int32)).toInt8.toInt32)] rs_115 rb_115 rk_115 (cs_rm1_1 v2 (i1 &&& (255 : Int32)) r106 r107) T119.heap n0 O119 S_COMPACT_STRINGS hCS P119_1 q124 q126 q128 q129 (Nat.le_trans (own_len_lit (l := [((i0 &&& (255 : Int32)).toInt8.toInt32)]) (n := 1) rfl).2 (by decide)) P119_2 q130 q132 q134 q135 (cs_rm1_1_short v2 (i1 &&& (255 : Int32)) r106 r107)) rfl P119_0 rfl (by rw [hml]; rfl) (argsL := []) (rest := []) (lenOf own_pd27 rfl) rfl rfl (W := 0) (by exact hW0) (by decide) (by decide) (hb hby at_109) (by decide) (by decide)) ?_
   rintro _ T136 L136 X136 ⟨⟨b1_14_136, b2_2_8_1_2_14_136, k2_2_8_1_2_14_136, rfl, N136q, sz_b1_14_136, sz_b2_2_8_1_2_14_136, K136q, P136_0, P136_1, P136_2, P136_3⟩, hZ, hown, Cd136, sR136⟩
   have Ce136 := Cold.put Cd136 (sR136 rfl _ rfl)
   have g_b1_14_136 : n0 ≤ b1_14_136 := Nat.le_trans (Old.le O119) sz_b1_14_136
   have g_b2_2_8_1_2_14_136 : n0 ≤ b2_2_8_1_2_14_136 := Nat.le_trans (Old.le O119) sz_b2_2_8_1_2_14_136
   have O136 := Old.keep O119 K136q all0
   have K136 : Keep h0 T136.heap ([] : List Addr) := Keep.trans K119 K136q all0
   have N136 := Fr.app N119 N136q
   show Home T136 (mkF m 112 #[.val (.int i0), .val (.int i1), .val (.int (1 : Int32)), .val (.int v2), .val (.ref b93), .val (.ref b97), .unset] [(.ref b1_14_136)])
   obtain ⟨r137, hr137⟩ : ∃ z, z = ((([] ++ [((i0 &&& (255 : Int32)).toInt8.toInt32)]) ++ [(58 : Int32), (32 : Int32)]) ++ (cs_rm1_1 v2 (i1 &&& (255 : Int32)) r106 r107)) := ⟨_, rfl⟩
   rw [← hr137] at P136_3
   refine Home.run X136 hx hby sg0_112_2 (pc' := 116) (L' := #[.val (.int i0), .val (.int i1), .val (.int (1 : Int32)), .val (.int v2), .val (.ref b93), .val (.ref b97), .val (.ref b1_14_136)]) (S' := [(.ref b1_14_136)]) rfl ?_
   refine Home.st (own_pure (own_virtual X136 hx hZ hown (own_w152 hw) (own_w65 hw) (notFace_of_selects (args := #[]) (mvT hZ (own_w67 hw))) (own_w67 hw) (own_w66 hw) (own_w9 hw) (own_w68 hw) (by decide) (rm10_2 l Z a0 hw [] b1_14_136 b2_2_8_1_2_14_136 k2_2_8_1_2_14_136 r137 sv_COMPACT_STRINGS T136.heap n0 O136 P136_1 P136_3 P136_0 S_COMPACT_STRINGS P136_2 hCS (Nat.le_trans (show 3 ≤ r137.length ∧ r137.length ≤ 6 by rw [hr137]; exact (own_len_app (own_len_app (own_len_app (own_len_lit (l := []) (n := 0) rfl) (own_len_lit (l := [((i0 &&& (255 : Int32)).toInt8.toInt32)]) (n := 1) rfl)) (own_len_lit (l := [(58 : Int32), (32 : Int32)]) (n := 2) rfl)) (own_len_le (cs_rm1_1_short v2 (i1 &&& (255 : Int32)) r106 r107)))).2 (by decide))) rfl P136_0 rfl (by rw [hml]; rfl) (argsL := []) (rest := []) (lenOf own_pd14 rfl) rfl rfl (W := 0) (by exact hW0) (by decide) (by decide) (hb hby at_116) (by decide) (by decide))) fun T138 X138 e138 => ?_
   refine Home.run X138 hx hby sg0_119_5 (pc' := 124) (L' := #[.val (.int i0), .val (.int i1), .val (.int (1 : Int32)), .val (.int v2), .val (.ref b93), .val (.ref b97), .val (.ref b1_14_136)]) (S' := [(.int ((3 : Int32) + v2)), (.int (own_n r137))]) rfl ?_
   by_cases c139 : (own_n r137) = ((3 : Int32) + v2)
   ·
    refine Home.go (fun _ => XS.icmpYes X138.here hx rfl (pc0 := 124) (pc' := 129) rfl (hb hby at_124) rfl (teq c139).1 (by decide) (by decide)) ?_
    refine Home.run X138 hx hby sg0_129_5 (pc' := 137) (L' := #[.val (.int i0), .val (.int i1), .val (.int (1 : Int32)), .val (.int v2), .val (.ref b93), .val (.ref b97), .val (.ref b1_14_136)]) (S' := [(.ref b97), (.ref b93), (.int (1 : Int32)), (.int (0 : Int32)), (.ref b1_14_136)]) rfl ?_
    have le140 : h93.size ≤ h97.size := Nat.le_trans le110 E97.1
    have le141 : h93.size ≤ h98.size := Nat.le_trans le140 (Nat.le_of_eq W98.size.symm)
    have le142 : h93.size ≤ h102.size := Nat.le_trans le141 (Nat.le_of_eq W102.size.symm)
    have le143 : h93.size ≤ h103.size := Nat.le_trans le142 (Nat.le_of_eq W103.size.symm)
    have ne144 : b93 ≠ b108 := (Nat.ne_of_lt (Nat.lt_of_lt_of_le V93.lt (Nat.le_trans le143 (Nat.le_of_eq g108.symm))))
    have q145 := ((((q112.keep K113q nin0).keep K115q nin0).keep K119q (ninS ne144 nin0)).keep K136q nin0)
    have le146 : h97.size ≤ h102.size := Nat.le_trans (Nat.le_of_eq W98.size.symm) (Nat.le_of_eq W102.size.symm)
    have le147 : h97.size ≤ h103.size := Nat.le_trans le146 (Nat.le_of_eq W103.size.symm)
    have ne148 : b97 ≠ b108 := (Nat.ne_of_lt (Nat.lt_of_lt_of_le V97.lt (Nat.le_trans le147 (Nat.le_of_eq g108.symm))))
    have q149 := (((q114.keep K115q nin0).keep K119q (ninS ne148 nin0)).keep K136q nin0)
    refine Home.st (own_pure (own_static X138 hx hZ hown (own_w153 hw) (own_w154 hw) (own_w6 hw) (own_w155 hw) (by decide) (rm27_1 l Z a0 hw [] b1_14_136 (0 : Int32) b93 b97 b2_2_8_1_2_14_136 k2_2_8_1_2_14_136 r137 sv_COMPACT_STRINGS sv_SIOOBE_FORMATTER k93 (i0 &&& (255 : Int32)) r104 r105 k97 (i1 &&& (255 : Int32)) r106 r107 T136.heap n0 O136 (bnd_mono (bnd_lit (0 : Int32)) (by decide +kernel) (by decide +kernel)) P136_0 P136_1 P136_3 S_COMPACT_STRINGS P136_2 hCS (Nat.le_trans (show 3 ≤ r137.length ∧ r137.length ≤ 6 by rw [hr137]; exact (own_len_app (own_len_app (own_len_app (own_len_lit (l := []) (n := 0) rfl) (own_len_lit (l := [((i0 &&& (255 : Int32)).toInt8.toInt32)]) (n := 1) rfl)) (own_len_lit (l := [(58 : Int32), (32 : Int32)]) (n := 2) rfl)) (own_len_le (cs_rm1_1_short v2 (i1 &&& (255 : Int32)) r106 r107)))).2 (by decide)) S_SIOOBE_FORMATTER isr_sv_SIOOBE_FORMATTER q145 q149 (bnd_and i0 (255 : Int32) (by decide)) br104 br105 (bnd_and i1 (255 : Int32) (by decide)) br106 br107) e138 rfl (by rw [hml]; rfl) (argsL := [(.ref b1_14_136), (.int (0 : Int32)), (.int (1 : Int32)), (.ref b93), (.ref b97)]) (rest := []) (lenOf own_pd32 rfl) rfl rfl (W := 0) (by exact hW0) (by decide) (by decide) (hb hby at_137) (by decide) (by decide))) fun T150 X150 e150 => ?_
    show Home T150 (mkF m 140 #[.val (.int i0), .val (.int i1), .val (.int (1 : Int32)), .val (.int v2), .val (.ref b93), .val (.ref b97), .val (.ref b1_14_136)] [(.int (f_rm27_1 (0 : Int32) r137 (i0 &&& (255 : Int32)) r104 r105 (i1 &&& (255 : Int32)) r106 r107))])
    obtain ⟨r151, hr151⟩ : ∃ z, z = (f_rm27_1 (0 : Int32) r137 (i0 &&& (255 : Int32)) r104 r105 (i1 &&& (255 : Int32)) r106 r107) := ⟨_, rfl⟩
    rw [← hr151]
    have br151 : ¬ r151 < (0 : Int32) ∧ ¬ (1 : Int32) < r151 := by rw [hr151]; exact f_rm27_1_bnd (0 : Int32) r137 (i0 &&& (255 : Int32)) r104 r105 (i1 &&& (255 : Int32)) r106 r107 (bnd_mono (bnd_lit (0 : Int32)) (by decide +kernel) (by decide +kernel)) (bnd_and i0 (255 : Int32) (by decide)) br104 br105 (bnd_and i1 (255 : Int32) (by decide)) br106 br107
    suffices J183 : ∀ {T : State} {lc : List Loc} (X : Stand p l e room_1 (s.setVm T136.vm) m #[(.int i0), (.int i1)] below meth c T lc 14 67) (N : Fr n0 lc) (eT : T.heap = T136.heap) (v184 : Int32) (hv184 : v184 = (if r151 = (0 : Int32) then (0 : Int32) else (if (f_rm27_1 (1 : Int32) r137 (i0 &&& (255 : Int32)) r104 r105 (i1 &&& (255 : Int32)) r106 r107) = (0 : Int32) then (0 : Int32) else (if (f_rm27_1 (2 : Int32) r137 (i0 &&& (255 : Int32)) r104 r105 (i1 &&& (255 : Int32)) r106 r107) = (0 : Int32) then (0 : Int32) else (if (f_rm27_1 (3 : Int32) r137 (i0 &&& (255 : Int32)) r104 r105 (i1 &&& (255 : Int32)) r106 r107) = (0 : Int32) then (0 : Int32) else (if (f_rm27_1 (4 : Int32) r137 (i0 &&& (255 : Int32)) r104 r105 (i1 &&& (255 : Int32)) r106 r107) = (0 : Int32) then (0 : Int32) else (if (f_rm27_1 (5 : Int32) r137 (i0 &&& (255 : Int32)) r104 r105 (i1 &&& (255 : Int32)) r106 r107) = (0 : Int32) then (0 : Int32) else (if (f_rm27_1 (6 : Int32) r137 (i0 &&& (255 : Int32)) r104 r105 (i1 &&& (255 : Int32)) r106 r107) = (0 : Int32) then (0 : Int32) else (if (f_rm27_1 (7 : Int32) r137 (i0 &&& (255 : Int32)) r104 r105 (i1 &&& (255 : Int32)) r106 r107) = (0 : Int32) then (0 : Int32) else (1 : Int32)))))))))), @Home p e below _ T (mkF m 248 #[.val (.int i0), .val (.int i1), .val (.int (1 : Int32)), .val (.int v2), .val (.ref b93), .val (.ref b97), .val (.ref b1_14_136)] [(.int v184)]) by
     by_cases c152 : r151 = (0 : Int32)
     ·
      refine Home.go (fun _ => XS.ifYes X150.here hx rfl (pc0 := 140) (pc' := 247) rfl (hb hby at_140) rfl ((if0 _ _).trans (teq c152).1) (by decide) (by decide)) ?_
      have bd153 : ¬ r151 < (0 : Int32) ∧ ¬ (0 : Int32) < r151 := ⟨(bnd_eql c152), (bnd_eqr c152)⟩
      refine Home.run X150 hx hby sg0_247_1 (pc' := 248) (L' := #[.val (.int i0), .val (.int i1), .val (.int (1 : Int32)), .val (.int v2), .val (.ref b93), .val (.ref b97), .val (.ref b1_14_136)]) (S' := [(.int (0 : Int32))]) rfl ?_
      exact J183 X150 N136 e150 _ (by simp only [if_pos c152])
     ·
      refine Home.go (fun _ => XS.ifNo X150.here hx rfl (hb hby at_140) rfl ((if0 _ _).trans (feq c152).1)) ?_
      have bd154 : ¬ r151 < (1 : Int32) ∧ ¬ (1 : Int32) < r151 := ⟨(bnd_nel br151.1 c152 (by decide +kernel)), br151.2⟩
      refine Home.run X150 hx hby sg0_143_5 (pc' := 151) (L' := #[.val (.int i0), .val (.int i1), .val (.int (1 : Int32)), .val (.int v2), .val (.ref b93), .val (.ref b97), .val (.ref b1_14_136)]) (S' := [(.ref b97), (.ref b93), (.int (1 : Int32)), (.int (1 : Int32)), (.ref b1_14_136)]) rfl ?_
      refine Home.st (own_pure (own_static X150 hx hZ hown (own_w153 hw) (own_w154 hw) (own_w6 hw) (own_w155 hw) (by decide) (rm27_1 l Z a0 hw [] b1_14_136 (1 : Int32) b93 b97 b2_2_8_1_2_14_136 k2_2_8_1_2_14_136 r137 sv_COMPACT_STRINGS sv_SIOOBE_FORMATTER k93 (i0 &&& (255 : Int32)) r104 r105 k97 (i1 &&& (255 : Int32)) r106 r107 T136.heap n0 O136 (bnd_mono (bnd_lit (1 : Int32)) (by decide +kernel) (by decide +kernel)) P136_0 P136_1 P136_3 S_COMPACT_STRINGS P136_2 hCS (Nat.le_trans (show 3 ≤ r137.length ∧ r137.length ≤ 6 by rw [hr137]; exact (own_len_app (own_len_app (own_len_app (own_len_lit (l := []) (n := 0) rfl) (own_len_lit (l := [((i0 &&& (255 : Int32)).toInt8.toInt32)]) (n := 1) rfl)) (own_len_lit (l := [(58 : Int32), (32 : Int32)]) (n := 2) rfl)) (own_len_le (cs_rm1_1_short v2 (i1 &&& (255 : Int32)) r106 r107)))).2 (by decide)) S_SIOOBE_FORMATTER isr_sv_SIOOBE_FORMATTER q145 q149 (bnd_and i0 (255 : Int32) (by decide)) br104 br105 (bnd_and i1 (255 : Int32) (by decide)) br106 br107) e150 rfl (by rw [hml]; rfl) (argsL := [(.ref b1_14_136), (.int (1 : Int32)), (.int (1 : Int32)), (.ref b93), (.ref b97)]) (rest := []) (lenOf own_pd32 rfl) rfl rfl (W := 0) (by exact hW0) (by decide) (by decide) (hb hby at_151) (by decide) (by decide))) fun T155 X155 e155 => ?_
      by_cases c156 : (f_rm27_1 (1 : Int32) r137 (i0 &&& (255 : Int32)) r104 r105 (i1 &&& (255 : Int32)) r106 r107) = (0 : Int32)
      ·
       refine Home.go (fun _ => XS.ifYes X155.here hx rfl (pc0 := 154) (pc' := 247) rfl (hb hby at_154) rfl ((if0 _ _).trans (teq c156).1) (by decide) (by decide)) ?_
       have bd157 : ¬ (f_rm27_1 (1 : Int32) r137 (i0 &&& (255 : Int32)) r104 r105 (i1 &&& (255 : Int32)) r106 r107) < (0 : Int32) ∧ ¬ (0 : Int32) < (f_rm27_1 (1 : Int32) r137 (i0 &&& (255 : Int32)) r104 r105 (i1 &&& (255 : Int32)) r106 r107) := ⟨(bnd_eql c156), (bnd_eqr c156)⟩
       refine Home.run X155 hx hby sg0_247_1 (pc' := 248) (L' := #[.val (.int i0), .val (.int i1), .val (.int (1 : Int32)), .val (.int v2), .val (.ref b93), .val (.ref b97), .val (.ref b1_14_136)]) (S' := [(.int (0 : Int32))]) rfl ?_
       exact J183 X155 N136 e155 _ (by simp only [if_neg c152, if_pos c156])
      ·
       refine Home.go (fun _ => XS.ifNo X155.here hx rfl (hb hby at_154) rfl ((if0 _ _).trans (feq c156).1)) ?_
       have bd158 : ¬ (f_rm27_1 (1 : Int32) r137 (i0 &&& (255 : Int32)) r104 r105 (i1 &&& (255 : Int32)) r106 r107) < (1 : Int32) ∧ ¬ (1 : Int32) < (f_rm27_1 (1 : Int32) r137 (i0 &&& (255 : Int32)) r104 r105 (i1 &&& (255 : Int32)) r106 r107) := ⟨(bnd_nel (f_rm27_1_bnd (1 : Int32) r137 (i0 &&& (255 : Int32)) r104 r105 (i1 &&& (255 : Int32)) r106 r107 (bnd_mono (bnd_lit (1 : Int32)) (by decide +kernel) (by decide +kernel)) (bnd_and i0 (255 : Int32) (by decide)) br104 br105 (bnd_and i1 (255 : Int32) (by decide)) br106 br107).1 c156 (by decide +kernel)), (f_rm27_1_bnd (1 : Int32) r137 (i0 &&& (255 : Int32)) r104 r105 (i1 &&& (255 : Int32)) r106 r107 (bnd_mono (bnd_lit (1 : Int32)) (by decide +kernel) (by decide +kernel)) (bnd_and i0 (255 : Int32) (by decide)) br104 br105 (bnd_and i1 (255 : Int32) (by decide)) br106 br107).2⟩
       refine Home.run X155 hx hby sg0_157_5 (pc' := 165) (L' := #[.val (.int i0), .val (.int i1), .val (.int (1 : Int32)), .val (.int v2), .val (.ref b93), .val (.ref b97), .val (.ref b1_14_136)]) (S' := [(.ref b97), (.ref b93), (.int (1 : Int32)), (.int (2 : Int32)), (.ref b1_14_136)]) rfl ?_
       refine Home.st (own_pure (own_static X155 hx hZ hown (own_w153 hw) (own_w154 hw) (own_w6 hw) (own_w155 hw) (by decide) (rm27_1 l Z a0 hw [] b1_14_136 (2 : Int32) b93 b97 b2_2_8_1_2_14_136 k2_2_8_1_2_14_136 r137 sv_COMPACT_STRINGS sv_SIOOBE_FORMATTER k93 (i0 &&& (255 : Int32)) r104 r105 k97 (i1 &&& (255 : Int32)) r106 r107 T136.heap n0 O136 (bnd_mono (bnd_lit (2 : Int32)) (by decide +kernel) (by decide +kernel)) P136_0 P136_1 P136_3 S_COMPACT_STRINGS P136_2 hCS (Nat.le_trans (show 3 ≤ r137.length ∧ r137.length ≤ 6 by rw [hr137]; exact (own_len_app (own_len_app (own_len_app (own_len_lit (l := []) (n := 0) rfl) (own_len_lit (l := [((i0 &&& (255 : Int32)).toInt8.toInt32)]) (n := 1) rfl)) (own_len_lit (l := [(58 : Int32), (32 : Int32)]) (n := 2) rfl)) (own_len_le (cs_rm1_1_short v2 (i1 &&& (255 : Int32)) r106 r107)))).2 (by decide)) S_SIOOBE_FORMATTER isr_sv_SIOOBE_FORMATTER q145 q149 (bnd_and i0 (255 : Int32) (by decide)) br104 br105 (bnd_and i1 (255 : Int32) (by decide)) br106 br107) e155 rfl (by rw [hml]; rfl) (argsL := [(.ref b1_14_136), (.int (2 : Int32)), (.int (1 : Int32)), (.ref b93), (.ref b97)]) (rest := []) (lenOf own_pd32 rfl) rfl rfl (W := 0) (by exact hW0) (by decide) (by decide) (hb hby at_165) (by decide) (by decide))) fun T159 X159 e159 => ?_
       by_cases c160 : (f_rm27_1 (2 : Int32) r137 (i0 &&& (255 : Int32)) r104 r105 (i1 &&& (255 : Int32)) r106 r107) = (0 : Int32)
       ·
        refine Home.go (fun _ => XS.ifYes X159.here hx rfl (pc0 := 168) (pc' := 247) rfl (hb hby at_168) rfl ((if0 _ _).trans (teq c160).1) (by decide) (by decide)) ?_
        have bd161 : ¬ (f_rm27_1 (2 : Int32) r137 (i0 &&& (255 : Int32)) r104 r105 (i1 &&& (255 : Int32)) r106 r107) < (0 : Int32) ∧ ¬ (0 : Int32) < (f_rm27_1 (2 : Int32) r137 (i0 &&& (255 : Int32)) r104 r105 (i1 &&& (255 : Int32)) r106 r107) := ⟨(bnd_eql c160), (bnd_eqr c160)⟩
        refine Home.run X159 hx hby sg0_247_1 (pc' := 248) (L' := #[.val (.int i0), .val (.int i1), .val (.int (1 : Int32)), .val (.int v2), .val (.ref b93), .val (.ref b97), .val (.ref b1_14_136)]) (S' := [(.int (0 : Int32))]) rfl ?_
        exact J183 X159 N136 e159 _ (by simp only [if_neg c152, if_neg c156, if_pos c160])
       ·
        refine Home.go (fun _ => XS.ifNo X159.here hx rfl (hb hby at_168) rfl ((if0 _ _).trans (feq c160).1)) ?_
        have bd162 : ¬ (f_rm27_1 (2 : Int32) r137 (i0 &&& (255 : Int32)) r104 r105 (i1 &&& (255 : Int32)) r106 r107) < (1 : Int32) ∧ ¬ (1 : Int32) < (f_rm27_1 (2 : Int32) r137 (i0 &&& (255 : Int32)) r104 r105 (i1 &&& (255 : Int32)) r106 r107) := ⟨(bnd_nel (f_rm27_1_bnd (2 : Int32) r137 (i0 &&& (255 : Int32)) r104 r105 (i1 &&& (255 : Int32)) r106 r107 (bnd_mono (bnd_lit (2 : Int32)) (by decide +kernel) (by decide +kernel)) (bnd_and i0 (255 : Int32) (by decide)) br104 br105 (bnd_and i1 (255 : Int32) (by decide)) br106 br107).1 c160 (by decide +kernel)), (f_rm27_1_bnd (2 : Int32) r137 (i0 &&& (255 : Int32)) r104 r105 (i1 &&& (255 : Int32)) r106 r107 (bnd_mono (bnd_lit (2 : Int32)) (by decide +kernel) (by decide +kernel)) (bnd_and i0 (255 : Int32) (by decide)) br104 br105 (bnd_and i1 (255 : Int32) (by decide)) br106 br107).2⟩
        refine Home.run X159 hx hby sg0_171_5 (pc' := 179) (L' := #[.val (.int i0), .val (.int i1), .val (.int (1 : Int32)), .val (.int v2), .val (.ref b93), .val (.ref b97), .val (.ref b1_14_136)]) (S' := [(.ref b97), (.ref b93), (.int (1 : Int32)), (.int (3 : Int32)), (.ref b1_14_136)]) rfl ?_
        refine Home.st (own_pure (own_static X159 hx hZ hown (own_w153 hw) (own_w154 hw) (own_w6 hw) (own_w155 hw) (by decide) (rm27_1 l Z a0 hw [] b1_14_136 (3 : Int32) b93 b97 b2_2_8_1_2_14_136 k2_2_8_1_2_14_136 r137 sv_COMPACT_STRINGS sv_SIOOBE_FORMATTER k93 (i0 &&& (255 : Int32)) r104 r105 k97 (i1 &&& (255 : Int32)) r106 r107 T136.heap n0 O136 (bnd_mono (bnd_lit (3 : Int32)) (by decide +kernel) (by decide +kernel)) P136_0 P136_1 P136_3 S_COMPACT_STRINGS P136_2 hCS (Nat.le_trans (show 3 ≤ r137.length ∧ r137.length ≤ 6 by rw [hr137]; exact (own_len_app (own_len_app (own_len_app (own_len_lit (l := []) (n := 0) rfl) (own_len_lit (l := [((i0 &&& (255 : Int32)).toInt8.toInt32)]) (n := 1) rfl)) (own_len_lit (l := [(58 : Int32), (32 : Int32)]) (n := 2) rfl)) (own_len_le (cs_rm1_1_short v2 (i1 &&& (255 : Int32)) r106 r107)))).2 (by decide)) S_SIOOBE_FORMATTER isr_sv_SIOOBE_FORMATTER q145 q149 (bnd_and i0 (255 : Int32) (by decide)) br104 br105 (bnd_and i1 (255 : Int32) (by decide)) br106 br107) e159 rfl (by rw [hml]; rfl) (argsL := [(.ref b1_14_136), (.int (3 : Int32)), (.int (1 : Int32)), (.ref b93), (.ref b97)]) (rest := []) (lenOf own_pd32 rfl) rfl rfl (W := 0) (by exact hW0) (by decide) (by decide) (hb hby at_179) (by decide) (by decide))) fun T163 X163 e163 => ?_
        by_cases c164 : (f_rm27_1 (3 : Int32) r137 (i0 &&& (255 : Int32)) r104 r105 (i1 &&& (255 : Int32)) r106 r107) = (0 : Int32)
        ·
         refine Home.go (fun _ => XS.ifYes X163.here hx rfl (pc0 := 182) (pc' := 247) rfl (hb hby at_182) rfl ((if0 _ _).trans (teq c164).1) (by decide) (by decide)) ?_
         have bd165 : ¬ (f_rm27_1 (3 : Int32) r137 (i0 &&& (255 : Int32)) r104 r105 (i1 &&& (255 : Int32)) r106 r107) < (0 : Int32) ∧ ¬ (0 : Int32) < (f_rm27_1 (3 : Int32) r137 (i0 &&& (255 : Int32)) r104 r105 (i1 &&& (255 : Int32)) r106 r107) := ⟨(bnd_eql c164), (bnd_eqr c164)⟩
         refine Home.run X163 hx hby sg0_247_1 (pc' := 248) (L' := #[.val (.int i0), .val (.int i1), .val (.int (1 : Int32)), .val (.int v2), .val (.ref b93), .val (.ref b97), .val (.ref b1_14_136)]) (S' := [(.int (0 : Int32))]) rfl ?_
         exact J183 X163 N136 e163 _ (by simp only [if_neg c152, if_neg c156, if_neg c160, if_pos c164])
        ·
         refine Home.go (fun _ => XS.ifNo X163.here hx rfl (hb hby at_182) rfl ((if0 _ _).trans (feq c164).1)) ?_
         have bd166 : ¬ (f_rm27_1 (3 : Int32) r137 (i0 &&& (255 : Int32)) r104 r105 (i1 &&& (255 : Int32)) r106 r107) < (1 : Int32) ∧ ¬ (1 : Int32) < (f_rm27_1 (3 : Int32) r137 (i0 &&& (255 : Int32)) r104 r105 (i1 &&& (255 : Int32)) r106 r107) := ⟨(bnd_nel (f_rm27_1_bnd (3 : Int32) r137 (i0 &&& (255 : Int32)) r104 r105 (i1 &&& (255 : Int32)) r106 r107 (bnd_mono (bnd_lit (3 : Int32)) (by decide +kernel) (by decide +kernel)) (bnd_and i0 (255 : Int32) (by decide)) br104 br105 (bnd_and i1 (255 : Int32) (by decide)) br106 br107).1 c164 (by decide +kernel)), (f_rm27_1_bnd (3 : Int32) r137 (i0 &&& (255 : Int32)) r104 r105 (i1 &&& (255 : Int32)) r106 r107 (bnd_mono (bnd_lit (3 : Int32)) (by decide +kernel) (by decide +kernel)) (bnd_and i0 (255 : Int32) (by decide)) br104 br105 (bnd_and i1 (255 : Int32) (by decide)) br106 br107).2⟩
         refine Home.run X163 hx hby sg0_185_5 (pc' := 193) (L' := #[.val (.int i0), .val (.int i1), .val (.int (1 : Int32)), .val (.int v2), .val (.ref b93), .val (.ref b97), .val (.ref b1_14_136)]) (S' := [(.ref b97), (.ref b93), (.int (1 : Int32)), (.int (4 : Int32)), (.ref b1_14_136)]) rfl ?_
         refine Home.st (own_pure (own_static X163 hx hZ hown (own_w153 hw) (own_w154 hw) (own_w6 hw) (own_w155 hw) (by decide) (rm27_1 l Z a0 hw [] b1_14_136 (4 : Int32) b93 b97 b2_2_8_1_2_14_136 k2_2_8_1_2_14_136 r137 sv_COMPACT_STRINGS sv_SIOOBE_FORMATTER k93 (i0 &&& (255 : Int32)) r104 r105 k97 (i1 &&& (255 : Int32)) r106 r107 T136.heap n0 O136 (bnd_mono (bnd_lit (4 : Int32)) (by decide +kernel) (by decide +kernel)) P136_0 P136_1 P136_3 S_COMPACT_STRINGS P136_2 hCS (Nat.le_trans (show 3 ≤ r137.length ∧ r137.length ≤ 6 by rw [hr137]; exact (own_len_app (own_len_app (own_len_app (own_len_lit (l := []) (n := 0) rfl) (own_len_lit (l := [((i0 &&& (255 : Int32)).toInt8.toInt32)]) (n := 1) rfl)) (own_len_lit (l := [(58 : Int32), (32 : Int32)]) (n := 2) rfl)) (own_len_le (cs_rm1_1_short v2 (i1 &&& (255 : Int32)) r106 r107)))).2 (by decide)) S_SIOOBE_FORMATTER isr_sv_SIOOBE_FORMATTER q145 q149 (bnd_and i0 (255 : Int32) (by decide)) br104 br105 (bnd_and i1 (255 : Int32) (by decide)) br106 br107) e163 rfl (by rw [hml]; rfl) (argsL := [(.ref b1_14_136), (.int (4 : Int32)), (.int (1 : Int32)), (.ref b93), (.ref b97)]) (rest := []) (lenOf own_pd32 rfl) rfl rfl (W := 0) (by exact hW0) (by decide) (by decide) (hb hby at_193) (by decide) (by decide))) fun T167 X167 e167 => ?_
         by_cases c168 : (f_rm27_1 (4 : Int32) r137 (i0 &&& (255 : Int32)) r104 r105 (i1 &&& (255 : Int32)) r106 r107) = (0 : Int32)
         ·
          refine Home.go (fun _ => XS.ifYes X167.here hx rfl (pc0 := 196) (pc' := 247) rfl (hb hby at_196) rfl ((if0 _ _).trans (teq c168).1) (by decide) (by decide)) ?_
          have bd169 : ¬ (f_rm27_1 (4 : Int32) r137 (i0 &&& (255 : Int32)) r104 r105 (i1 &&& (255 : Int32)) r106 r107) < (0 : Int32) ∧ ¬ (0 : Int32) < (f_rm27_1 (4 : Int32) r137 (i0 &&& (255 : Int32)) r104 r105 (i1 &&& (255 : Int32)) r106 r107) := ⟨(bnd_eql c168), (bnd_eqr c168)⟩
          refine Home.run X167 hx hby sg0_247_1 (pc' := 248) (L' := #[.val (.int i0), .val (.int i1), .val (.int (1 : Int32)), .val (.int v2), .val (.ref b93), .val (.ref b97), .val (.ref b1_14_136)]) (S' := [(.int (0 : Int32))]) rfl ?_
          exact J183 X167 N136 e167 _ (by simp only [if_neg c152, if_neg c156, if_neg c160, if_neg c164, if_pos c168])
         ·
          refine Home.go (fun _ => XS.ifNo X167.here hx rfl (hb hby at_196) rfl ((if0 _ _).trans (feq c168).1)) ?_
          have bd170 : ¬ (f_rm27_1 (4 : Int32) r137 (i0 &&& (255 : Int32)) r104 r105 (i1 &&& (255 : Int32)) r106 r107) < (1 : Int32) ∧ ¬ (1 : Int32) < (f_rm27_1 (4 : Int32) r137 (i0 &&& (255 : Int32)) r104 r105 (i1 &&& (255 : Int32)) r106 r107) := ⟨(bnd_nel (f_rm27_1_bnd (4 : Int32) r137 (i0 &&& (255 : Int32)) r104 r105 (i1 &&& (255 : Int32)) r106 r107 (bnd_mono (bnd_lit (4 : Int32)) (by decide +kernel) (by decide +kernel)) (bnd_and i0 (255 : Int32) (by decide)) br104 br105 (bnd_and i1 (255 : Int32) (by decide)) br106 br107).1 c168 (by decide +kernel)), (f_rm27_1_bnd (4 : Int32) r137 (i0 &&& (255 : Int32)) r104 r105 (i1 &&& (255 : Int32)) r106 r107 (bnd_mono (bnd_lit (4 : Int32)) (by decide +kernel) (by decide +kernel)) (bnd_and i0 (255 : Int32) (by decide)) br104 br105 (bnd_and i1 (255 : Int32) (by decide)) br106 br107).2⟩
          refine Home.run X167 hx hby sg0_199_5 (pc' := 207) (L' := #[.val (.int i0), .val (.int i1), .val (.int (1 : Int32)), .val (.int v2), .val (.ref b93), .val (.ref b97), .val (.ref b1_14_136)]) (S' := [(.ref b97), (.ref b93), (.int (1 : Int32)), (.int (5 : Int32)), (.ref b1_14_136)]) rfl ?_
          refine Home.st (own_pure (own_static X167 hx hZ hown (own_w153 hw) (own_w154 hw) (own_w6 hw) (own_w155 hw) (by decide) (rm27_1 l Z a0 hw [] b1_14_136 (5 : Int32) b93 b97 b2_2_8_1_2_14_136 k2_2_8_1_2_14_136 r137 sv_COMPACT_STRINGS sv_SIOOBE_FORMATTER k93 (i0 &&& (255 : Int32)) r104 r105 k97 (i1 &&& (255 : Int32)) r106 r107 T136.heap n0 O136 (bnd_mono (bnd_lit (5 : Int32)) (by decide +kernel) (by decide +kernel)) P136_0 P136_1 P136_3 S_COMPACT_STRINGS P136_2 hCS (Nat.le_trans (show 3 ≤ r137.length ∧ r137.length ≤ 6 by rw [hr137]; exact (own_len_app (own_len_app (own_len_app (own_len_lit (l := []) (n := 0) rfl) (own_len_lit (l := [((i0 &&& (255 : Int32)).toInt8.toInt32)]) (n := 1) rfl)) (own_len_lit (l := [(58 : Int32), (32 : Int32)]) (n := 2) rfl)) (own_len_le (cs_rm1_1_short v2 (i1 &&& (255 : Int32)) r106 r107)))).2 (by decide)) S_SIOOBE_FORMATTER isr_sv_SIOOBE_FORMATTER q145 q149 (bnd_and i0 (255 : Int32) (by decide)) br104 br105 (bnd_and i1 (255 : Int32) (by decide)) br106 br107) e167 rfl (by rw [hml]; rfl) (argsL := [(.ref b1_14_136), (.int (5 : Int32)), (.int (1 : Int32)), (.ref b93), (.ref b97)]) (rest := []) (lenOf own_pd32 rfl) rfl rfl (W := 0) (by exact hW0) (by decide) (by decide) (hb hby at_207) (by decide) (by decide))) fun T171 X171 e171 => ?_
          by_cases c172 : (f_rm27_1 (5 : Int32) r137 (i0 &&& (255 : Int32)) r104 r105 (i1 &&& (255 : Int32)) r106 r107) = (0 : Int32)
          ·
           refine Home.go (fun _ => XS.ifYes X171.here hx rfl (pc0 := 210) (pc' := 247) rfl (hb hby at_210) rfl ((if0 _ _).trans (teq c172).1) (by decide) (by decide)) ?_
           have bd173 : ¬ (f_rm27_1 (5 : Int32) r137 (i0 &&& (255 : Int32)) r104 r105 (i1 &&& (255 : Int32)) r106 r107) < (0 : Int32) ∧ ¬ (0 : Int32) < (f_rm27_1 (5 : Int32) r137 (i0 &&& (255 : Int32)) r104 r105 (i1 &&& (255 : Int32)) r106 r107) := ⟨(bnd_eql c172), (bnd_eqr c172)⟩
           refine Home.run X171 hx hby sg0_247_1 (pc' := 248) (L' := #[.val (.int i0), .val (.int i1), .val (.int (1 : Int32)), .val (.int v2), .val (.ref b93), .val (.ref b97), .val (.ref b1_14_136)]) (S' := [(.int (0 : Int32))]) rfl ?_
           exact J183 X171 N136 e171 _ (by simp only [if_neg c152, if_neg c156, if_neg c160, if_neg c164, if_neg c168, if_pos c172])
          ·
           refine Home.go (fun _ => XS.ifNo X171.here hx rfl (hb hby at_210) rfl ((if0 _ _).trans (feq c172).1)) ?_
           have bd174 : ¬ (f_rm27_1 (5 : Int32) r137 (i0 &&& (255 : Int32)) r104 r105 (i1 &&& (255 : Int32)) r106 r107) < (1 : Int32) ∧ ¬ (1 : Int32) < (f_rm27_1 (5 : Int32) r137 (i0 &&& (255 : Int32)) r104 r105 (i1 &&& (255 : Int32)) r106 r107) := ⟨(bnd_nel (f_rm27_1_bnd (5 : Int32) r137 (i0 &&& (255 : Int32)) r104 r105 (i1 &&& (255 : Int32)) r106 r107 (bnd_mono (bnd_lit (5 : Int32)) (by decide +kernel) (by decide +kernel)) (bnd_and i0 (255 : Int32) (by decide)) br104 br105 (bnd_and i1 (255 : Int32) (by decide)) br106 br107).1 c172 (by decide +kernel)), (f_rm27_1_bnd (5 : Int32) r137 (i0 &&& (255 : Int32)) r104 r105 (i1 &&& (255 : Int32)) r106 r107 (bnd_mono (bnd_lit (5 : Int32)) (by decide +kernel) (by decide +kernel)) (bnd_and i0 (255 : Int32) (by decide)) br104 br105 (bnd_and i1 (255 : Int32) (by decide)) br106 br107).2⟩
           refine Home.run X171 hx hby sg0_213_5 (pc' := 222) (L' := #[.val (.int i0), .val (.int i1), .val (.int (1 : Int32)), .val (.int v2), .val (.ref b93), .val (.ref b97), .val (.ref b1_14_136)]) (S' := [(.ref b97), (.ref b93), (.int (1 : Int32)), (.int (6 : Int32)), (.ref b1_14_136)]) rfl ?_
           refine Home.st (own_pure (own_static X171 hx hZ hown (own_w153 hw) (own_w154 hw) (own_w6 hw) (own_w155 hw) (by decide) (rm27_1 l Z a0 hw [] b1_14_136 (6 : Int32) b93 b97 b2_2_8_1_2_14_136 k2_2_8_1_2_14_136 r137 sv_COMPACT_STRINGS sv_SIOOBE_FORMATTER k93 (i0 &&& (255 : Int32)) r104 r105 k97 (i1 &&& (255 : Int32)) r106 r107 T136.heap n0 O136 (bnd_mono (bnd_lit (6 : Int32)) (by decide +kernel) (by decide +kernel)) P136_0 P136_1 P136_3 S_COMPACT_STRINGS P136_2 hCS (Nat.le_trans (show 3 ≤ r137.length ∧ r137.length ≤ 6 by rw [hr137]; exact (own_len_app (own_len_app (own_len_app (own_len_lit (l := []) (n := 0) rfl) (own_len_lit (l := [((i0 &&& (255 : Int32)).toInt8.toInt32)]) (n := 1) rfl)) (own_len_lit (l := [(58 : Int32), (32 : Int32)]) (n := 2) rfl)) (own_len_le (cs_rm1_1_short v2 (i1 &&& (255 : Int32)) r106 r107)))).2 (by decide)) S_SIOOBE_FORMATTER isr_sv_SIOOBE_FORMATTER q145 q149 (bnd_and i0 (255 : Int32) (by decide)) br104 br105 (bnd_and i1 (255 : Int32) (by decide)) br106 br107) e171 rfl (by rw [hml]; rfl) (argsL := [(.ref b1_14_136), (.int (6 : Int32)), (.int (1 : Int32)), (.ref b93), (.ref b97)]) (rest := []) (lenOf own_pd32 rfl) rfl rfl (W := 0) (by exact hW0) (by decide) (by decide) (hb hby at_222) (by decide) (by decide))) fun T175 X175 e175 => ?_
           by_cases c176 : (f_rm27_1 (6 : Int32) r137 (i0 &&& (255 : Int32)) r104 r105 (i1 &&& (255 : Int32)) r106 r107) = (0 : Int32)
           ·
            refine Home.go (fun _ => XS.ifYes X175.here hx rfl (pc0 := 225) (pc' := 247) rfl (hb hby at_225) rfl ((if0 _ _).trans (teq c176).1) (by decide) (by decide)) ?_
            have bd177 : ¬ (f_rm27_1 (6 : Int32) r137 (i0 &&& (255 : Int32)) r104 r105 (i1 &&& (255 : Int32)) r106 r107) < (0 : Int32) ∧ ¬ (0 : Int32) < (f_rm27_1 (6 : Int32) r137 (i0 &&& (255 : Int32)) r104 r105 (i1 &&& (255 : Int32)) r106 r107) := ⟨(bnd_eql c176), (bnd_eqr c176)⟩
            refine Home.run X175 hx hby sg0_247_1 (pc' := 248) (L' := #[.val (.int i0), .val (.int i1), .val (.int (1 : Int32)), .val (.int v2), .val (.ref b93), .val (.ref b97), .val (.ref b1_14_136)]) (S' := [(.int (0 : Int32))]) rfl ?_
            exact J183 X175 N136 e175 _ (by simp only [if_neg c152, if_neg c156, if_neg c160, if_neg c164, if_neg c168, if_neg c172, if_pos c176])
           ·
            refine Home.go (fun _ => XS.ifNo X175.here hx rfl (hb hby at_225) rfl ((if0 _ _).trans (feq c176).1)) ?_
            have bd178 : ¬ (f_rm27_1 (6 : Int32) r137 (i0 &&& (255 : Int32)) r104 r105 (i1 &&& (255 : Int32)) r106 r107) < (1 : Int32) ∧ ¬ (1 : Int32) < (f_rm27_1 (6 : Int32) r137 (i0 &&& (255 : Int32)) r104 r105 (i1 &&& (255 : Int32)) r106 r107) := ⟨(bnd_nel (f_rm27_1_bnd (6 : Int32) r137 (i0 &&& (255 : Int32)) r104 r105 (i1 &&& (255 : Int32)) r106 r107 (bnd_mono (bnd_lit (6 : Int32)) (by decide +kernel) (by decide +kernel)) (bnd_and i0 (255 : Int32) (by decide)) br104 br105 (bnd_and i1 (255 : Int32) (by decide)) br106 br107).1 c176 (by decide +kernel)), (f_rm27_1_bnd (6 : Int32) r137 (i0 &&& (255 : Int32)) r104 r105 (i1 &&& (255 : Int32)) r106 r107 (bnd_mono (bnd_lit (6 : Int32)) (by decide +kernel) (by decide +kernel)) (bnd_and i0 (255 : Int32) (by decide)) br104 br105 (bnd_and i1 (255 : Int32) (by decide)) br106 br107).2⟩
            refine Home.run X175 hx hby sg0_228_5 (pc' := 237) (L' := #[.val (.int i0), .val (.int i1), .val (.int (1 : Int32)), .val (.int v2), .val (.ref b93), .val (.ref b97), .val (.ref b1_14_136)]) (S' := [(.ref b97), (.ref b93), (.int (1 : Int32)), (.int (7 : Int32)), (.ref b1_14_136)]) rfl ?_
            refine Home.st (own_pure (own_static X175 hx hZ hown (own_w153 hw) (own_w154 hw) (own_w6 hw) (own_w155 hw) (by decide) (rm27_1 l Z a0 hw [] b1_14_136 (7 : Int32) b93 b97 b2_2_8_1_2_14_136 k2_2_8_1_2_14_136 r137 sv_COMPACT_STRINGS sv_SIOOBE_FORMATTER k93 (i0 &&& (255 : Int32)) r104 r105 k97 (i1 &&& (255 : Int32)) r106 r107 T136.heap n0 O136 (bnd_mono (bnd_lit (7 : Int32)) (by decide +kernel) (by decide +kernel)) P136_0 P136_1 P136_3 S_COMPACT_STRINGS P136_2 hCS (Nat.le_trans (show 3 ≤ r137.length ∧ r137.length ≤ 6 by rw [hr137]; exact (own_len_app (own_len_app (own_len_app (own_len_lit (l := []) (n := 0) rfl) (own_len_lit (l := [((i0 &&& (255 : Int32)).toInt8.toInt32)]) (n := 1) rfl)) (own_len_lit (l := [(58 : Int32), (32 : Int32)]) (n := 2) rfl)) (own_len_le (cs_rm1_1_short v2 (i1 &&& (255 : Int32)) r106 r107)))).2 (by decide)) S_SIOOBE_FORMATTER isr_sv_SIOOBE_FORMATTER q145 q149 (bnd_and i0 (255 : Int32) (by decide)) br104 br105 (bnd_and i1 (255 : Int32) (by decide)) br106 br107) e175 rfl (by rw [hml]; rfl) (argsL := [(.ref b1_14_136), (.int (7 : Int32)), (.int (1 : Int32)), (.ref b93), (.ref b97)]) (rest := []) (lenOf own_pd32 rfl) rfl rfl (W := 0) (by exact hW0) (by decide) (by decide) (hb hby at_237) (by decide) (by decide))) fun T179 X179 e179 => ?_
            by_cases c180 : (f_rm27_1 (7 : Int32) r137 (i0 &&& (255 : Int32)) r104 r105 (i1 &&& (255 : Int32)) r106 r107) = (0 : Int32)
            ·
             refine Home.go (fun _ => XS.ifYes X179.here hx rfl (pc0 := 240) (pc' := 247) rfl (hb hby at_240) rfl ((if0 _ _).trans (teq c180).1) (by decide) (by decide)) ?_
             have bd181 : ¬ (f_rm27_1 (7 : Int32) r137 (i0 &&& (255 : Int32)) r104 r105 (i1 &&& (255 : Int32)) r106 r107) < (0 : Int32) ∧ ¬ (0 : Int32) < (f_rm27_1 (7 : Int32) r137 (i0 &&& (255 : Int32)) r104 r105 (i1 &&& (255 : Int32)) r106 r107) := ⟨(bnd_eql c180), (bnd_eqr c180)⟩
             refine Home.run X179 hx hby sg0_247_1 (pc' := 248) (L' := #[.val (.int i0), .val (.int i1), .val (.int (1 : Int32)), .val (.int v2), .val (.ref b93), .val (.ref b97), .val (.ref b1_14_136)]) (S' := [(.int (0 : Int32))]) rfl ?_
             exact J183 X179 N136 e179 _ (by simp only [if_neg c152, if_neg c156, if_neg c160, if_neg c164, if_neg c168, if_neg c172, if_neg c176, if_pos c180])
            ·
             refine Home.go (fun _ => XS.ifNo X179.here hx rfl (hb hby at_240) rfl ((if0 _ _).trans (feq c180).1)) ?_
             have bd182 : ¬ (f_rm27_1 (7 : Int32) r137 (i0 &&& (255 : Int32)) r104 r105 (i1 &&& (255 : Int32)) r106 r107) < (1 : Int32) ∧ ¬ (1 : Int32) < (f_rm27_1 (7 : Int32) r137 (i0 &&& (255 : Int32)) r104 r105 (i1 &&& (255 : Int32)) r106 r107) := ⟨(bnd_nel (f_rm27_1_bnd (7 : Int32) r137 (i0 &&& (255 : Int32)) r104 r105 (i1 &&& (255 : Int32)) r106 r107 (bnd_mono (bnd_lit (7 : Int32)) (by decide +kernel) (by decide +kernel)) (bnd_and i0 (255 : Int32) (by decide)) br104 br105 (bnd_and i1 (255 : Int32) (by decide)) br106 br107).1 c180 (by decide +kernel)), (f_rm27_1_bnd (7 : Int32) r137 (i0 &&& (255 : Int32)) r104 r105 (i1 &&& (255 : Int32)) r106 r107 (bnd_mono (bnd_lit (7 : Int32)) (by decide +kernel) (by decide +kernel)) (bnd_and i0 (255 : Int32) (by decide)) br104 br105 (bnd_and i1 (255 : Int32) (by decide)) br106 br107).2⟩
             refine Home.run X179 hx hby sg0_243_2 (pc' := 248) (L' := #[.val (.int i0), .val (.int i1), .val (.int (1 : Int32)), .val (.int v2), .val (.ref b93), .val (.ref b97), .val (.ref b1_14_136)]) (S' := [(.int (1 : Int32))]) rfl ?_
             exact J183 X179 N136 e179 _ (by simp only [if_neg c152, if_neg c156, if_neg c160, if_neg c164, if_neg c168, if_neg c172, if_neg c176, if_neg c180])
    intro TJ183 lcJ183 XJ183 NJ183 eJ183 v184 hv184
    have bv184 : ¬ v184 < (0 : Int32) ∧ ¬ (1 : Int32) < v184 := by rw [hv184]; exact (bnd_ite (bnd_mono (bnd_lit (0 : Int32)) (by decide +kernel) (by decide +kernel)) (bnd_ite (bnd_mono (bnd_lit (0 : Int32)) (by decide +kernel) (by decide +kernel)) (bnd_ite (bnd_mono (bnd_lit (0 : Int32)) (by decide +kernel) (by decide +kernel)) (bnd_ite (bnd_mono (bnd_lit (0 : Int32)) (by decide +kernel) (by decide +kernel)) (bnd_ite (bnd_mono (bnd_lit (0 : Int32)) (by decide +kernel) (by decide +kernel)) (bnd_ite (bnd_mono (bnd_lit (0 : Int32)) (by decide +kernel) (by decide +kernel)) (bnd_ite (bnd_mono (bnd_lit (0 : Int32)) (by decide +kernel) (by decide +kernel)) (bnd_ite (bnd_mono (bnd_lit (0 : Int32)) (by decide +kernel) (by decide +kernel)) (bnd_mono (bnd_lit (1 : Int32)) (by decide +kernel) (by decide +kernel))))))))))
    show Home TJ183 (mkF m 248 #[.val (.int i0), .val (.int i1), .val (.int (1 : Int32)), .val (.int v2), .val (.ref b93), .val (.ref b97), .val (.ref b1_14_136)] [(.int v184)])
    exact HomeW.retN XJ183 hx hlk hZ (own_hEL hw) eJ183 Ce136 (t := .boolean) hret (by simp) (hb hby at_248) ⟨congrArg some (congrArg Value.int (own_end2 i0 i1 sv_COMPACT_STRINGS v1 hv1 v2 hv2 r104 hr104 r105 hr105 r106 hr106 r107 hr107 r137 hr137 r151 hr151 v184 hv184 c3 c89 c139)), NJ183⟩ (by decide) (by decide)
   ·
    refine Home.go (fun _ => XS.icmpNo X138.here hx rfl (hb hby at_124) rfl (feq c139).1) ?_
    refine Home.run X138 hx hby sg0_127_1 (pc' := 128) (L' := #[.val (.int i0), .val (.int i1), .val (.int (1 : Int32)), .val (.int v2), .val (.ref b93), .val (.ref b97), .val (.ref b1_14_136)]) (S' := [(.int (0 : Int32))]) rfl ?_
    exact HomeW.retN X138 hx hlk hZ (own_hEL hw) e138 Ce136 (t := .boolean) hret (by simp) (hb hby at_128) ⟨congrArg some (congrArg Value.int (own_end3 i0 i1 sv_COMPACT_STRINGS v1 hv1 v2 hv2 r104 hr104 r105 hr105 r106 hr106 r107 hr107 r137 hr137 c3 c89 c139)), N136⟩ (by decide) (by decide)
  ·
   have bd92 : ¬ v1 < (2 : Int32) ∧ ¬ (3 : Int32) < v1 := ⟨(bnd_nel bd6.1 c89 (by decide +kernel)), bd6.2⟩
   by_cases c185 : v1 = (2 : Int32)
   ·
    have bd186 : ¬ v1 < (2 : Int32) ∧ ¬ (2 : Int32) < v1 := ⟨(bnd_eql c185), (bnd_eqr c185)⟩
    have fx187 : v1 = (2 : Int32) := bnd_fix bd186
    try rw [fx187]
    show Home s₁ (mkF m 14 #[.val (.int i0), .val (.int i1), .val (.int (2 : Int32)), .val (.int v2), .unset, .unset, .unset] [])
    refine Home.run X0 hx hby sg0_14_1 (pc' := 15) (L' := #[.val (.int i0), .val (.int i1), .val (.int (2 : Int32)), .val (.int v2), .unset, .unset, .unset]) (S' := [(.int (3 : Int32))]) rfl ?_
    refine Home.na (own_newP (aty := .char) X0 hx hZ (own_w0 hw) e0 (g := (mkF m 15 #[.val (.int i0), .val (.int i1), .val (.int (2 : Int32)), .val (.int v2), .unset, .unset, .unset] [(.int (3 : Int32))])) rfl (hb hby at_15) rfl (by decide) (cap := 3) (by decide) (by decide) (by decide) (by decide)) fun T190 h190 k190 b190 g190 X190 e190 E190 A190 => ?_
    have g_b190 : n0 ≤ b190 := Nat.le_trans (Old.le O0) (Nat.le_of_eq g190.symm)
    have V190 : Arv Z h190 b190 k190 .char (3 : Int32) [(.int (0 : Int32)), (.int (0 : Int32)), (.int (0 : Int32))] (.int (0 : Int32)) := (Arv.new A190 (by decide)).pad (pad_rep [] (.int (0 : Int32)) 3)
    have O190 := O0.ext E190
    have K190 : Keep h0 h190 ([] : List Addr) := Keep.ext (Keep.refl h0 ([] : List Addr)) E190
    have Cd190 := Cold.ext Cd0 E190
    refine Home.run X190 hx hby sg0_17_6 (pc' := 25) (L' := #[.val (.int i0), .val (.int i1), .val (.int (2 : Int32)), .val (.int v2), .unset, .unset, .unset]) (S' := [(.int ((i0 &&& (255 : Int32)).toUInt32.toUInt16.toUInt32.toInt32)), (.int (0 : Int32)), (.ref b190), (.ref b190)]) rfl ?_
    rw [i2c_id (bnd_and i0 (255 : Int32) (by decide)) (by decide +kernel) (by decide +kernel)]
    obtain ⟨cl191, Ar191, q191, S191, M191, H191, G191⟩ := id V190
    refine Home.wr (stC X190 hx hZ e190 Ar191 (j := (0 : Int32)) (inb_of S191 ⟨by decide, by decide⟩) rfl rfl (hb hby at_25)) fun T191 h191 X191 e191 W191 => ?_
    have W191' := Wr.to W191 (congrArg Value.int (nar_char_id (bnd_and i0 (255 : Int32) (by decide)) (by decide +kernel) (by decide +kernel)))
    have V191 : Arv Z h191 b190 k190 .char (3 : Int32) [(.int (i0 &&& (255 : Int32))), (.int (0 : Int32)), (.int (0 : Int32))] (.int (0 : Int32)) := Arv.set Ar191 q191 S191 M191 H191 G191 (fits_char_b (bnd_and i0 (255 : Int32) (by decide)) (by decide +kernel) (by decide +kernel)) W191' 0 rfl (Nat.le_of_ble_eq_true rfl)
    have O191 := O190.wr W191 g_b190
    have K191 : Keep h0 h191 ([] : List Addr) := Keep.wr K190 W191 (Or.inr (Nat.le_trans (Nat.le_refl _) (Nat.le_of_eq g190.symm)))
    have Cd191 := Cold.wr Cd190 W191 (Safe.arv hZ.alike V190 (by simp))
    have N191 := Fr.snoc X191 N0 g_b190
    show Home T191 (mkF m 26 #[.val (.int i0), .val (.int i1), .val (.int (2 : Int32)), .val (.int v2), .unset, .unset, .unset] [(.ref b190)])
    refine Home.run X191 hx hby sg0_26_8 (pc' := 37) (L' := #[.val (.int i0), .val (.int i1), .val (.int (2 : Int32)), .val (.int v2), .unset, .unset, .unset]) (S' := [(.int ((((i0.toUInt32 >>> ((8 : Int32) &&& 31).toUInt32).toInt32) &&& (255 : Int32)).toUInt32.toUInt16.toUInt32.toInt32)), (.int (1 : Int32)), (.ref b190), (.ref b190)]) rfl ?_
    rw [i2c_id (bnd_and ((i0.toUInt32 >>> ((8 : Int32) &&& 31).toUInt32).toInt32) (255 : Int32) (by decide)) (by decide +kernel) (by decide +kernel)]
    obtain ⟨cl192, Ar192, q192, S192, M192, H192, G192⟩ := id V191
    refine Home.wr (stC X191 hx hZ e191 Ar192 (j := (1 : Int32)) (inb_of S192 ⟨by decide, by decide⟩) rfl rfl (hb hby at_37)) fun T192 h192 X192 e192 W192 => ?_
    have W192' := Wr.to W192 (congrArg Value.int (nar_char_id (bnd_and ((i0.toUInt32 >>> ((8 : Int32) &&& 31).toUInt32).toInt32) (255 : Int32) (by decide)) (by decide +kernel) (by decide +kernel)))
    have V192 : Arv Z h192 b190 k190 .char (3 : Int32) [(.int (i0 &&& (255 : Int32))), (.int (((i0.toUInt32 >>> ((8 : Int32) &&& 31).toUInt32).toInt32) &&& (255 : Int32))), (.int (0 : Int32))] (.int (0 : Int32)) := Arv.set Ar192 q192 S192 M192 H192 G192 (fits_char_b (bnd_and ((i0.toUInt32 >>> ((8 : Int32) &&& 31).toUInt32).toInt32) (255 : Int32) (by decide)) (by decide +kernel) (by decide +kernel)) W192' 1 rfl (Nat.le_of_ble_eq_true rfl)
    have O192 := O191.wr W192 g_b190
    have K192 : Keep h0 h192 ([] : List Addr) := Keep.wr K191 W192 (Or.inr (Nat.le_trans (Nat.le_refl _) (Nat.le_of_eq g190.symm)))
    have Cd192 := Cold.wr Cd191 W192 (Safe.arv hZ.alike V191 (by simp))
    have N192 := Fr.snoc X192 N191 g_b190
    show Home T192 (mkF m 38 #[.val (.int i0), .val (.int i1), .val (.int (2 : Int32)), .val (.int v2), .unset, .unset, .unset] [(.ref b190)])
    refine Home.run X192 hx hby sg0_38_8 (pc' := 49) (L' := #[.val (.int i0), .val (.int i1), .val (.int (2 : Int32)), .val (.int v2), .unset, .unset, .unset]) (S' := [(.int ((((i0.toUInt32 >>> ((16 : Int32) &&& 31).toUInt32).toInt32) &&& (255 : Int32)).toUInt32.toUInt16.toUInt32.toInt32)), (.int (2 : Int32)), (.ref b190), (.ref b190)]) rfl ?_
    rw [i2c_id (bnd_and ((i0.toUInt32 >>> ((16 : Int32) &&& 31).toUInt32).toInt32) (255 : Int32) (by decide)) (by decide +kernel) (by decide +kernel)]
    obtain ⟨cl193, Ar193, q193, S193, M193, H193, G193⟩ := id V192
    refine Home.wr (stC X192 hx hZ e192 Ar193 (j := (2 : Int32)) (inb_of S193 ⟨by decide, by decide⟩) rfl rfl (hb hby at_49)) fun T193 h193 X193 e193 W193 => ?_
    have W193' := Wr.to W193 (congrArg Value.int (nar_char_id (bnd_and ((i0.toUInt32 >>> ((16 : Int32) &&& 31).toUInt32).toInt32) (255 : Int32) (by decide)) (by decide +kernel) (by decide +kernel)))
    have V193 : Arv Z h193 b190 k190 .char (3 : Int32) [(.int (i0 &&& (255 : Int32))), (.int (((i0.toUInt32 >>> ((8 : Int32) &&& 31).toUInt32).toInt32) &&& (255 : Int32))), (.int (((i0.toUInt32 >>> ((16 : Int32) &&& 31).toUInt32).toInt32) &&& (255 : Int32)))] (.int (0 : Int32)) := Arv.set Ar193 q193 S193 M193 H193 G193 (fits_char_b (bnd_and ((i0.toUInt32 >>> ((16 : Int32) &&& 31).toUInt32).toInt32) (255 : Int32) (by decide)) (by decide +kernel) (by decide +kernel)) W193' 2 rfl (Nat.le_of_ble_eq_true rfl)
    have O193 := O192.wr W193 g_b190
    have K193 : Keep h0 h193 ([] : List Addr) := Keep.wr K192 W193 (Or.inr (Nat.le_trans (Nat.le_refl _) (Nat.le_of_eq g190.symm)))
    have Cd193 := Cold.wr Cd192 W193 (Safe.arv hZ.alike V192 (by simp))
    have N193 := Fr.snoc X193 N192 g_b190
    show Home T193 (mkF m 50 #[.val (.int i0), .val (.int i1), .val (.int (2 : Int32)), .val (.int v2), .unset, .unset, .unset] [(.ref b190)])
    refine Home.run X193 hx hby sg0_50_2 (pc' := 53) (L' := #[.val (.int i0), .val (.int i1), .val (.int (2 : Int32)), .val (.int v2), .val (.ref b190), .unset, .unset]) (S' := [(.int (3 : Int32))]) rfl ?_
    refine Home.na (own_newP (aty := .char) X193 hx hZ (own_w0 hw) e193 (g := (mkF m 53 #[.val (.int i0), .val (.int i1), .val (.int (2 : Int32)), .val (.int v2), .val (.ref b190), .unset, .unset] [(.int (3 : Int32))])) rfl (hb hby at_53) rfl (by decide) (cap := 3) (by decide) (by decide) (by decide) (by decide)) fun T194 h194 k194 b194 g194 X194 e194 E194 A194 => ?_
    have g_b194 : n0 ≤ b194 := Nat.le_trans (Old.le O193) (Nat.le_of_eq g194.symm)
    have V194 : Arv Z h194 b194 k194 .char (3 : Int32) [(.int (0 : Int32)), (.int (0 : Int32)), (.int (0 : Int32))] (.int (0 : Int32)) := (Arv.new A194 (by decide)).pad (pad_rep [] (.int (0 : Int32)) 3)
    have O194 := O193.ext E194
    have K194 : Keep h0 h194 ([] : List Addr) := Keep.ext K193 E194
    have Cd194 := Cold.ext Cd193 E194
    refine Home.run X194 hx hby sg0_55_6 (pc' := 63) (L' := #[.val (.int i0), .val (.int i1), .val (.int (2 : Int32)), .val (.int v2), .val (.ref b190), .unset, .unset]) (S' := [(.int ((i1 &&& (255 : Int32)).toUInt32.toUInt16.toUInt32.toInt32)), (.int (0 : Int32)), (.ref b194), (.ref b194)]) rfl ?_
    rw [i2c_id (bnd_and i1 (255 : Int32) (by decide)) (by decide +kernel) (by decide +kernel)]
    obtain ⟨cl195, Ar195, q195, S195, M195, H195, G195⟩ := id V194
    refine Home.wr (stC X194 hx hZ e194 Ar195 (j := (0 : Int32)) (inb_of S195 ⟨by decide, by decide⟩) rfl rfl (hb hby at_63)) fun T195 h195 X195 e195 W195 => ?_
    have W195' := Wr.to W195 (congrArg Value.int (nar_char_id (bnd_and i1 (255 : Int32) (by decide)) (by decide +kernel) (by decide +kernel)))
    have V195 : Arv Z h195 b194 k194 .char (3 : Int32) [(.int (i1 &&& (255 : Int32))), (.int (0 : Int32)), (.int (0 : Int32))] (.int (0 : Int32)) := Arv.set Ar195 q195 S195 M195 H195 G195 (fits_char_b (bnd_and i1 (255 : Int32) (by decide)) (by decide +kernel) (by decide +kernel)) W195' 0 rfl (Nat.le_of_ble_eq_true rfl)
    have O195 := O194.wr W195 g_b194
    have le196 : h0.size ≤ h191.size := Nat.le_trans E190.1 (Nat.le_of_eq W191.size.symm)
    have le197 : h0.size ≤ h192.size := Nat.le_trans le196 (Nat.le_of_eq W192.size.symm)
    have le198 : h0.size ≤ h193.size := Nat.le_trans le197 (Nat.le_of_eq W193.size.symm)
    have K195 : Keep h0 h195 ([] : List Addr) := Keep.wr K194 W195 (Or.inr (Nat.le_trans le198 (Nat.le_of_eq g194.symm)))
    have Cd195 := Cold.wr Cd194 W195 (Safe.arv hZ.alike V194 (by simp))
    have N195 := Fr.snoc X195 N193 g_b194
    show Home T195 (mkF m 64 #[.val (.int i0), .val (.int i1), .val (.int (2 : Int32)), .val (.int v2), .val (.ref b190), .unset, .unset] [(.ref b194)])
    refine Home.run X195 hx hby sg0_64_8 (pc' := 75) (L' := #[.val (.int i0), .val (.int i1), .val (.int (2 : Int32)), .val (.int v2), .val (.ref b190), .unset, .unset]) (S' := [(.int ((((i1.toUInt32 >>> ((8 : Int32) &&& 31).toUInt32).toInt32) &&& (255 : Int32)).toUInt32.toUInt16.toUInt32.toInt32)), (.int (1 : Int32)), (.ref b194), (.ref b194)]) rfl ?_
    rw [i2c_id (bnd_and ((i1.toUInt32 >>> ((8 : Int32) &&& 31).toUInt32).toInt32) (255 : Int32) (by decide)) (by decide +kernel) (by decide +kernel)]
    obtain ⟨cl199, Ar199, q199, S199, M199, H199, G199⟩ := id V195
    refine Home.wr (stC X195 hx hZ e195 Ar199 (j := (1 : Int32)) (inb_of S199 ⟨by decide, by decide⟩) rfl rfl (hb hby at_75)) fun T199 h199 X199 e199 W199 => ?_
    have W199' := Wr.to W199 (congrArg Value.int (nar_char_id (bnd_and ((i1.toUInt32 >>> ((8 : Int32) &&& 31).toUInt32).toInt32) (255 : Int32) (by decide)) (by decide +kernel) (by decide +kernel)))
    have V199 : Arv Z h199 b194 k194 .char (3 : Int32) [(.int (i1 &&& (255 : Int32))), (.int (((i1.toUInt32 >>> ((8 : Int32) &&& 31).toUInt32).toInt32) &&& (255 : Int32))), (.int (0 : Int32))] (.int (0 : Int32)) := Arv.set Ar199 q199 S199 M199 H199 G199 (fits_char_b (bnd_and ((i1.toUInt32 >>> ((8 : Int32) &&& 31).toUInt32).toInt32) (255 : Int32) (by decide)) (by decide +kernel) (by decide +kernel)) W199' 1 rfl (Nat.le_of_ble_eq_true rfl)
    have O199 := O195.wr W199 g_b194
    have K199 : Keep h0 h199 ([] : List Addr) := Keep.wr K195 W199 (Or.inr (Nat.le_trans le198 (Nat.le_of_eq g194.symm)))
    have Cd199 := Cold.wr Cd195 W199 (Safe.arv hZ.alike V195 (by simp))
    have N199 := Fr.snoc X199 N195 g_b194
    show Home T199 (mkF m 76 #[.val (.int i0), .val (.int i1), .val (.int (2 : Int32)), .val (.int v2), .val (.ref b190), .unset, .unset] [(.ref b194)])
    refine Home.run X199 hx hby sg0_76_8 (pc' := 87) (L' := #[.val (.int i0), .val (.int i1), .val (.int (2 : Int32)), .val (.int v2), .val (.ref b190), .unset, .unset]) (S' := [(.int ((((i1.toUInt32 >>> ((16 : Int32) &&& 31).toUInt32).toInt32) &&& (255 : Int32)).toUInt32.toUInt16.toUInt32.toInt32)), (.int (2 : Int32)), (.ref b194), (.ref b194)]) rfl ?_
    rw [i2c_id (bnd_and ((i1.toUInt32 >>> ((16 : Int32) &&& 31).toUInt32).toInt32) (255 : Int32) (by decide)) (by decide +kernel) (by decide +kernel)]
    obtain ⟨cl200, Ar200, q200, S200, M200, H200, G200⟩ := id V199
    refine Home.wr (stC X199 hx hZ e199 Ar200 (j := (2 : Int32)) (inb_of S200 ⟨by decide, by decide⟩) rfl rfl (hb hby at_87)) fun T200 h200 X200 e200 W200 => ?_
    have W200' := Wr.to W200 (congrArg Value.int (nar_char_id (bnd_and ((i1.toUInt32 >>> ((16 : Int32) &&& 31).toUInt32).toInt32) (255 : Int32) (by decide)) (by decide +kernel) (by decide +kernel)))
    have V200 : Arv Z h200 b194 k194 .char (3 : Int32) [(.int (i1 &&& (255 : Int32))), (.int (((i1.toUInt32 >>> ((8 : Int32) &&& 31).toUInt32).toInt32) &&& (255 : Int32))), (.int (((i1.toUInt32 >>> ((16 : Int32) &&& 31).toUInt32).toInt32) &&& (255 : Int32)))] (.int (0 : Int32)) := Arv.set Ar200 q200 S200 M200 H200 G200 (fits_char_b (bnd_and ((i1.toUInt32 >>> ((16 : Int32) &&& 31).toUInt32).toInt32) (255 : Int32) (by decide)) (by decide +kernel) (by decide +kernel)) W200' 2 rfl (Nat.le_of_ble_eq_true rfl)
    have O200 := O199.wr W200 g_b194
    have K200 : Keep h0 h200 ([] : List Addr) := Keep.wr K199 W200 (Or.inr (Nat.le_trans le198 (Nat.le_of_eq g194.symm)))
    have Cd200 := Cold.wr Cd199 W200 (Safe.arv hZ.alike V199 (by simp))
    have N200 := Fr.snoc X200 N199 g_b194
    show Home T200 (mkF m 88 #[.val (.int i0), .val (.int i1), .val (.int (2 : Int32)), .val (.int v2), .val (.ref b190), .unset, .unset] [(.ref b194)])
    refine Home.run X200 hx hby sg0_88_1 (pc' := 90) (L' := #[.val (.int i0), .val (.int i1), .val (.int (2 : Int32)), .val (.int v2), .val (.ref b190), .val (.ref b194), .unset]) (S' := []) rfl ?_
    obtain ⟨r201, hr201⟩ : ∃ z, z = (((i0.toUInt32 >>> ((8 : Int32) &&& 31).toUInt32).toInt32) &&& (255 : Int32)) := ⟨_, rfl⟩
    rw [← hr201] at V193
    have br201 : ¬ r201 < (0 : Int32) ∧ ¬ (255 : Int32) < r201 := by rw [hr201]; exact (bnd_and ((i0.toUInt32 >>> ((8 : Int32) &&& 31).toUInt32).toInt32) (255 : Int32) (by decide))
    obtain ⟨r202, hr202⟩ : ∃ z, z = (((i0.toUInt32 >>> ((16 : Int32) &&& 31).toUInt32).toInt32) &&& (255 : Int32)) := ⟨_, rfl⟩
    rw [← hr202] at V193
    have br202 : ¬ r202 < (0 : Int32) ∧ ¬ (255 : Int32) < r202 := by rw [hr202]; exact (bnd_and ((i0.toUInt32 >>> ((16 : Int32) &&& 31).toUInt32).toInt32) (255 : Int32) (by decide))
    obtain ⟨r203, hr203⟩ : ∃ z, z = (((i1.toUInt32 >>> ((8 : Int32) &&& 31).toUInt32).toInt32) &&& (255 : Int32)) := ⟨_, rfl⟩
    rw [← hr203] at V200
    have br203 : ¬ r203 < (0 : Int32) ∧ ¬ (255 : Int32) < r203 := by rw [hr203]; exact (bnd_and ((i1.toUInt32 >>> ((8 : Int32) &&& 31).toUInt32).toInt32) (255 : Int32) (by decide))
    obtain ⟨r204, hr204⟩ : ∃ z, z = (((i1.toUInt32 >>> ((16 : Int32) &&& 31).toUInt32).toInt32) &&& (255 : Int32)) := ⟨_, rfl⟩
    rw [← hr204] at V200
    have br204 : ¬ r204 < (0 : Int32) ∧ ¬ (255 : Int32) < r204 := by rw [hr204]; exact (bnd_and ((i1.toUInt32 >>> ((16 : Int32) &&& 31).toUInt32).toInt32) (255 : Int32) (by decide))
    refine Home.nw (own_newO X200 hx hZ hown (own_w1 hw) (own_w2 hw) (own_w3 hw) e200 rfl (hb hby at_90) (by decide) (by decide)) fun T205 h205 b205 g205 X205 e205 E205 A205 D205 => ?_
    have g_b205 : n0 ≤ b205 := Nat.le_trans (Old.le O200) (Nat.le_of_eq g205.symm)
    have F_where_b205 : Fld Z h205 b205 "com/example/wary_meter/warymeter/Refusal" "where" "Ljava/lang/String;" .null := D205 (Or.inr (own_w28 hw)) (ty := (.object "java/lang/String")) (by decide)
    have F_problem_b205 : Fld Z h205 b205 "com/example/wary_meter/warymeter/Refusal" "problem" "Ljava/lang/String;" .null := D205 (Or.inr (own_w30 hw)) (ty := (.object "java/lang/String")) (by decide)
    have O205 := O200.ext E205
    have K205 : Keep h0 h205 ([] : List Addr) := Keep.ext K200 E205
    have Cd205 := Cold.ext Cd200 E205
    show Home T205 (mkF m 93 #[.val (.int i0), .val (.int i1), .val (.int (2 : Int32)), .val (.int v2), .val (.ref b190), .val (.ref b194), .unset] [(.ref b205)])
    refine Home.run X205 hx hby sg0_93_3 (pc' := 97) (L' := #[.val (.int i0), .val (.int i1), .val (.int (2 : Int32)), .val (.int v2), .val (.ref b190), .val (.ref b194), .unset]) (S' := [(.ref b190), (.int (2 : Int32)), (.ref b205), (.ref b205)]) rfl ?_
    have le206 : h190.size ≤ h192.size := Nat.le_trans (Nat.le_of_eq W191.size.symm) (Nat.le_of_eq W192.size.symm)
    have le207 : h190.size ≤ h193.size := Nat.le_trans le206 (Nat.le_of_eq W193.size.symm)
    have ne208 : b190 ≠ b194 := (Nat.ne_of_lt (Nat.lt_of_lt_of_le V190.lt (Nat.le_trans le207 (Nat.le_of_eq g194.symm))))
    have q209 := (((((V193.ext E194).other W195 ne208).other W199 ne208).other W200 ne208).ext E205)
    refine Home.call (own_static X205 hx hZ hown (own_w4 hw) (own_w5 hw) (own_w6 hw) (own_w7 hw) (by decide) (rm1_3 l Z a0 hw [] b190 k190 (i0 &&& (255 : Int32)) r201 r202 sv_COMPACT_STRINGS h205 n0 O205 q209 (bnd_and i0 (255 : Int32) (by decide)) br201 S_COMPACT_STRINGS hCS) e205 rfl (by rw [hml]; rfl) (argsL := [(.int (2 : Int32)), (.ref b190)]) (rest := [(.ref b205), (.ref b205)]) (lenOf own_pd0 rfl) rfl rfl (W := 2) (by exact hW0) (by decide) (by decide) (hb hby at_97) (by decide) (by decide)) ?_
    rintro _ T210 L210 X210 ⟨b1_210, b1_3_2_11_210, k1_3_2_11_210, rfl, N210q, sz_b1_210, sz_b1_3_2_11_210, K210q, P210_0, P210_1, P210_2, P210_3⟩
    have Cd210 := Cold.keep Cd205 K210q all0
    have Cd210b1_210 := Cold.put Cd210 ⟨Safe.keep K210q all0 Cd205.2.1.1 (Safe.new sz_b1_210), P210_0.lt⟩
    have Cd210b1_3_2_11_210 := Cold.put Cd210b1_210 ⟨Safe.keep K210q all0 Cd205.2.1.1 (Safe.new sz_b1_3_2_11_210), P210_3.lt⟩
    have g_b1_210 : n0 ≤ b1_210 := Nat.le_trans (Old.le O205) sz_b1_210
    have g_b1_3_2_11_210 : n0 ≤ b1_3_2_11_210 := Nat.le_trans (Old.le O205) sz_b1_3_2_11_210
    have O210 := Old.keep O205 K210q all0
    have K210 : Keep h0 T210.heap ([] : List Addr) := Keep.trans K205 K210q all0
    have N210 := Fr.app N200 N210q
    show Home T210 (mkF m 100 #[.val (.int i0), .val (.int i1), .val (.int (2 : Int32)), .val (.int v2), .val (.ref b190), .val (.ref b194), .unset] [(.ref b1_210), (.ref b205), (.ref b205)])
    refine Home.run X210 hx hby sg0_100_2 (pc' := 103) (L' := #[.val (.int i0), .val (.int i1), .val (.int (2 : Int32)), .val (.int v2), .val (.ref b190), .val (.ref b194), .unset]) (S' := [(.ref b194), (.int v2), (.ref b1_210), (.ref b205), (.ref b205)]) rfl ?_
    have q211 := ((V200.ext E205).keep K210q nin0)
    refine Home.call (own_staticW X210 hx hZ hown (own_hEL hw) Cd210b1_3_2_11_210 all0 (own_w4 hw) (own_w5 hw) (own_w6 hw) (own_w7 hw) (by decide) (rm1_1 l Z a0 hw [] v2 b194 k194 (i1 &&& (255 : Int32)) r203 r204 sv_COMPACT_STRINGS T210.heap n0 O210 bv2 q211 S_COMPACT_STRINGS (bnd_and i1 (255 : Int32) (by decide)) hCS br203 br204) rfl rfl (by rw [hml]; rfl) (argsL := [(.int v2), (.ref b194)]) (rest := [(.ref b1_210), (.ref b205), (.ref b205)]) (lenOf own_pd0 rfl) rfl rfl (W := 3) (by exact hW0) (by decide) (by decide) (hb hby at_103) (by decide) (by decide)) ?_
    rintro _ T212 L212 X212 ⟨⟨rs_212, rb_212, rk_212, rfl, N212q, K212q, P212_0, P212_1, P212_2, P212_3⟩, hZ, hown, Cd212, sR212⟩
    have O212 := Old.keep O210 K212q all0
    have K212 : Keep h0 T212.heap ([] : List Addr) := Keep.trans K210 K212q all0
    have N212 := Fr.app N210 N212q
    have q213 := ((A205.keep K210q).keep K212q)
    have q214 := ((F_where_b205.keep K210q nin0).keep K212q nin0)
    have q215 := ((F_problem_b205.keep K210q nin0).keep K212q nin0)
    refine Home.call (own_special X212 hx hZ hown rfl (own_w16 hw) (own_w17 hw) (own_w3 hw) (own_w18 hw) (by decide) (rm2_0 l Z a0 hw [] b205 b1_210 rs_212 T212.heap n0 O212 q213 q214 g_b205 q215) rfl rfl (by rw [hml]; rfl) (a := b205) (argsL := [(.ref b1_210), (.ref rs_212)]) (rest := [(.ref b205)]) (lenOf own_pd11 rfl) rfl rfl (W := 1) (by exact hW0) (by decide) (by decide) (hb hby at_106) (by decide) (by decide)) ?_
    rintro _ T216 L216 X216 ⟨rfl, N216q, K216q, P216_0, P216_1, P216_2⟩
    have Cd216 := Cold.keep Cd212 K216q (allS (Safe.exa hZ.alike q213 (by decide) (by decide)) all0)
    have le217 : h0.size ≤ h194.size := Nat.le_trans le198 E194.1
    have le218 : h0.size ≤ h195.size := Nat.le_trans le217 (Nat.le_of_eq W195.size.symm)
    have le219 : h0.size ≤ h199.size := Nat.le_trans le218 (Nat.le_of_eq W199.size.symm)
    have le220 : h0.size ≤ h200.size := Nat.le_trans le219 (Nat.le_of_eq W200.size.symm)
    have O216 := Old.keep O212 K216q (allS g_b205 all0)
    have K216 : Keep h0 T216.heap ([] : List Addr) := Keep.trans K212 K216q (allS (Or.inr (Nat.le_trans le220 (Nat.le_of_eq g205.symm))) all0)
    have N216 := Fr.app N212 N216q
    show Home T216 (mkF m 109 #[.val (.int i0), .val (.int i1), .val (.int (2 : Int32)), .val (.int v2), .val (.ref b190), .val (.ref b194), .unset] [(.ref b205)])
    have q221 := ((P210_0.keep K212q).keep K216q)
    have ne222 : b1_210 ≠ b205 := (Ne.symm (Nat.ne_of_lt (Nat.lt_of_lt_of_le A205.lt (Nat.le_trans (Nat.le_refl _) sz_b1_210))))
    have q223 := ((P210_1.keep K212q nin0).keep K216q (ninS ne222 nin0))
    have ne224 : b1_3_2_11_210 ≠ b205 := (Ne.symm (Nat.ne_of_lt (Nat.lt_of_lt_of_le A205.lt (Nat.le_trans (Nat.le_refl _) sz_b1_3_2_11_210))))
    have q225 := ((P210_3.keep K212q nin0).keep K216q (ninS ne224 nin0))
    have q226 := ((P210_2.keep K212q nin0).keep K216q (ninS ne222 nin0))
    have q227 := (P212_0.keep K216q)
    have ne228 : rs_212 ≠ b205 := (ne_exa q227 P216_0 (by decide))
    have q229 := (P212_2.keep K216q (ninS ne228 nin0))
    have ne230 : rb_212 ≠ b205 := (Ne.symm (own_neAV ((A205.keep K210q).keep K212q) (own_w2 hw) P212_3))
    have q231 := (P212_3.keep K216q (ninS ne230 nin0))
    have q232 := (P212_1.keep K216q (ninS ne228 nin0))
    refine Home.call (own_virtualW X216 hx hZ hown (own_hEL hw) Cd216 all0 (own_w31 hw) (own_w32 hw) (notFace_of_selects (args := #[]) (mvT hZ (own_w34 hw))) (own_w34 hw) (own_w33 hw) (own_w3 hw) (own_w35 hw) (by decide) (rm5_0 l Z a0 hw [] b205 sv_COMPACT_STRINGS b1_210 b1_3_2_11_210 k1_3_2_11_210 [((i0 &&& (255 : Int32)).toInt8.toInt32), (r201.toInt8.toInt32)] rs_212 rb_212 rk_212 (cs_rm1_1 v2 (i1 &&& (255 : Int32)) r203 r204) T216.heap n0 O216 S_COMPACT_STRINGS hCS P216_1 q221 q223 q225 q226 (Nat.le_trans (own_len_lit (l := [((i0 &&& (255 : Int32)).toInt8.toInt32), (r201.toInt8.toInt32)]) (n := 2) rfl).2 (by decide)) P216_2 q227 q229 q231 q232 (cs_rm1_1_short v2 (i1 &&& (255 : Int32)) r203 r204)) rfl P216_0 rfl (by rw [hml]; rfl) (argsL := []) (rest := []) (lenOf own_pd27 rfl) rfl rfl (W := 0) (by exact hW0) (by decide) (by decide) (hb hby at_109) (by decide) (by decide)) ?_
    rintro _ T233 L233 X233 ⟨⟨b1_14_233, b2_2_8_1_2_14_233, k2_2_8_1_2_14_233, rfl, N233q, sz_b1_14_233, sz_b2_2_8_1_2_14_233, K233q, P233_0, P233_1, P233_2, P233_3⟩, hZ, hown, Cd233, sR233⟩
    have Ce233 := Cold.put Cd233 (sR233 rfl _ rfl)
    have g_b1_14_233 : n0 ≤ b1_14_233 := Nat.le_trans (Old.le O216) sz_b1_14_233
    have g_b2_2_8_1_2_14_233 : n0 ≤ b2_2_8_1_2_14_233 := Nat.le_trans (Old.le O216) sz_b2_2_8_1_2_14_233
    have O233 := Old.keep O216 K233q all0
    have K233 : Keep h0 T233.heap ([] : List Addr) := Keep.trans K216 K233q all0
    have N233 := Fr.app N216 N233q
    show Home T233 (mkF m 112 #[.val (.int i0), .val (.int i1), .val (.int (2 : Int32)), .val (.int v2), .val (.ref b190), .val (.ref b194), .unset] [(.ref b1_14_233)])
    obtain ⟨r234, hr234⟩ : ∃ z, z = ((([] ++ [((i0 &&& (255 : Int32)).toInt8.toInt32), (r201.toInt8.toInt32)]) ++ [(58 : Int32), (32 : Int32)]) ++ (cs_rm1_1 v2 (i1 &&& (255 : Int32)) r203 r204)) := ⟨_, rfl⟩
    rw [← hr234] at P233_3
    refine Home.run X233 hx hby sg0_112_2 (pc' := 116) (L' := #[.val (.int i0), .val (.int i1), .val (.int (2 : Int32)), .val (.int v2), .val (.ref b190), .val (.ref b194), .val (.ref b1_14_233)]) (S' := [(.ref b1_14_233)]) rfl ?_
    refine Home.st (own_pure (own_virtual X233 hx hZ hown (own_w152 hw) (own_w65 hw) (notFace_of_selects (args := #[]) (mvT hZ (own_w67 hw))) (own_w67 hw) (own_w66 hw) (own_w9 hw) (own_w68 hw) (by decide) (rm10_3 l Z a0 hw [] b1_14_233 b2_2_8_1_2_14_233 k2_2_8_1_2_14_233 r234 sv_COMPACT_STRINGS T233.heap n0 O233 P233_1 P233_3 P233_0 S_COMPACT_STRINGS P233_2 hCS (Nat.le_trans (show 4 ≤ r234.length ∧ r234.length ≤ 7 by rw [hr234]; exact (own_len_app (own_len_app (own_len_app (own_len_lit (l := []) (n := 0) rfl) (own_len_lit (l := [((i0 &&& (255 : Int32)).toInt8.toInt32), (r201.toInt8.toInt32)]) (n := 2) rfl)) (own_len_lit (l := [(58 : Int32), (32 : Int32)]) (n := 2) rfl)) (own_len_le (cs_rm1_1_short v2 (i1 &&& (255 : Int32)) r203 r204)))).2 (by decide))) rfl P233_0 rfl (by rw [hml]; rfl) (argsL := []) (rest := []) (lenOf own_pd14 rfl) rfl rfl (W := 0) (by exact hW0) (by decide) (by decide) (hb hby at_116) (by decide) (by decide))) fun T235 X235 e235 => ?_
    refine Home.run X235 hx hby sg0_119_5 (pc' := 124) (L' := #[.val (.int i0), .val (.int i1), .val (.int (2 : Int32)), .val (.int v2), .val (.ref b190), .val (.ref b194), .val (.ref b1_14_233)]) (S' := [(.int ((4 : Int32) + v2)), (.int (own_n r234))]) rfl ?_
    by_cases c236 : (own_n r234) = ((4 : Int32) + v2)
    ·
     refine Home.go (fun _ => XS.icmpYes X235.here hx rfl (pc0 := 124) (pc' := 129) rfl (hb hby at_124) rfl (teq c236).1 (by decide) (by decide)) ?_
     refine Home.run X235 hx hby sg0_129_5 (pc' := 137) (L' := #[.val (.int i0), .val (.int i1), .val (.int (2 : Int32)), .val (.int v2), .val (.ref b190), .val (.ref b194), .val (.ref b1_14_233)]) (S' := [(.ref b194), (.ref b190), (.int (2 : Int32)), (.int (0 : Int32)), (.ref b1_14_233)]) rfl ?_
     have le237 : h190.size ≤ h194.size := Nat.le_trans le207 E194.1
     have le238 : h190.size ≤ h195.size := Nat.le_trans le237 (Nat.le_of_eq W195.size.symm)
     have le239 : h190.size ≤ h199.size := Nat.le_trans le238 (Nat.le_of_eq W199.size.symm)
     have le240 : h190.size ≤ h200.size := Nat.le_trans le239 (Nat.le_of_eq W200.size.symm)
     have ne241 : b190 ≠ b205 := (Nat.ne_of_lt (Nat.lt_of_lt_of_le V190.lt (Nat.le_trans le240 (Nat.le_of_eq g205.symm))))
     have q242 := ((((q209.keep K210q nin0).keep K212q nin0).keep K216q (ninS ne241 nin0)).keep K233q nin0)
     have le243 : h194.size ≤ h199.size := Nat.le_trans (Nat.le_of_eq W195.size.symm) (Nat.le_of_eq W199.size.symm)
     have le244 : h194.size ≤ h200.size := Nat.le_trans le243 (Nat.le_of_eq W200.size.symm)
     have ne245 : b194 ≠ b205 := (Nat.ne_of_lt (Nat.lt_of_lt_of_le V194.lt (Nat.le_trans le244 (Nat.le_of_eq g205.symm))))
     have q246 := (((q211.keep K212q nin0).keep K216q (ninS ne245 nin0)).keep K233q nin0)
     refine Home.st (own_pure (own_static X235 hx hZ hown (own_w153 hw) (own_w154 hw) (own_w6 hw) (own_w155 hw) (by decide) (rm27_2 l Z a0 hw [] b1_14_233 (0 : Int32) b190 b194 b2_2_8_1_2_14_233 k2_2_8_1_2_14_233 r234 sv_COMPACT_STRINGS sv_SIOOBE_FORMATTER k190 (i0 &&& (255 : Int32)) r201 r202 k194 (i1 &&& (255 : Int32)) r203 r204 T233.heap n0 O233 (bnd_mono (bnd_lit (0 : Int32)) (by decide +kernel) (by decide +kernel)) P233_0 P233_1 P233_3 S_COMPACT_STRINGS P233_2 hCS (Nat.le_trans (show 4 ≤ r234.length ∧ r234.length ≤ 7 by rw [hr234]; exact (own_len_app (own_len_app (own_len_app (own_len_lit (l := []) (n := 0) rfl) (own_len_lit (l := [((i0 &&& (255 : Int32)).toInt8.toInt32), (r201.toInt8.toInt32)]) (n := 2) rfl)) (own_len_lit (l := [(58 : Int32), (32 : Int32)]) (n := 2) rfl)) (own_len_le (cs_rm1_1_short v2 (i1 &&& (255 : Int32)) r203 r204)))).2 (by decide)) S_SIOOBE_FORMATTER isr_sv_SIOOBE_FORMATTER q242 q246 (bnd_and i0 (255 : Int32) (by decide)) br201 br202 (bnd_and i1 (255 : Int32) (by decide)) br203 br204) e235 rfl (by rw [hml]; rfl) (argsL := [(.ref b1_14_233), (.int (0 : Int32)), (.int (2 : Int32)), (.ref b190), (.ref b194)]) (rest := []) (lenOf own_pd32 rfl) rfl rfl (W := 0) (by exact hW0) (by decide) (by decide) (hb hby at_137) (by decide) (by decide))) fun T247 X247 e247 => ?_
     show Home T247 (mkF m 140 #[.val (.int i0), .val (.int i1), .val (.int (2 : Int32)), .val (.int v2), .val (.ref b190), .val (.ref b194), .val (.ref b1_14_233)] [(.int (f_rm27_2 (0 : Int32) r234 (i0 &&& (255 : Int32)) r201 r202 (i1 &&& (255 : Int32)) r203 r204))])
     obtain ⟨r248, hr248⟩ : ∃ z, z = (f_rm27_2 (0 : Int32) r234 (i0 &&& (255 : Int32)) r201 r202 (i1 &&& (255 : Int32)) r203 r204) := ⟨_, rfl⟩
     rw [← hr248]
     have br248 : ¬ r248 < (0 : Int32) ∧ ¬ (1 : Int32) < r248 := by rw [hr248]; exact f_rm27_2_bnd (0 : Int32) r234 (i0 &&& (255 : Int32)) r201 r202 (i1 &&& (255 : Int32)) r203 r204 (bnd_mono (bnd_lit (0 : Int32)) (by decide +kernel) (by decide +kernel)) (bnd_and i0 (255 : Int32) (by decide)) br201 br202 (bnd_and i1 (255 : Int32) (by decide)) br203 br204
     suffices J280 : ∀ {T : State} {lc : List Loc} (X : Stand p l e room_1 (s.setVm T233.vm) m #[(.int i0), (.int i1)] below meth c T lc 15 70) (N : Fr n0 lc) (eT : T.heap = T233.heap) (v281 : Int32) (hv281 : v281 = (if r248 = (0 : Int32) then (0 : Int32) else (if (f_rm27_2 (1 : Int32) r234 (i0 &&& (255 : Int32)) r201 r202 (i1 &&& (255 : Int32)) r203 r204) = (0 : Int32) then (0 : Int32) else (if (f_rm27_2 (2 : Int32) r234 (i0 &&& (255 : Int32)) r201 r202 (i1 &&& (255 : Int32)) r203 r204) = (0 : Int32) then (0 : Int32) else (if (f_rm27_2 (3 : Int32) r234 (i0 &&& (255 : Int32)) r201 r202 (i1 &&& (255 : Int32)) r203 r204) = (0 : Int32) then (0 : Int32) else (if (f_rm27_2 (4 : Int32) r234 (i0 &&& (255 : Int32)) r201 r202 (i1 &&& (255 : Int32)) r203 r204) = (0 : Int32) then (0 : Int32) else (if (f_rm27_2 (5 : Int32) r234 (i0 &&& (255 : Int32)) r201 r202 (i1 &&& (255 : Int32)) r203 r204) = (0 : Int32) then (0 : Int32) else (if (f_rm27_2 (6 : Int32) r234 (i0 &&& (255 : Int32)) r201 r202 (i1 &&& (255 : Int32)) r203 r204) = (0 : Int32) then (0 : Int32) else (if (f_rm27_2 (7 : Int32) r234 (i0 &&& (255 : Int32)) r201 r202 (i1 &&& (255 : Int32)) r203 r204) = (0 : Int32) then (0 : Int32) else (1 : Int32)))))))))), @Home p e below _ T (mkF m 248 #[.val (.int i0), .val (.int i1), .val (.int (2 : Int32)), .val (.int v2), .val (.ref b190), .val (.ref b194), .val (.ref b1_14_233)] [(.int v281)]) by
      by_cases c249 : r248 = (0 : Int32)
      ·
       refine Home.go (fun _ => XS.ifYes X247.here hx rfl (pc0 := 140) (pc' := 247) rfl (hb hby at_140) rfl ((if0 _ _).trans (teq c249).1) (by decide) (by decide)) ?_
       have bd250 : ¬ r248 < (0 : Int32) ∧ ¬ (0 : Int32) < r248 := ⟨(bnd_eql c249), (bnd_eqr c249)⟩
       refine Home.run X247 hx hby sg0_247_1 (pc' := 248) (L' := #[.val (.int i0), .val (.int i1), .val (.int (2 : Int32)), .val (.int v2), .val (.ref b190), .val (.ref b194), .val (.ref b1_14_233)]) (S' := [(.int (0 : Int32))]) rfl ?_
       exact J280 X247 N233 e247 _ (by simp only [if_pos c249])
      ·
       refine Home.go (fun _ => XS.ifNo X247.here hx rfl (hb hby at_140) rfl ((if0 _ _).trans (feq c249).1)) ?_
       have bd251 : ¬ r248 < (1 : Int32) ∧ ¬ (1 : Int32) < r248 := ⟨(bnd_nel br248.1 c249 (by decide +kernel)), br248.2⟩
       refine Home.run X247 hx hby sg0_143_5 (pc' := 151) (L' := #[.val (.int i0), .val (.int i1), .val (.int (2 : Int32)), .val (.int v2), .val (.ref b190), .val (.ref b194), .val (.ref b1_14_233)]) (S' := [(.ref b194), (.ref b190), (.int (2 : Int32)), (.int (1 : Int32)), (.ref b1_14_233)]) rfl ?_
       refine Home.st (own_pure (own_static X247 hx hZ hown (own_w153 hw) (own_w154 hw) (own_w6 hw) (own_w155 hw) (by decide) (rm27_2 l Z a0 hw [] b1_14_233 (1 : Int32) b190 b194 b2_2_8_1_2_14_233 k2_2_8_1_2_14_233 r234 sv_COMPACT_STRINGS sv_SIOOBE_FORMATTER k190 (i0 &&& (255 : Int32)) r201 r202 k194 (i1 &&& (255 : Int32)) r203 r204 T233.heap n0 O233 (bnd_mono (bnd_lit (1 : Int32)) (by decide +kernel) (by decide +kernel)) P233_0 P233_1 P233_3 S_COMPACT_STRINGS P233_2 hCS (Nat.le_trans (show 4 ≤ r234.length ∧ r234.length ≤ 7 by rw [hr234]; exact (own_len_app (own_len_app (own_len_app (own_len_lit (l := []) (n := 0) rfl) (own_len_lit (l := [((i0 &&& (255 : Int32)).toInt8.toInt32), (r201.toInt8.toInt32)]) (n := 2) rfl)) (own_len_lit (l := [(58 : Int32), (32 : Int32)]) (n := 2) rfl)) (own_len_le (cs_rm1_1_short v2 (i1 &&& (255 : Int32)) r203 r204)))).2 (by decide)) S_SIOOBE_FORMATTER isr_sv_SIOOBE_FORMATTER q242 q246 (bnd_and i0 (255 : Int32) (by decide)) br201 br202 (bnd_and i1 (255 : Int32) (by decide)) br203 br204) e247 rfl (by rw [hml]; rfl) (argsL := [(.ref b1_14_233), (.int (1 : Int32)), (.int (2 : Int32)), (.ref b190), (.ref b194)]) (rest := []) (lenOf own_pd32 rfl) rfl rfl (W := 0) (by exact hW0) (by decide) (by decide) (hb hby at_151) (by decide) (by decide))) fun T252 X252 e252 => ?_
       by_cases c253 : (f_rm27_2 (1 : Int32) r234 (i0 &&& (255 : Int32)) r201 r202 (i1 &&& (255 : Int32)) r203 r204) = (0 : Int32)
       ·
        refine Home.go (fun _ => XS.ifYes X252.here hx rfl (pc0 := 154) (pc' := 247) rfl (hb hby at_154) rfl ((if0 _ _).trans (teq c253).1) (by decide) (by decide)) ?_
        have bd254 : ¬ (f_rm27_2 (1 : Int32) r234 (i0 &&& (255 : Int32)) r201 r202 (i1 &&& (255 : Int32)) r203 r204) < (0 : Int32) ∧ ¬ (0 : Int32) < (f_rm27_2 (1 : Int32) r234 (i0 &&& (255 : Int32)) r201 r202 (i1 &&& (255 : Int32)) r203 r204) := ⟨(bnd_eql c253), (bnd_eqr c253)⟩
        refine Home.run X252 hx hby sg0_247_1 (pc' := 248) (L' := #[.val (.int i0), .val (.int i1), .val (.int (2 : Int32)), .val (.int v2), .val (.ref b190), .val (.ref b194), .val (.ref b1_14_233)]) (S' := [(.int (0 : Int32))]) rfl ?_
        exact J280 X252 N233 e252 _ (by simp only [if_neg c249, if_pos c253])
       ·
        refine Home.go (fun _ => XS.ifNo X252.here hx rfl (hb hby at_154) rfl ((if0 _ _).trans (feq c253).1)) ?_
        have bd255 : ¬ (f_rm27_2 (1 : Int32) r234 (i0 &&& (255 : Int32)) r201 r202 (i1 &&& (255 : Int32)) r203 r204) < (1 : Int32) ∧ ¬ (1 : Int32) < (f_rm27_2 (1 : Int32) r234 (i0 &&& (255 : Int32)) r201 r202 (i1 &&& (255 : Int32)) r203 r204) := ⟨(bnd_nel (f_rm27_2_bnd (1 : Int32) r234 (i0 &&& (255 : Int32)) r201 r202 (i1 &&& (255 : Int32)) r203 r204 (bnd_mono (bnd_lit (1 : Int32)) (by decide +kernel) (by decide +kernel)) (bnd_and i0 (255 : Int32) (by decide)) br201 br202 (bnd_and i1 (255 : Int32) (by decide)) br203 br204).1 c253 (by decide +kernel)), (f_rm27_2_bnd (1 : Int32) r234 (i0 &&& (255 : Int32)) r201 r202 (i1 &&& (255 : Int32)) r203 r204 (bnd_mono (bnd_lit (1 : Int32)) (by decide +kernel) (by decide +kernel)) (bnd_and i0 (255 : Int32) (by decide)) br201 br202 (bnd_and i1 (255 : Int32) (by decide)) br203 br204).2⟩
        refine Home.run X252 hx hby sg0_157_5 (pc' := 165) (L' := #[.val (.int i0), .val (.int i1), .val (.int (2 : Int32)), .val (.int v2), .val (.ref b190), .val (.ref b194), .val (.ref b1_14_233)]) (S' := [(.ref b194), (.ref b190), (.int (2 : Int32)), (.int (2 : Int32)), (.ref b1_14_233)]) rfl ?_
        refine Home.st (own_pure (own_static X252 hx hZ hown (own_w153 hw) (own_w154 hw) (own_w6 hw) (own_w155 hw) (by decide) (rm27_2 l Z a0 hw [] b1_14_233 (2 : Int32) b190 b194 b2_2_8_1_2_14_233 k2_2_8_1_2_14_233 r234 sv_COMPACT_STRINGS sv_SIOOBE_FORMATTER k190 (i0 &&& (255 : Int32)) r201 r202 k194 (i1 &&& (255 : Int32)) r203 r204 T233.heap n0 O233 (bnd_mono (bnd_lit (2 : Int32)) (by decide +kernel) (by decide +kernel)) P233_0 P233_1 P233_3 S_COMPACT_STRINGS P233_2 hCS (Nat.le_trans (show 4 ≤ r234.length ∧ r234.length ≤ 7 by rw [hr234]; exact (own_len_app (own_len_app (own_len_app (own_len_lit (l := []) (n := 0) rfl) (own_len_lit (l := [((i0 &&& (255 : Int32)).toInt8.toInt32), (r201.toInt8.toInt32)]) (n := 2) rfl)) (own_len_lit (l := [(58 : Int32), (32 : Int32)]) (n := 2) rfl)) (own_len_le (cs_rm1_1_short v2 (i1 &&& (255 : Int32)) r203 r204)))).2 (by decide)) S_SIOOBE_FORMATTER isr_sv_SIOOBE_FORMATTER q242 q246 (bnd_and i0 (255 : Int32) (by decide)) br201 br202 (bnd_and i1 (255 : Int32) (by decide)) br203 br204) e252 rfl (by rw [hml]; rfl) (argsL := [(.ref b1_14_233), (.int (2 : Int32)), (.int (2 : Int32)), (.ref b190), (.ref b194)]) (rest := []) (lenOf own_pd32 rfl) rfl rfl (W := 0) (by exact hW0) (by decide) (by decide) (hb hby at_165) (by decide) (by decide))) fun T256 X256 e256 => ?_
        by_cases c257 : (f_rm27_2 (2 : Int32) r234 (i0 &&& (255 : Int32)) r201 r202 (i1 &&& (255 : Int32)) r203 r204) = (0 : Int32)
        ·
         refine Home.go (fun _ => XS.ifYes X256.here hx rfl (pc0 := 168) (pc' := 247) rfl (hb hby at_168) rfl ((if0 _ _).trans (teq c257).1) (by decide) (by decide)) ?_
         have bd258 : ¬ (f_rm27_2 (2 : Int32) r234 (i0 &&& (255 : Int32)) r201 r202 (i1 &&& (255 : Int32)) r203 r204) < (0 : Int32) ∧ ¬ (0 : Int32) < (f_rm27_2 (2 : Int32) r234 (i0 &&& (255 : Int32)) r201 r202 (i1 &&& (255 : Int32)) r203 r204) := ⟨(bnd_eql c257), (bnd_eqr c257)⟩
         refine Home.run X256 hx hby sg0_247_1 (pc' := 248) (L' := #[.val (.int i0), .val (.int i1), .val (.int (2 : Int32)), .val (.int v2), .val (.ref b190), .val (.ref b194), .val (.ref b1_14_233)]) (S' := [(.int (0 : Int32))]) rfl ?_
         exact J280 X256 N233 e256 _ (by simp only [if_neg c249, if_neg c253, if_pos c257])
        ·
         refine Home.go (fun _ => XS.ifNo X256.here hx rfl (hb hby at_168) rfl ((if0 _ _).trans (feq c257).1)) ?_
         have bd259 : ¬ (f_rm27_2 (2 : Int32) r234 (i0 &&& (255 : Int32)) r201 r202 (i1 &&& (255 : Int32)) r203 r204) < (1 : Int32) ∧ ¬ (1 : Int32) < (f_rm27_2 (2 : Int32) r234 (i0 &&& (255 : Int32)) r201 r202 (i1 &&& (255 : Int32)) r203 r204) := ⟨(bnd_nel (f_rm27_2_bnd (2 : Int32) r234 (i0 &&& (255 : Int32)) r201 r202 (i1 &&& (255 : Int32)) r203 r204 (bnd_mono (bnd_lit (2 : Int32)) (by decide +kernel) (by decide +kernel)) (bnd_and i0 (255 : Int32) (by decide)) br201 br202 (bnd_and i1 (255 : Int32) (by decide)) br203 br204).1 c257 (by decide +kernel)), (f_rm27_2_bnd (2 : Int32) r234 (i0 &&& (255 : Int32)) r201 r202 (i1 &&& (255 : Int32)) r203 r204 (bnd_mono (bnd_lit (2 : Int32)) (by decide +kernel) (by decide +kernel)) (bnd_and i0 (255 : Int32) (by decide)) br201 br202 (bnd_and i1 (255 : Int32) (by decide)) br203 br204).2⟩
         refine Home.run X256 hx hby sg0_171_5 (pc' := 179) (L' := #[.val (.int i0), .val (.int i1), .val (.int (2 : Int32)), .val (.int v2), .val (.ref b190), .val (.ref b194), .val (.ref b1_14_233)]) (S' := [(.ref b194), (.ref b190), (.int (2 : Int32)), (.int (3 : Int32)), (.ref b1_14_233)]) rfl ?_
         refine Home.st (own_pure (own_static X256 hx hZ hown (own_w153 hw) (own_w154 hw) (own_w6 hw) (own_w155 hw) (by decide) (rm27_2 l Z a0 hw [] b1_14_233 (3 : Int32) b190 b194 b2_2_8_1_2_14_233 k2_2_8_1_2_14_233 r234 sv_COMPACT_STRINGS sv_SIOOBE_FORMATTER k190 (i0 &&& (255 : Int32)) r201 r202 k194 (i1 &&& (255 : Int32)) r203 r204 T233.heap n0 O233 (bnd_mono (bnd_lit (3 : Int32)) (by decide +kernel) (by decide +kernel)) P233_0 P233_1 P233_3 S_COMPACT_STRINGS P233_2 hCS (Nat.le_trans (show 4 ≤ r234.length ∧ r234.length ≤ 7 by rw [hr234]; exact (own_len_app (own_len_app (own_len_app (own_len_lit (l := []) (n := 0) rfl) (own_len_lit (l := [((i0 &&& (255 : Int32)).toInt8.toInt32), (r201.toInt8.toInt32)]) (n := 2) rfl)) (own_len_lit (l := [(58 : Int32), (32 : Int32)]) (n := 2) rfl)) (own_len_le (cs_rm1_1_short v2 (i1 &&& (255 : Int32)) r203 r204)))).2 (by decide)) S_SIOOBE_FORMATTER isr_sv_SIOOBE_FORMATTER q242 q246 (bnd_and i0 (255 : Int32) (by decide)) br201 br202 (bnd_and i1 (255 : Int32) (by decide)) br203 br204) e256 rfl (by rw [hml]; rfl) (argsL := [(.ref b1_14_233), (.int (3 : Int32)), (.int (2 : Int32)), (.ref b190), (.ref b194)]) (rest := []) (lenOf own_pd32 rfl) rfl rfl (W := 0) (by exact hW0) (by decide) (by decide) (hb hby at_179) (by decide) (by decide))) fun T260 X260 e260 => ?_
         by_cases c261 : (f_rm27_2 (3 : Int32) r234 (i0 &&& (255 : Int32)) r201 r202 (i1 &&& (255 : Int32)) r203 r204) = (0 : Int32)
         ·
          refine Home.go (fun _ => XS.ifYes X260.here hx rfl (pc0 := 182) (pc' := 247) rfl (hb hby at_182) rfl ((if0 _ _).trans (teq c261).1) (by decide) (by decide)) ?_
          have bd262 : ¬ (f_rm27_2 (3 : Int32) r234 (i0 &&& (255 : Int32)) r201 r202 (i1 &&& (255 : Int32)) r203 r204) < (0 : Int32) ∧ ¬ (0 : Int32) < (f_rm27_2 (3 : Int32) r234 (i0 &&& (255 : Int32)) r201 r202 (i1 &&& (255 : Int32)) r203 r204) := ⟨(bnd_eql c261), (bnd_eqr c261)⟩
          refine Home.run X260 hx hby sg0_247_1 (pc' := 248) (L' := #[.val (.int i0), .val (.int i1), .val (.int (2 : Int32)), .val (.int v2), .val (.ref b190), .val (.ref b194), .val (.ref b1_14_233)]) (S' := [(.int (0 : Int32))]) rfl ?_
          exact J280 X260 N233 e260 _ (by simp only [if_neg c249, if_neg c253, if_neg c257, if_pos c261])
         ·
          refine Home.go (fun _ => XS.ifNo X260.here hx rfl (hb hby at_182) rfl ((if0 _ _).trans (feq c261).1)) ?_
          have bd263 : ¬ (f_rm27_2 (3 : Int32) r234 (i0 &&& (255 : Int32)) r201 r202 (i1 &&& (255 : Int32)) r203 r204) < (1 : Int32) ∧ ¬ (1 : Int32) < (f_rm27_2 (3 : Int32) r234 (i0 &&& (255 : Int32)) r201 r202 (i1 &&& (255 : Int32)) r203 r204) := ⟨(bnd_nel (f_rm27_2_bnd (3 : Int32) r234 (i0 &&& (255 : Int32)) r201 r202 (i1 &&& (255 : Int32)) r203 r204 (bnd_mono (bnd_lit (3 : Int32)) (by decide +kernel) (by decide +kernel)) (bnd_and i0 (255 : Int32) (by decide)) br201 br202 (bnd_and i1 (255 : Int32) (by decide)) br203 br204).1 c261 (by decide +kernel)), (f_rm27_2_bnd (3 : Int32) r234 (i0 &&& (255 : Int32)) r201 r202 (i1 &&& (255 : Int32)) r203 r204 (bnd_mono (bnd_lit (3 : Int32)) (by decide +kernel) (by decide +kernel)) (bnd_and i0 (255 : Int32) (by decide)) br201 br202 (bnd_and i1 (255 : Int32) (by decide)) br203 br204).2⟩
          refine Home.run X260 hx hby sg0_185_5 (pc' := 193) (L' := #[.val (.int i0), .val (.int i1), .val (.int (2 : Int32)), .val (.int v2), .val (.ref b190), .val (.ref b194), .val (.ref b1_14_233)]) (S' := [(.ref b194), (.ref b190), (.int (2 : Int32)), (.int (4 : Int32)), (.ref b1_14_233)]) rfl ?_
          refine Home.st (own_pure (own_static X260 hx hZ hown (own_w153 hw) (own_w154 hw) (own_w6 hw) (own_w155 hw) (by decide) (rm27_2 l Z a0 hw [] b1_14_233 (4 : Int32) b190 b194 b2_2_8_1_2_14_233 k2_2_8_1_2_14_233 r234 sv_COMPACT_STRINGS sv_SIOOBE_FORMATTER k190 (i0 &&& (255 : Int32)) r201 r202 k194 (i1 &&& (255 : Int32)) r203 r204 T233.heap n0 O233 (bnd_mono (bnd_lit (4 : Int32)) (by decide +kernel) (by decide +kernel)) P233_0 P233_1 P233_3 S_COMPACT_STRINGS P233_2 hCS (Nat.le_trans (show 4 ≤ r234.length ∧ r234.length ≤ 7 by rw [hr234]; exact (own_len_app (own_len_app (own_len_app (own_len_lit (l := []) (n := 0) rfl) (own_len_lit (l := [((i0 &&& (255 : Int32)).toInt8.toInt32), (r201.toInt8.toInt32)]) (n := 2) rfl)) (own_len_lit (l := [(58 : Int32), (32 : Int32)]) (n := 2) rfl)) (own_len_le (cs_rm1_1_short v2 (i1 &&& (255 : Int32)) r203 r204)))).2 (by decide)) S_SIOOBE_FORMATTER isr_sv_SIOOBE_FORMATTER q242 q246 (bnd_and i0 (255 : Int32) (by decide)) br201 br202 (bnd_and i1 (255 : Int32) (by decide)) br203 br204) e260 rfl (by rw [hml]; rfl) (argsL := [(.ref b1_14_233), (.int (4 : Int32)), (.int (2 : Int32)), (.ref b190), (.ref b194)]) (rest := []) (lenOf own_pd32 rfl) rfl rfl (W := 0) (by exact hW0) (by decide) (by decide) (hb hby at_193) (by decide) (by decide))) fun T264 X264 e264 => ?_
          by_cases c265 : (f_rm27_2 (4 : Int32) r234 (i0 &&& (255 : Int32)) r201 r202 (i1 &&& (255 : Int32)) r203 r204) = (0 : Int32)
          ·
           refine Home.go (fun _ => XS.ifYes X264.here hx rfl (pc0 := 196) (pc' := 247) rfl (hb hby at_196) rfl ((if0 _ _).trans (teq c265).1) (by decide) (by decide)) ?_
           have bd266 : ¬ (f_rm27_2 (4 : Int32) r234 (i0 &&& (255 : Int32)) r201 r202 (i1 &&& (255 : Int32)) r203 r204) < (0 : Int32) ∧ ¬ (0 : Int32) < (f_rm27_2 (4 : Int32) r234 (i0 &&& (255 : Int32)) r201 r202 (i1 &&& (255 : Int32)) r203 r204) := ⟨(bnd_eql c265), (bnd_eqr c265)⟩
           refine Home.run X264 hx hby sg0_247_1 (pc' := 248) (L' := #[.val (.int i0), .val (.int i1), .val (.int (2 : Int32)), .val (.int v2), .val (.ref b190), .val (.ref b194), .val (.ref b1_14_233)]) (S' := [(.int (0 : Int32))]) rfl ?_
           exact J280 X264 N233 e264 _ (by simp only [if_neg c249, if_neg c253, if_neg c257, if_neg c261, if_pos c265])
          ·
           refine Home.go (fun _ => XS.ifNo X264.here hx rfl (hb hby at_196) rfl ((if0 _ _).trans (feq c265).1)) ?_
           have bd267 : ¬ (f_rm27_2 (4 : Int32) r234 (i0 &&& (255 : Int32)) r201 r202 (i1 &&& (255 : Int32)) r203 r204) < (1 : Int32) ∧ ¬ (1 : Int32) < (f_rm27_2 (4 : Int32) r234 (i0 &&& (255 : Int32)) r201 r202 (i1 &&& (255 : Int32)) r203 r204) := ⟨(bnd_nel (f_rm27_2_bnd (4 : Int32) r234 (i0 &&& (255 : Int32)) r201 r202 (i1 &&& (255 : Int32)) r203 r204 (bnd_mono (bnd_lit (4 : Int32)) (by decide +kernel) (by decide +kernel)) (bnd_and i0 (255 : Int32) (by decide)) br201 br202 (bnd_and i1 (255 : Int32) (by decide)) br203 br204).1 c265 (by decide +kernel)), (f_rm27_2_bnd (4 : Int32) r234 (i0 &&& (255 : Int32)) r201 r202 (i1 &&& (255 : Int32)) r203 r204 (bnd_mono (bnd_lit (4 : Int32)) (by decide +kernel) (by decide +kernel)) (bnd_and i0 (255 : Int32) (by decide)) br201 br202 (bnd_and i1 (255 : Int32) (by decide)) br203 br204).2⟩
           refine Home.run X264 hx hby sg0_199_5 (pc' := 207) (L' := #[.val (.int i0), .val (.int i1), .val (.int (2 : Int32)), .val (.int v2), .val (.ref b190), .val (.ref b194), .val (.ref b1_14_233)]) (S' := [(.ref b194), (.ref b190), (.int (2 : Int32)), (.int (5 : Int32)), (.ref b1_14_233)]) rfl ?_
           refine Home.st (own_pure (own_static X264 hx hZ hown (own_w153 hw) (own_w154 hw) (own_w6 hw) (own_w155 hw) (by decide) (rm27_2 l Z a0 hw [] b1_14_233 (5 : Int32) b190 b194 b2_2_8_1_2_14_233 k2_2_8_1_2_14_233 r234 sv_COMPACT_STRINGS sv_SIOOBE_FORMATTER k190 (i0 &&& (255 : Int32)) r201 r202 k194 (i1 &&& (255 : Int32)) r203 r204 T233.heap n0 O233 (bnd_mono (bnd_lit (5 : Int32)) (by decide +kernel) (by decide +kernel)) P233_0 P233_1 P233_3 S_COMPACT_STRINGS P233_2 hCS (Nat.le_trans (show 4 ≤ r234.length ∧ r234.length ≤ 7 by rw [hr234]; exact (own_len_app (own_len_app (own_len_app (own_len_lit (l := []) (n := 0) rfl) (own_len_lit (l := [((i0 &&& (255 : Int32)).toInt8.toInt32), (r201.toInt8.toInt32)]) (n := 2) rfl)) (own_len_lit (l := [(58 : Int32), (32 : Int32)]) (n := 2) rfl)) (own_len_le (cs_rm1_1_short v2 (i1 &&& (255 : Int32)) r203 r204)))).2 (by decide)) S_SIOOBE_FORMATTER isr_sv_SIOOBE_FORMATTER q242 q246 (bnd_and i0 (255 : Int32) (by decide)) br201 br202 (bnd_and i1 (255 : Int32) (by decide)) br203 br204) e264 rfl (by rw [hml]; rfl) (argsL := [(.ref b1_14_233), (.int (5 : Int32)), (.int (2 : Int32)), (.ref b190), (.ref b194)]) (rest := []) (lenOf own_pd32 rfl) rfl rfl (W := 0) (by exact hW0) (by decide) (by decide) (hb hby at_207) (by decide) (by decide))) fun T268 X268 e268 => ?_
           by_cases c269 : (f_rm27_2 (5 : Int32) r234 (i0 &&& (255 : Int32)) r201 r202 (i1 &&& (255 : Int32)) r203 r204) = (0 : Int32)
           ·
            refine Home.go (fun _ => XS.ifYes X268.here hx rfl (pc0 := 210) (pc' := 247) rfl (hb hby at_210) rfl ((if0 _ _).trans (teq c269).1) (by decide) (by decide)) ?_
            have bd270 : ¬ (f_rm27_2 (5 : Int32) r234 (i0 &&& (255 : Int32)) r201 r202 (i1 &&& (255 : Int32)) r203 r204) < (0 : Int32) ∧ ¬ (0 : Int32) < (f_rm27_2 (5 : Int32) r234 (i0 &&& (255 : Int32)) r201 r202 (i1 &&& (255 : Int32)) r203 r204) := ⟨(bnd_eql c269), (bnd_eqr c269)⟩
            refine Home.run X268 hx hby sg0_247_1 (pc' := 248) (L' := #[.val (.int i0), .val (.int i1), .val (.int (2 : Int32)), .val (.int v2), .val (.ref b190), .val (.ref b194), .val (.ref b1_14_233)]) (S' := [(.int (0 : Int32))]) rfl ?_
            exact J280 X268 N233 e268 _ (by simp only [if_neg c249, if_neg c253, if_neg c257, if_neg c261, if_neg c265, if_pos c269])
           ·
            refine Home.go (fun _ => XS.ifNo X268.here hx rfl (hb hby at_210) rfl ((if0 _ _).trans (feq c269).1)) ?_
            have bd271 : ¬ (f_rm27_2 (5 : Int32) r234 (i0 &&& (255 : Int32)) r201 r202 (i1 &&& (255 : Int32)) r203 r204) < (1 : Int32) ∧ ¬ (1 : Int32) < (f_rm27_2 (5 : Int32) r234 (i0 &&& (255 : Int32)) r201 r202 (i1 &&& (255 : Int32)) r203 r204) := ⟨(bnd_nel (f_rm27_2_bnd (5 : Int32) r234 (i0 &&& (255 : Int32)) r201 r202 (i1 &&& (255 : Int32)) r203 r204 (bnd_mono (bnd_lit (5 : Int32)) (by decide +kernel) (by decide +kernel)) (bnd_and i0 (255 : Int32) (by decide)) br201 br202 (bnd_and i1 (255 : Int32) (by decide)) br203 br204).1 c269 (by decide +kernel)), (f_rm27_2_bnd (5 : Int32) r234 (i0 &&& (255 : Int32)) r201 r202 (i1 &&& (255 : Int32)) r203 r204 (bnd_mono (bnd_lit (5 : Int32)) (by decide +kernel) (by decide +kernel)) (bnd_and i0 (255 : Int32) (by decide)) br201 br202 (bnd_and i1 (255 : Int32) (by decide)) br203 br204).2⟩
            refine Home.run X268 hx hby sg0_213_5 (pc' := 222) (L' := #[.val (.int i0), .val (.int i1), .val (.int (2 : Int32)), .val (.int v2), .val (.ref b190), .val (.ref b194), .val (.ref b1_14_233)]) (S' := [(.ref b194), (.ref b190), (.int (2 : Int32)), (.int (6 : Int32)), (.ref b1_14_233)]) rfl ?_
            refine Home.st (own_pure (own_static X268 hx hZ hown (own_w153 hw) (own_w154 hw) (own_w6 hw) (own_w155 hw) (by decide) (rm27_2 l Z a0 hw [] b1_14_233 (6 : Int32) b190 b194 b2_2_8_1_2_14_233 k2_2_8_1_2_14_233 r234 sv_COMPACT_STRINGS sv_SIOOBE_FORMATTER k190 (i0 &&& (255 : Int32)) r201 r202 k194 (i1 &&& (255 : Int32)) r203 r204 T233.heap n0 O233 (bnd_mono (bnd_lit (6 : Int32)) (by decide +kernel) (by decide +kernel)) P233_0 P233_1 P233_3 S_COMPACT_STRINGS P233_2 hCS (Nat.le_trans (show 4 ≤ r234.length ∧ r234.length ≤ 7 by rw [hr234]; exact (own_len_app (own_len_app (own_len_app (own_len_lit (l := []) (n := 0) rfl) (own_len_lit (l := [((i0 &&& (255 : Int32)).toInt8.toInt32), (r201.toInt8.toInt32)]) (n := 2) rfl)) (own_len_lit (l := [(58 : Int32), (32 : Int32)]) (n := 2) rfl)) (own_len_le (cs_rm1_1_short v2 (i1 &&& (255 : Int32)) r203 r204)))).2 (by decide)) S_SIOOBE_FORMATTER isr_sv_SIOOBE_FORMATTER q242 q246 (bnd_and i0 (255 : Int32) (by decide)) br201 br202 (bnd_and i1 (255 : Int32) (by decide)) br203 br204) e268 rfl (by rw [hml]; rfl) (argsL := [(.ref b1_14_233), (.int (6 : Int32)), (.int (2 : Int32)), (.ref b190), (.ref b194)]) (rest := []) (lenOf own_pd32 rfl) rfl rfl (W := 0) (by exact hW0) (by decide) (by decide) (hb hby at_222) (by decide) (by decide))) fun T272 X272 e272 => ?_
            by_cases c273 : (f_rm27_2 (6 : Int32) r234 (i0 &&& (255 : Int32)) r201 r202 (i1 &&& (255 : Int32)) r203 r204) = (0 : Int32)
            ·
             refine Home.go (fun _ => XS.ifYes X272.here hx rfl (pc0 := 225) (pc' := 247) rfl (hb hby at_225) rfl ((if0 _ _).trans (teq c273).1) (by decide) (by decide)) ?_
             have bd274 : ¬ (f_rm27_2 (6 : Int32) r234 (i0 &&& (255 : Int32)) r201 r202 (i1 &&& (255 : Int32)) r203 r204) < (0 : Int32) ∧ ¬ (0 : Int32) < (f_rm27_2 (6 : Int32) r234 (i0 &&& (255 : Int32)) r201 r202 (i1 &&& (255 : Int32)) r203 r204) := ⟨(bnd_eql c273), (bnd_eqr c273)⟩
             refine Home.run X272 hx hby sg0_247_1 (pc' := 248) (L' := #[.val (.int i0), .val (.int i1), .val (.int (2 : Int32)), .val (.int v2), .val (.ref b190), .val (.ref b194), .val (.ref b1_14_233)]) (S' := [(.int (0 : Int32))]) rfl ?_
             exact J280 X272 N233 e272 _ (by simp only [if_neg c249, if_neg c253, if_neg c257, if_neg c261, if_neg c265, if_neg c269, if_pos c273])
            ·
             refine Home.go (fun _ => XS.ifNo X272.here hx rfl (hb hby at_225) rfl ((if0 _ _).trans (feq c273).1)) ?_
             have bd275 : ¬ (f_rm27_2 (6 : Int32) r234 (i0 &&& (255 : Int32)) r201 r202 (i1 &&& (255 : Int32)) r203 r204) < (1 : Int32) ∧ ¬ (1 : Int32) < (f_rm27_2 (6 : Int32) r234 (i0 &&& (255 : Int32)) r201 r202 (i1 &&& (255 : Int32)) r203 r204) := ⟨(bnd_nel (f_rm27_2_bnd (6 : Int32) r234 (i0 &&& (255 : Int32)) r201 r202 (i1 &&& (255 : Int32)) r203 r204 (bnd_mono (bnd_lit (6 : Int32)) (by decide +kernel) (by decide +kernel)) (bnd_and i0 (255 : Int32) (by decide)) br201 br202 (bnd_and i1 (255 : Int32) (by decide)) br203 br204).1 c273 (by decide +kernel)), (f_rm27_2_bnd (6 : Int32) r234 (i0 &&& (255 : Int32)) r201 r202 (i1 &&& (255 : Int32)) r203 r204 (bnd_mono (bnd_lit (6 : Int32)) (by decide +kernel) (by decide +kernel)) (bnd_and i0 (255 : Int32) (by decide)) br201 br202 (bnd_and i1 (255 : Int32) (by decide)) br203 br204).2⟩
             refine Home.run X272 hx hby sg0_228_5 (pc' := 237) (L' := #[.val (.int i0), .val (.int i1), .val (.int (2 : Int32)), .val (.int v2), .val (.ref b190), .val (.ref b194), .val (.ref b1_14_233)]) (S' := [(.ref b194), (.ref b190), (.int (2 : Int32)), (.int (7 : Int32)), (.ref b1_14_233)]) rfl ?_
             refine Home.st (own_pure (own_static X272 hx hZ hown (own_w153 hw) (own_w154 hw) (own_w6 hw) (own_w155 hw) (by decide) (rm27_2 l Z a0 hw [] b1_14_233 (7 : Int32) b190 b194 b2_2_8_1_2_14_233 k2_2_8_1_2_14_233 r234 sv_COMPACT_STRINGS sv_SIOOBE_FORMATTER k190 (i0 &&& (255 : Int32)) r201 r202 k194 (i1 &&& (255 : Int32)) r203 r204 T233.heap n0 O233 (bnd_mono (bnd_lit (7 : Int32)) (by decide +kernel) (by decide +kernel)) P233_0 P233_1 P233_3 S_COMPACT_STRINGS P233_2 hCS (Nat.le_trans (show 4 ≤ r234.length ∧ r234.length ≤ 7 by rw [hr234]; exact (own_len_app (own_len_app (own_len_app (own_len_lit (l := []) (n := 0) rfl) (own_len_lit (l := [((i0 &&& (255 : Int32)).toInt8.toInt32), (r201.toInt8.toInt32)]) (n := 2) rfl)) (own_len_lit (l := [(58 : Int32), (32 : Int32)]) (n := 2) rfl)) (own_len_le (cs_rm1_1_short v2 (i1 &&& (255 : Int32)) r203 r204)))).2 (by decide)) S_SIOOBE_FORMATTER isr_sv_SIOOBE_FORMATTER q242 q246 (bnd_and i0 (255 : Int32) (by decide)) br201 br202 (bnd_and i1 (255 : Int32) (by decide)) br203 br204) e272 rfl (by rw [hml]; rfl) (argsL := [(.ref b1_14_233), (.int (7 : Int32)), (.int (2 : Int32)), (.ref b190), (.ref b194)]) (rest := []) (lenOf own_pd32 rfl) rfl rfl (W := 0) (by exact hW0) (by decide) (by decide) (hb hby at_237) (by decide) (by decide))) fun T276 X276 e276 => ?_
             by_cases c277 : (f_rm27_2 (7 : Int32) r234 (i0 &&& (255 : Int32)) r201 r202 (i1 &&& (255 : Int32)) r203 r204) = (0 : Int32)
             ·
              refine Home.go (fun _ => XS.ifYes X276.here hx rfl (pc0 := 240) (pc' := 247) rfl (hb hby at_240) rfl ((if0 _ _).trans (teq c277).1) (by decide) (by decide)) ?_
              have bd278 : ¬ (f_rm27_2 (7 : Int32) r234 (i0 &&& (255 : Int32)) r201 r202 (i1 &&& (255 : Int32)) r203 r204) < (0 : Int32) ∧ ¬ (0 : Int32) < (f_rm27_2 (7 : Int32) r234 (i0 &&& (255 : Int32)) r201 r202 (i1 &&& (255 : Int32)) r203 r204) := ⟨(bnd_eql c277), (bnd_eqr c277)⟩
              refine Home.run X276 hx hby sg0_247_1 (pc' := 248) (L' := #[.val (.int i0), .val (.int i1), .val (.int (2 : Int32)), .val (.int v2), .val (.ref b190), .val (.ref b194), .val (.ref b1_14_233)]) (S' := [(.int (0 : Int32))]) rfl ?_
              exact J280 X276 N233 e276 _ (by simp only [if_neg c249, if_neg c253, if_neg c257, if_neg c261, if_neg c265, if_neg c269, if_neg c273, if_pos c277])
             ·
              refine Home.go (fun _ => XS.ifNo X276.here hx rfl (hb hby at_240) rfl ((if0 _ _).trans (feq c277).1)) ?_
              have bd279 : ¬ (f_rm27_2 (7 : Int32) r234 (i0 &&& (255 : Int32)) r201 r202 (i1 &&& (255 : Int32)) r203 r204) < (1 : Int32) ∧ ¬ (1 : Int32) < (f_rm27_2 (7 : Int32) r234 (i0 &&& (255 : Int32)) r201 r202 (i1 &&& (255 : Int32)) r203 r204) := ⟨(bnd_nel (f_rm27_2_bnd (7 : Int32) r234 (i0 &&& (255 : Int32)) r201 r202 (i1 &&& (255 : Int32)) r203 r204 (bnd_mono (bnd_lit (7 : Int32)) (by decide +kernel) (by decide +kernel)) (bnd_and i0 (255 : Int32) (by decide)) br201 br202 (bnd_and i1 (255 : Int32) (by decide)) br203 br204).1 c277 (by decide +kernel)), (f_rm27_2_bnd (7 : Int32) r234 (i0 &&& (255 : Int32)) r201 r202 (i1 &&& (255 : Int32)) r203 r204 (bnd_mono (bnd_lit (7 : Int32)) (by decide +kernel) (by decide +kernel)) (bnd_and i0 (255 : Int32) (by decide)) br201 br202 (bnd_and i1 (255 : Int32) (by decide)) br203 br204).2⟩
              refine Home.run X276 hx hby sg0_243_2 (pc' := 248) (L' := #[.val (.int i0), .val (.int i1), .val (.int (2 : Int32)), .val (.int v2), .val (.ref b190), .val (.ref b194), .val (.ref b1_14_233)]) (S' := [(.int (1 : Int32))]) rfl ?_
              exact J280 X276 N233 e276 _ (by simp only [if_neg c249, if_neg c253, if_neg c257, if_neg c261, if_neg c265, if_neg c269, if_neg c273, if_neg c277])
     intro TJ280 lcJ280 XJ280 NJ280 eJ280 v281 hv281
     have bv281 : ¬ v281 < (0 : Int32) ∧ ¬ (1 : Int32) < v281 := by rw [hv281]; exact (bnd_ite (bnd_mono (bnd_lit (0 : Int32)) (by decide +kernel) (by decide +kernel)) (bnd_ite (bnd_mono (bnd_lit (0 : Int32)) (by decide +kernel) (by decide +kernel)) (bnd_ite (bnd_mono (bnd_lit (0 : Int32)) (by decide +kernel) (by decide +kernel)) (bnd_ite (bnd_mono (bnd_lit (0 : Int32)) (by decide +kernel) (by decide +kernel)) (bnd_ite (bnd_mono (bnd_lit (0 : Int32)) (by decide +kernel) (by decide +kernel)) (bnd_ite (bnd_mono (bnd_lit (0 : Int32)) (by decide +kernel) (by decide +kernel)) (bnd_ite (bnd_mono (bnd_lit (0 : Int32)) (by decide +kernel) (by decide +kernel)) (bnd_ite (bnd_mono (bnd_lit (0 : Int32)) (by decide +kernel) (by decide +kernel)) (bnd_mono (bnd_lit (1 : Int32)) (by decide +kernel) (by decide +kernel))))))))))
     show Home TJ280 (mkF m 248 #[.val (.int i0), .val (.int i1), .val (.int (2 : Int32)), .val (.int v2), .val (.ref b190), .val (.ref b194), .val (.ref b1_14_233)] [(.int v281)])
     exact HomeW.retN XJ280 hx hlk hZ (own_hEL hw) eJ280 Ce233 (t := .boolean) hret (by simp) (hb hby at_248) ⟨congrArg some (congrArg Value.int (own_end4 i0 i1 sv_COMPACT_STRINGS v1 hv1 v2 hv2 r201 hr201 r202 hr202 r203 hr203 r204 hr204 r234 hr234 r248 hr248 v281 hv281 c3 c89 c185 c236)), NJ280⟩ (by decide) (by decide)
    ·
     refine Home.go (fun _ => XS.icmpNo X235.here hx rfl (hb hby at_124) rfl (feq c236).1) ?_
     refine Home.run X235 hx hby sg0_127_1 (pc' := 128) (L' := #[.val (.int i0), .val (.int i1), .val (.int (2 : Int32)), .val (.int v2), .val (.ref b190), .val (.ref b194), .val (.ref b1_14_233)]) (S' := [(.int (0 : Int32))]) rfl ?_
     exact HomeW.retN X235 hx hlk hZ (own_hEL hw) e235 Ce233 (t := .boolean) hret (by simp) (hb hby at_128) ⟨congrArg some (congrArg Value.int (own_end5 i0 i1 sv_COMPACT_STRINGS v1 hv1 v2 hv2 r201 hr201 r202 hr202 r203 hr203 r204 hr204 r234 hr234 c3 c89 c185 c236)), N233⟩ (by decide) (by decide)
   ·
    have bd188 : ¬ v1 < (3 : Int32) ∧ ¬ (3 : Int32) < v1 := ⟨(bnd_nel bd92.1 c185 (by decide +kernel)), bd92.2⟩
    have fx189 : v1 = (3 : Int32) := bnd_fix bd188
    try rw [fx189]
    show Home s₁ (mkF m 14 #[.val (.int i0), .val (.int i1), .val (.int (3 : Int32)), .val (.int v2), .unset, .unset, .unset] [])
    refine Home.run X0 hx hby sg0_14_1 (pc' := 15) (L' := #[.val (.int i0), .val (.int i1), .val (.int (3 : Int32)), .val (.int v2), .unset, .unset, .unset]) (S' := [(.int (3 : Int32))]) rfl ?_
    refine Home.na (own_newP (aty := .char) X0 hx hZ (own_w0 hw) e0 (g := (mkF m 15 #[.val (.int i0), .val (.int i1), .val (.int (3 : Int32)), .val (.int v2), .unset, .unset, .unset] [(.int (3 : Int32))])) rfl (hb hby at_15) rfl (by decide) (cap := 3) (by decide) (by decide) (by decide) (by decide)) fun T282 h282 k282 b282 g282 X282 e282 E282 A282 => ?_
    have g_b282 : n0 ≤ b282 := Nat.le_trans (Old.le O0) (Nat.le_of_eq g282.symm)
    have V282 : Arv Z h282 b282 k282 .char (3 : Int32) [(.int (0 : Int32)), (.int (0 : Int32)), (.int (0 : Int32))] (.int (0 : Int32)) := (Arv.new A282 (by decide)).pad (pad_rep [] (.int (0 : Int32)) 3)
    have O282 := O0.ext E282
    have K282 : Keep h0 h282 ([] : List Addr) := Keep.ext (Keep.refl h0 ([] : List Addr)) E282
    have Cd282 := Cold.ext Cd0 E282
    refine Home.run X282 hx hby sg0_17_6 (pc' := 25) (L' := #[.val (.int i0), .val (.int i1), .val (.int (3 : Int32)), .val (.int v2), .unset, .unset, .unset]) (S' := [(.int ((i0 &&& (255 : Int32)).toUInt32.toUInt16.toUInt32.toInt32)), (.int (0 : Int32)), (.ref b282), (.ref b282)]) rfl ?_
    rw [i2c_id (bnd_and i0 (255 : Int32) (by decide)) (by decide +kernel) (by decide +kernel)]
    obtain ⟨cl283, Ar283, q283, S283, M283, H283, G283⟩ := id V282
    refine Home.wr (stC X282 hx hZ e282 Ar283 (j := (0 : Int32)) (inb_of S283 ⟨by decide, by decide⟩) rfl rfl (hb hby at_25)) fun T283 h283 X283 e283 W283 => ?_
    have W283' := Wr.to W283 (congrArg Value.int (nar_char_id (bnd_and i0 (255 : Int32) (by decide)) (by decide +kernel) (by decide +kernel)))
    have V283 : Arv Z h283 b282 k282 .char (3 : Int32) [(.int (i0 &&& (255 : Int32))), (.int (0 : Int32)), (.int (0 : Int32))] (.int (0 : Int32)) := Arv.set Ar283 q283 S283 M283 H283 G283 (fits_char_b (bnd_and i0 (255 : Int32) (by decide)) (by decide +kernel) (by decide +kernel)) W283' 0 rfl (Nat.le_of_ble_eq_true rfl)
    have O283 := O282.wr W283 g_b282
    have K283 : Keep h0 h283 ([] : List Addr) := Keep.wr K282 W283 (Or.inr (Nat.le_trans (Nat.le_refl _) (Nat.le_of_eq g282.symm)))
    have Cd283 := Cold.wr Cd282 W283 (Safe.arv hZ.alike V282 (by simp))
    have N283 := Fr.snoc X283 N0 g_b282
    show Home T283 (mkF m 26 #[.val (.int i0), .val (.int i1), .val (.int (3 : Int32)), .val (.int v2), .unset, .unset, .unset] [(.ref b282)])
    refine Home.run X283 hx hby sg0_26_8 (pc' := 37) (L' := #[.val (.int i0), .val (.int i1), .val (.int (3 : Int32)), .val (.int v2), .unset, .unset, .unset]) (S' := [(.int ((((i0.toUInt32 >>> ((8 : Int32) &&& 31).toUInt32).toInt32) &&& (255 : Int32)).toUInt32.toUInt16.toUInt32.toInt32)), (.int (1 : Int32)), (.ref b282), (.ref b282)]) rfl ?_
    rw [i2c_id (bnd_and ((i0.toUInt32 >>> ((8 : Int32) &&& 31).toUInt32).toInt32) (255 : Int32) (by decide)) (by decide +kernel) (by decide +kernel)]
    obtain ⟨cl284, Ar284, q284, S284, M284, H284, G284⟩ := id V283
    refine Home.wr (stC X283 hx hZ e283 Ar284 (j := (1 : Int32)) (inb_of S284 ⟨by decide, by decide⟩) rfl rfl (hb hby at_37)) fun T284 h284 X284 e284 W284 => ?_
    have W284' := Wr.to W284 (congrArg Value.int (nar_char_id (bnd_and ((i0.toUInt32 >>> ((8 : Int32) &&& 31).toUInt32).toInt32) (255 : Int32) (by decide)) (by decide +kernel) (by decide +kernel)))
    have V284 : Arv Z h284 b282 k282 .char (3 : Int32) [(.int (i0 &&& (255 : Int32))), (.int (((i0.toUInt32 >>> ((8 : Int32) &&& 31).toUInt32).toInt32) &&& (255 : Int32))), (.int (0 : Int32))] (.int (0 : Int32)) := Arv.set Ar284 q284 S284 M284 H284 G284 (fits_char_b (bnd_and ((i0.toUInt32 >>> ((8 : Int32) &&& 31).toUInt32).toInt32) (255 : Int32) (by decide)) (by decide +kernel) (by decide +kernel)) W284' 1 rfl (Nat.le_of_ble_eq_true rfl)
    have O284 := O283.wr W284 g_b282
    have K284 : Keep h0 h284 ([] : List Addr) := Keep.wr K283 W284 (Or.inr (Nat.le_trans (Nat.le_refl _) (Nat.le_of_eq g282.symm)))
    have Cd284 := Cold.wr Cd283 W284 (Safe.arv hZ.alike V283 (by simp))
    have N284 := Fr.snoc X284 N283 g_b282
    show Home T284 (mkF m 38 #[.val (.int i0), .val (.int i1), .val (.int (3 : Int32)), .val (.int v2), .unset, .unset, .unset] [(.ref b282)])
    refine Home.run X284 hx hby sg0_38_8 (pc' := 49) (L' := #[.val (.int i0), .val (.int i1), .val (.int (3 : Int32)), .val (.int v2), .unset, .unset, .unset]) (S' := [(.int ((((i0.toUInt32 >>> ((16 : Int32) &&& 31).toUInt32).toInt32) &&& (255 : Int32)).toUInt32.toUInt16.toUInt32.toInt32)), (.int (2 : Int32)), (.ref b282), (.ref b282)]) rfl ?_
    rw [i2c_id (bnd_and ((i0.toUInt32 >>> ((16 : Int32) &&& 31).toUInt32).toInt32) (255 : Int32) (by decide)) (by decide +kernel) (by decide +kernel)]
    obtain ⟨cl285, Ar285, q285, S285, M285, H285, G285⟩ := id V284
    refine Home.wr (stC X284 hx hZ e284 Ar285 (j := (2 : Int32)) (inb_of S285 ⟨by decide, by decide⟩) rfl rfl (hb hby at_49)) fun T285 h285 X285 e285 W285 => ?_
    have W285' := Wr.to W285 (congrArg Value.int (nar_char_id (bnd_and ((i0.toUInt32 >>> ((16 : Int32) &&& 31).toUInt32).toInt32) (255 : Int32) (by decide)) (by decide +kernel) (by decide +kernel)))
    have V285 : Arv Z h285 b282 k282 .char (3 : Int32) [(.int (i0 &&& (255 : Int32))), (.int (((i0.toUInt32 >>> ((8 : Int32) &&& 31).toUInt32).toInt32) &&& (255 : Int32))), (.int (((i0.toUInt32 >>> ((16 : Int32) &&& 31).toUInt32).toInt32) &&& (255 : Int32)))] (.int (0 : Int32)) := Arv.set Ar285 q285 S285 M285 H285 G285 (fits_char_b (bnd_and ((i0.toUInt32 >>> ((16 : Int32) &&& 31).toUInt32).toInt32) (255 : Int32) (by decide)) (by decide +kernel) (by decide +kernel)) W285' 2 rfl (Nat.le_of_ble_eq_true rfl)
    have O285 := O284.wr W285 g_b282
    have K285 : Keep h0 h285 ([] : List Addr) := Keep.wr K284 W285 (Or.inr (Nat.le_trans (Nat.le_refl _) (Nat.le_of_eq g282.symm)))
    have Cd285 := Cold.wr Cd284 W285 (Safe.arv hZ.alike V284 (by simp))
    have N285 := Fr.snoc X285 N284 g_b282
    show Home T285 (mkF m 50 #[.val (.int i0), .val (.int i1), .val (.int (3 : Int32)), .val (.int v2), .unset, .unset, .unset] [(.ref b282)])
    refine Home.run X285 hx hby sg0_50_2 (pc' := 53) (L' := #[.val (.int i0), .val (.int i1), .val (.int (3 : Int32)), .val (.int v2), .val (.ref b282), .unset, .unset]) (S' := [(.int (3 : Int32))]) rfl ?_
    refine Home.na (own_newP (aty := .char) X285 hx hZ (own_w0 hw) e285 (g := (mkF m 53 #[.val (.int i0), .val (.int i1), .val (.int (3 : Int32)), .val (.int v2), .val (.ref b282), .unset, .unset] [(.int (3 : Int32))])) rfl (hb hby at_53) rfl (by decide) (cap := 3) (by decide) (by decide) (by decide) (by decide)) fun T286 h286 k286 b286 g286 X286 e286 E286 A286 => ?_
    have g_b286 : n0 ≤ b286 := Nat.le_trans (Old.le O285) (Nat.le_of_eq g286.symm)
    have V286 : Arv Z h286 b286 k286 .char (3 : Int32) [(.int (0 : Int32)), (.int (0 : Int32)), (.int (0 : Int32))] (.int (0 : Int32)) := (Arv.new A286 (by decide)).pad (pad_rep [] (.int (0 : Int32)) 3)
    have O286 := O285.ext E286
    have K286 : Keep h0 h286 ([] : List Addr) := Keep.ext K285 E286
    have Cd286 := Cold.ext Cd285 E286
    refine Home.run X286 hx hby sg0_55_6 (pc' := 63) (L' := #[.val (.int i0), .val (.int i1), .val (.int (3 : Int32)), .val (.int v2), .val (.ref b282), .unset, .unset]) (S' := [(.int ((i1 &&& (255 : Int32)).toUInt32.toUInt16.toUInt32.toInt32)), (.int (0 : Int32)), (.ref b286), (.ref b286)]) rfl ?_
    rw [i2c_id (bnd_and i1 (255 : Int32) (by decide)) (by decide +kernel) (by decide +kernel)]
    obtain ⟨cl287, Ar287, q287, S287, M287, H287, G287⟩ := id V286
    refine Home.wr (stC X286 hx hZ e286 Ar287 (j := (0 : Int32)) (inb_of S287 ⟨by decide, by decide⟩) rfl rfl (hb hby at_63)) fun T287 h287 X287 e287 W287 => ?_
    have W287' := Wr.to W287 (congrArg Value.int (nar_char_id (bnd_and i1 (255 : Int32) (by decide)) (by decide +kernel) (by decide +kernel)))
    have V287 : Arv Z h287 b286 k286 .char (3 : Int32) [(.int (i1 &&& (255 : Int32))), (.int (0 : Int32)), (.int (0 : Int32))] (.int (0 : Int32)) := Arv.set Ar287 q287 S287 M287 H287 G287 (fits_char_b (bnd_and i1 (255 : Int32) (by decide)) (by decide +kernel) (by decide +kernel)) W287' 0 rfl (Nat.le_of_ble_eq_true rfl)
    have O287 := O286.wr W287 g_b286
    have le288 : h0.size ≤ h283.size := Nat.le_trans E282.1 (Nat.le_of_eq W283.size.symm)
    have le289 : h0.size ≤ h284.size := Nat.le_trans le288 (Nat.le_of_eq W284.size.symm)
    have le290 : h0.size ≤ h285.size := Nat.le_trans le289 (Nat.le_of_eq W285.size.symm)
    have K287 : Keep h0 h287 ([] : List Addr) := Keep.wr K286 W287 (Or.inr (Nat.le_trans le290 (Nat.le_of_eq g286.symm)))
    have Cd287 := Cold.wr Cd286 W287 (Safe.arv hZ.alike V286 (by simp))
    have N287 := Fr.snoc X287 N285 g_b286
    show Home T287 (mkF m 64 #[.val (.int i0), .val (.int i1), .val (.int (3 : Int32)), .val (.int v2), .val (.ref b282), .unset, .unset] [(.ref b286)])
    refine Home.run X287 hx hby sg0_64_8 (pc' := 75) (L' := #[.val (.int i0), .val (.int i1), .val (.int (3 : Int32)), .val (.int v2), .val (.ref b282), .unset, .unset]) (S' := [(.int ((((i1.toUInt32 >>> ((8 : Int32) &&& 31).toUInt32).toInt32) &&& (255 : Int32)).toUInt32.toUInt16.toUInt32.toInt32)), (.int (1 : Int32)), (.ref b286), (.ref b286)]) rfl ?_
    rw [i2c_id (bnd_and ((i1.toUInt32 >>> ((8 : Int32) &&& 31).toUInt32).toInt32) (255 : Int32) (by decide)) (by decide +kernel) (by decide +kernel)]
    obtain ⟨cl291, Ar291, q291, S291, M291, H291, G291⟩ := id V287
    refine Home.wr (stC X287 hx hZ e287 Ar291 (j := (1 : Int32)) (inb_of S291 ⟨by decide, by decide⟩) rfl rfl (hb hby at_75)) fun T291 h291 X291 e291 W291 => ?_
    have W291' := Wr.to W291 (congrArg Value.int (nar_char_id (bnd_and ((i1.toUInt32 >>> ((8 : Int32) &&& 31).toUInt32).toInt32) (255 : Int32) (by decide)) (by decide +kernel) (by decide +kernel)))
    have V291 : Arv Z h291 b286 k286 .char (3 : Int32) [(.int (i1 &&& (255 : Int32))), (.int (((i1.toUInt32 >>> ((8 : Int32) &&& 31).toUInt32).toInt32) &&& (255 : Int32))), (.int (0 : Int32))] (.int (0 : Int32)) := Arv.set Ar291 q291 S291 M291 H291 G291 (fits_char_b (bnd_and ((i1.toUInt32 >>> ((8 : Int32) &&& 31).toUInt32).toInt32) (255 : Int32) (by decide)) (by decide +kernel) (by decide +kernel)) W291' 1 rfl (Nat.le_of_ble_eq_true rfl)
    have O291 := O287.wr W291 g_b286
    have K291 : Keep h0 h291 ([] : List Addr) := Keep.wr K287 W291 (Or.inr (Nat.le_trans le290 (Nat.le_of_eq g286.symm)))
    have Cd291 := Cold.wr Cd287 W291 (Safe.arv hZ.alike V287 (by simp))
    have N291 := Fr.snoc X291 N287 g_b286
    show Home T291 (mkF m 76 #[.val (.int i0), .val (.int i1), .val (.int (3 : Int32)), .val (.int v2), .val (.ref b282), .unset, .unset] [(.ref b286)])
    refine Home.run X291 hx hby sg0_76_8 (pc' := 87) (L' := #[.val (.int i0), .val (.int i1), .val (.int (3 : Int32)), .val (.int v2), .val (.ref b282), .unset, .unset]) (S' := [(.int ((((i1.toUInt32 >>> ((16 : Int32) &&& 31).toUInt32).toInt32) &&& (255 : Int32)).toUInt32.toUInt16.toUInt32.toInt32)), (.int (2 : Int32)), (.ref b286), (.ref b286)]) rfl ?_
    rw [i2c_id (bnd_and ((i1.toUInt32 >>> ((16 : Int32) &&& 31).toUInt32).toInt32) (255 : Int32) (by decide)) (by decide +kernel) (by decide +kernel)]
    obtain ⟨cl292, Ar292, q292, S292, M292, H292, G292⟩ := id V291
    refine Home.wr (stC X291 hx hZ e291 Ar292 (j := (2 : Int32)) (inb_of S292 ⟨by decide, by decide⟩) rfl rfl (hb hby at_87)) fun T292 h292 X292 e292 W292 => ?_
    have W292' := Wr.to W292 (congrArg Value.int (nar_char_id (bnd_and ((i1.toUInt32 >>> ((16 : Int32) &&& 31).toUInt32).toInt32) (255 : Int32) (by decide)) (by decide +kernel) (by decide +kernel)))
    have V292 : Arv Z h292 b286 k286 .char (3 : Int32) [(.int (i1 &&& (255 : Int32))), (.int (((i1.toUInt32 >>> ((8 : Int32) &&& 31).toUInt32).toInt32) &&& (255 : Int32))), (.int (((i1.toUInt32 >>> ((16 : Int32) &&& 31).toUInt32).toInt32) &&& (255 : Int32)))] (.int (0 : Int32)) := Arv.set Ar292 q292 S292 M292 H292 G292 (fits_char_b (bnd_and ((i1.toUInt32 >>> ((16 : Int32) &&& 31).toUInt32).toInt32) (255 : Int32) (by decide)) (by decide +kernel) (by decide +kernel)) W292' 2 rfl (Nat.le_of_ble_eq_true rfl)
    have O292 := O291.wr W292 g_b286
    have K292 : Keep h0 h292 ([] : List Addr) := Keep.wr K291 W292 (Or.inr (Nat.le_trans le290 (Nat.le_of_eq g286.symm)))
    have Cd292 := Cold.wr Cd291 W292 (Safe.arv hZ.alike V291 (by simp))
    have N292 := Fr.snoc X292 N291 g_b286
    show Home T292 (mkF m 88 #[.val (.int i0), .val (.int i1), .val (.int (3 : Int32)), .val (.int v2), .val (.ref b282), .unset, .unset] [(.ref b286)])
    refine Home.run X292 hx hby sg0_88_1 (pc' := 90) (L' := #[.val (.int i0), .val (.int i1), .val (.int (3 : Int32)), .val (.int v2), .val (.ref b282), .val (.ref b286), .unset]) (S' := []) rfl ?_
    obtain ⟨r293, hr293⟩ : ∃ z, z = (((i0.toUInt32 >>> ((8 : Int32) &&& 31).toUInt32).toInt32) &&& (255 : Int32)) := ⟨_, rfl⟩
    rw [← hr293] at V285
    have br293 : ¬ r293 < (0 : Int32) ∧ ¬ (255 : Int32) < r293 := by rw [hr293]; exact (bnd_and ((i0.toUInt32 >>> ((8 : Int32) &&& 31).toUInt32).toInt32) (255 : Int32) (by decide))
    obtain ⟨r294, hr294⟩ : ∃ z, z = (((i0.toUInt32 >>> ((16 : Int32) &&& 31).toUInt32).toInt32) &&& (255 : Int32)) := ⟨_, rfl⟩
    rw [← hr294] at V285
    have br294 : ¬ r294 < (0 : Int32) ∧ ¬ (255 : Int32) < r294 := by rw [hr294]; exact (bnd_and ((i0.toUInt32 >>> ((16 : Int32) &&& 31).toUInt32).toInt32) (255 : Int32) (by decide))
    obtain ⟨r295, hr295⟩ : ∃ z, z = (((i1.toUInt32 >>> ((8 : Int32) &&& 31).toUInt32).toInt32) &&& (255 : Int32)) := ⟨_, rfl⟩
    rw [← hr295] at V292
    have br295 : ¬ r295 < (0 : Int32) ∧ ¬ (255 : Int32) < r295 := by rw [hr295]; exact (bnd_and ((i1.toUInt32 >>> ((8 : Int32) &&& 31).toUInt32).toInt32) (255 : Int32) (by decide))
    obtain ⟨r296, hr296⟩ : ∃ z, z = (((i1.toUInt32 >>> ((16 : Int32) &&& 31).toUInt32).toInt32) &&& (255 : Int32)) := ⟨_, rfl⟩
    rw [← hr296] at V292
    have br296 : ¬ r296 < (0 : Int32) ∧ ¬ (255 : Int32) < r296 := by rw [hr296]; exact (bnd_and ((i1.toUInt32 >>> ((16 : Int32) &&& 31).toUInt32).toInt32) (255 : Int32) (by decide))
    refine Home.nw (own_newO X292 hx hZ hown (own_w1 hw) (own_w2 hw) (own_w3 hw) e292 rfl (hb hby at_90) (by decide) (by decide)) fun T297 h297 b297 g297 X297 e297 E297 A297 D297 => ?_
    have g_b297 : n0 ≤ b297 := Nat.le_trans (Old.le O292) (Nat.le_of_eq g297.symm)
    have F_where_b297 : Fld Z h297 b297 "com/example/wary_meter/warymeter/Refusal" "where" "Ljava/lang/String;" .null := D297 (Or.inr (own_w28 hw)) (ty := (.object "java/lang/String")) (by decide)
    have F_problem_b297 : Fld Z h297 b297 "com/example/wary_meter/warymeter/Refusal" "problem" "Ljava/lang/String;" .null := D297 (Or.inr (own_w30 hw)) (ty := (.object "java/lang/String")) (by decide)
    have O297 := O292.ext E297
    have K297 : Keep h0 h297 ([] : List Addr) := Keep.ext K292 E297
    have Cd297 := Cold.ext Cd292 E297
    show Home T297 (mkF m 93 #[.val (.int i0), .val (.int i1), .val (.int (3 : Int32)), .val (.int v2), .val (.ref b282), .val (.ref b286), .unset] [(.ref b297)])
    refine Home.run X297 hx hby sg0_93_3 (pc' := 97) (L' := #[.val (.int i0), .val (.int i1), .val (.int (3 : Int32)), .val (.int v2), .val (.ref b282), .val (.ref b286), .unset]) (S' := [(.ref b282), (.int (3 : Int32)), (.ref b297), (.ref b297)]) rfl ?_
    have le298 : h282.size ≤ h284.size := Nat.le_trans (Nat.le_of_eq W283.size.symm) (Nat.le_of_eq W284.size.symm)
    have le299 : h282.size ≤ h285.size := Nat.le_trans le298 (Nat.le_of_eq W285.size.symm)
    have ne300 : b282 ≠ b286 := (Nat.ne_of_lt (Nat.lt_of_lt_of_le V282.lt (Nat.le_trans le299 (Nat.le_of_eq g286.symm))))
    have q301 := (((((V285.ext E286).other W287 ne300).other W291 ne300).other W292 ne300).ext E297)
    refine Home.call (own_static X297 hx hZ hown (own_w4 hw) (own_w5 hw) (own_w6 hw) (own_w7 hw) (by decide) (rm1_4 l Z a0 hw [] b282 k282 (i0 &&& (255 : Int32)) r293 r294 sv_COMPACT_STRINGS h297 n0 O297 q301 (bnd_and i0 (255 : Int32) (by decide)) br293 br294 S_COMPACT_STRINGS hCS) e297 rfl (by rw [hml]; rfl) (argsL := [(.int (3 : Int32)), (.ref b282)]) (rest := [(.ref b297), (.ref b297)]) (lenOf own_pd0 rfl) rfl rfl (W := 2) (by exact hW0) (by decide) (by decide) (hb hby at_97) (by decide) (by decide)) ?_
    rintro _ T302 L302 X302 ⟨b1_302, b1_3_2_13_302, k1_3_2_13_302, rfl, N302q, sz_b1_302, sz_b1_3_2_13_302, K302q, P302_0, P302_1, P302_2, P302_3⟩
    have Cd302 := Cold.keep Cd297 K302q all0
    have Cd302b1_302 := Cold.put Cd302 ⟨Safe.keep K302q all0 Cd297.2.1.1 (Safe.new sz_b1_302), P302_0.lt⟩
    have Cd302b1_3_2_13_302 := Cold.put Cd302b1_302 ⟨Safe.keep K302q all0 Cd297.2.1.1 (Safe.new sz_b1_3_2_13_302), P302_3.lt⟩
    have g_b1_302 : n0 ≤ b1_302 := Nat.le_trans (Old.le O297) sz_b1_302
    have g_b1_3_2_13_302 : n0 ≤ b1_3_2_13_302 := Nat.le_trans (Old.le O297) sz_b1_3_2_13_302
    have O302 := Old.keep O297 K302q all0
    have K302 : Keep h0 T302.heap ([] : List Addr) := Keep.trans K297 K302q all0
    have N302 := Fr.app N292 N302q
    show Home T302 (mkF m 100 #[.val (.int i0), .val (.int i1), .val (.int (3 : Int32)), .val (.int v2), .val (.ref b282), .val (.ref b286), .unset] [(.ref b1_302), (.ref b297), (.ref b297)])
    refine Home.run X302 hx hby sg0_100_2 (pc' := 103) (L' := #[.val (.int i0), .val (.int i1), .val (.int (3 : Int32)), .val (.int v2), .val (.ref b282), .val (.ref b286), .unset]) (S' := [(.ref b286), (.int v2), (.ref b1_302), (.ref b297), (.ref b297)]) rfl ?_
    have q303 := ((V292.ext E297).keep K302q nin0)
    refine Home.call (own_staticW X302 hx hZ hown (own_hEL hw) Cd302b1_3_2_13_302 all0 (own_w4 hw) (own_w5 hw) (own_w6 hw) (own_w7 hw) (by decide) (rm1_1 l Z a0 hw [] v2 b286 k286 (i1 &&& (255 : Int32)) r295 r296 sv_COMPACT_STRINGS T302.heap n0 O302 bv2 q303 S_COMPACT_STRINGS (bnd_and i1 (255 : Int32) (by decide)) hCS br295 br296) rfl rfl (by rw [hml]; rfl) (argsL := [(.int v2), (.ref b286)]) (rest := [(.ref b1_302), (.ref b297), (.ref b297)]) (lenOf own_pd0 rfl) rfl rfl (W := 3) (by exact hW0) (by decide) (by decide) (hb hby at_103) (by decide) (by decide)) ?_
    rintro _ T304 L304 X304 ⟨⟨rs_304, rb_304, rk_304, rfl, N304q, K304q, P304_0, P304_1, P304_2, P304_3⟩, hZ, hown, Cd304, sR304⟩
    have O304 := Old.keep O302 K304q all0
    have K304 : Keep h0 T304.heap ([] : List Addr) := Keep.trans K302 K304q all0
    have N304 := Fr.app N302 N304q
    have q305 := ((A297.keep K302q).keep K304q)
    have q306 := ((F_where_b297.keep K302q nin0).keep K304q nin0)
    have q307 := ((F_problem_b297.keep K302q nin0).keep K304q nin0)
    refine Home.call (own_special X304 hx hZ hown rfl (own_w16 hw) (own_w17 hw) (own_w3 hw) (own_w18 hw) (by decide) (rm2_0 l Z a0 hw [] b297 b1_302 rs_304 T304.heap n0 O304 q305 q306 g_b297 q307) rfl rfl (by rw [hml]; rfl) (a := b297) (argsL := [(.ref b1_302), (.ref rs_304)]) (rest := [(.ref b297)]) (lenOf own_pd11 rfl) rfl rfl (W := 1) (by exact hW0) (by decide) (by decide) (hb hby at_106) (by decide) (by decide)) ?_
    rintro _ T308 L308 X308 ⟨rfl, N308q, K308q, P308_0, P308_1, P308_2⟩
    have Cd308 := Cold.keep Cd304 K308q (allS (Safe.exa hZ.alike q305 (by decide) (by decide)) all0)
    have le309 : h0.size ≤ h286.size := Nat.le_trans le290 E286.1
    have le310 : h0.size ≤ h287.size := Nat.le_trans le309 (Nat.le_of_eq W287.size.symm)
    have le311 : h0.size ≤ h291.size := Nat.le_trans le310 (Nat.le_of_eq W291.size.symm)
    have le312 : h0.size ≤ h292.size := Nat.le_trans le311 (Nat.le_of_eq W292.size.symm)
    have O308 := Old.keep O304 K308q (allS g_b297 all0)
    have K308 : Keep h0 T308.heap ([] : List Addr) := Keep.trans K304 K308q (allS (Or.inr (Nat.le_trans le312 (Nat.le_of_eq g297.symm))) all0)
    have N308 := Fr.app N304 N308q
    show Home T308 (mkF m 109 #[.val (.int i0), .val (.int i1), .val (.int (3 : Int32)), .val (.int v2), .val (.ref b282), .val (.ref b286), .unset] [(.ref b297)])
    have q313 := ((P302_0.keep K304q).keep K308q)
    have ne314 : b1_302 ≠ b297 := (Ne.symm (Nat.ne_of_lt (Nat.lt_of_lt_of_le A297.lt (Nat.le_trans (Nat.le_refl _) sz_b1_302))))
    have q315 := ((P302_1.keep K304q nin0).keep K308q (ninS ne314 nin0))
    have ne316 : b1_3_2_13_302 ≠ b297 := (Ne.symm (Nat.ne_of_lt (Nat.lt_of_lt_of_le A297.lt (Nat.le_trans (Nat.le_refl _) sz_b1_3_2_13_302))))
    have q317 := ((P302_3.keep K304q nin0).keep K308q (ninS ne316 nin0))
    have q318 := ((P302_2.keep K304q nin0).keep K308q (ninS ne314 nin0))
    have q319 := (P304_0.keep K308q)
    have ne320 : rs_304 ≠ b297 := (ne_exa q319 P308_0 (by decide))
    have q321 := (P304_2.keep K308q (ninS ne320 nin0))
    have ne322 : rb_304 ≠ b297 := (Ne.symm (own_neAV ((A297.keep K302q).keep K304q) (own_w2 hw) P304_3))
    have q323 := (P304_3.keep K308q (ninS ne322 nin0))
    have q324 := (P304_1.keep K308q (ninS ne320 nin0))
    refine Home.call (own_virtualW X308 hx hZ hown (own_hEL hw) Cd308 all0 (own_w31 hw) (own_w32 hw) (notFace_of_selects (args := #[]) (mvT hZ (own_w34 hw))) (own_w34 hw) (own_w33 hw) (own_w3 hw) (own_w35 hw) (by decide) (rm5_0 l Z a0 hw [] b297 sv_COMPACT_STRINGS b1_302 b1_3_2_13_302 k1_3_2_13_302 [((i0 &&& (255 : Int32)).toInt8.toInt32), (r293.toInt8.toInt32), (r294.toInt8.toInt32)] rs_304 rb_304 rk_304 (cs_rm1_1 v2 (i1 &&& (255 : Int32)) r295 r296) T308.heap n0 O308 S_COMPACT_STRINGS hCS P308_1 q313 q315 q317 q318 (Nat.le_trans (own_len_lit (l := [((i0 &&& (255 : Int32)).toInt8.toInt32), (r293.toInt8.toInt32), (r294.toInt8.toInt32)]) (n := 3) rfl).2 (by decide)) P308_2 q319 q321 q323 q324 (cs_rm1_1_short v2 (i1 &&& (255 : Int32)) r295 r296)) rfl P308_0 rfl (by rw [hml]; rfl) (argsL := []) (rest := []) (lenOf own_pd27 rfl) rfl rfl (W := 0) (by exact hW0) (by decide) (by decide) (hb hby at_109) (by decide) (by decide)) ?_
    rintro _ T325 L325 X325 ⟨⟨b1_14_325, b2_2_8_1_2_14_325, k2_2_8_1_2_14_325, rfl, N325q, sz_b1_14_325, sz_b2_2_8_1_2_14_325, K325q, P325_0, P325_1, P325_2, P325_3⟩, hZ, hown, Cd325, sR325⟩
    have Ce325 := Cold.put Cd325 (sR325 rfl _ rfl)
    have g_b1_14_325 : n0 ≤ b1_14_325 := Nat.le_trans (Old.le O308) sz_b1_14_325
    have g_b2_2_8_1_2_14_325 : n0 ≤ b2_2_8_1_2_14_325 := Nat.le_trans (Old.le O308) sz_b2_2_8_1_2_14_325
    have O325 := Old.keep O308 K325q all0
    have K325 : Keep h0 T325.heap ([] : List Addr) := Keep.trans K308 K325q all0
    have N325 := Fr.app N308 N325q
    show Home T325 (mkF m 112 #[.val (.int i0), .val (.int i1), .val (.int (3 : Int32)), .val (.int v2), .val (.ref b282), .val (.ref b286), .unset] [(.ref b1_14_325)])
    obtain ⟨r326, hr326⟩ : ∃ z, z = ((([] ++ [((i0 &&& (255 : Int32)).toInt8.toInt32), (r293.toInt8.toInt32), (r294.toInt8.toInt32)]) ++ [(58 : Int32), (32 : Int32)]) ++ (cs_rm1_1 v2 (i1 &&& (255 : Int32)) r295 r296)) := ⟨_, rfl⟩
    rw [← hr326] at P325_3
    refine Home.run X325 hx hby sg0_112_2 (pc' := 116) (L' := #[.val (.int i0), .val (.int i1), .val (.int (3 : Int32)), .val (.int v2), .val (.ref b282), .val (.ref b286), .val (.ref b1_14_325)]) (S' := [(.ref b1_14_325)]) rfl ?_
    refine Home.st (own_pure (own_virtual X325 hx hZ hown (own_w152 hw) (own_w65 hw) (notFace_of_selects (args := #[]) (mvT hZ (own_w67 hw))) (own_w67 hw) (own_w66 hw) (own_w9 hw) (own_w68 hw) (by decide) (rm10_4 l Z a0 hw [] b1_14_325 b2_2_8_1_2_14_325 k2_2_8_1_2_14_325 r326 sv_COMPACT_STRINGS T325.heap n0 O325 P325_1 P325_3 P325_0 S_COMPACT_STRINGS P325_2 hCS (Nat.le_trans (show 5 ≤ r326.length ∧ r326.length ≤ 8 by rw [hr326]; exact (own_len_app (own_len_app (own_len_app (own_len_lit (l := []) (n := 0) rfl) (own_len_lit (l := [((i0 &&& (255 : Int32)).toInt8.toInt32), (r293.toInt8.toInt32), (r294.toInt8.toInt32)]) (n := 3) rfl)) (own_len_lit (l := [(58 : Int32), (32 : Int32)]) (n := 2) rfl)) (own_len_le (cs_rm1_1_short v2 (i1 &&& (255 : Int32)) r295 r296)))).2 (by decide))) rfl P325_0 rfl (by rw [hml]; rfl) (argsL := []) (rest := []) (lenOf own_pd14 rfl) rfl rfl (W := 0) (by exact hW0) (by decide) (by decide) (hb hby at_116) (by decide) (by decide))) fun T327 X327 e327 => ?_
    refine Home.run X327 hx hby sg0_119_5 (pc' := 124) (L' := #[.val (.int i0), .val (.int i1), .val (.int (3 : Int32)), .val (.int v2), .val (.ref b282), .val (.ref b286), .val (.ref b1_14_325)]) (S' := [(.int ((5 : Int32) + v2)), (.int (own_n r326))]) rfl ?_
    by_cases c328 : (own_n r326) = ((5 : Int32) + v2)
    ·
     refine Home.go (fun _ => XS.icmpYes X327.here hx rfl (pc0 := 124) (pc' := 129) rfl (hb hby at_124) rfl (teq c328).1 (by decide) (by decide)) ?_
     refine Home.run X327 hx hby sg0_129_5 (pc' := 137) (L' := #[.val (.int i0), .val (.int i1), .val (.int (3 : Int32)), .val (.int v2), .val (.ref b282), .val (.ref b286), .val (.ref b1_14_325)]) (S' := [(.ref b286), (.ref b282), (.int (3 : Int32)), (.int (0 : Int32)), (.ref b1_14_325)]) rfl ?_
     have le329 : h282.size ≤ h286.size := Nat.le_trans le299 E286.1
     have le330 : h282.size ≤ h287.size := Nat.le_trans le329 (Nat.le_of_eq W287.size.symm)
     have le331 : h282.size ≤ h291.size := Nat.le_trans le330 (Nat.le_of_eq W291.size.symm)
     have le332 : h282.size ≤ h292.size := Nat.le_trans le331 (Nat.le_of_eq W292.size.symm)
     have ne333 : b282 ≠ b297 := (Nat.ne_of_lt (Nat.lt_of_lt_of_le V282.lt (Nat.le_trans le332 (Nat.le_of_eq g297.symm))))
     have q334 := ((((q301.keep K302q nin0).keep K304q nin0).keep K308q (ninS ne333 nin0)).keep K325q nin0)
     have le335 : h286.size ≤ h291.size := Nat.le_trans (Nat.le_of_eq W287.size.symm) (Nat.le_of_eq W291.size.symm)
     have le336 : h286.size ≤ h292.size := Nat.le_trans le335 (Nat.le_of_eq W292.size.symm)
     have ne337 : b286 ≠ b297 := (Nat.ne_of_lt (Nat.lt_of_lt_of_le V286.lt (Nat.le_trans le336 (Nat.le_of_eq g297.symm))))
     have q338 := (((q303.keep K304q nin0).keep K308q (ninS ne337 nin0)).keep K325q nin0)
     refine Home.st (own_pure (own_static X327 hx hZ hown (own_w153 hw) (own_w154 hw) (own_w6 hw) (own_w155 hw) (by decide) (rm27_3 l Z a0 hw [] b1_14_325 (0 : Int32) b282 b286 b2_2_8_1_2_14_325 k2_2_8_1_2_14_325 r326 sv_COMPACT_STRINGS sv_SIOOBE_FORMATTER k282 (i0 &&& (255 : Int32)) r293 r294 k286 (i1 &&& (255 : Int32)) r295 r296 T325.heap n0 O325 (bnd_mono (bnd_lit (0 : Int32)) (by decide +kernel) (by decide +kernel)) P325_0 P325_1 P325_3 S_COMPACT_STRINGS P325_2 hCS (Nat.le_trans (show 5 ≤ r326.length ∧ r326.length ≤ 8 by rw [hr326]; exact (own_len_app (own_len_app (own_len_app (own_len_lit (l := []) (n := 0) rfl) (own_len_lit (l := [((i0 &&& (255 : Int32)).toInt8.toInt32), (r293.toInt8.toInt32), (r294.toInt8.toInt32)]) (n := 3) rfl)) (own_len_lit (l := [(58 : Int32), (32 : Int32)]) (n := 2) rfl)) (own_len_le (cs_rm1_1_short v2 (i1 &&& (255 : Int32)) r295 r296)))).2 (by decide)) S_SIOOBE_FORMATTER isr_sv_SIOOBE_FORMATTER q334 q338 (bnd_and i0 (255 : Int32) (by decide)) br293 br294 (bnd_and i1 (255 : Int32) (by decide)) br295 br296) e327 rfl (by rw [hml]; rfl) (argsL := [(.ref b1_14_325), (.int (0 : Int32)), (.int (3 : Int32)), (.ref b282), (.ref b286)]) (rest := []) (lenOf own_pd32 rfl) rfl rfl (W := 0) (by exact hW0) (by decide) (by decide) (hb hby at_137) (by decide) (by decide))) fun T339 X339 e339 => ?_
     show Home T339 (mkF m 140 #[.val (.int i0), .val (.int i1), .val (.int (3 : Int32)), .val (.int v2), .val (.ref b282), .val (.ref b286), .val (.ref b1_14_325)] [(.int (f_rm27_3 (0 : Int32) r326 (i0 &&& (255 : Int32)) r293 r294 (i1 &&& (255 : Int32)) r295 r296))])
     obtain ⟨r340, hr340⟩ : ∃ z, z = (f_rm27_3 (0 : Int32) r326 (i0 &&& (255 : Int32)) r293 r294 (i1 &&& (255 : Int32)) r295 r296) := ⟨_, rfl⟩
     rw [← hr340]
     have br340 : ¬ r340 < (0 : Int32) ∧ ¬ (1 : Int32) < r340 := by rw [hr340]; exact f_rm27_3_bnd (0 : Int32) r326 (i0 &&& (255 : Int32)) r293 r294 (i1 &&& (255 : Int32)) r295 r296 (bnd_mono (bnd_lit (0 : Int32)) (by decide +kernel) (by decide +kernel)) (bnd_and i0 (255 : Int32) (by decide)) br293 br294 (bnd_and i1 (255 : Int32) (by decide)) br295 br296
     suffices J372 : ∀ {T : State} {lc : List Loc} (X : Stand p l e room_1 (s.setVm T325.vm) m #[(.int i0), (.int i1)] below meth c T lc 15 72) (N : Fr n0 lc) (eT : T.heap = T325.heap) (v373 : Int32) (hv373 : v373 = (if r340 = (0 : Int32) then (0 : Int32) else (if (f_rm27_3 (1 : Int32) r326 (i0 &&& (255 : Int32)) r293 r294 (i1 &&& (255 : Int32)) r295 r296) = (0 : Int32) then (0 : Int32) else (if (f_rm27_3 (2 : Int32) r326 (i0 &&& (255 : Int32)) r293 r294 (i1 &&& (255 : Int32)) r295 r296) = (0 : Int32) then (0 : Int32) else (if (f_rm27_3 (3 : Int32) r326 (i0 &&& (255 : Int32)) r293 r294 (i1 &&& (255 : Int32)) r295 r296) = (0 : Int32) then (0 : Int32) else (if (f_rm27_3 (4 : Int32) r326 (i0 &&& (255 : Int32)) r293 r294 (i1 &&& (255 : Int32)) r295 r296) = (0 : Int32) then (0 : Int32) else (if (f_rm27_3 (5 : Int32) r326 (i0 &&& (255 : Int32)) r293 r294 (i1 &&& (255 : Int32)) r295 r296) = (0 : Int32) then (0 : Int32) else (if (f_rm27_3 (6 : Int32) r326 (i0 &&& (255 : Int32)) r293 r294 (i1 &&& (255 : Int32)) r295 r296) = (0 : Int32) then (0 : Int32) else (if (f_rm27_3 (7 : Int32) r326 (i0 &&& (255 : Int32)) r293 r294 (i1 &&& (255 : Int32)) r295 r296) = (0 : Int32) then (0 : Int32) else (1 : Int32)))))))))), @Home p e below _ T (mkF m 248 #[.val (.int i0), .val (.int i1), .val (.int (3 : Int32)), .val (.int v2), .val (.ref b282), .val (.ref b286), .val (.ref b1_14_325)] [(.int v373)]) by
      by_cases c341 : r340 = (0 : Int32)
      ·
       refine Home.go (fun _ => XS.ifYes X339.here hx rfl (pc0 := 140) (pc' := 247) rfl (hb hby at_140) rfl ((if0 _ _).trans (teq c341).1) (by decide) (by decide)) ?_
       have bd342 : ¬ r340 < (0 : Int32) ∧ ¬ (0 : Int32) < r340 := ⟨(bnd_eql c341), (bnd_eqr c341)⟩
       refine Home.run X339 hx hby sg0_247_1 (pc' := 248) (L' := #[.val (.int i0), .val (.int i1), .val (.int (3 : Int32)), .val (.int v2), .val (.ref b282), .val (.ref b286), .val (.ref b1_14_325)]) (S' := [(.int (0 : Int32))]) rfl ?_
       exact J372 X339 N325 e339 _ (by simp only [if_pos c341])
      ·
       refine Home.go (fun _ => XS.ifNo X339.here hx rfl (hb hby at_140) rfl ((if0 _ _).trans (feq c341).1)) ?_
       have bd343 : ¬ r340 < (1 : Int32) ∧ ¬ (1 : Int32) < r340 := ⟨(bnd_nel br340.1 c341 (by decide +kernel)), br340.2⟩
       refine Home.run X339 hx hby sg0_143_5 (pc' := 151) (L' := #[.val (.int i0), .val (.int i1), .val (.int (3 : Int32)), .val (.int v2), .val (.ref b282), .val (.ref b286), .val (.ref b1_14_325)]) (S' := [(.ref b286), (.ref b282), (.int (3 : Int32)), (.int (1 : Int32)), (.ref b1_14_325)]) rfl ?_
       refine Home.st (own_pure (own_static X339 hx hZ hown (own_w153 hw) (own_w154 hw) (own_w6 hw) (own_w155 hw) (by decide) (rm27_3 l Z a0 hw [] b1_14_325 (1 : Int32) b282 b286 b2_2_8_1_2_14_325 k2_2_8_1_2_14_325 r326 sv_COMPACT_STRINGS sv_SIOOBE_FORMATTER k282 (i0 &&& (255 : Int32)) r293 r294 k286 (i1 &&& (255 : Int32)) r295 r296 T325.heap n0 O325 (bnd_mono (bnd_lit (1 : Int32)) (by decide +kernel) (by decide +kernel)) P325_0 P325_1 P325_3 S_COMPACT_STRINGS P325_2 hCS (Nat.le_trans (show 5 ≤ r326.length ∧ r326.length ≤ 8 by rw [hr326]; exact (own_len_app (own_len_app (own_len_app (own_len_lit (l := []) (n := 0) rfl) (own_len_lit (l := [((i0 &&& (255 : Int32)).toInt8.toInt32), (r293.toInt8.toInt32), (r294.toInt8.toInt32)]) (n := 3) rfl)) (own_len_lit (l := [(58 : Int32), (32 : Int32)]) (n := 2) rfl)) (own_len_le (cs_rm1_1_short v2 (i1 &&& (255 : Int32)) r295 r296)))).2 (by decide)) S_SIOOBE_FORMATTER isr_sv_SIOOBE_FORMATTER q334 q338 (bnd_and i0 (255 : Int32) (by decide)) br293 br294 (bnd_and i1 (255 : Int32) (by decide)) br295 br296) e339 rfl (by rw [hml]; rfl) (argsL := [(.ref b1_14_325), (.int (1 : Int32)), (.int (3 : Int32)), (.ref b282), (.ref b286)]) (rest := []) (lenOf own_pd32 rfl) rfl rfl (W := 0) (by exact hW0) (by decide) (by decide) (hb hby at_151) (by decide) (by decide))) fun T344 X344 e344 => ?_
       by_cases c345 : (f_rm27_3 (1 : Int32) r326 (i0 &&& (255 : Int32)) r293 r294 (i1 &&& (255 : Int32)) r295 r296) = (0 : Int32)
       ·
        refine Home.go (fun _ => XS.ifYes X344.here hx rfl (pc0 := 154) (pc' := 247) rfl (hb hby at_154) rfl ((if0 _ _).trans (teq c345).1) (by decide) (by decide)) ?_
        have bd346 : ¬ (f_rm27_3 (1 : Int32) r326 (i0 &&& (255 : Int32)) r293 r294 (i1 &&& (255 : Int32)) r295 r296) < (0 : Int32) ∧ ¬ (0 : Int32) < (f_rm27_3 (1 : Int32) r326 (i0 &&& (255 : Int32)) r293 r294 (i1 &&& (255 : Int32)) r295 r296) := ⟨(bnd_eql c345), (bnd_eqr c345)⟩
        refine Home.run X344 hx hby sg0_247_1 (pc' := 248) (L' := #[.val (.int i0), .val (.int i1), .val (.int (3 : Int32)), .val (.int v2), .val (.ref b282), .val (.ref b286), .val (.ref b1_14_325)]) (S' := [(.int (0 : Int32))]) rfl ?_
        exact J372 X344 N325 e344 _ (by simp only [if_neg c341, if_pos c345])
       ·
        refine Home.go (fun _ => XS.ifNo X344.here hx rfl (hb hby at_154) rfl ((if0 _ _).trans (feq c345).1)) ?_
        have bd347 : ¬ (f_rm27_3 (1 : Int32) r326 (i0 &&& (255 : Int32)) r293 r294 (i1 &&& (255 : Int32)) r295 r296) < (1 : Int32) ∧ ¬ (1 : Int32) < (f_rm27_3 (1 : Int32) r326 (i0 &&& (255 : Int32)) r293 r294 (i1 &&& (255 : Int32)) r295 r296) := ⟨(bnd_nel (f_rm27_3_bnd (1 : Int32) r326 (i0 &&& (255 : Int32)) r293 r294 (i1 &&& (255 : Int32)) r295 r296 (bnd_mono (bnd_lit (1 : Int32)) (by decide +kernel) (by decide +kernel)) (bnd_and i0 (255 : Int32) (by decide)) br293 br294 (bnd_and i1 (255 : Int32) (by decide)) br295 br296).1 c345 (by decide +kernel)), (f_rm27_3_bnd (1 : Int32) r326 (i0 &&& (255 : Int32)) r293 r294 (i1 &&& (255 : Int32)) r295 r296 (bnd_mono (bnd_lit (1 : Int32)) (by decide +kernel) (by decide +kernel)) (bnd_and i0 (255 : Int32) (by decide)) br293 br294 (bnd_and i1 (255 : Int32) (by decide)) br295 br296).2⟩
        refine Home.run X344 hx hby sg0_157_5 (pc' := 165) (L' := #[.val (.int i0), .val (.int i1), .val (.int (3 : Int32)), .val (.int v2), .val (.ref b282), .val (.ref b286), .val (.ref b1_14_325)]) (S' := [(.ref b286), (.ref b282), (.int (3 : Int32)), (.int (2 : Int32)), (.ref b1_14_325)]) rfl ?_
        refine Home.st (own_pure (own_static X344 hx hZ hown (own_w153 hw) (own_w154 hw) (own_w6 hw) (own_w155 hw) (by decide) (rm27_3 l Z a0 hw [] b1_14_325 (2 : Int32) b282 b286 b2_2_8_1_2_14_325 k2_2_8_1_2_14_325 r326 sv_COMPACT_STRINGS sv_SIOOBE_FORMATTER k282 (i0 &&& (255 : Int32)) r293 r294 k286 (i1 &&& (255 : Int32)) r295 r296 T325.heap n0 O325 (bnd_mono (bnd_lit (2 : Int32)) (by decide +kernel) (by decide +kernel)) P325_0 P325_1 P325_3 S_COMPACT_STRINGS P325_2 hCS (Nat.le_trans (show 5 ≤ r326.length ∧ r326.length ≤ 8 by rw [hr326]; exact (own_len_app (own_len_app (own_len_app (own_len_lit (l := []) (n := 0) rfl) (own_len_lit (l := [((i0 &&& (255 : Int32)).toInt8.toInt32), (r293.toInt8.toInt32), (r294.toInt8.toInt32)]) (n := 3) rfl)) (own_len_lit (l := [(58 : Int32), (32 : Int32)]) (n := 2) rfl)) (own_len_le (cs_rm1_1_short v2 (i1 &&& (255 : Int32)) r295 r296)))).2 (by decide)) S_SIOOBE_FORMATTER isr_sv_SIOOBE_FORMATTER q334 q338 (bnd_and i0 (255 : Int32) (by decide)) br293 br294 (bnd_and i1 (255 : Int32) (by decide)) br295 br296) e344 rfl (by rw [hml]; rfl) (argsL := [(.ref b1_14_325), (.int (2 : Int32)), (.int (3 : Int32)), (.ref b282), (.ref b286)]) (rest := []) (lenOf own_pd32 rfl) rfl rfl (W := 0) (by exact hW0) (by decide) (by decide) (hb hby at_165) (by decide) (by decide))) fun T348 X348 e348 => ?_
        by_cases c349 : (f_rm27_3 (2 : Int32) r326 (i0 &&& (255 : Int32)) r293 r294 (i1 &&& (255 : Int32)) r295 r296) = (0 : Int32)
        ·
         refine Home.go (fun _ => XS.ifYes X348.here hx rfl (pc0 := 168) (pc' := 247) rfl (hb hby at_168) rfl ((if0 _ _).trans (teq c349).1) (by decide) (by decide)) ?_
         have bd350 : ¬ (f_rm27_3 (2 : Int32) r326 (i0 &&& (255 : Int32)) r293 r294 (i1 &&& (255 : Int32)) r295 r296) < (0 : Int32) ∧ ¬ (0 : Int32) < (f_rm27_3 (2 : Int32) r326 (i0 &&& (255 : Int32)) r293 r294 (i1 &&& (255 : Int32)) r295 r296) := ⟨(bnd_eql c349), (bnd_eqr c349)⟩
         refine Home.run X348 hx hby sg0_247_1 (pc' := 248) (L' := #[.val (.int i0), .val (.int i1), .val (.int (3 : Int32)), .val (.int v2), .val (.ref b282), .val (.ref b286), .val (.ref b1_14_325)]) (S' := [(.int (0 : Int32))]) rfl ?_
         exact J372 X348 N325 e348 _ (by simp only [if_neg c341, if_neg c345, if_pos c349])
        ·
         refine Home.go (fun _ => XS.ifNo X348.here hx rfl (hb hby at_168) rfl ((if0 _ _).trans (feq c349).1)) ?_
         have bd351 : ¬ (f_rm27_3 (2 : Int32) r326 (i0 &&& (255 : Int32)) r293 r294 (i1 &&& (255 : Int32)) r295 r296) < (1 : Int32) ∧ ¬ (1 : Int32) < (f_rm27_3 (2 : Int32) r326 (i0 &&& (255 : Int32)) r293 r294 (i1 &&& (255 : Int32)) r295 r296) := ⟨(bnd_nel (f_rm27_3_bnd (2 : Int32) r326 (i0 &&& (255 : Int32)) r293 r294 (i1 &&& (255 : Int32)) r295 r296 (bnd_mono (bnd_lit (2 : Int32)) (by decide +kernel) (by decide +kernel)) (bnd_and i0 (255 : Int32) (by decide)) br293 br294 (bnd_and i1 (255 : Int32) (by decide)) br295 br296).1 c349 (by decide +kernel)), (f_rm27_3_bnd (2 : Int32) r326 (i0 &&& (255 : Int32)) r293 r294 (i1 &&& (255 : Int32)) r295 r296 (bnd_mono (bnd_lit (2 : Int32)) (by decide +kernel) (by decide +kernel)) (bnd_and i0 (255 : Int32) (by decide)) br293 br294 (bnd_and i1 (255 : Int32) (by decide)) br295 br296).2⟩
         refine Home.run X348 hx hby sg0_171_5 (pc' := 179) (L' := #[.val (.int i0), .val (.int i1), .val (.int (3 : Int32)), .val (.int v2), .val (.ref b282), .val (.ref b286), .val (.ref b1_14_325)]) (S' := [(.ref b286), (.ref b282), (.int (3 : Int32)), (.int (3 : Int32)), (.ref b1_14_325)]) rfl ?_
         refine Home.st (own_pure (own_static X348 hx hZ hown (own_w153 hw) (own_w154 hw) (own_w6 hw) (own_w155 hw) (by decide) (rm27_3 l Z a0 hw [] b1_14_325 (3 : Int32) b282 b286 b2_2_8_1_2_14_325 k2_2_8_1_2_14_325 r326 sv_COMPACT_STRINGS sv_SIOOBE_FORMATTER k282 (i0 &&& (255 : Int32)) r293 r294 k286 (i1 &&& (255 : Int32)) r295 r296 T325.heap n0 O325 (bnd_mono (bnd_lit (3 : Int32)) (by decide +kernel) (by decide +kernel)) P325_0 P325_1 P325_3 S_COMPACT_STRINGS P325_2 hCS (Nat.le_trans (show 5 ≤ r326.length ∧ r326.length ≤ 8 by rw [hr326]; exact (own_len_app (own_len_app (own_len_app (own_len_lit (l := []) (n := 0) rfl) (own_len_lit (l := [((i0 &&& (255 : Int32)).toInt8.toInt32), (r293.toInt8.toInt32), (r294.toInt8.toInt32)]) (n := 3) rfl)) (own_len_lit (l := [(58 : Int32), (32 : Int32)]) (n := 2) rfl)) (own_len_le (cs_rm1_1_short v2 (i1 &&& (255 : Int32)) r295 r296)))).2 (by decide)) S_SIOOBE_FORMATTER isr_sv_SIOOBE_FORMATTER q334 q338 (bnd_and i0 (255 : Int32) (by decide)) br293 br294 (bnd_and i1 (255 : Int32) (by decide)) br295 br296) e348 rfl (by rw [hml]; rfl) (argsL := [(.ref b1_14_325), (.int (3 : Int32)), (.int (3 : Int32)), (.ref b282), (.ref b286)]) (rest := []) (lenOf own_pd32 rfl) rfl rfl (W := 0) (by exact hW0) (by decide) (by decide) (hb hby at_179) (by decide) (by decide))) fun T352 X352 e352 => ?_
         by_cases c353 : (f_rm27_3 (3 : Int32) r326 (i0 &&& (255 : Int32)) r293 r294 (i1 &&& (255 : Int32)) r295 r296) = (0 : Int32)
         ·
          refine Home.go (fun _ => XS.ifYes X352.here hx rfl (pc0 := 182) (pc' := 247) rfl (hb hby at_182) rfl ((if0 _ _).trans (teq c353).1) (by decide) (by decide)) ?_
          have bd354 : ¬ (f_rm27_3 (3 : Int32) r326 (i0 &&& (255 : Int32)) r293 r294 (i1 &&& (255 : Int32)) r295 r296) < (0 : Int32) ∧ ¬ (0 : Int32) < (f_rm27_3 (3 : Int32) r326 (i0 &&& (255 : Int32)) r293 r294 (i1 &&& (255 : Int32)) r295 r296) := ⟨(bnd_eql c353), (bnd_eqr c353)⟩
          refine Home.run X352 hx hby sg0_247_1 (pc' := 248) (L' := #[.val (.int i0), .val (.int i1), .val (.int (3 : Int32)), .val (.int v2), .val (.ref b282), .val (.ref b286), .val (.ref b1_14_325)]) (S' := [(.int (0 : Int32))]) rfl ?_
          exact J372 X352 N325 e352 _ (by simp only [if_neg c341, if_neg c345, if_neg c349, if_pos c353])
         ·
          refine Home.go (fun _ => XS.ifNo X352.here hx rfl (hb hby at_182) rfl ((if0 _ _).trans (feq c353).1)) ?_
          have bd355 : ¬ (f_rm27_3 (3 : Int32) r326 (i0 &&& (255 : Int32)) r293 r294 (i1 &&& (255 : Int32)) r295 r296) < (1 : Int32) ∧ ¬ (1 : Int32) < (f_rm27_3 (3 : Int32) r326 (i0 &&& (255 : Int32)) r293 r294 (i1 &&& (255 : Int32)) r295 r296) := ⟨(bnd_nel (f_rm27_3_bnd (3 : Int32) r326 (i0 &&& (255 : Int32)) r293 r294 (i1 &&& (255 : Int32)) r295 r296 (bnd_mono (bnd_lit (3 : Int32)) (by decide +kernel) (by decide +kernel)) (bnd_and i0 (255 : Int32) (by decide)) br293 br294 (bnd_and i1 (255 : Int32) (by decide)) br295 br296).1 c353 (by decide +kernel)), (f_rm27_3_bnd (3 : Int32) r326 (i0 &&& (255 : Int32)) r293 r294 (i1 &&& (255 : Int32)) r295 r296 (bnd_mono (bnd_lit (3 : Int32)) (by decide +kernel) (by decide +kernel)) (bnd_and i0 (255 : Int32) (by decide)) br293 br294 (bnd_and i1 (255 : Int32) (by decide)) br295 br296).2⟩
          refine Home.run X352 hx hby sg0_185_5 (pc' := 193) (L' := #[.val (.int i0), .val (.int i1), .val (.int (3 : Int32)), .val (.int v2), .val (.ref b282), .val (.ref b286), .val (.ref b1_14_325)]) (S' := [(.ref b286), (.ref b282), (.int (3 : Int32)), (.int (4 : Int32)), (.ref b1_14_325)]) rfl ?_
          refine Home.st (own_pure (own_static X352 hx hZ hown (own_w153 hw) (own_w154 hw) (own_w6 hw) (own_w155 hw) (by decide) (rm27_3 l Z a0 hw [] b1_14_325 (4 : Int32) b282 b286 b2_2_8_1_2_14_325 k2_2_8_1_2_14_325 r326 sv_COMPACT_STRINGS sv_SIOOBE_FORMATTER k282 (i0 &&& (255 : Int32)) r293 r294 k286 (i1 &&& (255 : Int32)) r295 r296 T325.heap n0 O325 (bnd_mono (bnd_lit (4 : Int32)) (by decide +kernel) (by decide +kernel)) P325_0 P325_1 P325_3 S_COMPACT_STRINGS P325_2 hCS (Nat.le_trans (show 5 ≤ r326.length ∧ r326.length ≤ 8 by rw [hr326]; exact (own_len_app (own_len_app (own_len_app (own_len_lit (l := []) (n := 0) rfl) (own_len_lit (l := [((i0 &&& (255 : Int32)).toInt8.toInt32), (r293.toInt8.toInt32), (r294.toInt8.toInt32)]) (n := 3) rfl)) (own_len_lit (l := [(58 : Int32), (32 : Int32)]) (n := 2) rfl)) (own_len_le (cs_rm1_1_short v2 (i1 &&& (255 : Int32)) r295 r296)))).2 (by decide)) S_SIOOBE_FORMATTER isr_sv_SIOOBE_FORMATTER q334 q338 (bnd_and i0 (255 : Int32) (by decide)) br293 br294 (bnd_and i1 (255 : Int32) (by decide)) br295 br296) e352 rfl (by rw [hml]; rfl) (argsL := [(.ref b1_14_325), (.int (4 : Int32)), (.int (3 : Int32)), (.ref b282), (.ref b286)]) (rest := []) (lenOf own_pd32 rfl) rfl rfl (W := 0) (by exact hW0) (by decide) (by decide) (hb hby at_193) (by decide) (by decide))) fun T356 X356 e356 => ?_
          by_cases c357 : (f_rm27_3 (4 : Int32) r326 (i0 &&& (255 : Int32)) r293 r294 (i1 &&& (255 : Int32)) r295 r296) = (0 : Int32)
          ·
           refine Home.go (fun _ => XS.ifYes X356.here hx rfl (pc0 := 196) (pc' := 247) rfl (hb hby at_196) rfl ((if0 _ _).trans (teq c357).1) (by decide) (by decide)) ?_
           have bd358 : ¬ (f_rm27_3 (4 : Int32) r326 (i0 &&& (255 : Int32)) r293 r294 (i1 &&& (255 : Int32)) r295 r296) < (0 : Int32) ∧ ¬ (0 : Int32) < (f_rm27_3 (4 : Int32) r326 (i0 &&& (255 : Int32)) r293 r294 (i1 &&& (255 : Int32)) r295 r296) := ⟨(bnd_eql c357), (bnd_eqr c357)⟩
           refine Home.run X356 hx hby sg0_247_1 (pc' := 248) (L' := #[.val (.int i0), .val (.int i1), .val (.int (3 : Int32)), .val (.int v2), .val (.ref b282), .val (.ref b286), .val (.ref b1_14_325)]) (S' := [(.int (0 : Int32))]) rfl ?_
           exact J372 X356 N325 e356 _ (by simp only [if_neg c341, if_neg c345, if_neg c349, if_neg c353, if_pos c357])
          ·
           refine Home.go (fun _ => XS.ifNo X356.here hx rfl (hb hby at_196) rfl ((if0 _ _).trans (feq c357).1)) ?_
           have bd359 : ¬ (f_rm27_3 (4 : Int32) r326 (i0 &&& (255 : Int32)) r293 r294 (i1 &&& (255 : Int32)) r295 r296) < (1 : Int32) ∧ ¬ (1 : Int32) < (f_rm27_3 (4 : Int32) r326 (i0 &&& (255 : Int32)) r293 r294 (i1 &&& (255 : Int32)) r295 r296) := ⟨(bnd_nel (f_rm27_3_bnd (4 : Int32) r326 (i0 &&& (255 : Int32)) r293 r294 (i1 &&& (255 : Int32)) r295 r296 (bnd_mono (bnd_lit (4 : Int32)) (by decide +kernel) (by decide +kernel)) (bnd_and i0 (255 : Int32) (by decide)) br293 br294 (bnd_and i1 (255 : Int32) (by decide)) br295 br296).1 c357 (by decide +kernel)), (f_rm27_3_bnd (4 : Int32) r326 (i0 &&& (255 : Int32)) r293 r294 (i1 &&& (255 : Int32)) r295 r296 (bnd_mono (bnd_lit (4 : Int32)) (by decide +kernel) (by decide +kernel)) (bnd_and i0 (255 : Int32) (by decide)) br293 br294 (bnd_and i1 (255 : Int32) (by decide)) br295 br296).2⟩
           refine Home.run X356 hx hby sg0_199_5 (pc' := 207) (L' := #[.val (.int i0), .val (.int i1), .val (.int (3 : Int32)), .val (.int v2), .val (.ref b282), .val (.ref b286), .val (.ref b1_14_325)]) (S' := [(.ref b286), (.ref b282), (.int (3 : Int32)), (.int (5 : Int32)), (.ref b1_14_325)]) rfl ?_
           refine Home.st (own_pure (own_static X356 hx hZ hown (own_w153 hw) (own_w154 hw) (own_w6 hw) (own_w155 hw) (by decide) (rm27_3 l Z a0 hw [] b1_14_325 (5 : Int32) b282 b286 b2_2_8_1_2_14_325 k2_2_8_1_2_14_325 r326 sv_COMPACT_STRINGS sv_SIOOBE_FORMATTER k282 (i0 &&& (255 : Int32)) r293 r294 k286 (i1 &&& (255 : Int32)) r295 r296 T325.heap n0 O325 (bnd_mono (bnd_lit (5 : Int32)) (by decide +kernel) (by decide +kernel)) P325_0 P325_1 P325_3 S_COMPACT_STRINGS P325_2 hCS (Nat.le_trans (show 5 ≤ r326.length ∧ r326.length ≤ 8 by rw [hr326]; exact (own_len_app (own_len_app (own_len_app (own_len_lit (l := []) (n := 0) rfl) (own_len_lit (l := [((i0 &&& (255 : Int32)).toInt8.toInt32), (r293.toInt8.toInt32), (r294.toInt8.toInt32)]) (n := 3) rfl)) (own_len_lit (l := [(58 : Int32), (32 : Int32)]) (n := 2) rfl)) (own_len_le (cs_rm1_1_short v2 (i1 &&& (255 : Int32)) r295 r296)))).2 (by decide)) S_SIOOBE_FORMATTER isr_sv_SIOOBE_FORMATTER q334 q338 (bnd_and i0 (255 : Int32) (by decide)) br293 br294 (bnd_and i1 (255 : Int32) (by decide)) br295 br296) e356 rfl (by rw [hml]; rfl) (argsL := [(.ref b1_14_325), (.int (5 : Int32)), (.int (3 : Int32)), (.ref b282), (.ref b286)]) (rest := []) (lenOf own_pd32 rfl) rfl rfl (W := 0) (by exact hW0) (by decide) (by decide) (hb hby at_207) (by decide) (by decide))) fun T360 X360 e360 => ?_
           by_cases c361 : (f_rm27_3 (5 : Int32) r326 (i0 &&& (255 : Int32)) r293 r294 (i1 &&& (255 : Int32)) r295 r296) = (0 : Int32)
           ·
            refine Home.go (fun _ => XS.ifYes X360.here hx rfl (pc0 := 210) (pc' := 247) rfl (hb hby at_210) rfl ((if0 _ _).trans (teq c361).1) (by decide) (by decide)) ?_
            have bd362 : ¬ (f_rm27_3 (5 : Int32) r326 (i0 &&& (255 : Int32)) r293 r294 (i1 &&& (255 : Int32)) r295 r296) < (0 : Int32) ∧ ¬ (0 : Int32) < (f_rm27_3 (5 : Int32) r326 (i0 &&& (255 : Int32)) r293 r294 (i1 &&& (255 : Int32)) r295 r296) := ⟨(bnd_eql c361), (bnd_eqr c361)⟩
            refine Home.run X360 hx hby sg0_247_1 (pc' := 248) (L' := #[.val (.int i0), .val (.int i1), .val (.int (3 : Int32)), .val (.int v2), .val (.ref b282), .val (.ref b286), .val (.ref b1_14_325)]) (S' := [(.int (0 : Int32))]) rfl ?_
            exact J372 X360 N325 e360 _ (by simp only [if_neg c341, if_neg c345, if_neg c349, if_neg c353, if_neg c357, if_pos c361])
           ·
            refine Home.go (fun _ => XS.ifNo X360.here hx rfl (hb hby at_210) rfl ((if0 _ _).trans (feq c361).1)) ?_
            have bd363 : ¬ (f_rm27_3 (5 : Int32) r326 (i0 &&& (255 : Int32)) r293 r294 (i1 &&& (255 : Int32)) r295 r296) < (1 : Int32) ∧ ¬ (1 : Int32) < (f_rm27_3 (5 : Int32) r326 (i0 &&& (255 : Int32)) r293 r294 (i1 &&& (255 : Int32)) r295 r296) := ⟨(bnd_nel (f_rm27_3_bnd (5 : Int32) r326 (i0 &&& (255 : Int32)) r293 r294 (i1 &&& (255 : Int32)) r295 r296 (bnd_mono (bnd_lit (5 : Int32)) (by decide +kernel) (by decide +kernel)) (bnd_and i0 (255 : Int32) (by decide)) br293 br294 (bnd_and i1 (255 : Int32) (by decide)) br295 br296).1 c361 (by decide +kernel)), (f_rm27_3_bnd (5 : Int32) r326 (i0 &&& (255 : Int32)) r293 r294 (i1 &&& (255 : Int32)) r295 r296 (bnd_mono (bnd_lit (5 : Int32)) (by decide +kernel) (by decide +kernel)) (bnd_and i0 (255 : Int32) (by decide)) br293 br294 (bnd_and i1 (255 : Int32) (by decide)) br295 br296).2⟩
            refine Home.run X360 hx hby sg0_213_5 (pc' := 222) (L' := #[.val (.int i0), .val (.int i1), .val (.int (3 : Int32)), .val (.int v2), .val (.ref b282), .val (.ref b286), .val (.ref b1_14_325)]) (S' := [(.ref b286), (.ref b282), (.int (3 : Int32)), (.int (6 : Int32)), (.ref b1_14_325)]) rfl ?_
            refine Home.st (own_pure (own_static X360 hx hZ hown (own_w153 hw) (own_w154 hw) (own_w6 hw) (own_w155 hw) (by decide) (rm27_3 l Z a0 hw [] b1_14_325 (6 : Int32) b282 b286 b2_2_8_1_2_14_325 k2_2_8_1_2_14_325 r326 sv_COMPACT_STRINGS sv_SIOOBE_FORMATTER k282 (i0 &&& (255 : Int32)) r293 r294 k286 (i1 &&& (255 : Int32)) r295 r296 T325.heap n0 O325 (bnd_mono (bnd_lit (6 : Int32)) (by decide +kernel) (by decide +kernel)) P325_0 P325_1 P325_3 S_COMPACT_STRINGS P325_2 hCS (Nat.le_trans (show 5 ≤ r326.length ∧ r326.length ≤ 8 by rw [hr326]; exact (own_len_app (own_len_app (own_len_app (own_len_lit (l := []) (n := 0) rfl) (own_len_lit (l := [((i0 &&& (255 : Int32)).toInt8.toInt32), (r293.toInt8.toInt32), (r294.toInt8.toInt32)]) (n := 3) rfl)) (own_len_lit (l := [(58 : Int32), (32 : Int32)]) (n := 2) rfl)) (own_len_le (cs_rm1_1_short v2 (i1 &&& (255 : Int32)) r295 r296)))).2 (by decide)) S_SIOOBE_FORMATTER isr_sv_SIOOBE_FORMATTER q334 q338 (bnd_and i0 (255 : Int32) (by decide)) br293 br294 (bnd_and i1 (255 : Int32) (by decide)) br295 br296) e360 rfl (by rw [hml]; rfl) (argsL := [(.ref b1_14_325), (.int (6 : Int32)), (.int (3 : Int32)), (.ref b282), (.ref b286)]) (rest := []) (lenOf own_pd32 rfl) rfl rfl (W := 0) (by exact hW0) (by decide) (by decide) (hb hby at_222) (by decide) (by decide))) fun T364 X364 e364 => ?_
            by_cases c365 : (f_rm27_3 (6 : Int32) r326 (i0 &&& (255 : Int32)) r293 r294 (i1 &&& (255 : Int32)) r295 r296) = (0 : Int32)
            ·
             refine Home.go (fun _ => XS.ifYes X364.here hx rfl (pc0 := 225) (pc' := 247) rfl (hb hby at_225) rfl ((if0 _ _).trans (teq c365).1) (by decide) (by decide)) ?_
             have bd366 : ¬ (f_rm27_3 (6 : Int32) r326 (i0 &&& (255 : Int32)) r293 r294 (i1 &&& (255 : Int32)) r295 r296) < (0 : Int32) ∧ ¬ (0 : Int32) < (f_rm27_3 (6 : Int32) r326 (i0 &&& (255 : Int32)) r293 r294 (i1 &&& (255 : Int32)) r295 r296) := ⟨(bnd_eql c365), (bnd_eqr c365)⟩
             refine Home.run X364 hx hby sg0_247_1 (pc' := 248) (L' := #[.val (.int i0), .val (.int i1), .val (.int (3 : Int32)), .val (.int v2), .val (.ref b282), .val (.ref b286), .val (.ref b1_14_325)]) (S' := [(.int (0 : Int32))]) rfl ?_
             exact J372 X364 N325 e364 _ (by simp only [if_neg c341, if_neg c345, if_neg c349, if_neg c353, if_neg c357, if_neg c361, if_pos c365])
            ·
             refine Home.go (fun _ => XS.ifNo X364.here hx rfl (hb hby at_225) rfl ((if0 _ _).trans (feq c365).1)) ?_
             have bd367 : ¬ (f_rm27_3 (6 : Int32) r326 (i0 &&& (255 : Int32)) r293 r294 (i1 &&& (255 : Int32)) r295 r296) < (1 : Int32) ∧ ¬ (1 : Int32) < (f_rm27_3 (6 : Int32) r326 (i0 &&& (255 : Int32)) r293 r294 (i1 &&& (255 : Int32)) r295 r296) := ⟨(bnd_nel (f_rm27_3_bnd (6 : Int32) r326 (i0 &&& (255 : Int32)) r293 r294 (i1 &&& (255 : Int32)) r295 r296 (bnd_mono (bnd_lit (6 : Int32)) (by decide +kernel) (by decide +kernel)) (bnd_and i0 (255 : Int32) (by decide)) br293 br294 (bnd_and i1 (255 : Int32) (by decide)) br295 br296).1 c365 (by decide +kernel)), (f_rm27_3_bnd (6 : Int32) r326 (i0 &&& (255 : Int32)) r293 r294 (i1 &&& (255 : Int32)) r295 r296 (bnd_mono (bnd_lit (6 : Int32)) (by decide +kernel) (by decide +kernel)) (bnd_and i0 (255 : Int32) (by decide)) br293 br294 (bnd_and i1 (255 : Int32) (by decide)) br295 br296).2⟩
             refine Home.run X364 hx hby sg0_228_5 (pc' := 237) (L' := #[.val (.int i0), .val (.int i1), .val (.int (3 : Int32)), .val (.int v2), .val (.ref b282), .val (.ref b286), .val (.ref b1_14_325)]) (S' := [(.ref b286), (.ref b282), (.int (3 : Int32)), (.int (7 : Int32)), (.ref b1_14_325)]) rfl ?_
             refine Home.st (own_pure (own_static X364 hx hZ hown (own_w153 hw) (own_w154 hw) (own_w6 hw) (own_w155 hw) (by decide) (rm27_3 l Z a0 hw [] b1_14_325 (7 : Int32) b282 b286 b2_2_8_1_2_14_325 k2_2_8_1_2_14_325 r326 sv_COMPACT_STRINGS sv_SIOOBE_FORMATTER k282 (i0 &&& (255 : Int32)) r293 r294 k286 (i1 &&& (255 : Int32)) r295 r296 T325.heap n0 O325 (bnd_mono (bnd_lit (7 : Int32)) (by decide +kernel) (by decide +kernel)) P325_0 P325_1 P325_3 S_COMPACT_STRINGS P325_2 hCS (Nat.le_trans (show 5 ≤ r326.length ∧ r326.length ≤ 8 by rw [hr326]; exact (own_len_app (own_len_app (own_len_app (own_len_lit (l := []) (n := 0) rfl) (own_len_lit (l := [((i0 &&& (255 : Int32)).toInt8.toInt32), (r293.toInt8.toInt32), (r294.toInt8.toInt32)]) (n := 3) rfl)) (own_len_lit (l := [(58 : Int32), (32 : Int32)]) (n := 2) rfl)) (own_len_le (cs_rm1_1_short v2 (i1 &&& (255 : Int32)) r295 r296)))).2 (by decide)) S_SIOOBE_FORMATTER isr_sv_SIOOBE_FORMATTER q334 q338 (bnd_and i0 (255 : Int32) (by decide)) br293 br294 (bnd_and i1 (255 : Int32) (by decide)) br295 br296) e364 rfl (by rw [hml]; rfl) (argsL := [(.ref b1_14_325), (.int (7 : Int32)), (.int (3 : Int32)), (.ref b282), (.ref b286)]) (rest := []) (lenOf own_pd32 rfl) rfl rfl (W := 0) (by exact hW0) (by decide) (by decide) (hb hby at_237) (by decide) (by decide))) fun T368 X368 e368 => ?_
             by_cases c369 : (f_rm27_3 (7 : Int32) r326 (i0 &&& (255 : Int32)) r293 r294 (i1 &&& (255 : Int32)) r295 r296) = (0 : Int32)
             ·
              refine Home.go (fun _ => XS.ifYes X368.here hx rfl (pc0 := 240) (pc' := 247) rfl (hb hby at_240) rfl ((if0 _ _).trans (teq c369).1) (by decide) (by decide)) ?_
              have bd370 : ¬ (f_rm27_3 (7 : Int32) r326 (i0 &&& (255 : Int32)) r293 r294 (i1 &&& (255 : Int32)) r295 r296) < (0 : Int32) ∧ ¬ (0 : Int32) < (f_rm27_3 (7 : Int32) r326 (i0 &&& (255 : Int32)) r293 r294 (i1 &&& (255 : Int32)) r295 r296) := ⟨(bnd_eql c369), (bnd_eqr c369)⟩
              refine Home.run X368 hx hby sg0_247_1 (pc' := 248) (L' := #[.val (.int i0), .val (.int i1), .val (.int (3 : Int32)), .val (.int v2), .val (.ref b282), .val (.ref b286), .val (.ref b1_14_325)]) (S' := [(.int (0 : Int32))]) rfl ?_
              exact J372 X368 N325 e368 _ (by simp only [if_neg c341, if_neg c345, if_neg c349, if_neg c353, if_neg c357, if_neg c361, if_neg c365, if_pos c369])
             ·
              refine Home.go (fun _ => XS.ifNo X368.here hx rfl (hb hby at_240) rfl ((if0 _ _).trans (feq c369).1)) ?_
              have bd371 : ¬ (f_rm27_3 (7 : Int32) r326 (i0 &&& (255 : Int32)) r293 r294 (i1 &&& (255 : Int32)) r295 r296) < (1 : Int32) ∧ ¬ (1 : Int32) < (f_rm27_3 (7 : Int32) r326 (i0 &&& (255 : Int32)) r293 r294 (i1 &&& (255 : Int32)) r295 r296) := ⟨(bnd_nel (f_rm27_3_bnd (7 : Int32) r326 (i0 &&& (255 : Int32)) r293 r294 (i1 &&& (255 : Int32)) r295 r296 (bnd_mono (bnd_lit (7 : Int32)) (by decide +kernel) (by decide +kernel)) (bnd_and i0 (255 : Int32) (by decide)) br293 br294 (bnd_and i1 (255 : Int32) (by decide)) br295 br296).1 c369 (by decide +kernel)), (f_rm27_3_bnd (7 : Int32) r326 (i0 &&& (255 : Int32)) r293 r294 (i1 &&& (255 : Int32)) r295 r296 (bnd_mono (bnd_lit (7 : Int32)) (by decide +kernel) (by decide +kernel)) (bnd_and i0 (255 : Int32) (by decide)) br293 br294 (bnd_and i1 (255 : Int32) (by decide)) br295 br296).2⟩
              refine Home.run X368 hx hby sg0_243_2 (pc' := 248) (L' := #[.val (.int i0), .val (.int i1), .val (.int (3 : Int32)), .val (.int v2), .val (.ref b282), .val (.ref b286), .val (.ref b1_14_325)]) (S' := [(.int (1 : Int32))]) rfl ?_
              exact J372 X368 N325 e368 _ (by simp only [if_neg c341, if_neg c345, if_neg c349, if_neg c353, if_neg c357, if_neg c361, if_neg c365, if_neg c369])
     intro TJ372 lcJ372 XJ372 NJ372 eJ372 v373 hv373
     have bv373 : ¬ v373 < (0 : Int32) ∧ ¬ (1 : Int32) < v373 := by rw [hv373]; exact (bnd_ite (bnd_mono (bnd_lit (0 : Int32)) (by decide +kernel) (by decide +kernel)) (bnd_ite (bnd_mono (bnd_lit (0 : Int32)) (by decide +kernel) (by decide +kernel)) (bnd_ite (bnd_mono (bnd_lit (0 : Int32)) (by decide +kernel) (by decide +kernel)) (bnd_ite (bnd_mono (bnd_lit (0 : Int32)) (by decide +kernel) (by decide +kernel)) (bnd_ite (bnd_mono (bnd_lit (0 : Int32)) (by decide +kernel) (by decide +kernel)) (bnd_ite (bnd_mono (bnd_lit (0 : Int32)) (by decide +kernel) (by decide +kernel)) (bnd_ite (bnd_mono (bnd_lit (0 : Int32)) (by decide +kernel) (by decide +kernel)) (bnd_ite (bnd_mono (bnd_lit (0 : Int32)) (by decide +kernel) (by decide +kernel)) (bnd_mono (bnd_lit (1 : Int32)) (by decide +kernel) (by decide +kernel))))))))))
     show Home TJ372 (mkF m 248 #[.val (.int i0), .val (.int i1), .val (.int (3 : Int32)), .val (.int v2), .val (.ref b282), .val (.ref b286), .val (.ref b1_14_325)] [(.int v373)])
     exact HomeW.retN XJ372 hx hlk hZ (own_hEL hw) eJ372 Ce325 (t := .boolean) hret (by simp) (hb hby at_248) ⟨congrArg some (congrArg Value.int (own_end6 i0 i1 sv_COMPACT_STRINGS v1 hv1 v2 hv2 r293 hr293 r294 hr294 r295 hr295 r296 hr296 r326 hr326 r340 hr340 v373 hv373 c3 c89 c185 c328)), NJ372⟩ (by decide) (by decide)
    ·
     refine Home.go (fun _ => XS.icmpNo X327.here hx rfl (hb hby at_124) rfl (feq c328).1) ?_
     refine Home.run X327 hx hby sg0_127_1 (pc' := 128) (L' := #[.val (.int i0), .val (.int i1), .val (.int (3 : Int32)), .val (.int v2), .val (.ref b282), .val (.ref b286), .val (.ref b1_14_325)]) (S' := [(.int (0 : Int32))]) rfl ?_
     exact HomeW.retN X327 hx hlk hZ (own_hEL hw) e327 Ce325 (t := .boolean) hret (by simp) (hb hby at_128) ⟨congrArg some (congrArg Value.int (own_end7 i0 i1 sv_COMPACT_STRINGS v1 hv1 v2 hv2 r293 hr293 r294 hr294 r295 hr295 r296 hr296 r326 hr326 c3 c89 c185 c328)), N325⟩ (by decide) (by decide)
theorem comes_1 {Post : Tables → Env → Array Value → State → Outcome → State → Prop} (hpost : ∀ tb e args s v u, (limb_1_1.after args s (.returned v) u = true ∧ limb_1_2.after args s (.returned v) u = true ∧ True) → ReturnedEndW s (.returned v) u (Jvm.fieldLocs frame_1_writes args s ++ Jvm.arrayLocs frame_1_arrays args s ++ Jvm.staticLocs frame_1_statics s) 40 2240 → Post tb e args s (.returned v) u) :
    ArmFor flags0 classFile x code maxLocals ret World_1 tables_1 room_1 Calls_1 rest_1 Pre_1 Post := by
  intro l hfl _ _ p e ha hc hk s m args below hf hA hF happ hP
  obtain ⟨hcalls, hrest, hpre⟩ := hP
  obtain ⟨-, -, -, hnamed, -, -, -, hat⟩ := (Spec.applies_iff hf).mp happ
  obtain ⟨hg, hn⟩ := and_e (Cond.before_iff.mp (show (Jvm.Cond.and given_1 narrow_1).before args s = true from hpre))
  obtain ⟨gg1, gg2⟩ := and_e hg
  obtain ⟨gg3, gg4⟩ := and_e gg2
  obtain ⟨w0, w1, rfl⟩ : ∃ w0 w1 : Value, args = #[w0, w1] := by
    have hs : args.size = 2 := by simpa [Cond.value, given_1] using gg1
    obtain ⟨L⟩ := args
    match L, hs with
    | [w0, w1], _ => exact ⟨w0, w1, rfl⟩
  have hw := fun d (hd : d ∈ tables_1) => atoms_spec (ws := Jvm.Cond.code x code maxLocals ret :: tables_1) hat d (List.mem_cons_of_mem _ hd)
  have hfit : Fit s := fun {y c} hc i hi => by
    obtain ⟨ha, rfl⟩ := Array.getElem?_eq_some_iff.mp hc
    have q := List.all_eq_true.mp ((Array.all_eq_true_iff_forall_mem.mp hF) _ (Array.getElem_mem ha)) i (List.mem_range.mpr hi)
    simpa [Array.getElem?_eq_getElem hi] using q
  obtain ⟨hsets, hown0⟩ := atoms_of _ (rest_1_c_eq ▸ (show rest_1_c.before _ s = true from hrest))
  have hr0 := Cond.before_iff.mp hown0
  obtain ⟨i0, ei0⟩ := is_v gg3
  obtain rfl : w0 = (.int i0) := Option.some.inj ei0
  obtain ⟨i1, ei1⟩ := is_v gg4
  obtain rfl : w1 = (.int i1) := Option.some.inj ei1
  obtain ⟨sv_COMPACT_STRINGS, v_cs⟩ := is_v (Cond.before_iff.mp (hsets _ (List.mem_of_getElem? (i := 1) rfl)))
  have S_COMPACT_STRINGS := Sta.start v_cs (Or.inl (hsets _ (List.mem_of_getElem? (i := 0) rfl)))
  have hCS : ¬ (sv_COMPACT_STRINGS = (0 : Int32)) := gotF (Cond.eq_ints v_cs (Term.int_eval 0)) (not_v (Cond.before_iff.mp (hsets _ (List.mem_of_getElem? (i := 2) rfl))))
  obtain ⟨sv_SIOOBE_FORMATTER, v_sv_SIOOBE_FORMATTER, isr_sv_SIOOBE_FORMATTER⟩ := isR_v (Cond.before_iff.mp (hsets _ (List.mem_of_getElem? (i := 8) rfl)))
  have S_SIOOBE_FORMATTER := Sta.start v_sv_SIOOBE_FORMATTER (Or.inl (hsets _ (List.mem_of_getElem? (i := 7) rfl)))
  have hCH : CHv s own_EL s.vm s.heap := CHv.start (own_hEL hw) (fun p hp => hcalls.1 p hp) (hsets _ (List.mem_of_getElem? (i := 2) rfl)) (own_w11 hw) (own_w10 hw)
  obtain ⟨n, o, h1, h2, h3, _, L, rfl, ⟨rfl, N⟩, -, -, hq⟩ := rm0 l s _ hw tables_1 i0 i1 sv_COMPACT_STRINGS sv_SIOOBE_FORMATTER s.heap s.heap.size (Old.start s) S_COMPACT_STRINGS hCS S_SIOOBE_FORMATTER isr_sv_SIOOBE_FORMATTER p e ha hc hk s m _ below hf ((Spec.applies_iff_loose hf).mp happ).1 ⟨rfl, State.Warmed39.refl s, rfl, hCH, fun _ hx => nomatch hx⟩ trivial
  refine ⟨n, _, h1, h2, h3, hpost _ _ _ _ _ _ ⟨Cond.after_iff.mpr rfl, Cond.after_iff.mpr (eq_i res_at (Term.int_eval (1)) rfl), trivial⟩ ⟨hq.1, hq.2.1, hq.2.2.1, (hq.2.2.2.sift fun y hy => Or.inr (N y hy)).mono (by decide) (by decide)⟩⟩
theorem main_1_1 : Claimed_1_1 := comes_1 fun _ _ _ _ _ _ h hF => ⟨h.1, hF⟩
theorem main_1_2 : Claimed_1_2 := comes_1 fun _ _ _ _ _ _ h hF => ⟨h.2.1, hF⟩
end Jvm.Pilot.@@N@@
namespace Jvm.Pilot.@@N@@
open Jvm Jvm.ClassFile Sem Op Lib Jvm.Free Jvm.Stand Jvm.Pilot.@@N@@.Jvm.D
/-! MADE BY PROGRAM (witnessworld.py) out of the Statement's table words and the real class files: 27 classes; the members and pool entries that the words name. The judged class is class 1, her method 4. -/
namespace start1
open Jvm.ClassFile
def u (s : String) : CpInfo := .utf8 (stringToUtf16 s)
/-- a pool by its gaps: so many unusable entries, then the entry; so many at the end -/
def gap : Nat → List CpInfo → List CpInfo
  | 0, r => r
  | n + 1, r => .unusable :: gap n r
def poolList (es : List (Nat × CpInfo)) (last : Nat) : List CpInfo := es.foldr (fun e r => gap e.1 (e.2 :: r)) (gap last [])
def pool (es : List (Nat × CpInfo)) (last : Nat) : Array CpInfo := ⟨poolList es last⟩
def fileOf (pool : Array CpInfo) (this : Nat) (attrs : Array Attribute := #[]) (ms : Array MethodInfo := #[]) (fl : Nat := 33) (sup : Nat := 0) (ifs : Array Nat := #[]) (fds : Array FieldInfo := #[]) : ClassFile where
  minorVersion := 0
  majorVersion := 65
  constantPool := pool
  accessFlags := fl
  thisClass := this
  superClass := sup
  interfaces := ifs
  fields := fds
  methods := ms
  attributes := attrs
def plain (name : String) (sup : Option ClassId) : Class where
  name := name
  kind := .ordinary
  loader := none
  accessFlags := 33
  super := sup
  interfaces := #[]
  cf := none
  fields := #[]
  methods := #[]
  instanceTypes := #[]
  staticTypes := #[]
  resolved := #[]
  callSites := []
  init := .initialized
  statics := none
  mirror := none

def pool0 : Array CpInfo := pool [(5, u "<init>"), (0, u "()V"), (1, .class_ 10), (1, u "java/lang/Object")] 113

def k0c0 : Code := { maxStack := 0, maxLocals := 1, code := object_method_1_code, exceptionTable := #[], attributes := #[] }
def k0m0 : Method := { name := "<init>", desc := "()V", sig := { parameters := [], returnType := none }, accessFlags := 1, code := some k0c0 }
/-- java/lang/Object -/
def k0 : Class := { plain "java/lang/Object" none with
  accessFlags := 33
  interfaces := #[]
  cf := some (fileOf pool0 8 #[] #[{ accessFlags := 1, nameIndex := 5, descriptorIndex := 6, attributes := #[] }] 33 0 #[] #[])
  fields := #[]
  methods := #[k0m0]
  instanceTypes := #[]
  staticTypes := #[]
  resolved := Array.replicate 124 none
  statics := none }

def pool1 : Array CpInfo := pool [(2, .class_ 4), (1, u "java/lang/Object"), (0, u "<init>"), (0, u "()V"), (0, .string 8), (0, u ""), (0, .methodref 10 11), (0, .class_ 12), (0, .nameAndType 13 14), (0, u "java/lang/String"), (0, u "valueOf"), (0, u "(C)Ljava/lang/String;"), (0, .methodref 10 16), (0, .nameAndType 5 17), (0, u "([C)V"), (0, .methodref 10 19), (0, .nameAndType 20 21), (0, u "length"), (0, u "()I"), (0, .methodref 10 23), (0, .nameAndType 24 25), (0, u "charAt"), (0, u "(I)C"), (0, .methodref 27 28), (0, .class_ 29), (0, .nameAndType 30 31), (0, u "com/example/wary_meter/warymeter/RefusalMessagePinLaw"), (0, u "exp"), (0, u "(II[C[C)C"), (0, .class_ 33), (0, u "com/example/wary_meter/warymeter/Refusal"), (0, .methodref 27 35), (0, .nameAndType 36 37), (0, u "mk"), (0, u "(I[C)Ljava/lang/String;"), (0, .methodref 32 39), (0, .nameAndType 5 40), (0, u "(Ljava/lang/String;Ljava/lang/String;)V"), (0, .methodref 32 42), (0, .nameAndType 43 44), (0, u "message"), (0, u "()Ljava/lang/String;"), (0, .methodref 27 46), (0, .nameAndType 47 48), (0, u "ok"), (0, u "(Ljava/lang/String;II[C[C)Z"), (3, u "law"), (0, u "(II)Z")] 4

def k1m0 : Method := { name := "<init>", desc := "()V", sig := { parameters := [], returnType := none }, accessFlags := 1, code := none }
def k1c1 : Code := { maxStack := 7, maxLocals := 2, code := method_2_code, exceptionTable := #[], attributes := #[] }
def k1m1 : Method := { name := "mk", desc := "(I[C)Ljava/lang/String;", sig := { parameters := [.int, (.array .char)], returnType := some (.object "java/lang/String") }, accessFlags := 10, code := some k1c1 }
def k1c2 : Code := { maxStack := 3, maxLocals := 4, code := method_3_code, exceptionTable := #[], attributes := #[] }
def k1m2 : Method := { name := "exp", desc := "(II[C[C)C", sig := { parameters := [.int, .int, (.array .char), (.array .char)], returnType := some .char }, accessFlags := 10, code := some k1c2 }
def k1c3 : Code := { maxStack := 5, maxLocals := 5, code := method_4_code, exceptionTable := #[], attributes := #[] }
def k1m3 : Method := { name := "ok", desc := "(Ljava/lang/String;II[C[C)Z", sig := { parameters := [(.object "java/lang/String"), .int, .int, (.array .char), (.array .char)], returnType := some .boolean }, accessFlags := 10, code := some k1c3 }
def k1c4 : Code := { maxStack := 5, maxLocals := 7, code := code, exceptionTable := #[], attributes := #[] }
def k1m4 : Method := { name := "law", desc := "(II)Z", sig := { parameters := [.int, .int], returnType := some .boolean }, accessFlags := 9, code := some k1c4 }
/-- com/example/wary_meter/warymeter/RefusalMessagePinLaw -/
def k1 : Class := { plain "com/example/wary_meter/warymeter/RefusalMessagePinLaw" (some 0) with
  accessFlags := 49
  interfaces := #[]
  cf := some (fileOf pool1 27 #[] #[{ accessFlags := 1, nameIndex := 5, descriptorIndex := 6, attributes := #[] }, { accessFlags := 10, nameIndex := 36, descriptorIndex := 37, attributes := #[] }, { accessFlags := 10, nameIndex := 30, descriptorIndex := 31, attributes := #[] }, { accessFlags := 10, nameIndex := 47, descriptorIndex := 48, attributes := #[] }, { accessFlags := 9, nameIndex := 52, descriptorIndex := 53, attributes := #[] }] 49 2 #[] #[])
  fields := #[]
  methods := #[k1m0, k1m1, k1m2, k1m3, k1m4]
  instanceTypes := #[]
  staticTypes := #[]
  resolved := Array.replicate 58 none
  statics := none }

def pool2 : Array CpInfo := pool [(1, .methodref 2 3), (0, .class_ 4), (0, .nameAndType 5 6), (0, u "java/lang/Object"), (0, u "<init>"), (0, u "()V"), (0, .class_ 8), (0, u "java/lang/Record")] 13

def k2c0 : Code := { maxStack := 1, maxLocals := 1, code := jdk_30_method_1_code, exceptionTable := #[], attributes := #[] }
def k2m0 : Method := { name := "<init>", desc := "()V", sig := { parameters := [], returnType := none }, accessFlags := 4, code := some k2c0 }
/-- java/lang/Record -/
def k2 : Class := { plain "java/lang/Record" (some 0) with
  accessFlags := 1057
  interfaces := #[]
  cf := some (fileOf pool2 7 #[] #[{ accessFlags := 4, nameIndex := 5, descriptorIndex := 6, attributes := #[] }] 1057 2 #[] #[])
  fields := #[]
  methods := #[k2m0]
  instanceTypes := #[]
  staticTypes := #[]
  resolved := Array.replicate 22 none
  statics := none }

def pool3 : Array CpInfo := pool [(1, .methodref 2 3), (0, .class_ 4), (0, .nameAndType 5 6), (0, u "java/lang/Record"), (0, u "<init>"), (0, u "()V"), (0, .fieldref 8 9), (0, .class_ 10), (0, .nameAndType 11 12), (0, u "com/example/wary_meter/warymeter/Refusal"), (0, u "where"), (0, u "Ljava/lang/String;"), (0, .fieldref 8 14), (0, .nameAndType 15 12), (0, u "problem"), (0, .class_ 17), (0, u "java/lang/StringBuilder"), (0, .methodref 16 3), (0, .methodref 16 20), (0, .nameAndType 21 22), (0, u "append"), (0, u "(Ljava/lang/String;)Ljava/lang/StringBuilder;"), (0, .string 24), (0, u ": "), (0, .methodref 16 26), (0, .nameAndType 27 28), (0, u "toString"), (0, u "()Ljava/lang/String;"), (11, u "(Ljava/lang/String;Ljava/lang/String;)V"), (3, u "message")] 23

def k3c0 : Code := { maxStack := 2, maxLocals := 3, code := prog_10_method_1_code, exceptionTable := #[], attributes := #[] }
def k3m0 : Method := { name := "<init>", desc := "(Ljava/lang/String;Ljava/lang/String;)V", sig := { parameters := [(.object "java/lang/String"), (.object "java/lang/String")], returnType := none }, accessFlags := 1, code := some k3c0 }
def k3c1 : Code := { maxStack := 2, maxLocals := 1, code := prog_10_method_2_code, exceptionTable := #[], attributes := #[] }
def k3m1 : Method := { name := "message", desc := "()Ljava/lang/String;", sig := { parameters := [], returnType := some (.object "java/lang/String") }, accessFlags := 0, code := some k3c1 }
/-- com/example/wary_meter/warymeter/Refusal -/
def k3 : Class := { plain "com/example/wary_meter/warymeter/Refusal" (some 2) with
  accessFlags := 49
  interfaces := #[]
  cf := some (fileOf pool3 8 #[] #[{ accessFlags := 1, nameIndex := 5, descriptorIndex := 40, attributes := #[] }, { accessFlags := 0, nameIndex := 44, descriptorIndex := 28, attributes := #[] }] 49 2 #[] #[{ accessFlags := 18, nameIndex := 11, descriptorIndex := 12, attributes := #[] }, { accessFlags := 18, nameIndex := 15, descriptorIndex := 12, attributes := #[] }])
  fields := #[{ name := "where", type := (.object "java/lang/String"), accessFlags := 18, slot := 0, constantValue := 0 }, { name := "problem", type := (.object "java/lang/String"), accessFlags := 18, slot := 1, constantValue := 0 }]
  methods := #[k3m0, k3m1]
  instanceTypes := #[(.object "java/lang/String"), (.object "java/lang/String")]
  staticTypes := #[]
  resolved := Array.replicate 68 none
  statics := none }

def pool4 : Array CpInfo := pool [(1, .class_ 2), (0, u "java/io/Serializable"), (0, .class_ 4), (0, u "java/lang/Object")] 2

/-- java/io/Serializable -/
def k4 : Class := { plain "java/io/Serializable" (some 0) with
  accessFlags := 1537
  interfaces := #[]
  cf := some (fileOf pool4 1 #[] #[] 1537 3 #[] #[])
  fields := #[]
  methods := #[]
  instanceTypes := #[]
  staticTypes := #[]
  resolved := Array.replicate 7 none
  statics := none }

def pool5 : Array CpInfo := pool [(1, .class_ 2), (0, u "java/lang/Comparable"), (0, .class_ 4), (0, u "java/lang/Object")] 7

/-- java/lang/Comparable -/
def k5 : Class := { plain "java/lang/Comparable" (some 0) with
  accessFlags := 1537
  interfaces := #[]
  cf := some (fileOf pool5 1 #[] #[] 1537 3 #[] #[])
  fields := #[]
  methods := #[]
  instanceTypes := #[]
  staticTypes := #[]
  resolved := Array.replicate 12 none
  statics := none }

def pool6 : Array CpInfo := pool [(2, .class_ 4), (1, u "java/lang/CharSequence"), (42, .class_ 48), (0, u "java/lang/CharSequence$1CodePointIterator"), (10, .class_ 60), (0, u "java/lang/CharSequence$1CharIterator"), (5, .class_ 67), (0, u "java/lang/Object")] 63

/-- java/lang/CharSequence -/
def k6 : Class := { plain "java/lang/CharSequence" (some 0) with
  accessFlags := 1537
  interfaces := #[]
  cf := some (fileOf pool6 2 #[.nestMembers #[47, 59]] #[] 1537 66 #[] #[])
  fields := #[]
  methods := #[]
  instanceTypes := #[]
  staticTypes := #[]
  resolved := Array.replicate 131 none
  statics := none }

def pool7 : Array CpInfo := pool [(1, .class_ 2), (0, u "java/lang/constant/Constable"), (0, .class_ 4), (0, u "java/lang/Object")] 6

/-- java/lang/constant/Constable -/
def k7 : Class := { plain "java/lang/constant/Constable" (some 0) with
  accessFlags := 1537
  interfaces := #[]
  cf := some (fileOf pool7 1 #[] #[] 1537 3 #[] #[])
  fields := #[]
  methods := #[]
  instanceTypes := #[]
  staticTypes := #[]
  resolved := Array.replicate 11 none
  statics := none }

def pool8 : Array CpInfo := pool [(1, .class_ 2), (0, u "java/lang/constant/ConstantDesc"), (0, .class_ 4), (0, u "java/lang/Object")] 32

/-- java/lang/constant/ConstantDesc -/
def k8 : Class := { plain "java/lang/constant/ConstantDesc" (some 0) with
  accessFlags := 1537
  interfaces := #[]
  cf := some (fileOf pool8 1 #[] #[] 1537 3 #[] #[])
  fields := #[]
  methods := #[]
  instanceTypes := #[]
  staticTypes := #[]
  resolved := Array.replicate 37 none
  statics := none }

def pool9 : Array CpInfo := pool [(1, .methodref 2 3), (0, .class_ 4), (0, .nameAndType 5 6), (0, u "java/lang/Object"), (0, u "<init>"), (0, u "()V"), (2, .fieldref 10 11), (0, .class_ 12), (0, .nameAndType 13 14), (0, u "java/lang/String"), (0, u "value"), (0, u "[B"), (0, .fieldref 10 16), (0, .nameAndType 17 18), (0, u "coder"), (0, u "B"), (2, u "hash"), (0, u "I"), (2, u "hashIsZero"), (0, u "Z"), (0, .methodref 10 28), (0, .nameAndType 5 29), (0, u "([CIILjava/lang/Void;)V"), (8, .fieldref 10 39), (0, .nameAndType 40 26), (0, u "COMPACT_STRINGS"), (1, .class_ 44), (1, u "java/lang/StringUTF16"), (0, u "compress"), (1, .methodref 42 48), (0, .nameAndType 49 50), (0, u "coderFromArrayLen"), (0, u "([BI)B"), (2, u "toBytes"), (0, .methodref 55 56), (0, .class_ 57), (0, .nameAndType 58 59), (0, u "java/util/Arrays"), (0, u "copyOfRange"), (0, u "([BII)[B"), (47, .class_ 109), (1, u "java/lang/StringLatin1"), (32, u "()Z"), (34, .methodref 42 178), (0, .nameAndType 45 179), (0, u "([CII)[B"), (13, .class_ 195), (1, u "java/lang/System"), (13, .methodref 10 210), (0, .nameAndType 5 211), (0, u "([BB)V"), (0, .methodref 193 213), (0, .nameAndType 214 215), (0, u "arraycopy"), (0, u "(Ljava/lang/Object;ILjava/lang/Object;II)V"), (118, u "()I"), (0, .methodref 10 336), (0, .nameAndType 17 337), (0, u "()B"), (2, u "()[B"), (22, u "([BI)C"), (5, u "(C)Z"), (21, u "(II)V"), (35, u "(I)C"), (61, .methodref 10 490), (0, .nameAndType 5 491), (0, u "(Ljava/lang/AbstractStringBuilder;Ljava/lang/Void;)V"), (0, .methodref 10 493), (0, .nameAndType 494 142), (0, u "isLatin1"), (0, .methodref 107 496), (0, .nameAndType 497 363), (0, u "charAt"), (3, u "checkIndex"), (4, .nameAndType 507 334), (0, u "length"), (24, u "getBytes"), (16, .methodref 550 506), (0, .class_ 551), (0, u "java/lang/AbstractStringBuilder"), (0, .methodref 550 553), (0, .nameAndType 554 340), (0, u "getValue"), (20, .class_ 576), (0, u "java/lang/CharSequence"), (22, u "CASE_INSENSITIVE_ORDER"), (0, u "Ljava/util/Comparator;"), (181, u "valueOf"), (0, u "(C)Ljava/lang/String;"), (37, u "([BIB)V"), (188, u "([C)V"), (4, .methodref 107 1016), (0, .nameAndType 1017 369), (0, u "canEncode"), (0, .methodref 107 1019), (0, .nameAndType 53 1020), (0, u "(C)[B"), (26, .methodref 550 493), (5, .fieldref 1054 1055), (0, .class_ 1056), (0, .nameAndType 1057 1058), (0, u "jdk/internal/util/Preconditions"), (0, u "SIOOBE_FORMATTER"), (0, u "Ljava/util/function/BiFunction;"), (0, .methodref 1054 1060), (0, .nameAndType 501 1061), (0, u "(IILjava/util/function/BiFunction;)I"), (39, u "serialPersistentFields"), (0, u "[Ljava/io/ObjectStreamField;"), (0, .class_ 1104), (0, u "java/lang/String$CaseInsensitiveComparator"), (1, .class_ 1107), (0, u "java/io/Serializable"), (0, .class_ 1109), (0, u "java/lang/Comparable"), (0, .class_ 1111), (0, u "java/lang/constant/Constable"), (0, .class_ 1113), (0, u "java/lang/constant/ConstantDesc"), (2, u "serialVersionUID"), (0, u "J"), (3, u "REPL"), (0, u "C"), (2, u "LATIN1"), (1, u "UTF16"), (105, u "(Ljava/lang/StringBuilder;)V")] 217

def k9m0 : Method := { name := "<init>", desc := "()V", sig := { parameters := [], returnType := none }, accessFlags := 1, code := none }
def k9c1 : Code := { maxStack := 5, maxLocals := 2, code := jdk_42_method_3_code, exceptionTable := #[], attributes := #[] }
def k9m1 : Method := { name := "<init>", desc := "([C)V", sig := { parameters := [(.array .char)], returnType := none }, accessFlags := 1, code := some k9c1 }
def k9c2 : Code := { maxStack := 3, maxLocals := 2, code := jdk_42_method_53_code, exceptionTable := #[], attributes := #[] }
def k9m2 : Method := { name := "<init>", desc := "(Ljava/lang/StringBuilder;)V", sig := { parameters := [(.object "java/lang/StringBuilder")], returnType := none }, accessFlags := 1, code := some k9c2 }
def k9c3 : Code := { maxStack := 2, maxLocals := 1, code := jdk_42_method_54_code, exceptionTable := #[], attributes := #[] }
def k9m3 : Method := { name := "length", desc := "()I", sig := { parameters := [], returnType := some .int }, accessFlags := 1, code := some k9c3 }
def k9c4 : Code := { maxStack := 2, maxLocals := 2, code := jdk_42_method_56_code, exceptionTable := #[], attributes := #[] }
def k9m4 : Method := { name := "charAt", desc := "(I)C", sig := { parameters := [.int], returnType := some .char }, accessFlags := 1, code := some k9c4 }
def k9c5 : Code := { maxStack := 4, maxLocals := 1, code := jdk_42_method_139_code, exceptionTable := #[], attributes := #[] }
def k9m5 : Method := { name := "valueOf", desc := "(C)Ljava/lang/String;", sig := { parameters := [.char], returnType := some (.object "java/lang/String") }, accessFlags := 9, code := some k9c5 }
def k9c6 : Code := { maxStack := 5, maxLocals := 4, code := jdk_42_method_147_code, exceptionTable := #[], attributes := #[] }
def k9m6 : Method := { name := "getBytes", desc := "([BIB)V", sig := { parameters := [(.array .byte), .int, .byte], returnType := none }, accessFlags := 0, code := some k9c6 }
def k9c7 : Code := { maxStack := 4, maxLocals := 6, code := jdk_42_method_149_code, exceptionTable := #[], attributes := #[] }
def k9m7 : Method := { name := "<init>", desc := "([CIILjava/lang/Void;)V", sig := { parameters := [(.array .char), .int, .int, (.object "java/lang/Void")], returnType := none }, accessFlags := 2, code := some k9c7 }
def k9c8 : Code := { maxStack := 5, maxLocals := 5, code := jdk_42_method_150_code, exceptionTable := #[], attributes := #[] }
def k9m8 : Method := { name := "<init>", desc := "(Ljava/lang/AbstractStringBuilder;Ljava/lang/Void;)V", sig := { parameters := [(.object "java/lang/AbstractStringBuilder"), (.object "java/lang/Void")], returnType := none }, accessFlags := 0, code := some k9c8 }
def k9c9 : Code := { maxStack := 2, maxLocals := 3, code := jdk_42_method_151_code, exceptionTable := #[], attributes := #[] }
def k9m9 : Method := { name := "<init>", desc := "([BB)V", sig := { parameters := [(.array .byte), .byte], returnType := none }, accessFlags := 0, code := some k9c9 }
def k9c10 : Code := { maxStack := 1, maxLocals := 1, code := jdk_42_method_152_code, exceptionTable := #[], attributes := #[] }
def k9m10 : Method := { name := "coder", desc := "()B", sig := { parameters := [], returnType := some .byte }, accessFlags := 0, code := some k9c10 }
def k9c11 : Code := { maxStack := 1, maxLocals := 1, code := jdk_42_method_154_code, exceptionTable := #[], attributes := #[] }
def k9m11 : Method := { name := "isLatin1", desc := "()Z", sig := { parameters := [], returnType := some .boolean }, accessFlags := 0, code := some k9c11 }
def k9c12 : Code := { maxStack := 3, maxLocals := 2, code := jdk_42_method_155_code, exceptionTable := #[], attributes := #[] }
def k9m12 : Method := { name := "checkIndex", desc := "(II)V", sig := { parameters := [.int, .int], returnType := none }, accessFlags := 8, code := some k9c12 }
/-- java/lang/String -/
def k9 : Class := { plain "java/lang/String" (some 0) with
  accessFlags := 49
  interfaces := #[4, 5, 6, 7, 8]
  cf := some (fileOf pool9 10 #[.nestMembers #[1103]] #[{ accessFlags := 1, nameIndex := 5, descriptorIndex := 6, attributes := #[] }, { accessFlags := 1, nameIndex := 5, descriptorIndex := 1010, attributes := #[] }, { accessFlags := 1, nameIndex := 5, descriptorIndex := 1233, attributes := #[] }, { accessFlags := 1, nameIndex := 507, descriptorIndex := 334, attributes := #[] }, { accessFlags := 1, nameIndex := 497, descriptorIndex := 427, attributes := #[] }, { accessFlags := 9, nameIndex := 782, descriptorIndex := 783, attributes := #[] }, { accessFlags := 0, nameIndex := 532, descriptorIndex := 821, attributes := #[] }, { accessFlags := 2, nameIndex := 5, descriptorIndex := 29, attributes := #[] }, { accessFlags := 0, nameIndex := 5, descriptorIndex := 491, attributes := #[] }, { accessFlags := 0, nameIndex := 5, descriptorIndex := 211, attributes := #[] }, { accessFlags := 0, nameIndex := 17, descriptorIndex := 337, attributes := #[] }, { accessFlags := 0, nameIndex := 494, descriptorIndex := 142, attributes := #[] }, { accessFlags := 8, nameIndex := 501, descriptorIndex := 391, attributes := #[] }] 49 2 #[1106, 1108, 575, 1110, 1112] #[{ accessFlags := 18, nameIndex := 13, descriptorIndex := 14, attributes := #[] }, { accessFlags := 18, nameIndex := 17, descriptorIndex := 18, attributes := #[] }, { accessFlags := 2, nameIndex := 21, descriptorIndex := 22, attributes := #[] }, { accessFlags := 2, nameIndex := 25, descriptorIndex := 26, attributes := #[] }, { accessFlags := 26, nameIndex := 1116, descriptorIndex := 1117, attributes := #[] }, { accessFlags := 24, nameIndex := 40, descriptorIndex := 26, attributes := #[] }, { accessFlags := 26, nameIndex := 1101, descriptorIndex := 1102, attributes := #[] }, { accessFlags := 26, nameIndex := 1121, descriptorIndex := 1122, attributes := #[] }, { accessFlags := 25, nameIndex := 599, descriptorIndex := 600, attributes := #[] }, { accessFlags := 24, nameIndex := 1125, descriptorIndex := 18, attributes := #[] }, { accessFlags := 24, nameIndex := 1127, descriptorIndex := 18, attributes := #[] }])
  fields := #[{ name := "value", type := (.array .byte), accessFlags := 18, slot := 0, constantValue := 0 }, { name := "coder", type := .byte, accessFlags := 18, slot := 1, constantValue := 0 }, { name := "hash", type := .int, accessFlags := 2, slot := 2, constantValue := 0 }, { name := "hashIsZero", type := .boolean, accessFlags := 2, slot := 3, constantValue := 0 }, { name := "serialVersionUID", type := .long, accessFlags := 26, slot := 0, constantValue := 0 }, { name := "COMPACT_STRINGS", type := .boolean, accessFlags := 24, slot := 1, constantValue := 0 }, { name := "serialPersistentFields", type := (.array (.object "java/io/ObjectStreamField")), accessFlags := 26, slot := 2, constantValue := 0 }, { name := "REPL", type := .char, accessFlags := 26, slot := 3, constantValue := 0 }, { name := "CASE_INSENSITIVE_ORDER", type := (.object "java/util/Comparator"), accessFlags := 25, slot := 4, constantValue := 0 }, { name := "LATIN1", type := .byte, accessFlags := 24, slot := 5, constantValue := 0 }, { name := "UTF16", type := .byte, accessFlags := 24, slot := 6, constantValue := 0 }]
  methods := #[k9m0, k9m1, k9m2, k9m3, k9m4, k9m5, k9m6, k9m7, k9m8, k9m9, k9m10, k9m11, k9m12]
  instanceTypes := #[(.array .byte), .byte, .int, .boolean]
  staticTypes := #[.long, .boolean, (.array (.object "java/io/ObjectStreamField")), .char, (.object "java/util/Comparator"), .byte, .byte]
  resolved := Array.replicate 1451 none
  statics := some 0 }

def pool10 : Array CpInfo := pool [(1, .class_ 2), (0, u "java/lang/Appendable"), (0, .class_ 4), (0, u "java/lang/Object")] 9

/-- java/lang/Appendable -/
def k10 : Class := { plain "java/lang/Appendable" (some 0) with
  accessFlags := 1537
  interfaces := #[]
  cf := some (fileOf pool10 1 #[] #[] 1537 3 #[] #[])
  fields := #[]
  methods := #[]
  instanceTypes := #[]
  staticTypes := #[]
  resolved := Array.replicate 14 none
  statics := none }

def pool11 : Array CpInfo := pool [(1, .class_ 2), (0, u "java/lang/String"), (0, .methodref 4 5), (0, .class_ 6), (0, .nameAndType 7 8), (0, u "java/lang/Object"), (0, u "<init>"), (0, u "()V"), (1, .class_ 12), (1, u "java/lang/AbstractStringBuilder"), (0, u "EMPTYVALUE"), (0, u "[B"), (0, .fieldref 10 16), (0, .nameAndType 17 14), (0, u "value"), (0, .fieldref 1 19), (0, .nameAndType 20 21), (0, u "COMPACT_STRINGS"), (0, u "Z"), (0, .fieldref 10 23), (0, .nameAndType 24 25), (0, u "coder"), (0, u "B"), (6, .methodref 1 33), (0, .nameAndType 34 35), (0, u "length"), (0, u "()I"), (4, .methodref 1 41), (0, .nameAndType 24 42), (0, u "()B"), (2, u "append"), (0, u "(Ljava/lang/String;)Ljava/lang/AbstractStringBuilder;"), (1, .class_ 49), (0, u "java/lang/CharSequence"), (19, u "(Ljava/lang/String;)V"), (5, u "maybeLatin1"), (3, .fieldref 10 80), (0, .nameAndType 81 82), (0, u "count"), (0, u "I"), (2, u "isLatin1"), (0, u "()Z"), (13, .methodref 10 101), (0, .nameAndType 102 103), (0, u "ensureCapacityInternal"), (0, u "(I)V"), (104, .methodref 10 209), (0, .nameAndType 210 211), (0, u "putStringAt"), (0, u "(ILjava/lang/String;)V"), (5, u "inflateIfNeededFor"), (2, .nameAndType 221 222), (0, u "getBytes"), (0, u "([BIB)V"), (174, .methodref 10 398), (0, .nameAndType 217 69), (0, .methodref 1 220), (3, u "()[B"), (40, .class_ 445), (0, u "java/lang/Appendable"), (106, u "getValue")] 56

def k11m0 : Method := { name := "<init>", desc := "()V", sig := { parameters := [], returnType := none }, accessFlags := 0, code := none }
def k11c1 : Code := { maxStack := 2, maxLocals := 2, code := jdk_68_method_2_code, exceptionTable := #[], attributes := #[] }
def k11m1 : Method := { name := "<init>", desc := "(I)V", sig := { parameters := [.int], returnType := none }, accessFlags := 0, code := some k11c1 }
def k11c2 : Code := { maxStack := 1, maxLocals := 1, code := jdk_68_method_6_code, exceptionTable := #[], attributes := #[] }
def k11m2 : Method := { name := "length", desc := "()I", sig := { parameters := [], returnType := some .int }, accessFlags := 1, code := some k11c2 }
def k11c3 : Code := { maxStack := 4, maxLocals := 3, code := jdk_68_method_9_code, exceptionTable := #[], attributes := #[] }
def k11m3 : Method := { name := "ensureCapacityInternal", desc := "(I)V", sig := { parameters := [.int], returnType := none }, accessFlags := 2, code := some k11c3 }
def k11c4 : Code := { maxStack := 3, maxLocals := 3, code := jdk_68_method_22_code, exceptionTable := #[], attributes := #[] }
def k11m4 : Method := { name := "append", desc := "(Ljava/lang/String;)Ljava/lang/AbstractStringBuilder;", sig := { parameters := [(.object "java/lang/String")], returnType := some (.object "java/lang/AbstractStringBuilder") }, accessFlags := 1, code := some k11c4 }
def k11c5 : Code := { maxStack := 1, maxLocals := 1, code := jdk_68_method_64_code, exceptionTable := #[], attributes := #[] }
def k11m5 : Method := { name := "getValue", desc := "()[B", sig := { parameters := [], returnType := some (.array .byte) }, accessFlags := 16, code := some k11c5 }
def k11c6 : Code := { maxStack := 1, maxLocals := 1, code := jdk_68_method_68_code, exceptionTable := #[], attributes := #[] }
def k11m6 : Method := { name := "isLatin1", desc := "()Z", sig := { parameters := [], returnType := some .boolean }, accessFlags := 16, code := some k11c6 }
def k11c7 : Code := { maxStack := 2, maxLocals := 2, code := jdk_68_method_71_code, exceptionTable := #[], attributes := #[] }
def k11m7 : Method := { name := "inflateIfNeededFor", desc := "(Ljava/lang/String;)V", sig := { parameters := [(.object "java/lang/String")], returnType := none }, accessFlags := 2, code := some k11c7 }
def k11c8 : Code := { maxStack := 4, maxLocals := 3, code := jdk_68_method_73_code, exceptionTable := #[], attributes := #[] }
def k11m8 : Method := { name := "putStringAt", desc := "(ILjava/lang/String;)V", sig := { parameters := [.int, (.object "java/lang/String")], returnType := none }, accessFlags := 2, code := some k11c8 }
/-- java/lang/AbstractStringBuilder -/
def k11 : Class := { plain "java/lang/AbstractStringBuilder" (some 0) with
  accessFlags := 1056
  interfaces := #[10, 6]
  cf := some (fileOf pool11 10 #[] #[{ accessFlags := 0, nameIndex := 7, descriptorIndex := 8, attributes := #[] }, { accessFlags := 0, nameIndex := 7, descriptorIndex := 103, attributes := #[] }, { accessFlags := 1, nameIndex := 34, descriptorIndex := 35, attributes := #[] }, { accessFlags := 2, nameIndex := 102, descriptorIndex := 103, attributes := #[] }, { accessFlags := 1, nameIndex := 45, descriptorIndex := 46, attributes := #[] }, { accessFlags := 16, nameIndex := 552, descriptorIndex := 403, attributes := #[] }, { accessFlags := 16, nameIndex := 85, descriptorIndex := 86, attributes := #[] }, { accessFlags := 2, nameIndex := 217, descriptorIndex := 69, attributes := #[] }, { accessFlags := 2, nameIndex := 210, descriptorIndex := 211, attributes := #[] }] 1056 4 #[444, 48] #[{ accessFlags := 0, nameIndex := 17, descriptorIndex := 14, attributes := #[] }, { accessFlags := 0, nameIndex := 24, descriptorIndex := 25, attributes := #[] }, { accessFlags := 0, nameIndex := 75, descriptorIndex := 21, attributes := #[] }, { accessFlags := 0, nameIndex := 81, descriptorIndex := 82, attributes := #[] }, { accessFlags := 26, nameIndex := 13, descriptorIndex := 14, attributes := #[] }])
  fields := #[{ name := "value", type := (.array .byte), accessFlags := 0, slot := 0, constantValue := 0 }, { name := "coder", type := .byte, accessFlags := 0, slot := 1, constantValue := 0 }, { name := "maybeLatin1", type := .boolean, accessFlags := 0, slot := 2, constantValue := 0 }, { name := "count", type := .int, accessFlags := 0, slot := 3, constantValue := 0 }, { name := "EMPTYVALUE", type := (.array .byte), accessFlags := 26, slot := 0, constantValue := 0 }]
  methods := #[k11m0, k11m1, k11m2, k11m3, k11m4, k11m5, k11m6, k11m7, k11m8]
  instanceTypes := #[(.array .byte), .byte, .boolean, .int]
  staticTypes := #[(.array .byte)]
  resolved := Array.replicate 609 none
  statics := none }

def pool12 : Array CpInfo := pool [(1, .methodref 2 3), (0, .class_ 4), (0, .nameAndType 5 6), (0, u "java/lang/AbstractStringBuilder"), (0, u "<init>"), (0, u "(I)V"), (11, .class_ 20), (1, u "java/lang/String"), (3, .class_ 26), (1, u "java/lang/StringBuilder"), (0, u "append"), (0, u "(Ljava/lang/String;)Ljava/lang/StringBuilder;"), (0, .methodref 2 30), (0, .nameAndType 27 31), (0, u "(Ljava/lang/String;)Ljava/lang/AbstractStringBuilder;"), (105, .methodref 18 138), (0, .nameAndType 5 139), (0, u "(Ljava/lang/StringBuilder;)V"), (5, u "()V"), (10, u "()I"), (186, .methodref 2 344), (0, .nameAndType 345 156), (0, u "length"), (3, .class_ 350), (0, u "java/lang/Appendable"), (0, .class_ 352), (0, u "java/io/Serializable"), (0, .class_ 354), (0, u "java/lang/Comparable"), (0, .class_ 356), (0, u "java/lang/CharSequence"), (0, u "serialVersionUID"), (0, u "J"), (40, u "toString"), (0, u "()Ljava/lang/String;")] 21

def k12c0 : Code := { maxStack := 2, maxLocals := 1, code := jdk_67_method_1_code, exceptionTable := #[], attributes := #[] }
def k12m0 : Method := { name := "<init>", desc := "()V", sig := { parameters := [], returnType := none }, accessFlags := 1, code := some k12c0 }
def k12c1 : Code := { maxStack := 2, maxLocals := 2, code := jdk_67_method_7_code, exceptionTable := #[], attributes := #[] }
def k12m1 : Method := { name := "append", desc := "(Ljava/lang/String;)Ljava/lang/StringBuilder;", sig := { parameters := [(.object "java/lang/String")], returnType := some (.object "java/lang/StringBuilder") }, accessFlags := 1, code := some k12c1 }
def k12c2 : Code := { maxStack := 3, maxLocals := 1, code := jdk_67_method_42_code, exceptionTable := #[], attributes := #[] }
def k12m2 : Method := { name := "toString", desc := "()Ljava/lang/String;", sig := { parameters := [], returnType := some (.object "java/lang/String") }, accessFlags := 1, code := some k12c2 }
def k12c3 : Code := { maxStack := 1, maxLocals := 1, code := jdk_67_method_93_code, exceptionTable := #[], attributes := #[] }
def k12m3 : Method := { name := "length", desc := "()I", sig := { parameters := [], returnType := some .int }, accessFlags := 4161, code := some k12c3 }
/-- java/lang/StringBuilder -/
def k12 : Class := { plain "java/lang/StringBuilder" (some 11) with
  accessFlags := 49
  interfaces := #[10, 4, 5, 6]
  cf := some (fileOf pool12 24 #[] #[{ accessFlags := 1, nameIndex := 5, descriptorIndex := 145, attributes := #[] }, { accessFlags := 1, nameIndex := 27, descriptorIndex := 28, attributes := #[] }, { accessFlags := 1, nameIndex := 399, descriptorIndex := 400, attributes := #[] }, { accessFlags := 4161, nameIndex := 345, descriptorIndex := 156, attributes := #[] }] 49 2 #[349, 351, 353, 355] #[{ accessFlags := 24, nameIndex := 357, descriptorIndex := 358, attributes := #[] }])
  fields := #[{ name := "serialVersionUID", type := .long, accessFlags := 24, slot := 0, constantValue := 0 }]
  methods := #[k12m0, k12m1, k12m2, k12m3]
  instanceTypes := #[(.array .byte), .byte, .boolean, .int]
  staticTypes := #[.long]
  resolved := Array.replicate 422 none
  statics := none }

def pool13 : Array CpInfo := pool [(2, .class_ 4), (1, u "java/lang/Object"), (0, u "<init>"), (0, u "()V"), (1, .class_ 10), (1, u "java/lang/System"), (0, u "allowSecurityManager"), (0, u "I"), (16, u "cons"), (0, u "Ljava/io/Console;"), (77, .class_ 110), (1, u "java/lang/System$CallersHolder"), (43, u "initialErrStream"), (0, u "Ljava/io/PrintStream;"), (19, u "security"), (0, u "Ljava/lang/SecurityManager;"), (31, .class_ 209), (0, u "java/lang/System$1"), (7, u "props"), (0, u "Ljava/util/Properties;"), (2, u "lineSeparator"), (0, u "Ljava/lang/String;"), (96, .class_ 321), (1, u "java/lang/System$LoggerFinder"), (5, .class_ 328), (0, u "java/lang/System$Logger"), (67, u "err"), (2, u "out"), (91, u "notSupportedJnuEncoding"), (15, u "in"), (17, u "initialIn"), (0, u "Ljava/io/InputStream;"), (35, u "bootLayer"), (0, u "Ljava/lang/ModuleLayer;"), (99, .class_ 664), (0, u "java/lang/System$2"), (9, u "NEVER"), (2, u "MAYBE"), (49, u "arraycopy"), (0, u "(Ljava/lang/Object;ILjava/lang/Object;II)V"), (72, .class_ 802), (0, u "java/lang/System$Logger$Level")] 31

def k13m0 : Method := { name := "<init>", desc := "()V", sig := { parameters := [], returnType := none }, accessFlags := 2, code := none }
def k13m1 : Method := { name := "arraycopy", desc := "(Ljava/lang/Object;ILjava/lang/Object;II)V", sig := { parameters := [(.object "java/lang/Object"), .int, (.object "java/lang/Object"), .int, .int], returnType := none }, accessFlags := 265, code := none }
/-- java/lang/System -/
def k13 : Class := { plain "java/lang/System" (some 0) with
  accessFlags := 49
  interfaces := #[]
  cf := some (fileOf pool13 8 #[.nestMembers #[319, 327, 801, 108, 663, 208]] #[{ accessFlags := 2, nameIndex := 5, descriptorIndex := 6, attributes := #[] }, { accessFlags := 265, nameIndex := 727, descriptorIndex := 728, attributes := #[] }] 49 2 #[] #[{ accessFlags := 25, nameIndex := 507, descriptorIndex := 526, attributes := #[] }, { accessFlags := 25, nameIndex := 399, descriptorIndex := 155, attributes := #[] }, { accessFlags := 25, nameIndex := 396, descriptorIndex := 155, attributes := #[] }, { accessFlags := 10, nameIndex := 525, descriptorIndex := 526, attributes := #[] }, { accessFlags := 26, nameIndex := 674, descriptorIndex := 12, attributes := #[] }, { accessFlags := 26, nameIndex := 677, descriptorIndex := 12, attributes := #[] }, { accessFlags := 10, nameIndex := 11, descriptorIndex := 12, attributes := #[] }, { accessFlags := 74, nameIndex := 175, descriptorIndex := 176, attributes := #[] }, { accessFlags := 10, nameIndex := 491, descriptorIndex := 222, attributes := #[] }, { accessFlags := 74, nameIndex := 29, descriptorIndex := 30, attributes := #[] }, { accessFlags := 74, nameIndex := 154, descriptorIndex := 155, attributes := #[] }, { accessFlags := 10, nameIndex := 217, descriptorIndex := 218, attributes := #[] }, { accessFlags := 10, nameIndex := 221, descriptorIndex := 222, attributes := #[] }, { accessFlags := 8, nameIndex := 562, descriptorIndex := 563, attributes := #[] }])
  fields := #[{ name := "in", type := (.object "java/io/InputStream"), accessFlags := 25, slot := 0, constantValue := 0 }, { name := "out", type := (.object "java/io/PrintStream"), accessFlags := 25, slot := 1, constantValue := 0 }, { name := "err", type := (.object "java/io/PrintStream"), accessFlags := 25, slot := 2, constantValue := 0 }, { name := "initialIn", type := (.object "java/io/InputStream"), accessFlags := 10, slot := 3, constantValue := 0 }, { name := "NEVER", type := .int, accessFlags := 26, slot := 4, constantValue := 0 }, { name := "MAYBE", type := .int, accessFlags := 26, slot := 5, constantValue := 0 }, { name := "allowSecurityManager", type := .int, accessFlags := 10, slot := 6, constantValue := 0 }, { name := "security", type := (.object "java/lang/SecurityManager"), accessFlags := 74, slot := 7, constantValue := 0 }, { name := "notSupportedJnuEncoding", type := (.object "java/lang/String"), accessFlags := 10, slot := 8, constantValue := 0 }, { name := "cons", type := (.object "java/io/Console"), accessFlags := 74, slot := 9, constantValue := 0 }, { name := "initialErrStream", type := (.object "java/io/PrintStream"), accessFlags := 74, slot := 10, constantValue := 0 }, { name := "props", type := (.object "java/util/Properties"), accessFlags := 10, slot := 11, constantValue := 0 }, { name := "lineSeparator", type := (.object "java/lang/String"), accessFlags := 10, slot := 12, constantValue := 0 }, { name := "bootLayer", type := (.object "java/lang/ModuleLayer"), accessFlags := 8, slot := 13, constantValue := 0 }]
  methods := #[k13m0, k13m1]
  instanceTypes := #[]
  staticTypes := #[(.object "java/io/InputStream"), (.object "java/io/PrintStream"), (.object "java/io/PrintStream"), (.object "java/io/InputStream"), .int, .int, .int, (.object "java/lang/SecurityManager"), (.object "java/lang/String"), (.object "java/io/Console"), (.object "java/io/PrintStream"), (.object "java/util/Properties"), (.object "java/lang/String"), (.object "java/lang/ModuleLayer")]
  resolved := Array.replicate 834 none
  statics := none }

def pool14 : Array CpInfo := pool [(2, .class_ 4), (1, u "java/lang/Object"), (0, u "<init>"), (0, u "()V"), (7, .class_ 16), (1, u "java/util/Arrays"), (57, .class_ 76), (1, u "java/util/Arrays$NaturalOrder"), (36, .class_ 115), (1, u "java/util/Arrays$LegacyMergeSort"), (1, u "Z"), (21, u "copyOfRange"), (10, .methodref 151 152), (0, .class_ 153), (0, .nameAndType 154 155), (0, u "java/lang/System"), (0, u "arraycopy"), (0, u "(Ljava/lang/Object;ILjava/lang/Object;II)V"), (148, .methodref 305 306), (0, .class_ 307), (0, .nameAndType 308 309), (0, u "java/lang/Math"), (0, u "min"), (0, u "(II)I"), (29, .methodref 14 340), (0, .nameAndType 341 342), (0, u "copyOfRangeByte"), (0, u "([BII)[B"), (0, .methodref 14 344), (0, .nameAndType 345 346), (0, u "checkLength"), (0, u "(II)V"), (28, .class_ 376), (0, u "java/util/Arrays$ArrayList"), (68, u "$assertionsDisabled"), (269, u "MIN_ARRAY_SORT_GRAN"), (0, u "I"), (2, u "INSERTIONSORT_THRESHOLD"), (255, .class_ 976), (0, u "java/util/Arrays$ArrayItr")] 52

def k14m0 : Method := { name := "<init>", desc := "()V", sig := { parameters := [], returnType := none }, accessFlags := 2, code := none }
def k14c1 : Code := { maxStack := 4, maxLocals := 2, code := jdk_65_method_131_code, exceptionTable := #[], attributes := #[] }
def k14m1 : Method := { name := "checkLength", desc := "(II)V", sig := { parameters := [.int, .int], returnType := none }, accessFlags := 10, code := some k14c1 }
def k14c2 : Code := { maxStack := 3, maxLocals := 3, code := jdk_65_method_132_code, exceptionTable := #[], attributes := #[] }
def k14m2 : Method := { name := "copyOfRange", desc := "([BII)[B", sig := { parameters := [(.array .byte), .int, .int], returnType := some (.array .byte) }, accessFlags := 9, code := some k14c2 }
def k14c3 : Code := { maxStack := 6, maxLocals := 5, code := jdk_65_method_133_code, exceptionTable := #[], attributes := #[] }
def k14m3 : Method := { name := "copyOfRangeByte", desc := "([BII)[B", sig := { parameters := [(.array .byte), .int, .int], returnType := some (.array .byte) }, accessFlags := 10, code := some k14c3 }
/-- java/util/Arrays -/
def k14 : Class := { plain "java/util/Arrays" (some 0) with
  accessFlags := 49
  interfaces := #[]
  cf := some (fileOf pool14 14 #[.nestMembers #[975, 375, 113, 74]] #[{ accessFlags := 2, nameIndex := 5, descriptorIndex := 6, attributes := #[] }, { accessFlags := 10, nameIndex := 345, descriptorIndex := 346, attributes := #[] }, { accessFlags := 9, nameIndex := 139, descriptorIndex := 342, attributes := #[] }, { accessFlags := 10, nameIndex := 341, descriptorIndex := 342, attributes := #[] }] 49 2 #[] #[{ accessFlags := 26, nameIndex := 715, descriptorIndex := 716, attributes := #[] }, { accessFlags := 26, nameIndex := 719, descriptorIndex := 716, attributes := #[] }, { accessFlags := 4120, nameIndex := 445, descriptorIndex := 117, attributes := #[] }])
  fields := #[{ name := "MIN_ARRAY_SORT_GRAN", type := .int, accessFlags := 26, slot := 0, constantValue := 0 }, { name := "INSERTIONSORT_THRESHOLD", type := .int, accessFlags := 26, slot := 1, constantValue := 0 }, { name := "$assertionsDisabled", type := .boolean, accessFlags := 4120, slot := 2, constantValue := 0 }]
  methods := #[k14m0, k14m1, k14m2, k14m3]
  instanceTypes := #[]
  staticTypes := #[.int, .int, .boolean]
  resolved := Array.replicate 1029 none
  statics := none }

def pool15 : Array CpInfo := pool [(1, .class_ 2), (0, u "java/lang/Math"), (1, .class_ 6), (1, u "java/lang/Object"), (0, u "<init>"), (0, u "()V"), (89, .class_ 100), (1, u "java/lang/Math$RandomNumberGeneratorHolder"), (71, u "negativeZeroFloatBits"), (0, u "J"), (2, u "negativeZeroDoubleBits"), (24, u "min"), (43, u "$assertionsDisabled"), (0, u "Z"), (88, u "(II)I"), (2, u "twoToTheDoubleScaleDown"), (0, u "D"), (4, u "twoToTheDoubleScaleUp"), (9, u "E"), (3, u "PI"), (2, u "TAU"), (2, u "DEGREES_TO_RADIANS"), (0, u "RADIANS_TO_DEGREES")] 94

def k15m0 : Method := { name := "<init>", desc := "()V", sig := { parameters := [], returnType := none }, accessFlags := 2, code := none }
def k15c1 : Code := { maxStack := 2, maxLocals := 2, code := jdk_29_method_69_code, exceptionTable := #[], attributes := #[] }
def k15m1 : Method := { name := "min", desc := "(II)I", sig := { parameters := [.int, .int], returnType := some .int }, accessFlags := 9, code := some k15c1 }
/-- java/lang/Math -/
def k15 : Class := { plain "java/lang/Math" (some 0) with
  accessFlags := 49
  interfaces := #[]
  cf := some (fileOf pool15 1 #[.nestMembers #[98]] #[{ accessFlags := 2, nameIndex := 7, descriptorIndex := 8, attributes := #[] }, { accessFlags := 9, nameIndex := 201, descriptorIndex := 335, attributes := #[] }] 49 4 #[] #[{ accessFlags := 25, nameIndex := 354, descriptorIndex := 339, attributes := #[] }, { accessFlags := 25, nameIndex := 358, descriptorIndex := 339, attributes := #[] }, { accessFlags := 25, nameIndex := 361, descriptorIndex := 339, attributes := #[] }, { accessFlags := 26, nameIndex := 364, descriptorIndex := 339, attributes := #[] }, { accessFlags := 26, nameIndex := 365, descriptorIndex := 339, attributes := #[] }, { accessFlags := 26, nameIndex := 172, descriptorIndex := 173, attributes := #[] }, { accessFlags := 26, nameIndex := 176, descriptorIndex := 173, attributes := #[] }, { accessFlags := 8, nameIndex := 344, descriptorIndex := 339, attributes := #[] }, { accessFlags := 8, nameIndex := 338, descriptorIndex := 339, attributes := #[] }, { accessFlags := 4120, nameIndex := 245, descriptorIndex := 246, attributes := #[] }])
  fields := #[{ name := "E", type := .double, accessFlags := 25, slot := 0, constantValue := 0 }, { name := "PI", type := .double, accessFlags := 25, slot := 1, constantValue := 0 }, { name := "TAU", type := .double, accessFlags := 25, slot := 2, constantValue := 0 }, { name := "DEGREES_TO_RADIANS", type := .double, accessFlags := 26, slot := 3, constantValue := 0 }, { name := "RADIANS_TO_DEGREES", type := .double, accessFlags := 26, slot := 4, constantValue := 0 }, { name := "negativeZeroFloatBits", type := .long, accessFlags := 26, slot := 5, constantValue := 0 }, { name := "negativeZeroDoubleBits", type := .long, accessFlags := 26, slot := 6, constantValue := 0 }, { name := "twoToTheDoubleScaleUp", type := .double, accessFlags := 8, slot := 7, constantValue := 0 }, { name := "twoToTheDoubleScaleDown", type := .double, accessFlags := 8, slot := 8, constantValue := 0 }, { name := "$assertionsDisabled", type := .boolean, accessFlags := 4120, slot := 9, constantValue := 0 }]
  methods := #[k15m0, k15m1]
  instanceTypes := #[]
  staticTypes := #[.double, .double, .double, .double, .double, .long, .long, .double, .double, .boolean]
  resolved := Array.replicate 460 none
  statics := none }

def pool16 : Array CpInfo := pool [(1, .class_ 2), (0, u "java/lang/String"), (1, .class_ 6), (1, u "java/lang/Object"), (0, u "<init>"), (0, u "()V"), (0, .methodref 1 10), (0, .nameAndType 11 12), (0, u "checkIndex"), (0, u "(II)V"), (1, .class_ 16), (1, u "java/lang/StringLatin1"), (36, u "([BI)C"), (36, u "canEncode"), (14, u "(C)Z"), (15, u "$assertionsDisabled"), (0, u "Z"), (98, .class_ 223), (1, u "java/lang/StringLatin1$LinesSpliterator"), (28, u "charAt"), (127, u "toBytes"), (1, u "(C)[B"), (7, .class_ 391), (0, u "java/lang/StringLatin1$CharsSpliterator")] 3

def k16m0 : Method := { name := "<init>", desc := "()V", sig := { parameters := [], returnType := none }, accessFlags := 0, code := none }
def k16c1 : Code := { maxStack := 2, maxLocals := 2, code := jdk_43_method_2_code, exceptionTable := #[], attributes := #[] }
def k16m1 : Method := { name := "charAt", desc := "([BI)C", sig := { parameters := [(.array .byte), .int], returnType := some .char }, accessFlags := 9, code := some k16c1 }
def k16c2 : Code := { maxStack := 2, maxLocals := 1, code := jdk_43_method_3_code, exceptionTable := #[], attributes := #[] }
def k16m2 : Method := { name := "canEncode", desc := "(C)Z", sig := { parameters := [.char], returnType := some .boolean }, accessFlags := 9, code := some k16c2 }
def k16c3 : Code := { maxStack := 4, maxLocals := 1, code := jdk_43_method_46_code, exceptionTable := #[], attributes := #[] }
def k16m3 : Method := { name := "toBytes", desc := "(C)[B", sig := { parameters := [.char], returnType := some (.array .byte) }, accessFlags := 9, code := some k16c3 }
/-- java/lang/StringLatin1 -/
def k16 : Class := { plain "java/lang/StringLatin1" (some 0) with
  accessFlags := 48
  interfaces := #[]
  cf := some (fileOf pool16 14 #[.nestMembers #[390, 221]] #[{ accessFlags := 0, nameIndex := 7, descriptorIndex := 8, attributes := #[] }, { accessFlags := 9, nameIndex := 252, descriptorIndex := 53, attributes := #[] }, { accessFlags := 9, nameIndex := 90, descriptorIndex := 105, attributes := #[] }, { accessFlags := 9, nameIndex := 380, descriptorIndex := 382, attributes := #[] }] 48 4 #[] #[{ accessFlags := 4120, nameIndex := 121, descriptorIndex := 122, attributes := #[] }])
  fields := #[{ name := "$assertionsDisabled", type := .boolean, accessFlags := 4120, slot := 0, constantValue := 0 }]
  methods := #[k16m0, k16m1, k16m2, k16m3]
  instanceTypes := #[]
  staticTypes := #[.boolean]
  resolved := Array.replicate 395 none
  statics := none }

def pool17 : Array CpInfo := pool [(2, .class_ 4), (1, u "java/lang/Object"), (0, u "<init>"), (0, u "()V"), (17, .class_ 26), (1, u "jdk/internal/util/Preconditions"), (6, u "checkIndex"), (21, .class_ 56), (0, u "jdk/internal/util/Preconditions$4"), (57, .class_ 115), (0, u "jdk/internal/util/Preconditions$1"), (7, u "SIOOBE_FORMATTER"), (0, u "Ljava/util/function/BiFunction;"), (0, .class_ 126), (0, u "jdk/internal/util/Preconditions$2"), (3, u "AIOOBE_FORMATTER"), (0, .class_ 132), (0, u "jdk/internal/util/Preconditions$3"), (3, u "IOOBE_FORMATTER"), (41, u "(IILjava/util/function/BiFunction;)I")] 15

def k17m0 : Method := { name := "<init>", desc := "()V", sig := { parameters := [], returnType := none }, accessFlags := 1, code := none }
def k17c1 : Code := { maxStack := 3, maxLocals := 3, code := jdk_41_method_11_code, exceptionTable := #[], attributes := #[] }
def k17m1 : Method := { name := "checkIndex", desc := "(IILjava/util/function/BiFunction;)I", sig := { parameters := [.int, .int, (.object "java/util/function/BiFunction")], returnType := some .int }, accessFlags := 9, code := some k17c1 }
/-- jdk/internal/util/Preconditions -/
def k17 : Class := { plain "jdk/internal/util/Preconditions" (some 0) with
  accessFlags := 33
  interfaces := #[]
  cf := some (fileOf pool17 24 #[.nestMembers #[55, 131, 125, 114]] #[{ accessFlags := 1, nameIndex := 5, descriptorIndex := 6, attributes := #[] }, { accessFlags := 9, nameIndex := 33, descriptorIndex := 178, attributes := #[] }] 33 2 #[] #[{ accessFlags := 25, nameIndex := 123, descriptorIndex := 124, attributes := #[] }, { accessFlags := 25, nameIndex := 130, descriptorIndex := 124, attributes := #[] }, { accessFlags := 25, nameIndex := 136, descriptorIndex := 124, attributes := #[] }])
  fields := #[{ name := "SIOOBE_FORMATTER", type := (.object "java/util/function/BiFunction"), accessFlags := 25, slot := 0, constantValue := 0 }, { name := "AIOOBE_FORMATTER", type := (.object "java/util/function/BiFunction"), accessFlags := 25, slot := 1, constantValue := 0 }, { name := "IOOBE_FORMATTER", type := (.object "java/util/function/BiFunction"), accessFlags := 25, slot := 2, constantValue := 0 }]
  methods := #[k17m0, k17m1]
  instanceTypes := #[]
  staticTypes := #[(.object "java/util/function/BiFunction"), (.object "java/util/function/BiFunction"), (.object "java/util/function/BiFunction")]
  resolved := Array.replicate 194 none
  statics := some 1 }

def pool18 : Array CpInfo := pool [(6, .class_ 8), (1, u "java/lang/Object"), (0, u "<init>"), (0, u "()V"), (1, .class_ 14), (1, u "java/lang/StringUTF16"), (31, u "$assertionsDisabled"), (0, u "Z"), (13, u "HI_BYTE_SHIFT"), (0, u "I"), (2, u "LO_BYTE_SHIFT"), (49, .methodref 12 116), (0, .nameAndType 117 118), (0, u "compress"), (0, u "([CI[BII)I"), (3, u "([CII)[B"), (138, u "coderFromArrayLen"), (0, u "([BI)B"), (106, .class_ 371), (1, u "java/lang/StringUTF16$LinesSpliterator"), (58, u "MAX_LENGTH"), (196, .class_ 628), (0, u "java/lang/StringUTF16$CodePointsSpliterator"), (0, .class_ 630), (0, u "java/lang/StringUTF16$CharsSpliterator")] 4

def k18m0 : Method := { name := "<init>", desc := "()V", sig := { parameters := [], returnType := none }, accessFlags := 0, code := none }
def k18c1 : Code := { maxStack := 2, maxLocals := 2, code := jdk_52_method_15_code, exceptionTable := #[], attributes := #[] }
def k18m1 : Method := { name := "coderFromArrayLen", desc := "([BI)B", sig := { parameters := [(.array .byte), .int], returnType := some .byte }, accessFlags := 8, code := some k18c1 }
def k18c2 : Code := { maxStack := 5, maxLocals := 6, code := jdk_52_method_16_code, exceptionTable := #[], attributes := #[] }
def k18m2 : Method := { name := "compress", desc := "([CII)[B", sig := { parameters := [(.array .char), .int, .int], returnType := some (.array .byte) }, accessFlags := 9, code := some k18c2 }
def k18c3 : Code := { maxStack := 3, maxLocals := 7, code := jdk_52_method_21_code, exceptionTable := #[], attributes := #[] }
def k18m3 : Method := { name := "compress", desc := "([CI[BII)I", sig := { parameters := [(.array .char), .int, (.array .byte), .int, .int], returnType := some .int }, accessFlags := 9, code := some k18c3 }
/-- java/lang/StringUTF16 -/
def k18 : Class := { plain "java/lang/StringUTF16" (some 0) with
  accessFlags := 48
  interfaces := #[]
  cf := some (fileOf pool18 12 #[.nestMembers #[627, 629, 369]] #[{ accessFlags := 0, nameIndex := 9, descriptorIndex := 10, attributes := #[] }, { accessFlags := 8, nameIndex := 261, descriptorIndex := 262, attributes := #[] }, { accessFlags := 9, nameIndex := 117, descriptorIndex := 122, attributes := #[] }, { accessFlags := 9, nameIndex := 117, descriptorIndex := 118, attributes := #[] }] 48 6 #[] #[{ accessFlags := 26, nameIndex := 61, descriptorIndex := 62, attributes := #[] }, { accessFlags := 26, nameIndex := 65, descriptorIndex := 62, attributes := #[] }, { accessFlags := 24, nameIndex := 430, descriptorIndex := 62, attributes := #[] }, { accessFlags := 4120, nameIndex := 46, descriptorIndex := 47, attributes := #[] }])
  fields := #[{ name := "HI_BYTE_SHIFT", type := .int, accessFlags := 26, slot := 0, constantValue := 0 }, { name := "LO_BYTE_SHIFT", type := .int, accessFlags := 26, slot := 1, constantValue := 0 }, { name := "MAX_LENGTH", type := .int, accessFlags := 24, slot := 2, constantValue := 0 }, { name := "$assertionsDisabled", type := .boolean, accessFlags := 4120, slot := 3, constantValue := 0 }]
  methods := #[k18m0, k18m1, k18m2, k18m3]
  instanceTypes := #[]
  staticTypes := #[.int, .int, .int, .boolean]
  resolved := Array.replicate 635 none
  statics := none }

def pool19 : Array CpInfo := pool [(9, u "<init>"), (6, .class_ 18), (1, u "java/lang/Object"), (0, u "()V"), (1, .class_ 23), (1, u "jdk/internal/util/ArraysSupport"), (0, u "LOG2_ARRAY_LONG_INDEX_SCALE"), (0, u "I"), (2, u "U"), (0, u "Ljdk/internal/misc/Unsafe;"), (8, u "BIG_ENDIAN"), (0, u "Z"), (8, u "LOG2_BYTE_BIT_SIZE"), (4, u "LOG2_ARRAY_INT_INDEX_SCALE"), (54, u "JLA"), (0, u "Ljdk/internal/access/JavaLangAccess;"), (11, u "LOG2_ARRAY_BOOLEAN_INDEX_SCALE"), (9, u "LOG2_ARRAY_BYTE_INDEX_SCALE"), (5, u "LOG2_ARRAY_CHAR_INDEX_SCALE"), (5, u "LOG2_ARRAY_SHORT_INDEX_SCALE"), (18, u "LOG2_ARRAY_FLOAT_INDEX_SCALE"), (24, u "LOG2_ARRAY_DOUBLE_INDEX_SCALE"), (89, u "T_BOOLEAN"), (2, u "T_CHAR"), (1, u "T_FLOAT"), (1, u "T_DOUBLE"), (1, u "T_BYTE"), (1, u "T_SHORT"), (1, u "T_INT"), (1, u "T_LONG"), (1, u "SOFT_MAX_ARRAY_LENGTH")] 83

def k19m0 : Method := { name := "<init>", desc := "()V", sig := { parameters := [], returnType := none }, accessFlags := 2, code := none }
/-- jdk/internal/util/ArraysSupport -/
def k19 : Class := { plain "jdk/internal/util/ArraysSupport" (some 0) with
  accessFlags := 33
  interfaces := #[]
  cf := some (fileOf pool19 21 #[] #[{ accessFlags := 2, nameIndex := 9, descriptorIndex := 19, attributes := #[] }] 33 16 #[] #[{ accessFlags := 24, nameIndex := 28, descriptorIndex := 29, attributes := #[] }, { accessFlags := 26, nameIndex := 38, descriptorIndex := 39, attributes := #[] }, { accessFlags := 25, nameIndex := 121, descriptorIndex := 25, attributes := #[] }, { accessFlags := 25, nameIndex := 131, descriptorIndex := 25, attributes := #[] }, { accessFlags := 25, nameIndex := 137, descriptorIndex := 25, attributes := #[] }, { accessFlags := 25, nameIndex := 143, descriptorIndex := 25, attributes := #[] }, { accessFlags := 25, nameIndex := 53, descriptorIndex := 25, attributes := #[] }, { accessFlags := 25, nameIndex := 24, descriptorIndex := 25, attributes := #[] }, { accessFlags := 25, nameIndex := 162, descriptorIndex := 25, attributes := #[] }, { accessFlags := 25, nameIndex := 187, descriptorIndex := 25, attributes := #[] }, { accessFlags := 26, nameIndex := 48, descriptorIndex := 25, attributes := #[] }, { accessFlags := 25, nameIndex := 277, descriptorIndex := 25, attributes := #[] }, { accessFlags := 25, nameIndex := 280, descriptorIndex := 25, attributes := #[] }, { accessFlags := 25, nameIndex := 282, descriptorIndex := 25, attributes := #[] }, { accessFlags := 25, nameIndex := 284, descriptorIndex := 25, attributes := #[] }, { accessFlags := 25, nameIndex := 286, descriptorIndex := 25, attributes := #[] }, { accessFlags := 25, nameIndex := 288, descriptorIndex := 25, attributes := #[] }, { accessFlags := 25, nameIndex := 290, descriptorIndex := 25, attributes := #[] }, { accessFlags := 25, nameIndex := 292, descriptorIndex := 25, attributes := #[] }, { accessFlags := 26, nameIndex := 108, descriptorIndex := 109, attributes := #[] }, { accessFlags := 25, nameIndex := 294, descriptorIndex := 25, attributes := #[] }])
  fields := #[{ name := "U", type := (.object "jdk/internal/misc/Unsafe"), accessFlags := 24, slot := 0, constantValue := 0 }, { name := "BIG_ENDIAN", type := .boolean, accessFlags := 26, slot := 1, constantValue := 0 }, { name := "LOG2_ARRAY_BOOLEAN_INDEX_SCALE", type := .int, accessFlags := 25, slot := 2, constantValue := 0 }, { name := "LOG2_ARRAY_BYTE_INDEX_SCALE", type := .int, accessFlags := 25, slot := 3, constantValue := 0 }, { name := "LOG2_ARRAY_CHAR_INDEX_SCALE", type := .int, accessFlags := 25, slot := 4, constantValue := 0 }, { name := "LOG2_ARRAY_SHORT_INDEX_SCALE", type := .int, accessFlags := 25, slot := 5, constantValue := 0 }, { name := "LOG2_ARRAY_INT_INDEX_SCALE", type := .int, accessFlags := 25, slot := 6, constantValue := 0 }, { name := "LOG2_ARRAY_LONG_INDEX_SCALE", type := .int, accessFlags := 25, slot := 7, constantValue := 0 }, { name := "LOG2_ARRAY_FLOAT_INDEX_SCALE", type := .int, accessFlags := 25, slot := 8, constantValue := 0 }, { name := "LOG2_ARRAY_DOUBLE_INDEX_SCALE", type := .int, accessFlags := 25, slot := 9, constantValue := 0 }, { name := "LOG2_BYTE_BIT_SIZE", type := .int, accessFlags := 26, slot := 10, constantValue := 0 }, { name := "T_BOOLEAN", type := .int, accessFlags := 25, slot := 11, constantValue := 0 }, { name := "T_CHAR", type := .int, accessFlags := 25, slot := 12, constantValue := 0 }, { name := "T_FLOAT", type := .int, accessFlags := 25, slot := 13, constantValue := 0 }, { name := "T_DOUBLE", type := .int, accessFlags := 25, slot := 14, constantValue := 0 }, { name := "T_BYTE", type := .int, accessFlags := 25, slot := 15, constantValue := 0 }, { name := "T_SHORT", type := .int, accessFlags := 25, slot := 16, constantValue := 0 }, { name := "T_INT", type := .int, accessFlags := 25, slot := 17, constantValue := 0 }, { name := "T_LONG", type := .int, accessFlags := 25, slot := 18, constantValue := 0 }, { name := "JLA", type := (.object "jdk/internal/access/JavaLangAccess"), accessFlags := 26, slot := 19, constantValue := 0 }, { name := "SOFT_MAX_ARRAY_LENGTH", type := .int, accessFlags := 25, slot := 20, constantValue := 0 }]
  methods := #[k19m0]
  instanceTypes := #[]
  staticTypes := #[(.object "jdk/internal/misc/Unsafe"), .boolean, .int, .int, .int, .int, .int, .int, .int, .int, .int, .int, .int, .int, .int, .int, .int, .int, .int, (.object "jdk/internal/access/JavaLangAccess"), .int]
  resolved := Array.replicate 378 none
  statics := none }

def pool20 : Array CpInfo := pool [(1, u "java/lang/Cloneable"), (0, .class_ 1), (0, u "java/lang/Object"), (0, .class_ 3)] 3

/-- java/lang/Cloneable -/
def k20 : Class := { plain "java/lang/Cloneable" (some 0) with
  accessFlags := 1537
  interfaces := #[]
  cf := some (fileOf pool20 2 #[] #[] 1537 4 #[] #[])
  fields := #[]
  methods := #[]
  instanceTypes := #[]
  staticTypes := #[]
  resolved := Array.replicate 8 none
  statics := none }

/-- the primitive byte -/
def k21 : Class := { plain "byte" none with kind := .primitive 'B', accessFlags := 0x411 }
/-- [B -/
def k22 : Class := { plain "[B" (some 0) with kind := .array 21 .byte, interfaces := #[20, 4], accessFlags := 1041 }

/-- the primitive char -/
def k23 : Class := { plain "char" none with kind := .primitive 'C', accessFlags := 0x411 }
/-- [C -/
def k24 : Class := { plain "[C" (some 0) with kind := .array 23 .char, interfaces := #[20, 4], accessFlags := 1041 }

/-- the primitive int -/
def k25 : Class := { plain "int" none with kind := .primitive 'I', accessFlags := 0x411 }
/-- [I -/
def k26 : Class := { plain "[I" (some 0) with kind := .array 25 .int, interfaces := #[20, 4], accessFlags := 1041 }

def heap : Heap := #[{ cls := 9, slots := #[.long 0, .int 1, .null, .int 0, .null, .int 0, .int 0], vm := .statics 9 },
  { cls := 17, slots := #[.null, .null, .null], vm := .statics 17 }]
def classes : Array Class := #[k0, k1, k2, k3, k4, k5, k6, k7, k8, k9, k10, k11, k12, k13, k14, k15, k16, k17, k18, k19, k20, k21, k22, k23, k24, k25, k26]
def interned : List (Array UInt16 × Addr) := []
def slotsUsed : Nat := 10
def theMethod : MethodId := ⟨1, 4⟩
def args0 : Array Value := #[.int 5, .int 6]
def aboutOver (below : List Frame) : State where
  vm := { classes := classes, interned := interned.toArray }
  heap := heap
  slotsUsed := slotsUsed
  threads := #[{ frames := .invoking theMethod args0 :: below }]
def below0 : List Frame := [.native { method := ⟨0, 0⟩, args := #[] }]
def about1 : State := aboutOver below0
def p0 : Program := .bare "" "" ""
def e0 : Env := launch0.env 0 0 0
theorem w_frames : about1.frames = Frame.invoking theMethod args0 :: below0 := rfl
set_option maxRecDepth 65536 in
theorem w_args : argsFit about1.vm theMethod args0 = true := by decide +kernel
set_option maxRecDepth 65536 in
theorem w_heap : heapFits about1 = true := by decide +kernel
set_option maxRecDepth 65536 in
theorem w_runnable : about1.curStatus? = some .runnable := by decide +kernel
set_option maxRecDepth 65536 in
theorem w_alone : about1.alone = true := by decide +kernel
set_option maxRecDepth 65536 in
theorem w_named : about1.methodNamed? x = some theMethod := by decide +kernel
set_option maxRecDepth 65536 in
theorem w_hears : about1.hears theMethod below0 = true := by decide +kernel
set_option maxRecDepth 65536 in
theorem w_ripe : about1.ripe theMethod args0 below0 = true := by decide +kernel
theorem w_running : about1.status = .running := rfl
set_option maxRecDepth 65536 in
theorem w_room : about1.hasRoom e0.platform room_1 = true :=
  launch0.hasRoom_least _ room_1 (by decide +kernel) (by decide +kernel) (by decide +kernel) (by decide +kernel) (by decide +kernel) (by decide +kernel)
theorem allAtoms_all (ts : List Jvm.Cond) (a : Array Jvm.Value) (st : Jvm.State) : (allAtoms ts).before a st = ts.all (fun c => c.before a st) := by
  induction ts with
  | nil => rfl
  | cons c t ih =>
    show (Jvm.Cond.and c (allAtoms t)).before a st = _
    rw [Jvm.Cond.before_and, ih, List.all_cons]
def words1 : List Jvm.Cond := Jvm.Cond.code x code maxLocals ret :: tables_1
/-- a 'code' word, met by the world's own term for the bytes: nothing is compared byte by byte -/
theorem code_word {y : MethodName} {bytes : ByteArray} {mx : Nat} {rt : Option FieldType} {a : Array Value} {s : State} {m : MethodId} {meth : Method} {c : Code} (h1 : s.methodNamed? y = some m) (h2 : s.vm.method? m = some meth) (h3 : meth.code = some c) (h4 : c.code = bytes)
    (h5 : (c.maxLocals == mx && c.exceptionTable.isEmpty && decide (c.maxStack ≤ mostOperands) && decide (meth.sig.returnType = rt) && !meth.locks && decide (parseMethodDescriptor y.desc = some meth.sig)) = true) : (Jvm.Cond.code y bytes mx rt).before a s = true := by
  simp only [Bool.and_eq_true, beq_iff_eq, Bool.not_eq_true', decide_eq_true_eq] at h5
  obtain ⟨⟨⟨⟨⟨g1, g2⟩, g3⟩, g4⟩, g5⟩, g6⟩ := h5
  simp [Cond.before, Cond.holds, Cond.value, h1, h2, h3, h4, g1, g2, g3, g4, g5, g6]
def isCode : Jvm.Cond → Bool
  | .code _ _ _ _ => true
  | _ => false
theorem all_split {L : List Jvm.Cond} {P : Jvm.Cond → Bool} (h1 : L.all (fun c => isCode c || P c) = true) (h2 : ∀ c ∈ L.filter isCode, P c = true) : L.all P = true := by
  refine List.all_eq_true.mpr fun c hc => ?_
  have h := List.all_eq_true.mp h1 c hc
  rcases Bool.eq_false_or_eq_true (isCode c) with hi | hi
  · exact h2 c (List.mem_filter.mpr ⟨hc, hi⟩)
  · simpa [hi] using h
set_option maxRecDepth 65536 in
theorem w_c0 : (Jvm.Cond.code x code maxLocals ret).before args0 about1 = true := code_word (m := ⟨1, 4⟩) (meth := k1m4) (c := k1c4) (by decide +kernel) rfl rfl rfl (by decide +kernel)
set_option maxRecDepth 65536 in
theorem w_c1 : (Jvm.Cond.code ({ cls := "com/example/wary_meter/warymeter/RefusalMessagePinLaw", name := "mk", desc := "(I[C)Ljava/lang/String;" } : Jvm.MethodName) method_2_code (2 : Nat) (Option.some (Jvm.ClassFile.FieldType.object "java/lang/String"))).before args0 about1 = true := code_word (m := ⟨1, 1⟩) (meth := k1m1) (c := k1c1) (by decide +kernel) rfl rfl rfl (by decide +kernel)
set_option maxRecDepth 65536 in
theorem w_c2 : (Jvm.Cond.code ({ cls := "com/example/wary_meter/warymeter/Refusal", name := "<init>", desc := "(Ljava/lang/String;Ljava/lang/String;)V" } : Jvm.MethodName) prog_10_method_1_code (3 : Nat) (Option.none : Option Jvm.ClassFile.FieldType)).before args0 about1 = true := code_word (m := ⟨3, 0⟩) (meth := k3m0) (c := k3c0) (by decide +kernel) rfl rfl rfl (by decide +kernel)
set_option maxRecDepth 65536 in
theorem w_c3 : (Jvm.Cond.code ({ cls := "java/lang/Record", name := "<init>", desc := "()V" } : Jvm.MethodName) jdk_30_method_1_code (1 : Nat) (Option.none : Option Jvm.ClassFile.FieldType)).before args0 about1 = true := code_word (m := ⟨2, 0⟩) (meth := k2m0) (c := k2c0) (by decide +kernel) rfl rfl rfl (by decide +kernel)
set_option maxRecDepth 65536 in
theorem w_c4 : (Jvm.Cond.code ({ cls := "java/lang/Object", name := "<init>", desc := "()V" } : Jvm.MethodName) object_method_1_code (1 : Nat) (Option.none : Option Jvm.ClassFile.FieldType)).before args0 about1 = true := code_word (m := ⟨0, 0⟩) (meth := k0m0) (c := k0c0) (by decide +kernel) rfl rfl rfl (by decide +kernel)
set_option maxRecDepth 65536 in
theorem w_c5 : (Jvm.Cond.code ({ cls := "com/example/wary_meter/warymeter/Refusal", name := "message", desc := "()Ljava/lang/String;" } : Jvm.MethodName) prog_10_method_2_code (1 : Nat) (Option.some (Jvm.ClassFile.FieldType.object "java/lang/String"))).before args0 about1 = true := code_word (m := ⟨3, 1⟩) (meth := k3m1) (c := k3c1) (by decide +kernel) rfl rfl rfl (by decide +kernel)
set_option maxRecDepth 65536 in
theorem w_c6 : (Jvm.Cond.code ({ cls := "java/lang/StringBuilder", name := "<init>", desc := "()V" } : Jvm.MethodName) jdk_67_method_1_code (1 : Nat) (Option.none : Option Jvm.ClassFile.FieldType)).before args0 about1 = true := code_word (m := ⟨12, 0⟩) (meth := k12m0) (c := k12c0) (by decide +kernel) rfl rfl rfl (by decide +kernel)
set_option maxRecDepth 65536 in
theorem w_c7 : (Jvm.Cond.code ({ cls := "java/lang/AbstractStringBuilder", name := "<init>", desc := "(I)V" } : Jvm.MethodName) jdk_68_method_2_code (2 : Nat) (Option.none : Option Jvm.ClassFile.FieldType)).before args0 about1 = true := code_word (m := ⟨11, 1⟩) (meth := k11m1) (c := k11c1) (by decide +kernel) rfl rfl rfl (by decide +kernel)
set_option maxRecDepth 65536 in
theorem w_c8 : (Jvm.Cond.code ({ cls := "java/lang/StringBuilder", name := "append", desc := "(Ljava/lang/String;)Ljava/lang/StringBuilder;" } : Jvm.MethodName) jdk_67_method_7_code (2 : Nat) (Option.some (Jvm.ClassFile.FieldType.object "java/lang/StringBuilder"))).before args0 about1 = true := code_word (m := ⟨12, 1⟩) (meth := k12m1) (c := k12c1) (by decide +kernel) rfl rfl rfl (by decide +kernel)
set_option maxRecDepth 65536 in
theorem w_c9 : (Jvm.Cond.code ({ cls := "java/lang/AbstractStringBuilder", name := "append", desc := "(Ljava/lang/String;)Ljava/lang/AbstractStringBuilder;" } : Jvm.MethodName) jdk_68_method_22_code (3 : Nat) (Option.some (Jvm.ClassFile.FieldType.object "java/lang/AbstractStringBuilder"))).before args0 about1 = true := code_word (m := ⟨11, 4⟩) (meth := k11m4) (c := k11c4) (by decide +kernel) rfl rfl rfl (by decide +kernel)
set_option maxRecDepth 65536 in
theorem w_c10 : (Jvm.Cond.code ({ cls := "java/lang/String", name := "length", desc := "()I" } : Jvm.MethodName) jdk_42_method_54_code (1 : Nat) (Option.some Jvm.ClassFile.FieldType.int)).before args0 about1 = true := code_word (m := ⟨9, 3⟩) (meth := k9m3) (c := k9c3) (by decide +kernel) rfl rfl rfl (by decide +kernel)
set_option maxRecDepth 65536 in
theorem w_c11 : (Jvm.Cond.code ({ cls := "java/lang/String", name := "coder", desc := "()B" } : Jvm.MethodName) jdk_42_method_152_code (1 : Nat) (Option.some Jvm.ClassFile.FieldType.byte)).before args0 about1 = true := code_word (m := ⟨9, 10⟩) (meth := k9m10) (c := k9c10) (by decide +kernel) rfl rfl rfl (by decide +kernel)
set_option maxRecDepth 65536 in
theorem w_c12 : (Jvm.Cond.code ({ cls := "java/lang/AbstractStringBuilder", name := "ensureCapacityInternal", desc := "(I)V" } : Jvm.MethodName) jdk_68_method_9_code (3 : Nat) (Option.none : Option Jvm.ClassFile.FieldType)).before args0 about1 = true := code_word (m := ⟨11, 3⟩) (meth := k11m3) (c := k11c3) (by decide +kernel) rfl rfl rfl (by decide +kernel)
set_option maxRecDepth 65536 in
theorem w_c13 : (Jvm.Cond.code ({ cls := "java/lang/AbstractStringBuilder", name := "putStringAt", desc := "(ILjava/lang/String;)V" } : Jvm.MethodName) jdk_68_method_73_code (3 : Nat) (Option.none : Option Jvm.ClassFile.FieldType)).before args0 about1 = true := code_word (m := ⟨11, 8⟩) (meth := k11m8) (c := k11c8) (by decide +kernel) rfl rfl rfl (by decide +kernel)
set_option maxRecDepth 65536 in
theorem w_c14 : (Jvm.Cond.code ({ cls := "java/lang/AbstractStringBuilder", name := "inflateIfNeededFor", desc := "(Ljava/lang/String;)V" } : Jvm.MethodName) jdk_68_method_71_code (2 : Nat) (Option.none : Option Jvm.ClassFile.FieldType)).before args0 about1 = true := code_word (m := ⟨11, 7⟩) (meth := k11m7) (c := k11c7) (by decide +kernel) rfl rfl rfl (by decide +kernel)
set_option maxRecDepth 65536 in
theorem w_c15 : (Jvm.Cond.code ({ cls := "java/lang/String", name := "getBytes", desc := "([BIB)V" } : Jvm.MethodName) jdk_42_method_147_code (4 : Nat) (Option.none : Option Jvm.ClassFile.FieldType)).before args0 about1 = true := code_word (m := ⟨9, 6⟩) (meth := k9m6) (c := k9c6) (by decide +kernel) rfl rfl rfl (by decide +kernel)
set_option maxRecDepth 65536 in
theorem w_c16 : (Jvm.Cond.code ({ cls := "java/lang/StringBuilder", name := "toString", desc := "()Ljava/lang/String;" } : Jvm.MethodName) jdk_67_method_42_code (1 : Nat) (Option.some (Jvm.ClassFile.FieldType.object "java/lang/String"))).before args0 about1 = true := code_word (m := ⟨12, 2⟩) (meth := k12m2) (c := k12c2) (by decide +kernel) rfl rfl rfl (by decide +kernel)
set_option maxRecDepth 65536 in
theorem w_c17 : (Jvm.Cond.code ({ cls := "java/lang/String", name := "<init>", desc := "(Ljava/lang/StringBuilder;)V" } : Jvm.MethodName) jdk_42_method_53_code (2 : Nat) (Option.none : Option Jvm.ClassFile.FieldType)).before args0 about1 = true := code_word (m := ⟨9, 2⟩) (meth := k9m2) (c := k9c2) (by decide +kernel) rfl rfl rfl (by decide +kernel)
set_option maxRecDepth 65536 in
theorem w_c18 : (Jvm.Cond.code ({ cls := "java/lang/String", name := "<init>", desc := "(Ljava/lang/AbstractStringBuilder;Ljava/lang/Void;)V" } : Jvm.MethodName) jdk_42_method_150_code (5 : Nat) (Option.none : Option Jvm.ClassFile.FieldType)).before args0 about1 = true := code_word (m := ⟨9, 8⟩) (meth := k9m8) (c := k9c8) (by decide +kernel) rfl rfl rfl (by decide +kernel)
set_option maxRecDepth 65536 in
theorem w_c19 : (Jvm.Cond.code ({ cls := "java/lang/AbstractStringBuilder", name := "getValue", desc := "()[B" } : Jvm.MethodName) jdk_68_method_64_code (1 : Nat) (Option.some (Jvm.ClassFile.FieldType.array Jvm.ClassFile.FieldType.byte))).before args0 about1 = true := code_word (m := ⟨11, 5⟩) (meth := k11m5) (c := k11c5) (by decide +kernel) rfl rfl rfl (by decide +kernel)
set_option maxRecDepth 65536 in
theorem w_c20 : (Jvm.Cond.code ({ cls := "java/lang/StringBuilder", name := "length", desc := "()I" } : Jvm.MethodName) jdk_67_method_93_code (1 : Nat) (Option.some Jvm.ClassFile.FieldType.int)).before args0 about1 = true := code_word (m := ⟨12, 3⟩) (meth := k12m3) (c := k12c3) (by decide +kernel) rfl rfl rfl (by decide +kernel)
set_option maxRecDepth 65536 in
theorem w_c21 : (Jvm.Cond.code ({ cls := "java/lang/AbstractStringBuilder", name := "length", desc := "()I" } : Jvm.MethodName) jdk_68_method_6_code (1 : Nat) (Option.some Jvm.ClassFile.FieldType.int)).before args0 about1 = true := code_word (m := ⟨11, 2⟩) (meth := k11m2) (c := k11c2) (by decide +kernel) rfl rfl rfl (by decide +kernel)
set_option maxRecDepth 65536 in
theorem w_c22 : (Jvm.Cond.code ({ cls := "java/lang/AbstractStringBuilder", name := "isLatin1", desc := "()Z" } : Jvm.MethodName) jdk_68_method_68_code (1 : Nat) (Option.some Jvm.ClassFile.FieldType.boolean)).before args0 about1 = true := code_word (m := ⟨11, 6⟩) (meth := k11m6) (c := k11c6) (by decide +kernel) rfl rfl rfl (by decide +kernel)
set_option maxRecDepth 65536 in
theorem w_c23 : (Jvm.Cond.code ({ cls := "java/util/Arrays", name := "copyOfRange", desc := "([BII)[B" } : Jvm.MethodName) jdk_65_method_132_code (3 : Nat) (Option.some (Jvm.ClassFile.FieldType.array Jvm.ClassFile.FieldType.byte))).before args0 about1 = true := code_word (m := ⟨14, 2⟩) (meth := k14m2) (c := k14c2) (by decide +kernel) rfl rfl rfl (by decide +kernel)
set_option maxRecDepth 65536 in
theorem w_c24 : (Jvm.Cond.code ({ cls := "java/util/Arrays", name := "copyOfRangeByte", desc := "([BII)[B" } : Jvm.MethodName) jdk_65_method_133_code (5 : Nat) (Option.some (Jvm.ClassFile.FieldType.array Jvm.ClassFile.FieldType.byte))).before args0 about1 = true := code_word (m := ⟨14, 3⟩) (meth := k14m3) (c := k14c3) (by decide +kernel) rfl rfl rfl (by decide +kernel)
set_option maxRecDepth 65536 in
theorem w_c25 : (Jvm.Cond.code ({ cls := "java/util/Arrays", name := "checkLength", desc := "(II)V" } : Jvm.MethodName) jdk_65_method_131_code (2 : Nat) (Option.none : Option Jvm.ClassFile.FieldType)).before args0 about1 = true := code_word (m := ⟨14, 1⟩) (meth := k14m1) (c := k14c1) (by decide +kernel) rfl rfl rfl (by decide +kernel)
set_option maxRecDepth 65536 in
theorem w_c26 : (Jvm.Cond.code ({ cls := "java/lang/Math", name := "min", desc := "(II)I" } : Jvm.MethodName) jdk_29_method_69_code (2 : Nat) (Option.some Jvm.ClassFile.FieldType.int)).before args0 about1 = true := code_word (m := ⟨15, 1⟩) (meth := k15m1) (c := k15c1) (by decide +kernel) rfl rfl rfl (by decide +kernel)
set_option maxRecDepth 65536 in
theorem w_c27 : (Jvm.Cond.code ({ cls := "com/example/wary_meter/warymeter/RefusalMessagePinLaw", name := "ok", desc := "(Ljava/lang/String;II[C[C)Z" } : Jvm.MethodName) method_4_code (5 : Nat) (Option.some Jvm.ClassFile.FieldType.boolean)).before args0 about1 = true := code_word (m := ⟨1, 3⟩) (meth := k1m3) (c := k1c3) (by decide +kernel) rfl rfl rfl (by decide +kernel)
set_option maxRecDepth 65536 in
theorem w_c28 : (Jvm.Cond.code ({ cls := "java/lang/String", name := "charAt", desc := "(I)C" } : Jvm.MethodName) jdk_42_method_56_code (2 : Nat) (Option.some Jvm.ClassFile.FieldType.char)).before args0 about1 = true := code_word (m := ⟨9, 4⟩) (meth := k9m4) (c := k9c4) (by decide +kernel) rfl rfl rfl (by decide +kernel)
set_option maxRecDepth 65536 in
theorem w_c29 : (Jvm.Cond.code ({ cls := "java/lang/String", name := "isLatin1", desc := "()Z" } : Jvm.MethodName) jdk_42_method_154_code (1 : Nat) (Option.some Jvm.ClassFile.FieldType.boolean)).before args0 about1 = true := code_word (m := ⟨9, 11⟩) (meth := k9m11) (c := k9c11) (by decide +kernel) rfl rfl rfl (by decide +kernel)
set_option maxRecDepth 65536 in
theorem w_c30 : (Jvm.Cond.code ({ cls := "java/lang/StringLatin1", name := "charAt", desc := "([BI)C" } : Jvm.MethodName) jdk_43_method_2_code (2 : Nat) (Option.some Jvm.ClassFile.FieldType.char)).before args0 about1 = true := code_word (m := ⟨16, 1⟩) (meth := k16m1) (c := k16c1) (by decide +kernel) rfl rfl rfl (by decide +kernel)
set_option maxRecDepth 65536 in
theorem w_c31 : (Jvm.Cond.code ({ cls := "java/lang/String", name := "checkIndex", desc := "(II)V" } : Jvm.MethodName) jdk_42_method_155_code (2 : Nat) (Option.none : Option Jvm.ClassFile.FieldType)).before args0 about1 = true := code_word (m := ⟨9, 12⟩) (meth := k9m12) (c := k9c12) (by decide +kernel) rfl rfl rfl (by decide +kernel)
set_option maxRecDepth 65536 in
theorem w_c32 : (Jvm.Cond.code ({ cls := "jdk/internal/util/Preconditions", name := "checkIndex", desc := "(IILjava/util/function/BiFunction;)I" } : Jvm.MethodName) jdk_41_method_11_code (3 : Nat) (Option.some Jvm.ClassFile.FieldType.int)).before args0 about1 = true := code_word (m := ⟨17, 1⟩) (meth := k17m1) (c := k17c1) (by decide +kernel) rfl rfl rfl (by decide +kernel)
set_option maxRecDepth 65536 in
theorem w_c33 : (Jvm.Cond.code ({ cls := "com/example/wary_meter/warymeter/RefusalMessagePinLaw", name := "exp", desc := "(II[C[C)C" } : Jvm.MethodName) method_3_code (4 : Nat) (Option.some Jvm.ClassFile.FieldType.char)).before args0 about1 = true := code_word (m := ⟨1, 2⟩) (meth := k1m2) (c := k1c2) (by decide +kernel) rfl rfl rfl (by decide +kernel)
set_option maxRecDepth 65536 in
theorem w_c34 : (Jvm.Cond.code ({ cls := "java/lang/String", name := "valueOf", desc := "(C)Ljava/lang/String;" } : Jvm.MethodName) jdk_42_method_139_code (1 : Nat) (Option.some (Jvm.ClassFile.FieldType.object "java/lang/String"))).before args0 about1 = true := code_word (m := ⟨9, 5⟩) (meth := k9m5) (c := k9c5) (by decide +kernel) rfl rfl rfl (by decide +kernel)
set_option maxRecDepth 65536 in
theorem w_c35 : (Jvm.Cond.code ({ cls := "java/lang/StringLatin1", name := "canEncode", desc := "(C)Z" } : Jvm.MethodName) jdk_43_method_3_code (1 : Nat) (Option.some Jvm.ClassFile.FieldType.boolean)).before args0 about1 = true := code_word (m := ⟨16, 2⟩) (meth := k16m2) (c := k16c2) (by decide +kernel) rfl rfl rfl (by decide +kernel)
set_option maxRecDepth 65536 in
theorem w_c36 : (Jvm.Cond.code ({ cls := "java/lang/StringLatin1", name := "toBytes", desc := "(C)[B" } : Jvm.MethodName) jdk_43_method_46_code (1 : Nat) (Option.some (Jvm.ClassFile.FieldType.array Jvm.ClassFile.FieldType.byte))).before args0 about1 = true := code_word (m := ⟨16, 3⟩) (meth := k16m3) (c := k16c3) (by decide +kernel) rfl rfl rfl (by decide +kernel)
set_option maxRecDepth 65536 in
theorem w_c37 : (Jvm.Cond.code ({ cls := "java/lang/String", name := "<init>", desc := "([BB)V" } : Jvm.MethodName) jdk_42_method_151_code (3 : Nat) (Option.none : Option Jvm.ClassFile.FieldType)).before args0 about1 = true := code_word (m := ⟨9, 9⟩) (meth := k9m9) (c := k9c9) (by decide +kernel) rfl rfl rfl (by decide +kernel)
set_option maxRecDepth 65536 in
theorem w_c38 : (Jvm.Cond.code ({ cls := "java/lang/String", name := "<init>", desc := "([C)V" } : Jvm.MethodName) jdk_42_method_3_code (2 : Nat) (Option.none : Option Jvm.ClassFile.FieldType)).before args0 about1 = true := code_word (m := ⟨9, 1⟩) (meth := k9m1) (c := k9c1) (by decide +kernel) rfl rfl rfl (by decide +kernel)
set_option maxRecDepth 65536 in
theorem w_c39 : (Jvm.Cond.code ({ cls := "java/lang/String", name := "<init>", desc := "([CIILjava/lang/Void;)V" } : Jvm.MethodName) jdk_42_method_149_code (6 : Nat) (Option.none : Option Jvm.ClassFile.FieldType)).before args0 about1 = true := code_word (m := ⟨9, 7⟩) (meth := k9m7) (c := k9c7) (by decide +kernel) rfl rfl rfl (by decide +kernel)
set_option maxRecDepth 65536 in
theorem w_c40 : (Jvm.Cond.code ({ cls := "java/lang/StringUTF16", name := "compress", desc := "([CII)[B" } : Jvm.MethodName) jdk_52_method_16_code (6 : Nat) (Option.some (Jvm.ClassFile.FieldType.array Jvm.ClassFile.FieldType.byte))).before args0 about1 = true := code_word (m := ⟨18, 2⟩) (meth := k18m2) (c := k18c2) (by decide +kernel) rfl rfl rfl (by decide +kernel)
set_option maxRecDepth 65536 in
theorem w_c41 : (Jvm.Cond.code ({ cls := "java/lang/StringUTF16", name := "compress", desc := "([CI[BII)I" } : Jvm.MethodName) jdk_52_method_21_code (7 : Nat) (Option.some Jvm.ClassFile.FieldType.int)).before args0 about1 = true := code_word (m := ⟨18, 3⟩) (meth := k18m3) (c := k18c3) (by decide +kernel) rfl rfl rfl (by decide +kernel)
set_option maxRecDepth 65536 in
theorem w_c42 : (Jvm.Cond.code ({ cls := "java/lang/StringUTF16", name := "coderFromArrayLen", desc := "([BI)B" } : Jvm.MethodName) jdk_52_method_15_code (2 : Nat) (Option.some Jvm.ClassFile.FieldType.byte)).before args0 about1 = true := code_word (m := ⟨18, 1⟩) (meth := k18m1) (c := k18c1) (by decide +kernel) rfl rfl rfl (by decide +kernel)
def codes1 : List Jvm.Cond := [Jvm.Cond.code x code maxLocals ret, Jvm.Cond.code ({ cls := "com/example/wary_meter/warymeter/RefusalMessagePinLaw", name := "mk", desc := "(I[C)Ljava/lang/String;" } : Jvm.MethodName) method_2_code (2 : Nat) (Option.some (Jvm.ClassFile.FieldType.object "java/lang/String")), Jvm.Cond.code ({ cls := "com/example/wary_meter/warymeter/Refusal", name := "<init>", desc := "(Ljava/lang/String;Ljava/lang/String;)V" } : Jvm.MethodName) prog_10_method_1_code (3 : Nat) (Option.none : Option Jvm.ClassFile.FieldType), Jvm.Cond.code ({ cls := "java/lang/Record", name := "<init>", desc := "()V" } : Jvm.MethodName) jdk_30_method_1_code (1 : Nat) (Option.none : Option Jvm.ClassFile.FieldType), Jvm.Cond.code ({ cls := "java/lang/Object", name := "<init>", desc := "()V" } : Jvm.MethodName) object_method_1_code (1 : Nat) (Option.none : Option Jvm.ClassFile.FieldType), Jvm.Cond.code ({ cls := "com/example/wary_meter/warymeter/Refusal", name := "message", desc := "()Ljava/lang/String;" } : Jvm.MethodName) prog_10_method_2_code (1 : Nat) (Option.some (Jvm.ClassFile.FieldType.object "java/lang/String")), Jvm.Cond.code ({ cls := "java/lang/StringBuilder", name := "<init>", desc := "()V" } : Jvm.MethodName) jdk_67_method_1_code (1 : Nat) (Option.none : Option Jvm.ClassFile.FieldType), Jvm.Cond.code ({ cls := "java/lang/AbstractStringBuilder", name := "<init>", desc := "(I)V" } : Jvm.MethodName) jdk_68_method_2_code (2 : Nat) (Option.none : Option Jvm.ClassFile.FieldType), Jvm.Cond.code ({ cls := "java/lang/StringBuilder", name := "append", desc := "(Ljava/lang/String;)Ljava/lang/StringBuilder;" } : Jvm.MethodName) jdk_67_method_7_code (2 : Nat) (Option.some (Jvm.ClassFile.FieldType.object "java/lang/StringBuilder")), Jvm.Cond.code ({ cls := "java/lang/AbstractStringBuilder", name := "append", desc := "(Ljava/lang/String;)Ljava/lang/AbstractStringBuilder;" } : Jvm.MethodName) jdk_68_method_22_code (3 : Nat) (Option.some (Jvm.ClassFile.FieldType.object "java/lang/AbstractStringBuilder")), Jvm.Cond.code ({ cls := "java/lang/String", name := "length", desc := "()I" } : Jvm.MethodName) jdk_42_method_54_code (1 : Nat) (Option.some Jvm.ClassFile.FieldType.int), Jvm.Cond.code ({ cls := "java/lang/String", name := "coder", desc := "()B" } : Jvm.MethodName) jdk_42_method_152_code (1 : Nat) (Option.some Jvm.ClassFile.FieldType.byte), Jvm.Cond.code ({ cls := "java/lang/AbstractStringBuilder", name := "ensureCapacityInternal", desc := "(I)V" } : Jvm.MethodName) jdk_68_method_9_code (3 : Nat) (Option.none : Option Jvm.ClassFile.FieldType), Jvm.Cond.code ({ cls := "java/lang/AbstractStringBuilder", name := "putStringAt", desc := "(ILjava/lang/String;)V" } : Jvm.MethodName) jdk_68_method_73_code (3 : Nat) (Option.none : Option Jvm.ClassFile.FieldType), Jvm.Cond.code ({ cls := "java/lang/AbstractStringBuilder", name := "inflateIfNeededFor", desc := "(Ljava/lang/String;)V" } : Jvm.MethodName) jdk_68_method_71_code (2 : Nat) (Option.none : Option Jvm.ClassFile.FieldType), Jvm.Cond.code ({ cls := "java/lang/String", name := "getBytes", desc := "([BIB)V" } : Jvm.MethodName) jdk_42_method_147_code (4 : Nat) (Option.none : Option Jvm.ClassFile.FieldType), Jvm.Cond.code ({ cls := "java/lang/StringBuilder", name := "toString", desc := "()Ljava/lang/String;" } : Jvm.MethodName) jdk_67_method_42_code (1 : Nat) (Option.some (Jvm.ClassFile.FieldType.object "java/lang/String")), Jvm.Cond.code ({ cls := "java/lang/String", name := "<init>", desc := "(Ljava/lang/StringBuilder;)V" } : Jvm.MethodName) jdk_42_method_53_code (2 : Nat) (Option.none : Option Jvm.ClassFile.FieldType), Jvm.Cond.code ({ cls := "java/lang/String", name := "<init>", desc := "(Ljava/lang/AbstractStringBuilder;Ljava/lang/Void;)V" } : Jvm.MethodName) jdk_42_method_150_code (5 : Nat) (Option.none : Option Jvm.ClassFile.FieldType), Jvm.Cond.code ({ cls := "java/lang/AbstractStringBuilder", name := "getValue", desc := "()[B" } : Jvm.MethodName) jdk_68_method_64_code (1 : Nat) (Option.some (Jvm.ClassFile.FieldType.array Jvm.ClassFile.FieldType.byte)), Jvm.Cond.code ({ cls := "java/lang/StringBuilder", name := "length", desc := "()I" } : Jvm.MethodName) jdk_67_method_93_code (1 : Nat) (Option.some Jvm.ClassFile.FieldType.int), Jvm.Cond.code ({ cls := "java/lang/AbstractStringBuilder", name := "length", desc := "()I" } : Jvm.MethodName) jdk_68_method_6_code (1 : Nat) (Option.some Jvm.ClassFile.FieldType.int), Jvm.Cond.code ({ cls := "java/lang/AbstractStringBuilder", name := "isLatin1", desc := "()Z" } : Jvm.MethodName) jdk_68_method_68_code (1 : Nat) (Option.some Jvm.ClassFile.FieldType.boolean), Jvm.Cond.code ({ cls := "java/util/Arrays", name := "copyOfRange", desc := "([BII)[B" } : Jvm.MethodName) jdk_65_method_132_code (3 : Nat) (Option.some (Jvm.ClassFile.FieldType.array Jvm.ClassFile.FieldType.byte)), Jvm.Cond.code ({ cls := "java/util/Arrays", name := "copyOfRangeByte", desc := "([BII)[B" } : Jvm.MethodName) jdk_65_method_133_code (5 : Nat) (Option.some (Jvm.ClassFile.FieldType.array Jvm.ClassFile.FieldType.byte)), Jvm.Cond.code ({ cls := "java/util/Arrays", name := "checkLength", desc := "(II)V" } : Jvm.MethodName) jdk_65_method_131_code (2 : Nat) (Option.none : Option Jvm.ClassFile.FieldType), Jvm.Cond.code ({ cls := "java/lang/Math", name := "min", desc := "(II)I" } : Jvm.MethodName) jdk_29_method_69_code (2 : Nat) (Option.some Jvm.ClassFile.FieldType.int), Jvm.Cond.code ({ cls := "com/example/wary_meter/warymeter/RefusalMessagePinLaw", name := "ok", desc := "(Ljava/lang/String;II[C[C)Z" } : Jvm.MethodName) method_4_code (5 : Nat) (Option.some Jvm.ClassFile.FieldType.boolean), Jvm.Cond.code ({ cls := "java/lang/String", name := "charAt", desc := "(I)C" } : Jvm.MethodName) jdk_42_method_56_code (2 : Nat) (Option.some Jvm.ClassFile.FieldType.char), Jvm.Cond.code ({ cls := "java/lang/String", name := "isLatin1", desc := "()Z" } : Jvm.MethodName) jdk_42_method_154_code (1 : Nat) (Option.some Jvm.ClassFile.FieldType.boolean), Jvm.Cond.code ({ cls := "java/lang/StringLatin1", name := "charAt", desc := "([BI)C" } : Jvm.MethodName) jdk_43_method_2_code (2 : Nat) (Option.some Jvm.ClassFile.FieldType.char), Jvm.Cond.code ({ cls := "java/lang/String", name := "checkIndex", desc := "(II)V" } : Jvm.MethodName) jdk_42_method_155_code (2 : Nat) (Option.none : Option Jvm.ClassFile.FieldType), Jvm.Cond.code ({ cls := "jdk/internal/util/Preconditions", name := "checkIndex", desc := "(IILjava/util/function/BiFunction;)I" } : Jvm.MethodName) jdk_41_method_11_code (3 : Nat) (Option.some Jvm.ClassFile.FieldType.int), Jvm.Cond.code ({ cls := "com/example/wary_meter/warymeter/RefusalMessagePinLaw", name := "exp", desc := "(II[C[C)C" } : Jvm.MethodName) method_3_code (4 : Nat) (Option.some Jvm.ClassFile.FieldType.char), Jvm.Cond.code ({ cls := "java/lang/String", name := "valueOf", desc := "(C)Ljava/lang/String;" } : Jvm.MethodName) jdk_42_method_139_code (1 : Nat) (Option.some (Jvm.ClassFile.FieldType.object "java/lang/String")), Jvm.Cond.code ({ cls := "java/lang/StringLatin1", name := "canEncode", desc := "(C)Z" } : Jvm.MethodName) jdk_43_method_3_code (1 : Nat) (Option.some Jvm.ClassFile.FieldType.boolean), Jvm.Cond.code ({ cls := "java/lang/StringLatin1", name := "toBytes", desc := "(C)[B" } : Jvm.MethodName) jdk_43_method_46_code (1 : Nat) (Option.some (Jvm.ClassFile.FieldType.array Jvm.ClassFile.FieldType.byte)), Jvm.Cond.code ({ cls := "java/lang/String", name := "<init>", desc := "([BB)V" } : Jvm.MethodName) jdk_42_method_151_code (3 : Nat) (Option.none : Option Jvm.ClassFile.FieldType), Jvm.Cond.code ({ cls := "java/lang/String", name := "<init>", desc := "([C)V" } : Jvm.MethodName) jdk_42_method_3_code (2 : Nat) (Option.none : Option Jvm.ClassFile.FieldType), Jvm.Cond.code ({ cls := "java/lang/String", name := "<init>", desc := "([CIILjava/lang/Void;)V" } : Jvm.MethodName) jdk_42_method_149_code (6 : Nat) (Option.none : Option Jvm.ClassFile.FieldType), Jvm.Cond.code ({ cls := "java/lang/StringUTF16", name := "compress", desc := "([CII)[B" } : Jvm.MethodName) jdk_52_method_16_code (6 : Nat) (Option.some (Jvm.ClassFile.FieldType.array Jvm.ClassFile.FieldType.byte)), Jvm.Cond.code ({ cls := "java/lang/StringUTF16", name := "compress", desc := "([CI[BII)I" } : Jvm.MethodName) jdk_52_method_21_code (7 : Nat) (Option.some Jvm.ClassFile.FieldType.int), Jvm.Cond.code ({ cls := "java/lang/StringUTF16", name := "coderFromArrayLen", desc := "([BI)B" } : Jvm.MethodName) jdk_52_method_15_code (2 : Nat) (Option.some Jvm.ClassFile.FieldType.byte)]
set_option maxRecDepth 65536 in
theorem codes_eq : words1.filter isCode = codes1 := rfl
theorem w_codes : ∀ c ∈ words1.filter isCode, c.before args0 about1 = true := by
  rw [codes_eq]
  intro c hc
  simp only [codes1, List.mem_cons, List.not_mem_nil, or_false] at hc
  rcases hc with rfl | rfl | rfl | rfl | rfl | rfl | rfl | rfl | rfl | rfl | rfl | rfl | rfl | rfl | rfl | rfl | rfl | rfl | rfl | rfl | rfl | rfl | rfl | rfl | rfl | rfl | rfl | rfl | rfl | rfl | rfl | rfl | rfl | rfl | rfl | rfl | rfl | rfl | rfl | rfl | rfl | rfl | rfl
  · exact w_c0
  · exact w_c1
  · exact w_c2
  · exact w_c3
  · exact w_c4
  · exact w_c5
  · exact w_c6
  · exact w_c7
  · exact w_c8
  · exact w_c9
  · exact w_c10
  · exact w_c11
  · exact w_c12
  · exact w_c13
  · exact w_c14
  · exact w_c15
  · exact w_c16
  · exact w_c17
  · exact w_c18
  · exact w_c19
  · exact w_c20
  · exact w_c21
  · exact w_c22
  · exact w_c23
  · exact w_c24
  · exact w_c25
  · exact w_c26
  · exact w_c27
  · exact w_c28
  · exact w_c29
  · exact w_c30
  · exact w_c31
  · exact w_c32
  · exact w_c33
  · exact w_c34
  · exact w_c35
  · exact w_c36
  · exact w_c37
  · exact w_c38
  · exact w_c39
  · exact w_c40
  · exact w_c41
  · exact w_c42
set_option maxRecDepth 65536 in
theorem w_t1 : (words1.take 24).all (fun c => isCode c || c.before args0 about1) = true := by decide +kernel
set_option maxRecDepth 65536 in
theorem w_t2 : ((words1.drop 24).take 24).all (fun c => isCode c || c.before args0 about1) = true := by decide +kernel
set_option maxRecDepth 65536 in
theorem w_t3 : (((words1.drop 24).drop 24).take 24).all (fun c => isCode c || c.before args0 about1) = true := by decide +kernel
set_option maxRecDepth 65536 in
theorem w_t4 : ((((words1.drop 24).drop 24).drop 24).take 24).all (fun c => isCode c || c.before args0 about1) = true := by decide +kernel
set_option maxRecDepth 65536 in
theorem w_t5 : (((((words1.drop 24).drop 24).drop 24).drop 24).take 24).all (fun c => isCode c || c.before args0 about1) = true := by decide +kernel
set_option maxRecDepth 65536 in
theorem w_t6 : ((((((words1.drop 24).drop 24).drop 24).drop 24).drop 24).take 24).all (fun c => isCode c || c.before args0 about1) = true := by decide +kernel
set_option maxRecDepth 65536 in
theorem w_t7 : (((((((words1.drop 24).drop 24).drop 24).drop 24).drop 24).drop 24).take 24).all (fun c => isCode c || c.before args0 about1) = true := by decide +kernel
set_option maxRecDepth 65536 in
theorem w_t8 : ((((((((words1.drop 24).drop 24).drop 24).drop 24).drop 24).drop 24).drop 24).take 24).all (fun c => isCode c || c.before args0 about1) = true := by decide +kernel
set_option maxRecDepth 65536 in
theorem w_t9 : ((((((((words1.drop 24).drop 24).drop 24).drop 24).drop 24).drop 24).drop 24).drop 24).all (fun c => isCode c || c.before args0 about1) = true := by decide +kernel
theorem w_tables : (allAtoms (Jvm.Cond.code x code maxLocals ret :: tables_1)).before args0 about1 = true := by
  rw [allAtoms_all]
  show words1.all (fun c => c.before args0 about1) = true
  refine all_split ?_ w_codes
  rw [← List.take_append_drop 24 words1, List.all_append, w_t1, ← List.take_append_drop 24 (words1.drop 24), List.all_append, w_t2, ← List.take_append_drop 24 ((words1.drop 24).drop 24), List.all_append, w_t3, ← List.take_append_drop 24 (((words1.drop 24).drop 24).drop 24), List.all_append, w_t4, ← List.take_append_drop 24 ((((words1.drop 24).drop 24).drop 24).drop 24), List.all_append, w_t5, ← List.take_append_drop 24 (((((words1.drop 24).drop 24).drop 24).drop 24).drop 24), List.all_append, w_t6, ← List.take_append_drop 24 ((((((words1.drop 24).drop 24).drop 24).drop 24).drop 24).drop 24), List.all_append, w_t7, ← List.take_append_drop 24 (((((((words1.drop 24).drop 24).drop 24).drop 24).drop 24).drop 24).drop 24), List.all_append, w_t8, w_t9]
  rfl
set_option maxRecDepth 65536 in
theorem w_rest : rest_1_c.before args0 about1 = true := by decide +kernel
set_option maxRecDepth 65536 in
theorem w_case : (Jvm.Cond.and given_1 narrow_1).before args0 about1 = true := by decide +kernel
set_option maxRecDepth 65536 in
theorem w_consts : constsHeld consts_1 about1 := Jvm.Lit.constsHeldB_iff.mp (by decide +kernel)
theorem w_applies : (headSpec (Jvm.Cond.code x code maxLocals ret :: tables_1) room_1).applies x e0.platform about1 = true :=
  (Spec.applies_iff w_frames).mpr ⟨w_running, w_runnable, w_alone, w_named, w_hears, w_ripe, w_room, w_tables⟩
theorem atStart : AtStart classFile x code maxLocals ret World_1 tables_1 room_1 Calls_1 rest_1 Pre_1 launch0 p0 e0 about1 theMethod args0 below0 :=
  ⟨lists_1, trivial, launch0.admits_env _ _ _, launch0.least_env, fairChoices_fair.cas, fairChoices_fair.clock, w_frames, w_args, w_heap, w_applies, ⟨w_consts, trivial⟩, w_rest, w_case⟩
end start1
theorem witness_1 : WitnessClaimed_1 := ⟨start1.p0, start1.e0, start1.about1, start1.theMethod, start1.args0, start1.below0, start1.atStart⟩
end Jvm.Pilot.@@N@@
